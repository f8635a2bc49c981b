import JvmDerived
import JvmDerived.Pilot.@@N@@Statement
import JvmDerived.Pilot.@@N@@Code
set_option linter.unusedVariables false
set_option linter.unusedSimpArgs false
@@BLOCK:NumsL.lean.txt@@
namespace Jvm.RoadKit
open Sem ClassFile Op Lib Jvm.Stand Jvm.Free Jvm.LawKit
section New
variable {p : Program} {l : Launch} {e : Env} {R : Room} {s : State} {m : MethodId} {args : Array Value} {below : List Frame} {meth : Method} {c : Code} {T : State} {locs : List Loc} {cells slots : Nat}
theorem retI (X : Stand p l e R s m args below meth c T locs cells slots) (hx : p.tables.exec = Jvm.exec) {pc : Nat} {Ls : Array Slot} {z : Int32} {rest : List Value} (hret : meth.sig.returnType = some .int) (hd : decode c.code pc = .ok (.ireturn, 1)) {fs : List Frame}
    (hl : ∀ (f : JFrame) (acts : List Action), f.method = m → f.locked = none → f.entered = [] → (doReturn e (T.setTop f) acts (some (.int z))).1 = T.setFrames fs) : Steps p.tables e below (T.setTop (mkF m pc Ls (.int z :: rest))) (T.setFrames fs) := by
  have hm' : T.vm.method? m = some meth := X.method'
  have hn : narrow .int (.int z) = .int z := rfl
  show Steps p.tables e below (T.setTop { method := m, pc := pc, locals := Ls, stack := _ :: rest, locked := none }) _
  jvm_step X.here [X.here.top, hx, hd, hm', hret, hn]
  first | (intro acts; rw [hl _ acts rfl rfl rfl]) | rw [hl _ _ rfl rfl rfl]
  exact Steps.refl _
end New
end Jvm.RoadKit
namespace Jvm.Pilot.@@N@@
open Jvm Jvm.ClassFile Sem Op Lib Jvm.Free Jvm.Stand Jvm.LawKit Jvm.RoadKit Bundle Jvm.Pilot.@@N@@.Jvm.D
/-- the goal of a walk, carried from one point to the next -/
theorem own_via {tb : Tables} {e : Env} {below : List Frame} {Y Y' : State} {P : State → Outcome → Prop} (h : ∀ t, Steps tb e below Y' t → Steps tb e below Y t) (g : ∃ s₂ o, Steps tb e below Y' s₂ ∧ P s₂ o) : ∃ s₂ o, Steps tb e below Y s₂ ∧ P s₂ o := by
  obtain ⟨s₂, o, h1, h2⟩ := g
  exact ⟨s₂, o, h _ h1, h2⟩
/-- the same where the goal is a join: 'from here the run comes to F x for some x with A x' -/
theorem own_via2 {tb : Tables} {e : Env} {below : List Frame} {Y Y' : State} {α : Type} {A : α → Prop} {F : α → State} (h : ∀ t, Steps tb e below Y' t → Steps tb e below Y t) (g : ∃ x, A x ∧ ∀ t, Steps tb e below (F x) t → Steps tb e below Y' t) : ∃ x, A x ∧ ∀ t, Steps tb e below (F x) t → Steps tb e below Y t := by
  obtain ⟨x, h1, h2⟩ := g
  exact ⟨x, h1, fun t kt => h _ (h2 _ kt)⟩
/-- what a callee leaves that writes nothing: its answer, no place written, the heap as it was -/
def own_Q (r : Option Value) (h0 : Heap) (v : Option Value) (h : Heap) (L : List Loc) : Prop := v = r ∧ L = [] ∧ h = h0
theorem pd_II_V : parseMethodDescriptor "(II)V" = some ⟨[.int, .int], none⟩ := by decide +kernel
theorem pd__V : parseMethodDescriptor "()V" = some ⟨[], none⟩ := by decide +kernel
theorem pd_I_Z : parseMethodDescriptor "(I)Z" = some ⟨[.int], some .boolean⟩ := by decide +kernel
theorem d1_0 : decode prog_76_method_1_code 0 = .ok (.aload_n 0, 1) := by decide +kernel
theorem d1_1 : decode prog_76_method_1_code 1 = .ok (.invokespecial 1, 3) := by decide +kernel
theorem d1_4 : decode prog_76_method_1_code 4 = .ok (.aload_n 0, 1) := by decide +kernel
theorem d1_5 : decode prog_76_method_1_code 5 = .ok (.iload_n 1, 1) := by decide +kernel
theorem d1_6 : decode prog_76_method_1_code 6 = .ok (.putfield 7, 3) := by decide +kernel
theorem d1_9 : decode prog_76_method_1_code 9 = .ok (.aload_n 0, 1) := by decide +kernel
theorem d1_10 : decode prog_76_method_1_code 10 = .ok (.iload_n 2, 1) := by decide +kernel
theorem d1_11 : decode prog_76_method_1_code 11 = .ok (.putfield 13, 3) := by decide +kernel
theorem d1_14 : decode prog_76_method_1_code 14 = .ok (.return_, 1) := by decide +kernel
theorem pn_SizeRange : plainName "com/example/propgen/values/SizeRange" = true := by first | (simp [plainName, overriddenIn]; done) | decide +kernel
theorem d2_0 : decode jdk_30_method_1_code 0 = .ok (.aload_n 0, 1) := by decide +kernel
theorem d2_1 : decode jdk_30_method_1_code 1 = .ok (.invokespecial 1, 3) := by decide +kernel
theorem d2_4 : decode jdk_30_method_1_code 4 = .ok (.return_, 1) := by decide +kernel
theorem pn_Record : plainName "java/lang/Record" = true := by first | (simp [plainName, overriddenIn]; done) | decide +kernel
theorem d4_0 : decode prog_76_method_2_code 0 = .ok (.iload_n 1, 1) := by decide +kernel
theorem d4_1 : decode prog_76_method_2_code 1 = .ok (.aload_n 0, 1) := by decide +kernel
theorem d4_2 : decode prog_76_method_2_code 2 = .ok (.getfield 7, 3) := by decide +kernel
theorem d4_5 : decode prog_76_method_2_code 5 = .ok (.if_icmp .lt 15, 3) := by decide +kernel
theorem d4_8 : decode prog_76_method_2_code 8 = .ok (.iload_n 1, 1) := by decide +kernel
theorem d4_9 : decode prog_76_method_2_code 9 = .ok (.aload_n 0, 1) := by decide +kernel
theorem d4_10 : decode prog_76_method_2_code 10 = .ok (.getfield 13, 3) := by decide +kernel
theorem d4_13 : decode prog_76_method_2_code 13 = .ok (.if_icmp .gt 7, 3) := by decide +kernel
theorem d4_16 : decode prog_76_method_2_code 16 = .ok (.iconst 1, 1) := by decide +kernel
theorem d4_17 : decode prog_76_method_2_code 17 = .ok (.goto 4, 3) := by decide +kernel
theorem d4_20 : decode prog_76_method_2_code 20 = .ok (.iconst 0, 1) := by decide +kernel
theorem d4_21 : decode prog_76_method_2_code 21 = .ok (.ireturn, 1) := by decide +kernel
theorem pn_SizeRangeContainsPinLaw : plainName "com/example/propgen/values/SizeRangeContainsPinLaw" = true := by first | (simp [plainName, overriddenIn]; done) | decide +kernel
/-- SizeRange.contains, plainly -/
def own_has (u v x : Int32) : Int32 := if x < u then 0 else if v < x then 0 else 1
theorem own_in (u v x : Int32) (h1 : u.toInt ≤ x.toInt) (h2 : x.toInt ≤ v.toInt) : own_has u v x = 1 := by
  have a : ¬ x < u := by rw [Int32.lt_iff_toInt_lt]; omega
  have b : ¬ v < x := by rw [Int32.lt_iff_toInt_lt]; omega
  simp only [own_has, if_neg a, if_neg b]
theorem own_under (u v x : Int32) (h : x.toInt < u.toInt) : own_has u v x = 0 := by
  have a : x < u := by rw [Int32.lt_iff_toInt_lt]; omega
  simp only [own_has, if_pos a]
theorem own_over (u v x : Int32) (h : v.toInt < x.toInt) : own_has u v x = 0 := by
  have b : v < x := by rw [Int32.lt_iff_toInt_lt]; omega
  simp only [own_has, if_pos b]
  split <;> rfl
theorem own_mask (x : Int32) : 0 ≤ (x &&& (2147483647 : Int32)).toInt := by
  rw [Jvm.Kit.i32_mask x 2147483647 (k := 31) (by decide) (by decide)]
  omega
theorem own_span (u : Int32) (h : 0 ≤ u.toInt) : ((2147483647 : Int64) - u.toInt64 + (1 : Int64)).toInt = 2147483648 - u.toInt := by
  have h1 := u.toInt_lt
  have e : u.toInt64.toInt = u.toInt := Int32.toInt_toInt64 u
  have c1 : (2147483647 : Int64).toInt = 2147483647 := by decide
  have c2 : (1 : Int64).toInt = 1 := by decide
  have s1 : ((2147483647 : Int64) - u.toInt64).toInt = 2147483647 - u.toInt := by
    rw [Jvm.Kit.i64_sub (by rw [c1, e]; omega) (by rw [c1, e]; omega), c1, e]
  rw [Jvm.Kit.i64_add (by rw [s1, c2]; omega) (by rw [s1, c2]; omega), s1, c2]
  omega
theorem own_nz (u : Int32) (h : 0 ≤ u.toInt) (sp : Int64) (hs : sp.toInt = 2147483648 - u.toInt) : sp ≠ 0 := by
  intro z
  have h1 := u.toInt_lt
  have c0 : (0 : Int64).toInt = 0 := by decide
  rw [z, c0] at hs
  omega
/-- the range's upper end -/
theorem own_end (u b : Int32) (h : 0 ≤ u.toInt) (sp off : Int64) (hs : sp.toInt = 2147483648 - u.toInt) (ho : off = ((b.toInt64 &&& (2147483647 : Int64)) - (b.toInt64 &&& (2147483647 : Int64)) / sp * sp)) : u.toInt ≤ ((u.toInt64 + off).toInt32).toInt := by
  have h1 := u.toInt_lt
  have e : u.toInt64.toInt = u.toInt := Int32.toInt_toInt64 u
  have hm : 0 ≤ (b.toInt64 &&& (2147483647 : Int64)).toInt := by
    rw [Jvm.Kit.i64_mask b.toInt64 2147483647 (k := 31) (by decide) (by decide)]
    omega
  have h2 : off.toInt = (b.toInt64 &&& (2147483647 : Int64)).toInt % sp.toInt := by rw [ho]; exact Jvm.Kit.i64_rem_nonneg hm
  have h3 : 0 ≤ off.toInt := by rw [h2]; exact Int.emod_nonneg _ (by omega)
  have h4 : off.toInt < sp.toInt := by rw [h2]; exact Int.emod_lt_of_pos _ (by omega)
  have h5 : (u.toInt64 + off).toInt = u.toInt + off.toInt := by rw [Jvm.Kit.i64_add (by omega) (by omega), e]
  rw [Jvm.Kit.i32_of_i64 (by omega) (by omega), h5]
  omega
theorem own_pred (u : Int32) (h : 0 < u) : (u - 1).toInt = u.toInt - 1 := by
  have h1 := u.toInt_lt
  have c1 : (1 : Int32).toInt = 1 := by decide
  have c0 : (0 : Int32).toInt = 0 := by decide
  rw [Int32.lt_iff_toInt_lt, c0] at h
  rw [Jvm.Kit.i32_sub (by omega) (by omega), c1]
theorem own_succ (v : Int32) (h : v < 2147483647) (h0 : 0 ≤ v.toInt) : (v + 1).toInt = v.toInt + 1 := by
  have c1 : (1 : Int32).toInt = 1 := by decide
  have c2 : (2147483647 : Int32).toInt = 2147483647 := by decide
  rw [Int32.lt_iff_toInt_lt, c2] at h
  rw [Jvm.Kit.i32_add (by omega) (by omega), c1]
theorem own_diff (x u : Int32) : (x.toInt64 - u.toInt64).toInt = x.toInt - u.toInt := by
  have h1 := x.toInt_lt
  have h2 := x.le_toInt
  have h3 := u.toInt_lt
  have h4 := u.le_toInt
  have e : u.toInt64.toInt = u.toInt := Int32.toInt_toInt64 u
  have e' : x.toInt64.toInt = x.toInt := Int32.toInt_toInt64 x
  rw [Jvm.Kit.i64_sub (by omega) (by omega), e, e']
theorem own_e1 (u v x : Int32) (h : (x.toInt64 - u.toInt64) < (0 : Int64)) : 0 = own_has u v x := by
  have c0 : (0 : Int64).toInt = 0 := by decide
  rw [Int64.lt_iff_toInt_lt, own_diff, c0] at h
  exact (own_under u v x (by omega)).symm
theorem own_e2 (u v x : Int32) (h : (v.toInt64 - u.toInt64) < (x.toInt64 - u.toInt64)) : 0 = own_has u v x := by
  rw [Int64.lt_iff_toInt_lt, own_diff, own_diff] at h
  exact (own_over u v x (by omega)).symm
theorem own_e3 (u v x : Int32) (h : ¬ (x.toInt64 - u.toInt64) < (0 : Int64)) (h' : ¬ (v.toInt64 - u.toInt64) < (x.toInt64 - u.toInt64)) : 1 = own_has u v x := by
  have c0 : (0 : Int64).toInt = 0 := by decide
  rw [Int64.lt_iff_toInt_lt, own_diff, c0] at h
  rw [Int64.lt_iff_toInt_lt, own_diff, own_diff] at h'
  exact (own_in u v x (by omega) (by omega)).symm
theorem ef_2 (m : MethodId) (a1 : Addr) : entryFrame m #[(.ref a1)] 1 = mkF m 0 #[.val (.ref a1)] [] := by first | (simp [entryFrame, mkF, argsToLocals, Value.category]; done) | rfl
set_option maxRecDepth 65536 in
set_option maxHeartbeats 40000000 in
theorem rm2 (l : Launch) (Z : State) (a0 : Array Value) (hw : ∀ d ∈ tables_1, d.before a0 Z = true) (ws : List Jvm.Cond) (a1 : Addr) (h0 : Heap) :
    MetFree l (⟨"java/lang/Record", "<init>", "()V"⟩ : MethodName) (head1 (Jvm.Cond.code (⟨"java/lang/Record", "<init>", "()V"⟩ : MethodName) jdk_30_method_1_code 1 none :: ws) ({ frames := 1, cells := 0, slots := 0, locals := 12 } : Room)) (fun a U => a = #[(.ref a1)] ∧ Z.Warmed39 U.vm ∧ U.heap = h0) (fun _ _ _ _ _ => True) (fun _ U o U' => ∃ v L, o = .returned v ∧ own_Q none h0 v U'.heap L ∧ FrameEnd U o U' L ({ frames := 1, cells := 0, slots := 0, locals := 12 } : Room).cells ({ frames := 1, cells := 0, slots := 0, locals := 12 } : Room).slots) := by
  refine MetFree.of_bodySF (plainFor_of_name pn_Record) hisR ?_
  intro p e s m args below meth c s₁ Bd hml0 hP hK
  obtain ⟨rfl, hZ, hh⟩ := hP
  have hx := Bd.exec
  have hby := Bd.bytes
  have hml : c.maxLocals = 1 := hml0
  have hown : s.vm.findClass "java/lang/Record" = some m.cls := findClass_of_methodNamed Bd.named
  have hnm := (name_of_methodNamed Bd.named Bd.method).1
  have X0 : Stand p l e ({ frames := 1, cells := 0, slots := 0, locals := 12 } : Room) s m #[(.ref a1)] below meth c s₁ [] 0 0 := Stand.of_body Bd
  have e0 : s₁.heap = h0 := by rw [← hh, Bd.state]; rfl
  refine own_via (Y' := (s₁.setTop (mkF m 0 #[.val (.ref a1)] []))) (fun t kt => castTop (ef_2 m a1) kt) ?_
  refine own_via (Y' := (s₁.setTop (mkF m 1 #[.val (.ref a1)] [(.ref a1)]))) (fun t kt => ?_) ?_
  · show Steps p.tables e below (s₁.setTop (mkF m 0 #[.val (.ref a1)] [])) _
    refine XS.aloadN X0.here hx rfl (hb hby d2_0) rfl rfl ?_
    exact kt
  obtain ⟨T1, X1, e1, st1⟩ := initO X0 hx hZ hown (hw _ (List.mem_of_getElem? (i := 13) rfl)) (hw _ (List.mem_of_getElem? (i := 14) rfl)) (hw _ (List.mem_of_getElem? (i := 15) rfl)) e0 (g := (mkF m 1 #[.val (.ref a1)] [(.ref a1)])) rfl (by rw [hml]; rfl) rfl (hb hby d2_1) (by decide) (W := 0) (by show 2 * 0 + _ ≤ _; exact Nat.le_of_eq rfl) (by decide)
  refine own_via (Y' := (T1.setTop (mkF m 4 #[.val (.ref a1)] []))) (fun t kt => st1 _ kt) ?_
  obtain ⟨fs, hr, hrun, hended, hW, hsame⟩ := X1.leave (v := none) (fun _ => rfl)
  refine ⟨_, _, ?_, hrun, hended, _, _, rfl, ?_, ⟨_, rfl⟩, hW, hsame.mono (by decide) (by decide)⟩
  · show Steps p.tables e below (T1.setTop (mkF m 4 #[.val (.ref a1)] [])) _
    exact X1.returnOut hx Bd.returns (hb hby d2_4) hr
  · exact ⟨rfl, rfl, e1⟩
/-- what the constructor leaves -/
def own_QC (Z : State) (a1 : Addr) (p2 : Int32) (p3 : Int32) (h0 : Heap) (n0 : Nat) (v : Option Value) (h : Heap) (L : List Loc) : Prop := v = none ∧ Fr n0 L ∧ Keep h0 h [a1] ∧ Exa Z h a1 "com/example/propgen/values/SizeRange" ∧ Fld Z h a1 "com/example/propgen/values/SizeRange" "min" "I" (.int p2) ∧ Fld Z h a1 "com/example/propgen/values/SizeRange" "max" "I" (.int p3)
theorem ef_1 (m : MethodId) (a1 : Addr) (p2 : Int32) (p3 : Int32) : entryFrame m #[(.ref a1), (.int p2), (.int p3)] 3 = mkF m 0 #[.val (.ref a1), .val (.int p2), .val (.int p3)] [] := by first | (simp [entryFrame, mkF, argsToLocals, Value.category]; done) | rfl
set_option maxRecDepth 65536 in
set_option maxHeartbeats 40000000 in
theorem rm1 (l : Launch) (Z : State) (a0 : Array Value) (hw : ∀ d ∈ tables_1, d.before a0 Z = true) (ws : List Jvm.Cond) (a1 : Addr) (p2 : Int32) (p3 : Int32) (h0 : Heap) (n0 : Nat) (g_a1 : n0 ≤ a1) (E_a1 : Exa Z h0 a1 "com/example/propgen/values/SizeRange") (F_min : Fld Z h0 a1 "com/example/propgen/values/SizeRange" "min" "I" (.int (0 : Int32))) (F_max : Fld Z h0 a1 "com/example/propgen/values/SizeRange" "max" "I" (.int (0 : Int32))) :
    MetFree l (⟨"com/example/propgen/values/SizeRange", "<init>", "(II)V"⟩ : MethodName) (head1 (Jvm.Cond.code (⟨"com/example/propgen/values/SizeRange", "<init>", "(II)V"⟩ : MethodName) prog_76_method_1_code 3 none :: ws) ({ frames := 2, cells := 0, slots := 0, locals := 24 } : Room)) (fun a U => a = #[(.ref a1), (.int p2), (.int p3)] ∧ Z.Warmed39 U.vm ∧ U.heap = h0) (fun _ _ _ _ _ => True) (fun _ U o U' => ∃ v L, o = .returned v ∧ own_QC Z a1 p2 p3 h0 n0 v U'.heap L ∧ FrameEnd U o U' L ({ frames := 2, cells := 0, slots := 0, locals := 24 } : Room).cells ({ frames := 2, cells := 0, slots := 0, locals := 24 } : Room).slots) := by
  refine MetFree.of_bodySF (plainFor_of_name pn_SizeRange) hisR ?_
  intro p e s m args below meth c s₁ Bd hml0 hP hK
  obtain ⟨rfl, hZ, hh⟩ := hP
  have hx := Bd.exec
  have hby := Bd.bytes
  have hml : c.maxLocals = 3 := hml0
  have hown : s.vm.findClass "com/example/propgen/values/SizeRange" = some m.cls := findClass_of_methodNamed Bd.named
  have hnm := (name_of_methodNamed Bd.named Bd.method).1
  have X0 : Stand p l e ({ frames := 2, cells := 0, slots := 0, locals := 24 } : Room) s m #[(.ref a1), (.int p2), (.int p3)] below meth c s₁ [] 0 0 := Stand.of_body Bd
  have e0 : s₁.heap = h0 := by rw [← hh, Bd.state]; rfl
  refine own_via (Y' := (s₁.setTop (mkF m 0 #[.val (.ref a1), .val (.int p2), .val (.int p3)] []))) (fun t kt => castTop (ef_1 m a1 p2 p3) kt) ?_
  have N0 := Fr.nil n0
  refine own_via (Y' := (s₁.setTop (mkF m 1 #[.val (.ref a1), .val (.int p2), .val (.int p3)] [(.ref a1)]))) (fun t kt => ?_) ?_
  · show Steps p.tables e below (s₁.setTop (mkF m 0 #[.val (.ref a1), .val (.int p2), .val (.int p3)] [])) _
    refine XS.aloadN X0.here hx rfl (hb hby d1_0) rfl rfl ?_
    exact kt
  obtain ⟨_, _, ⟨T2, L2, k2, n2⟩, -, X2, ⟨Lc2, hQ2, l2, y2, z2⟩, st2⟩ := X0.specialBack hx (y := (⟨"java/lang/Record", "<init>", "()V"⟩ : MethodName)) rfl hown (mvT hZ (hw _ (List.mem_of_getElem? (i := 8) rfl))) (mvT hZ (hw _ (List.mem_of_getElem? (i := 9) rfl))) (mvT hZ (hw _ (List.mem_of_getElem? (i := 12) rfl))) (by decide) (backOf (W := 0) (rm2 l Z a0 hw [] a1 h0) hZ (hw _ (List.mem_of_getElem? (i := 12) rfl)) (hw _ (List.mem_of_getElem? (i := 11) rfl)) (by decide) (by decide)) (g := (mkF m 1 #[.val (.ref a1), .val (.int p2), .val (.int p3)] [(.ref a1)])) rfl (by rw [hml]; rfl) (Steps.refl _) (a := a1) (argsL := []) (rest := []) (lenOf pd__V rfl) rfl (by show 2 * 0 + _ ≤ _; exact Nat.le_of_eq rfl) (hb hby d1_1) (fun _ _ => ⟨rfl, e0, (by decide : 0 + 0 ≤ _), (by decide : 0 + 0 ≤ _)⟩)
  dsimp only [Pt.U, Pt.locs, Pt.cells, Pt.slots] at X2 l2 y2 z2 st2 hQ2
  subst l2 y2 z2
  obtain ⟨rfl, rfl, e2⟩ := hQ2
  replace X2 : Stand p l e ({ frames := 2, cells := 0, slots := 0, locals := 24 } : Room) s m #[(.ref a1), (.int p2), (.int p3)] below meth c T2 [] 0 0 := X2
  refine own_via (Y' := (T2.setTop (mkF m 4 #[.val (.ref a1), .val (.int p2), .val (.int p3)] []))) (fun t kt => st2.trans kt) ?_
  refine own_via (Y' := (T2.setTop (mkF m 6 #[.val (.ref a1), .val (.int p2), .val (.int p3)] [(.int p2), (.ref a1)]))) (fun t kt => ?_) ?_
  · show Steps p.tables e below (T2.setTop (mkF m 4 #[.val (.ref a1), .val (.int p2), .val (.int p3)] [])) _
    refine XS.aloadN X2.here hx rfl (hb hby d1_4) rfl rfl ?_
    show Steps p.tables e below (T2.setTop (mkF m 5 #[.val (.ref a1), .val (.int p2), .val (.int p3)] [(.ref a1)])) _
    refine XS.iloadN X2.here hx rfl (hb hby d1_5) rfl ?_
    exact kt
  obtain ⟨T3, h3, X3, e3, W3, st3⟩ := putF X2 hx hZ hown (host := "") (Or.inl (hw _ (List.mem_of_getElem? (i := 16) rfl))) Via.refl e2 F_min E_a1 (Or.inr ⟨(hw _ (List.mem_of_getElem? (i := 17) rfl)), rfl, hnm⟩) (hw _ (List.mem_of_getElem? (i := 3) rfl)) (ty := .int) (by decide) rfl rfl (g := (mkF m 6 #[.val (.ref a1), .val (.int p2), .val (.int p3)] [(.int p2), (.ref a1)])) rfl rfl (hb hby d1_6)
  have F_min_3 : Fld Z h3 a1 "com/example/propgen/values/SizeRange" "min" "I" (.int p2) := F_min.same W3
  have F_max_3 := F_max.other W3 (Or.inr (slot_ne (Or.inr (hw _ (List.mem_of_getElem? (i := 19) rfl))) (Or.inr (hw _ (List.mem_of_getElem? (i := 17) rfl))) (by decide) (t := .int) (t' := .int) (by decide) (by decide)))
  have E_3 := E_a1.wr W3
  have K3 : Keep h0 h3 [a1] := (Keep.refl h0 [a1]).wr W3 (Or.inl (List.mem_of_getElem? (i := 0) rfl))
  have N3 := Fr.snoc X3 N0 g_a1
  refine own_via (Y' := (T3.setTop (mkF m 9 #[.val (.ref a1), .val (.int p2), .val (.int p3)] []))) (fun t kt => st3 _ kt) ?_
  refine own_via (Y' := (T3.setTop (mkF m 11 #[.val (.ref a1), .val (.int p2), .val (.int p3)] [(.int p3), (.ref a1)]))) (fun t kt => ?_) ?_
  · show Steps p.tables e below (T3.setTop (mkF m 9 #[.val (.ref a1), .val (.int p2), .val (.int p3)] [])) _
    refine XS.aloadN X3.here hx rfl (hb hby d1_9) rfl rfl ?_
    show Steps p.tables e below (T3.setTop (mkF m 10 #[.val (.ref a1), .val (.int p2), .val (.int p3)] [(.ref a1)])) _
    refine XS.iloadN X3.here hx rfl (hb hby d1_10) rfl ?_
    exact kt
  obtain ⟨T4, h4, X4, e4, W4, st4⟩ := putF X3 hx hZ hown (host := "") (Or.inl (hw _ (List.mem_of_getElem? (i := 18) rfl))) Via.refl e3 F_max_3 E_3 (Or.inr ⟨(hw _ (List.mem_of_getElem? (i := 19) rfl)), rfl, hnm⟩) (hw _ (List.mem_of_getElem? (i := 3) rfl)) (ty := .int) (by decide) rfl rfl (g := (mkF m 11 #[.val (.ref a1), .val (.int p2), .val (.int p3)] [(.int p3), (.ref a1)])) rfl rfl (hb hby d1_11)
  have F_min_4 := F_min_3.other W4 (Or.inr (slot_ne (Or.inr (hw _ (List.mem_of_getElem? (i := 17) rfl))) (Or.inr (hw _ (List.mem_of_getElem? (i := 19) rfl))) (by decide) (t := .int) (t' := .int) (by decide) (by decide)))
  have F_max_4 : Fld Z h4 a1 "com/example/propgen/values/SizeRange" "max" "I" (.int p3) := F_max_3.same W4
  have E_4 := E_3.wr W4
  have K4 : Keep h0 h4 [a1] := K3.wr W4 (Or.inl (List.mem_of_getElem? (i := 0) rfl))
  have N4 := Fr.snoc X4 N3 g_a1
  refine own_via (Y' := (T4.setTop (mkF m 14 #[.val (.ref a1), .val (.int p2), .val (.int p3)] []))) (fun t kt => st4 _ kt) ?_
  obtain ⟨fs, hr, hrun, hended, hW, hsame⟩ := X4.leave (v := none) (fun _ => rfl)
  refine ⟨_, _, ?_, hrun, hended, _, _, rfl, ?_, ⟨_, rfl⟩, hW, hsame.mono (by decide) (by decide)⟩
  · show Steps p.tables e below (T4.setTop (mkF m 14 #[.val (.ref a1), .val (.int p2), .val (.int p3)] [])) _
    exact X4.returnOut hx Bd.returns (hb hby d1_14) hr
  · show own_QC Z a1 p2 p3 h0 n0 _ T4.heap _; rw [e4]; exact ⟨rfl, N4, K4, E_4, F_min_4, F_max_4⟩
theorem ef_4 (m : MethodId) (a1 : Addr) (p2 : Int32) : entryFrame m #[(.ref a1), (.int p2)] 2 = mkF m 0 #[.val (.ref a1), .val (.int p2)] [] := by first | (simp [entryFrame, mkF, argsToLocals, Value.category]; done) | rfl
set_option maxRecDepth 65536 in
set_option maxHeartbeats 40000000 in
theorem rm4 (l : Launch) (Z : State) (a0 : Array Value) (hw : ∀ d ∈ tables_1, d.before a0 Z = true) (ws : List Jvm.Cond) (a1 : Addr) (p2 : Int32) (lo hi : Int32) (h0 : Heap) (F_u : Fld Z h0 a1 "com/example/propgen/values/SizeRange" "min" "I" (.int lo)) (F_v : Fld Z h0 a1 "com/example/propgen/values/SizeRange" "max" "I" (.int hi)) :
    MetFree l (⟨"com/example/propgen/values/SizeRange", "contains", "(I)Z"⟩ : MethodName) (head1 (Jvm.Cond.code (⟨"com/example/propgen/values/SizeRange", "contains", "(I)Z"⟩ : MethodName) prog_76_method_2_code 2 (some .boolean) :: ws) ({ frames := 0, cells := 0, slots := 0, locals := 0 } : Room)) (fun a U => a = #[(.ref a1), (.int p2)] ∧ Z.Warmed39 U.vm ∧ U.heap = h0) (fun _ _ _ _ _ => True) (fun _ U o U' => ∃ v L, o = .returned v ∧ own_Q (some (.int (own_has lo hi p2))) h0 v U'.heap L ∧ FrameEnd U o U' L ({ frames := 0, cells := 0, slots := 0, locals := 0 } : Room).cells ({ frames := 0, cells := 0, slots := 0, locals := 0 } : Room).slots) := by
  refine MetFree.of_bodySF (plainFor_of_name pn_SizeRange) hisR ?_
  intro p e s m args below meth c s₁ Bd hml0 hP hK
  obtain ⟨rfl, hZ, hh⟩ := hP
  have hx := Bd.exec
  have hby := Bd.bytes
  have hml : c.maxLocals = 2 := hml0
  have hown : s.vm.findClass "com/example/propgen/values/SizeRange" = some m.cls := findClass_of_methodNamed Bd.named
  have hnm := (name_of_methodNamed Bd.named Bd.method).1
  have X0 : Stand p l e ({ frames := 0, cells := 0, slots := 0, locals := 0 } : Room) s m #[(.ref a1), (.int p2)] below meth c s₁ [] 0 0 := Stand.of_body Bd
  have e0 : s₁.heap = h0 := by rw [← hh, Bd.state]; rfl
  refine own_via (Y' := (s₁.setTop (mkF m 0 #[.val (.ref a1), .val (.int p2)] []))) (fun t kt => castTop (ef_4 m a1 p2) kt) ?_
  refine own_via (Y' := (s₁.setTop (mkF m 2 #[.val (.ref a1), .val (.int p2)] [(.ref a1), (.int p2)]))) (fun t kt => ?_) ?_
  · show Steps p.tables e below (s₁.setTop (mkF m 0 #[.val (.ref a1), .val (.int p2)] [])) _
    refine XS.iloadN X0.here hx rfl (hb hby d4_0) rfl ?_
    show Steps p.tables e below (s₁.setTop (mkF m 1 #[.val (.ref a1), .val (.int p2)] [(.int p2)])) _
    refine XS.aloadN X0.here hx rfl (hb hby d4_1) rfl rfl ?_
    exact kt
  obtain ⟨T5, X5, e5, st5⟩ := getF X0 hx hZ hown (host := "") (Or.inl (hw _ (List.mem_of_getElem? (i := 16) rfl))) Via.refl e0 F_u (g := (mkF m 2 #[.val (.ref a1), .val (.int p2)] [(.ref a1), (.int p2)])) rfl rfl (hb hby d4_2)
  refine own_via (Y' := (T5.setTop (mkF m 5 #[.val (.ref a1), .val (.int p2)] [(.int lo), (.int p2)]))) (fun t kt => st5 _ kt) ?_
  by_cases h1 : p2 < lo
  · obtain ⟨fs, hr, hrun, hended, hW, hsame⟩ := X5.leave (v := (some (.int (0 : Int32)))) (fun h => by rw [Bd.returns] at h; cases h)
    refine ⟨_, _, ?_, hrun, hended, _, _, rfl, ?_, ⟨_, rfl⟩, hW, hsame.mono (by decide) (by decide)⟩
    · show Steps p.tables e below (T5.setTop (mkF m 5 #[.val (.ref a1), .val (.int p2)] [(.int lo), (.int p2)])) _
      refine XS.icmpYes X5.here hx rfl (pc0 := 5) (pc' := 20) rfl (hb hby d4_5) rfl (XT.ii_lt_t h1) (by decide) (by decide) ?_
      show Steps p.tables e below (T5.setTop (mkF m 20 #[.val (.ref a1), .val (.int p2)] [])) _
      refine XT.iconstV X5.here hx rfl (0 : Int32) (hb hby d4_20) (by decide) ?_
      show Steps p.tables e below (T5.setTop (mkF m 21 #[.val (.ref a1), .val (.int p2)] [(.int (0 : Int32))])) _
      exact retN X5 hx (t := .boolean) Bd.returns (by simp) (hb hby d4_21) hr
    · exact ⟨by simp only [own_has, if_pos h1], rfl, e5⟩
  · refine own_via (Y' := (T5.setTop (mkF m 10 #[.val (.ref a1), .val (.int p2)] [(.ref a1), (.int p2)]))) (fun t kt => ?_) ?_
    · show Steps p.tables e below (T5.setTop (mkF m 5 #[.val (.ref a1), .val (.int p2)] [(.int lo), (.int p2)])) _
      refine XS.icmpNo X5.here hx rfl (hb hby d4_5) rfl (XT.ii_lt_f h1) ?_
      show Steps p.tables e below (T5.setTop (mkF m 8 #[.val (.ref a1), .val (.int p2)] [])) _
      refine XS.iloadN X5.here hx rfl (hb hby d4_8) rfl ?_
      show Steps p.tables e below (T5.setTop (mkF m 9 #[.val (.ref a1), .val (.int p2)] [(.int p2)])) _
      refine XS.aloadN X5.here hx rfl (hb hby d4_9) rfl rfl ?_
      exact kt
    obtain ⟨T6, X6, e6, st6⟩ := getF X5 hx hZ hown (host := "") (Or.inl (hw _ (List.mem_of_getElem? (i := 18) rfl))) Via.refl e5 F_v (g := (mkF m 10 #[.val (.ref a1), .val (.int p2)] [(.ref a1), (.int p2)])) rfl rfl (hb hby d4_10)
    refine own_via (Y' := (T6.setTop (mkF m 13 #[.val (.ref a1), .val (.int p2)] [(.int hi), (.int p2)]))) (fun t kt => st6 _ kt) ?_
    by_cases h2 : hi < p2
    · obtain ⟨fs, hr, hrun, hended, hW, hsame⟩ := X6.leave (v := (some (.int (0 : Int32)))) (fun h => by rw [Bd.returns] at h; cases h)
      refine ⟨_, _, ?_, hrun, hended, _, _, rfl, ?_, ⟨_, rfl⟩, hW, hsame.mono (by decide) (by decide)⟩
      · show Steps p.tables e below (T6.setTop (mkF m 13 #[.val (.ref a1), .val (.int p2)] [(.int hi), (.int p2)])) _
        refine XS.icmpYes X6.here hx rfl (pc0 := 13) (pc' := 20) rfl (hb hby d4_13) rfl (XT.ii_gt_t h2) (by decide) (by decide) ?_
        show Steps p.tables e below (T6.setTop (mkF m 20 #[.val (.ref a1), .val (.int p2)] [])) _
        refine XT.iconstV X6.here hx rfl (0 : Int32) (hb hby d4_20) (by decide) ?_
        show Steps p.tables e below (T6.setTop (mkF m 21 #[.val (.ref a1), .val (.int p2)] [(.int (0 : Int32))])) _
        exact retN X6 hx (t := .boolean) Bd.returns (by simp) (hb hby d4_21) hr
      · exact ⟨by simp only [own_has, if_neg h1, if_pos h2], rfl, e6⟩
    · obtain ⟨fs, hr, hrun, hended, hW, hsame⟩ := X6.leave (v := (some (.int (1 : Int32)))) (fun h => by rw [Bd.returns] at h; cases h)
      refine ⟨_, _, ?_, hrun, hended, _, _, rfl, ?_, ⟨_, rfl⟩, hW, hsame.mono (by decide) (by decide)⟩
      · show Steps p.tables e below (T6.setTop (mkF m 13 #[.val (.ref a1), .val (.int p2)] [(.int hi), (.int p2)])) _
        refine XS.icmpNo X6.here hx rfl (hb hby d4_13) rfl (XT.ii_gt_f h2) ?_
        show Steps p.tables e below (T6.setTop (mkF m 16 #[.val (.ref a1), .val (.int p2)] [])) _
        refine XT.iconstV X6.here hx rfl (1 : Int32) (hb hby d4_16) (by decide) ?_
        show Steps p.tables e below (T6.setTop (mkF m 17 #[.val (.ref a1), .val (.int p2)] [(.int (1 : Int32))])) _
        refine XS.goto X6.here hx rfl (pc0 := 17) (pc' := 21) rfl (hb hby d4_17) (by decide) (by decide) ?_
        show Steps p.tables e below (T6.setTop (mkF m 21 #[.val (.ref a1), .val (.int p2)] [(.int (1 : Int32))])) _
        exact retN X6 hx (t := .boolean) Bd.returns (by simp) (hb hby d4_21) hr
      · exact ⟨by simp only [own_has, if_neg h1, if_neg h2], rfl, e6⟩
/-- what the law leaves: it returns 1; whatever was written lies in new cells -/
def own_Q0 (n0 : Nat) (v : Option Value) (h : Heap) (L : List Loc) : Prop := v = some (.int (1 : Int32)) ∧ Fr n0 L
theorem ef_0 (m : MethodId) (p1 : Int32) (p2 : Int32) (p3 : Int32) : entryFrame m #[(.int p1), (.int p2), (.int p3)] maxLocals = mkF m 0 #[.val (.int p1), .val (.int p2), .val (.int p3), .unset, .unset, .unset, .unset, .unset, .unset, .unset, .unset, .unset, .unset, .unset, .unset] [] := by first | (simp [entryFrame, mkF, argsToLocals, Value.category, maxLocals]; done) | rfl
set_option maxRecDepth 65536 in
set_option maxHeartbeats 40000000 in
theorem rm0 (l : Launch) (Z : State) (a0 : Array Value) (hw : ∀ d ∈ tables_1, d.before a0 Z = true) (ws : List Jvm.Cond) (p1 : Int32) (p2 : Int32) (p3 : Int32) (h0 : Heap) (n0 : Nat) (Z0 : n0 ≤ h0.size) :
    MetFree l x (head1 (Jvm.Cond.code x code maxLocals ret :: ws) room_1) (fun a U => a = #[(.int p1), (.int p2), (.int p3)] ∧ Z.Warmed39 U.vm ∧ U.heap = h0) (fun _ _ _ _ _ => True) (fun _ U o U' => ∃ v L, o = .returned v ∧ own_Q0 n0 v U'.heap L ∧ FrameEnd U o U' L room_1.cells room_1.slots) := by
  refine MetFree.of_bodySF (plainFor_of_name pn_SizeRangeContainsPinLaw) hisR ?_
  intro p e s m args below meth c s₁ Bd hml0 hP hK
  obtain ⟨rfl, hZ, hh⟩ := hP
  have hx := Bd.exec
  have hby := Bd.bytes
  have hml : c.maxLocals = 15 := hml0
  have hown : s.vm.findClass "com/example/propgen/values/SizeRangeContainsPinLaw" = some m.cls := findClass_of_methodNamed Bd.named
  have hnm := (name_of_methodNamed Bd.named Bd.method).1
  have X0 : Stand p l e room_1 s m #[(.int p1), (.int p2), (.int p3)] below meth c s₁ [] 0 0 := Stand.of_body Bd
  have e0 : s₁.heap = h0 := by rw [← hh, Bd.state]; rfl
  refine own_via (Y' := (s₁.setTop (mkF m 0 #[.val (.int p1), .val (.int p2), .val (.int p3), .unset, .unset, .unset, .unset, .unset, .unset, .unset, .unset, .unset, .unset, .unset, .unset] []))) (fun t kt => castTop (ef_0 m p1 p2 p3) kt) ?_
  refine own_via (Y' := (s₁.setTop (mkF m 4 #[.val (.int p1), .val (.int p2), .val (.int p3), .unset, .unset, .unset, .unset, .unset, .unset, .unset, .unset, .unset, .unset, .unset, .unset] [(.int (p1 &&& (2147483647 : Int32)))]))) (fun t kt => ?_) ?_
  · show Steps p.tables e below (s₁.setTop (mkF m 0 #[.val (.int p1), .val (.int p2), .val (.int p3), .unset, .unset, .unset, .unset, .unset, .unset, .unset, .unset, .unset, .unset, .unset, .unset] [])) _
    refine XS.iloadN X0.here hx rfl (hb hby at_0) rfl ?_
    show Steps p.tables e below (s₁.setTop (mkF m 1 #[.val (.int p1), .val (.int p2), .val (.int p3), .unset, .unset, .unset, .unset, .unset, .unset, .unset, .unset, .unset, .unset, .unset, .unset] [(.int p1)])) _
    refine X0.ldcI hx hown (mvT hZ (hw _ (List.mem_of_getElem? (i := 0) rfl))) (g := (mkF m 1 #[.val (.int p1), .val (.int p2), .val (.int p3), .unset, .unset, .unset, .unset, .unset, .unset, .unset, .unset, .unset, .unset, .unset, .unset] [(.int p1)])) rfl (hb hby at_1) ?_
    show Steps p.tables e below (s₁.setTop (mkF m 3 #[.val (.int p1), .val (.int p2), .val (.int p3), .unset, .unset, .unset, .unset, .unset, .unset, .unset, .unset, .unset, .unset, .unset, .unset] [(.int (2147483647 : Int32)), (.int p1)])) _
    refine XS.iand X0.here hx rfl (hb hby at_3) rfl ?_
    exact kt
  obtain ⟨mn, hmn⟩ : ∃ z, z = (p1 &&& (2147483647 : Int32)) := ⟨_, rfl⟩
  rw [← hmn]
  have hm0 : 0 ≤ mn.toInt := by rw [hmn]; exact own_mask _
  refine own_via (Y' := (s₁.setTop (mkF m 13 #[.val (.int p1), .val (.int p2), .val (.int p3), .val (.int mn), .unset, .unset, .unset, .unset, .unset, .unset, .unset, .unset, .unset, .unset, .unset] [(.long (((2147483647 : Int64) - (mn.toInt64)) + (1 : Int64)))]))) (fun t kt => ?_) ?_
  · show Steps p.tables e below (s₁.setTop (mkF m 4 #[.val (.int p1), .val (.int p2), .val (.int p3), .unset, .unset, .unset, .unset, .unset, .unset, .unset, .unset, .unset, .unset, .unset, .unset] [(.int mn)])) _
    refine XS.istoreN X0.here hx rfl (hb hby at_4) rfl (l' := #[.val (.int p1), .val (.int p2), .val (.int p3), .val (.int mn), .unset, .unset, .unset, .unset, .unset, .unset, .unset, .unset, .unset, .unset, .unset]) rfl ?_
    show Steps p.tables e below (s₁.setTop (mkF m 5 #[.val (.int p1), .val (.int p2), .val (.int p3), .val (.int mn), .unset, .unset, .unset, .unset, .unset, .unset, .unset, .unset, .unset, .unset, .unset] [])) _
    refine X0.ldc2J hx hown (mvT hZ (hw _ (List.mem_of_getElem? (i := 1) rfl))) (g := (mkF m 5 #[.val (.int p1), .val (.int p2), .val (.int p3), .val (.int mn), .unset, .unset, .unset, .unset, .unset, .unset, .unset, .unset, .unset, .unset, .unset] [])) rfl (hb hby at_5) ?_
    show Steps p.tables e below (s₁.setTop (mkF m 8 #[.val (.int p1), .val (.int p2), .val (.int p3), .val (.int mn), .unset, .unset, .unset, .unset, .unset, .unset, .unset, .unset, .unset, .unset, .unset] [(.long (2147483647 : Int64))])) _
    refine XS.iloadN X0.here hx rfl (hb hby at_8) rfl ?_
    show Steps p.tables e below (s₁.setTop (mkF m 9 #[.val (.int p1), .val (.int p2), .val (.int p3), .val (.int mn), .unset, .unset, .unset, .unset, .unset, .unset, .unset, .unset, .unset, .unset, .unset] [(.int mn), (.long (2147483647 : Int64))])) _
    refine XT.i2l X0.here hx rfl (hb hby at_9) rfl ?_
    show Steps p.tables e below (s₁.setTop (mkF m 10 #[.val (.int p1), .val (.int p2), .val (.int p3), .val (.int mn), .unset, .unset, .unset, .unset, .unset, .unset, .unset, .unset, .unset, .unset, .unset] [(.long (mn.toInt64)), (.long (2147483647 : Int64))])) _
    refine XT.lsub X0.here hx rfl (hb hby at_10) rfl ?_
    show Steps p.tables e below (s₁.setTop (mkF m 11 #[.val (.int p1), .val (.int p2), .val (.int p3), .val (.int mn), .unset, .unset, .unset, .unset, .unset, .unset, .unset, .unset, .unset, .unset, .unset] [(.long ((2147483647 : Int64) - (mn.toInt64)))])) _
    refine XT.lconstV X0.here hx rfl (1 : Int64) (hb hby at_11) (by decide) ?_
    show Steps p.tables e below (s₁.setTop (mkF m 12 #[.val (.int p1), .val (.int p2), .val (.int p3), .val (.int mn), .unset, .unset, .unset, .unset, .unset, .unset, .unset, .unset, .unset, .unset, .unset] [(.long (1 : Int64)), (.long ((2147483647 : Int64) - (mn.toInt64)))])) _
    refine XT.ladd X0.here hx rfl (hb hby at_12) rfl ?_
    exact kt
  obtain ⟨sp, hsp⟩ : ∃ z, z = (((2147483647 : Int64) - (mn.toInt64)) + (1 : Int64)) := ⟨_, rfl⟩
  rw [← hsp]
  have hs : sp.toInt = 2147483648 - mn.toInt := by rw [hsp]; exact own_span mn hm0
  refine own_via (Y' := (s₁.setTop (mkF m 24 #[.val (.int p1), .val (.int p2), .val (.int p3), .val (.int mn), .val (.long sp), .second, .unset, .unset, .unset, .unset, .unset, .unset, .unset, .unset, .unset] [(.long (((p2.toInt64) &&& (2147483647 : Int64)) - ((p2.toInt64) &&& (2147483647 : Int64)) / sp * sp))]))) (fun t kt => ?_) ?_
  · show Steps p.tables e below (s₁.setTop (mkF m 13 #[.val (.int p1), .val (.int p2), .val (.int p3), .val (.int mn), .unset, .unset, .unset, .unset, .unset, .unset, .unset, .unset, .unset, .unset, .unset] [(.long sp)])) _
    refine XT.lstore X0.here hx rfl (hb hby at_13) rfl (l' := #[.val (.int p1), .val (.int p2), .val (.int p3), .val (.int mn), .val (.long sp), .second, .unset, .unset, .unset, .unset, .unset, .unset, .unset, .unset, .unset]) rfl ?_
    show Steps p.tables e below (s₁.setTop (mkF m 15 #[.val (.int p1), .val (.int p2), .val (.int p3), .val (.int mn), .val (.long sp), .second, .unset, .unset, .unset, .unset, .unset, .unset, .unset, .unset, .unset] [])) _
    refine XS.iloadN X0.here hx rfl (hb hby at_15) rfl ?_
    show Steps p.tables e below (s₁.setTop (mkF m 16 #[.val (.int p1), .val (.int p2), .val (.int p3), .val (.int mn), .val (.long sp), .second, .unset, .unset, .unset, .unset, .unset, .unset, .unset, .unset, .unset] [(.int p2)])) _
    refine XT.i2l X0.here hx rfl (hb hby at_16) rfl ?_
    show Steps p.tables e below (s₁.setTop (mkF m 17 #[.val (.int p1), .val (.int p2), .val (.int p3), .val (.int mn), .val (.long sp), .second, .unset, .unset, .unset, .unset, .unset, .unset, .unset, .unset, .unset] [(.long (p2.toInt64))])) _
    refine X0.ldc2J hx hown (mvT hZ (hw _ (List.mem_of_getElem? (i := 1) rfl))) (g := (mkF m 17 #[.val (.int p1), .val (.int p2), .val (.int p3), .val (.int mn), .val (.long sp), .second, .unset, .unset, .unset, .unset, .unset, .unset, .unset, .unset, .unset] [(.long (p2.toInt64))])) rfl (hb hby at_17) ?_
    show Steps p.tables e below (s₁.setTop (mkF m 20 #[.val (.int p1), .val (.int p2), .val (.int p3), .val (.int mn), .val (.long sp), .second, .unset, .unset, .unset, .unset, .unset, .unset, .unset, .unset, .unset] [(.long (2147483647 : Int64)), (.long (p2.toInt64))])) _
    refine XT.land X0.here hx rfl (hb hby at_20) rfl ?_
    show Steps p.tables e below (s₁.setTop (mkF m 21 #[.val (.int p1), .val (.int p2), .val (.int p3), .val (.int mn), .val (.long sp), .second, .unset, .unset, .unset, .unset, .unset, .unset, .unset, .unset, .unset] [(.long ((p2.toInt64) &&& (2147483647 : Int64)))])) _
    refine XT.lload X0.here hx rfl (hb hby at_21) rfl ?_
    show Steps p.tables e below (s₁.setTop (mkF m 23 #[.val (.int p1), .val (.int p2), .val (.int p3), .val (.int mn), .val (.long sp), .second, .unset, .unset, .unset, .unset, .unset, .unset, .unset, .unset, .unset] [(.long sp), (.long ((p2.toInt64) &&& (2147483647 : Int64)))])) _
    refine XT.lrem X0.here hx rfl (hb hby at_23) rfl (own_nz mn hm0 sp hs) ?_
    exact kt
  obtain ⟨off, hof⟩ : ∃ z, z = (((p2.toInt64) &&& (2147483647 : Int64)) - ((p2.toInt64) &&& (2147483647 : Int64)) / sp * sp) := ⟨_, rfl⟩
  rw [← hof]
  refine own_via (Y' := (s₁.setTop (mkF m 32 #[.val (.int p1), .val (.int p2), .val (.int p3), .val (.int mn), .val (.long sp), .second, .val (.long off), .second, .unset, .unset, .unset, .unset, .unset, .unset, .unset] [(.int (((mn.toInt64) + off).toInt32))]))) (fun t kt => ?_) ?_
  · show Steps p.tables e below (s₁.setTop (mkF m 24 #[.val (.int p1), .val (.int p2), .val (.int p3), .val (.int mn), .val (.long sp), .second, .unset, .unset, .unset, .unset, .unset, .unset, .unset, .unset, .unset] [(.long off)])) _
    refine XT.lstore X0.here hx rfl (hb hby at_24) rfl (l' := #[.val (.int p1), .val (.int p2), .val (.int p3), .val (.int mn), .val (.long sp), .second, .val (.long off), .second, .unset, .unset, .unset, .unset, .unset, .unset, .unset]) rfl ?_
    show Steps p.tables e below (s₁.setTop (mkF m 26 #[.val (.int p1), .val (.int p2), .val (.int p3), .val (.int mn), .val (.long sp), .second, .val (.long off), .second, .unset, .unset, .unset, .unset, .unset, .unset, .unset] [])) _
    refine XS.iloadN X0.here hx rfl (hb hby at_26) rfl ?_
    show Steps p.tables e below (s₁.setTop (mkF m 27 #[.val (.int p1), .val (.int p2), .val (.int p3), .val (.int mn), .val (.long sp), .second, .val (.long off), .second, .unset, .unset, .unset, .unset, .unset, .unset, .unset] [(.int mn)])) _
    refine XT.i2l X0.here hx rfl (hb hby at_27) rfl ?_
    show Steps p.tables e below (s₁.setTop (mkF m 28 #[.val (.int p1), .val (.int p2), .val (.int p3), .val (.int mn), .val (.long sp), .second, .val (.long off), .second, .unset, .unset, .unset, .unset, .unset, .unset, .unset] [(.long (mn.toInt64))])) _
    refine XT.lload X0.here hx rfl (hb hby at_28) rfl ?_
    show Steps p.tables e below (s₁.setTop (mkF m 30 #[.val (.int p1), .val (.int p2), .val (.int p3), .val (.int mn), .val (.long sp), .second, .val (.long off), .second, .unset, .unset, .unset, .unset, .unset, .unset, .unset] [(.long off), (.long (mn.toInt64))])) _
    refine XT.ladd X0.here hx rfl (hb hby at_30) rfl ?_
    show Steps p.tables e below (s₁.setTop (mkF m 31 #[.val (.int p1), .val (.int p2), .val (.int p3), .val (.int mn), .val (.long sp), .second, .val (.long off), .second, .unset, .unset, .unset, .unset, .unset, .unset, .unset] [(.long ((mn.toInt64) + off))])) _
    refine XT.l2i X0.here hx rfl (hb hby at_31) rfl ?_
    exact kt
  obtain ⟨mx, hmx⟩ : ∃ z, z = (((mn.toInt64) + off).toInt32) := ⟨_, rfl⟩
  rw [← hmx]
  have hx0 : mn.toInt ≤ mx.toInt := by rw [hmx]; exact own_end mn p2 hm0 sp off hs hof
  refine own_via (Y' := (s₁.setTop (mkF m 34 #[.val (.int p1), .val (.int p2), .val (.int p3), .val (.int mn), .val (.long sp), .second, .val (.long off), .second, .val (.int mx), .unset, .unset, .unset, .unset, .unset, .unset] []))) (fun t kt => ?_) ?_
  · show Steps p.tables e below (s₁.setTop (mkF m 32 #[.val (.int p1), .val (.int p2), .val (.int p3), .val (.int mn), .val (.long sp), .second, .val (.long off), .second, .unset, .unset, .unset, .unset, .unset, .unset, .unset] [(.int mx)])) _
    refine XS.istore X0.here hx rfl (hb hby at_32) rfl (l' := #[.val (.int p1), .val (.int p2), .val (.int p3), .val (.int mn), .val (.long sp), .second, .val (.long off), .second, .val (.int mx), .unset, .unset, .unset, .unset, .unset, .unset]) rfl ?_
    exact kt
  obtain ⟨T7, h7, X7, e7, E7, A7, D7, -, st7⟩ := newO X0 hx hZ hown (hw _ (List.mem_of_getElem? (i := 2) rfl)) (hw _ (List.mem_of_getElem? (i := 3) rfl)) (hw _ (List.mem_of_getElem? (i := 4) rfl)) e0 (g := (mkF m 34 #[.val (.int p1), .val (.int p2), .val (.int p3), .val (.int mn), .val (.long sp), .second, .val (.long off), .second, .val (.int mx), .unset, .unset, .unset, .unset, .unset, .unset] [])) rfl (hb hby at_34) (by decide) (by decide)
  obtain ⟨b, g7⟩ : ∃ z, z = h0.size := ⟨_, rfl⟩
  rw [← g7] at A7 D7 st7
  have g_b : n0 ≤ b := Nat.le_trans Z0 (Nat.le_of_eq g7.symm)
  have E_b := A7
  have F_min_b : Fld Z h7 b "com/example/propgen/values/SizeRange" "min" "I" (.int (0 : Int32)) := D7 (Or.inr (hw _ (List.mem_of_getElem? (i := 17) rfl))) (ty := .int) (by decide)
  have F_max_b : Fld Z h7 b "com/example/propgen/values/SizeRange" "max" "I" (.int (0 : Int32)) := D7 (Or.inr (hw _ (List.mem_of_getElem? (i := 19) rfl))) (ty := .int) (by decide)
  replace X7 : Stand p l e room_1 s m #[(.int p1), (.int p2), (.int p3)] below meth c T7 [] 1 2 := X7
  refine own_via (Y' := (T7.setTop (mkF m 37 #[.val (.int p1), .val (.int p2), .val (.int p3), .val (.int mn), .val (.long sp), .second, .val (.long off), .second, .val (.int mx), .unset, .unset, .unset, .unset, .unset, .unset] [(.ref b)]))) (fun t kt => st7 _ kt) ?_
  refine own_via (Y' := (T7.setTop (mkF m 41 #[.val (.int p1), .val (.int p2), .val (.int p3), .val (.int mn), .val (.long sp), .second, .val (.long off), .second, .val (.int mx), .unset, .unset, .unset, .unset, .unset, .unset] [(.int mx), (.int mn), (.ref b), (.ref b)]))) (fun t kt => ?_) ?_
  · show Steps p.tables e below (T7.setTop (mkF m 37 #[.val (.int p1), .val (.int p2), .val (.int p3), .val (.int mn), .val (.long sp), .second, .val (.long off), .second, .val (.int mx), .unset, .unset, .unset, .unset, .unset, .unset] [(.ref b)])) _
    refine XS.dup X7.here hx rfl (hb hby at_37) rfl rfl ?_
    show Steps p.tables e below (T7.setTop (mkF m 38 #[.val (.int p1), .val (.int p2), .val (.int p3), .val (.int mn), .val (.long sp), .second, .val (.long off), .second, .val (.int mx), .unset, .unset, .unset, .unset, .unset, .unset] [(.ref b), (.ref b)])) _
    refine XS.iloadN X7.here hx rfl (hb hby at_38) rfl ?_
    show Steps p.tables e below (T7.setTop (mkF m 39 #[.val (.int p1), .val (.int p2), .val (.int p3), .val (.int mn), .val (.long sp), .second, .val (.long off), .second, .val (.int mx), .unset, .unset, .unset, .unset, .unset, .unset] [(.int mn), (.ref b), (.ref b)])) _
    refine XS.iload X7.here hx rfl (hb hby at_39) rfl ?_
    exact kt
  obtain ⟨_, _, ⟨T8, L8, k8, n8⟩, -, X8, ⟨Lc8, hQ8, l8, y8, z8⟩, st8⟩ := X7.specialBack hx (y := (⟨"com/example/propgen/values/SizeRange", "<init>", "(II)V"⟩ : MethodName)) rfl hown (mvT hZ (hw _ (List.mem_of_getElem? (i := 5) rfl))) (mvT hZ (hw _ (List.mem_of_getElem? (i := 6) rfl))) (mvT hZ (hw _ (List.mem_of_getElem? (i := 7) rfl))) (by decide) (backOf (W := 1) (rm1 l Z a0 hw [] b mn mx h7 n0 g_b E_b F_min_b F_max_b) hZ (hw _ (List.mem_of_getElem? (i := 7) rfl)) (hw _ (List.mem_of_getElem? (i := 4) rfl)) (by decide) (by decide)) (g := (mkF m 41 #[.val (.int p1), .val (.int p2), .val (.int p3), .val (.int mn), .val (.long sp), .second, .val (.long off), .second, .val (.int mx), .unset, .unset, .unset, .unset, .unset, .unset] [(.int mx), (.int mn), (.ref b), (.ref b)])) rfl (by rw [hml]; rfl) (Steps.refl _) (a := b) (argsL := [(.int mn), (.int mx)]) (rest := [(.ref b)]) (lenOf pd_II_V rfl) rfl (by show 2 * 0 + _ ≤ _; exact Nat.le_of_eq rfl) (hb hby at_41) (fun _ _ => ⟨rfl, e7, (by decide : 1 + 0 ≤ _), (by decide : 2 + 0 ≤ _)⟩)
  dsimp only [Pt.U, Pt.locs, Pt.cells, Pt.slots] at X8 l8 y8 z8 st8 hQ8
  subst l8 y8 z8
  obtain ⟨rfl, NC, KC, EC, FU, FV⟩ := hQ8
  replace X8 : Stand p l e room_1 s m #[(.int p1), (.int p2), (.int p3)] below meth c T8 L8 1 2 := X8
  obtain ⟨hC, e8⟩ : ∃ z, T8.heap = z := ⟨_, rfl⟩
  rw [e8] at KC EC FU FV
  refine own_via (Y' := (T8.setTop (mkF m 44 #[.val (.int p1), .val (.int p2), .val (.int p3), .val (.int mn), .val (.long sp), .second, .val (.long off), .second, .val (.int mx), .unset, .unset, .unset, .unset, .unset, .unset] [(.ref b)]))) (fun t kt => st8.trans kt) ?_
  refine own_via (Y' := (T8.setTop (mkF m 49 #[.val (.int p1), .val (.int p2), .val (.int p3), .val (.int mn), .val (.long sp), .second, .val (.long off), .second, .val (.int mx), .val (.ref b), .unset, .unset, .unset, .unset, .unset] [(.int mn), (.ref b)]))) (fun t kt => ?_) ?_
  · show Steps p.tables e below (T8.setTop (mkF m 44 #[.val (.int p1), .val (.int p2), .val (.int p3), .val (.int mn), .val (.long sp), .second, .val (.long off), .second, .val (.int mx), .unset, .unset, .unset, .unset, .unset, .unset] [(.ref b)])) _
    refine XS.astore X8.here hx rfl (hb hby at_44) rfl rfl (l' := #[.val (.int p1), .val (.int p2), .val (.int p3), .val (.int mn), .val (.long sp), .second, .val (.long off), .second, .val (.int mx), .val (.ref b), .unset, .unset, .unset, .unset, .unset]) rfl ?_
    show Steps p.tables e below (T8.setTop (mkF m 46 #[.val (.int p1), .val (.int p2), .val (.int p3), .val (.int mn), .val (.long sp), .second, .val (.long off), .second, .val (.int mx), .val (.ref b), .unset, .unset, .unset, .unset, .unset] [])) _
    refine XS.aload X8.here hx rfl (hb hby at_46) rfl rfl ?_
    show Steps p.tables e below (T8.setTop (mkF m 48 #[.val (.int p1), .val (.int p2), .val (.int p3), .val (.int mn), .val (.long sp), .second, .val (.long off), .second, .val (.int mx), .val (.ref b), .unset, .unset, .unset, .unset, .unset] [(.ref b)])) _
    refine XS.iloadN X8.here hx rfl (hb hby at_48) rfl ?_
    exact kt
  obtain ⟨cq9, kq9, q9a, q9b, q9c⟩ := isOf hZ e8 EC
  obtain ⟨_, _, ⟨T9, L9, k9, n9⟩, -, X9, ⟨Lc9, hQ9, l9, y9, z9⟩, st9⟩ := X8.virtualBack hx (y := (⟨"com/example/propgen/values/SizeRange", "contains", "(I)Z"⟩ : MethodName)) (z := (⟨"com/example/propgen/values/SizeRange", "contains", "(I)Z"⟩ : MethodName)) hown (mvT hZ (hw _ (List.mem_of_getElem? (i := 20) rfl))) (mvT hZ (hw _ (List.mem_of_getElem? (i := 21) rfl))) (notFace_of_selects (args := #[]) (mvT hZ (hw _ (List.mem_of_getElem? (i := 23) rfl)))) (mvT hZ (hw _ (List.mem_of_getElem? (i := 23) rfl))) (mvT hZ (hw _ (List.mem_of_getElem? (i := 22) rfl))) (by decide) (backOf (W := 0) (rm4 l Z a0 hw [] b mn mn mx hC FU FV) hZ (hw _ (List.mem_of_getElem? (i := 24) rfl)) (hw _ (List.mem_of_getElem? (i := 4) rfl)) (by decide) (by decide)) q9a q9c (g := (mkF m 49 #[.val (.int p1), .val (.int p2), .val (.int p3), .val (.int mn), .val (.long sp), .second, .val (.long off), .second, .val (.int mx), .val (.ref b), .unset, .unset, .unset, .unset, .unset] [(.int mn), (.ref b)])) rfl (by rw [hml]; rfl) (Steps.refl _) (argsL := [(.int mn)]) (rest := []) (lenOf pd_I_Z rfl) rfl (by show 2 * 0 + _ ≤ _; exact Nat.le_of_eq rfl) (hb hby at_49) (fun _ _ => ⟨rfl, e8, (by decide : 1 + 0 ≤ _), (by decide : 2 + 0 ≤ _)⟩)
  dsimp only [Pt.U, Pt.locs, Pt.cells, Pt.slots] at X9 l9 y9 z9 st9 hQ9
  subst l9 y9 z9
  obtain ⟨rfl, rfl, e9⟩ := hQ9
  replace X9 : Stand p l e room_1 s m #[(.int p1), (.int p2), (.int p3)] below meth c T9 L8 1 2 := by rw [List.append_nil] at X9; exact X9
  refine own_via (Y' := (T9.setTop (mkF m 52 #[.val (.int p1), .val (.int p2), .val (.int p3), .val (.int mn), .val (.long sp), .second, .val (.long off), .second, .val (.int mx), .val (.ref b), .unset, .unset, .unset, .unset, .unset] [(.int (own_has mn mx mn))]))) (fun t kt => st9.trans kt) ?_
  refine own_via (Y' := (T9.setTop (mkF m 61 #[.val (.int p1), .val (.int p2), .val (.int p3), .val (.int mn), .val (.long sp), .second, .val (.long off), .second, .val (.int mx), .val (.ref b), .unset, .unset, .unset, .unset, .unset] [(.int mx), (.ref b)]))) (fun t kt => ?_) ?_
  · show Steps p.tables e below (T9.setTop (mkF m 52 #[.val (.int p1), .val (.int p2), .val (.int p3), .val (.int mn), .val (.long sp), .second, .val (.long off), .second, .val (.int mx), .val (.ref b), .unset, .unset, .unset, .unset, .unset] [(.int (own_has mn mx mn))])) _
    refine XS.ifYes X9.here hx rfl (pc0 := 52) (pc' := 57) rfl (hb hby at_52) rfl (XT.i0_ne_t (by rw [own_in mn mx mn (Int.le_refl _) hx0]; decide)) (by decide) (by decide) ?_
    show Steps p.tables e below (T9.setTop (mkF m 57 #[.val (.int p1), .val (.int p2), .val (.int p3), .val (.int mn), .val (.long sp), .second, .val (.long off), .second, .val (.int mx), .val (.ref b), .unset, .unset, .unset, .unset, .unset] [])) _
    refine XS.aload X9.here hx rfl (hb hby at_57) rfl rfl ?_
    show Steps p.tables e below (T9.setTop (mkF m 59 #[.val (.int p1), .val (.int p2), .val (.int p3), .val (.int mn), .val (.long sp), .second, .val (.long off), .second, .val (.int mx), .val (.ref b), .unset, .unset, .unset, .unset, .unset] [(.ref b)])) _
    refine XS.iload X9.here hx rfl (hb hby at_59) rfl ?_
    exact kt
  obtain ⟨cq10, kq10, q10a, q10b, q10c⟩ := isOf hZ e9 EC
  obtain ⟨_, _, ⟨T10, L10, k10, n10⟩, -, X10, ⟨Lc10, hQ10, l10, y10, z10⟩, st10⟩ := X9.virtualBack hx (y := (⟨"com/example/propgen/values/SizeRange", "contains", "(I)Z"⟩ : MethodName)) (z := (⟨"com/example/propgen/values/SizeRange", "contains", "(I)Z"⟩ : MethodName)) hown (mvT hZ (hw _ (List.mem_of_getElem? (i := 20) rfl))) (mvT hZ (hw _ (List.mem_of_getElem? (i := 21) rfl))) (notFace_of_selects (args := #[]) (mvT hZ (hw _ (List.mem_of_getElem? (i := 23) rfl)))) (mvT hZ (hw _ (List.mem_of_getElem? (i := 23) rfl))) (mvT hZ (hw _ (List.mem_of_getElem? (i := 22) rfl))) (by decide) (backOf (W := 0) (rm4 l Z a0 hw [] b mx mn mx hC FU FV) hZ (hw _ (List.mem_of_getElem? (i := 24) rfl)) (hw _ (List.mem_of_getElem? (i := 4) rfl)) (by decide) (by decide)) q10a q10c (g := (mkF m 61 #[.val (.int p1), .val (.int p2), .val (.int p3), .val (.int mn), .val (.long sp), .second, .val (.long off), .second, .val (.int mx), .val (.ref b), .unset, .unset, .unset, .unset, .unset] [(.int mx), (.ref b)])) rfl (by rw [hml]; rfl) (Steps.refl _) (argsL := [(.int mx)]) (rest := []) (lenOf pd_I_Z rfl) rfl (by show 2 * 0 + _ ≤ _; exact Nat.le_of_eq rfl) (hb hby at_61) (fun _ _ => ⟨rfl, e9, (by decide : 1 + 0 ≤ _), (by decide : 2 + 0 ≤ _)⟩)
  dsimp only [Pt.U, Pt.locs, Pt.cells, Pt.slots] at X10 l10 y10 z10 st10 hQ10
  subst l10 y10 z10
  obtain ⟨rfl, rfl, e10⟩ := hQ10
  replace X10 : Stand p l e room_1 s m #[(.int p1), (.int p2), (.int p3)] below meth c T10 L8 1 2 := by rw [List.append_nil] at X10; exact X10
  refine own_via (Y' := (T10.setTop (mkF m 64 #[.val (.int p1), .val (.int p2), .val (.int p3), .val (.int mn), .val (.long sp), .second, .val (.long off), .second, .val (.int mx), .val (.ref b), .unset, .unset, .unset, .unset, .unset] [(.int (own_has mn mx mx))]))) (fun t kt => st10.trans kt) ?_
  refine own_via (Y' := (T10.setTop (mkF m 70 #[.val (.int p1), .val (.int p2), .val (.int p3), .val (.int mn), .val (.long sp), .second, .val (.long off), .second, .val (.int mx), .val (.ref b), .unset, .unset, .unset, .unset, .unset] [(.int mn)]))) (fun t kt => ?_) ?_
  · show Steps p.tables e below (T10.setTop (mkF m 64 #[.val (.int p1), .val (.int p2), .val (.int p3), .val (.int mn), .val (.long sp), .second, .val (.long off), .second, .val (.int mx), .val (.ref b), .unset, .unset, .unset, .unset, .unset] [(.int (own_has mn mx mx))])) _
    refine XS.ifYes X10.here hx rfl (pc0 := 64) (pc' := 69) rfl (hb hby at_64) rfl (XT.i0_ne_t (by rw [own_in mn mx mx hx0 (Int.le_refl _)]; decide)) (by decide) (by decide) ?_
    show Steps p.tables e below (T10.setTop (mkF m 69 #[.val (.int p1), .val (.int p2), .val (.int p3), .val (.int mn), .val (.long sp), .second, .val (.long off), .second, .val (.int mx), .val (.ref b), .unset, .unset, .unset, .unset, .unset] [])) _
    refine XS.iloadN X10.here hx rfl (hb hby at_69) rfl ?_
    exact kt
  obtain ⟨T11, ⟨X11, e11⟩, r11⟩ : ∃ T' : State, (Stand p l e room_1 s m #[(.int p1), (.int p2), (.int p3)] below meth c T' L8 1 2 ∧ T'.heap = hC) ∧ ∀ t, Steps p.tables e below (T'.setTop (mkF m 86 #[.val (.int p1), .val (.int p2), .val (.int p3), .val (.int mn), .val (.long sp), .second, .val (.long off), .second, .val (.int mx), .val (.ref b), .unset, .unset, .unset, .unset, .unset] [])) t → Steps p.tables e below (T10.setTop (mkF m 70 #[.val (.int p1), .val (.int p2), .val (.int p3), .val (.int mn), .val (.long sp), .second, .val (.long off), .second, .val (.int mx), .val (.ref b), .unset, .unset, .unset, .unset, .unset] [(.int mn)])) t := by
    by_cases h1 : 0 < mn
    · refine own_via2 (Y' := (T10.setTop (mkF m 78 #[.val (.int p1), .val (.int p2), .val (.int p3), .val (.int mn), .val (.long sp), .second, .val (.long off), .second, .val (.int mx), .val (.ref b), .unset, .unset, .unset, .unset, .unset] [(.int (mn - (1 : Int32))), (.ref b)]))) (fun t kt => ?_) ?_
      · show Steps p.tables e below (T10.setTop (mkF m 70 #[.val (.int p1), .val (.int p2), .val (.int p3), .val (.int mn), .val (.long sp), .second, .val (.long off), .second, .val (.int mx), .val (.ref b), .unset, .unset, .unset, .unset, .unset] [(.int mn)])) _
        refine XS.ifNo X10.here hx rfl (hb hby at_70) rfl (XT.i0_le_f h1) ?_
        show Steps p.tables e below (T10.setTop (mkF m 73 #[.val (.int p1), .val (.int p2), .val (.int p3), .val (.int mn), .val (.long sp), .second, .val (.long off), .second, .val (.int mx), .val (.ref b), .unset, .unset, .unset, .unset, .unset] [])) _
        refine XS.aload X10.here hx rfl (hb hby at_73) rfl rfl ?_
        show Steps p.tables e below (T10.setTop (mkF m 75 #[.val (.int p1), .val (.int p2), .val (.int p3), .val (.int mn), .val (.long sp), .second, .val (.long off), .second, .val (.int mx), .val (.ref b), .unset, .unset, .unset, .unset, .unset] [(.ref b)])) _
        refine XS.iloadN X10.here hx rfl (hb hby at_75) rfl ?_
        show Steps p.tables e below (T10.setTop (mkF m 76 #[.val (.int p1), .val (.int p2), .val (.int p3), .val (.int mn), .val (.long sp), .second, .val (.long off), .second, .val (.int mx), .val (.ref b), .unset, .unset, .unset, .unset, .unset] [(.int mn), (.ref b)])) _
        refine XT.iconstV X10.here hx rfl (1 : Int32) (hb hby at_76) (by decide) ?_
        show Steps p.tables e below (T10.setTop (mkF m 77 #[.val (.int p1), .val (.int p2), .val (.int p3), .val (.int mn), .val (.long sp), .second, .val (.long off), .second, .val (.int mx), .val (.ref b), .unset, .unset, .unset, .unset, .unset] [(.int (1 : Int32)), (.int mn), (.ref b)])) _
        refine XS.isub X10.here hx rfl (hb hby at_77) rfl ?_
        exact kt
      obtain ⟨cq12, kq12, q12a, q12b, q12c⟩ := isOf hZ e10 EC
      obtain ⟨_, _, ⟨T12, L12, k12, n12⟩, -, X12, ⟨Lc12, hQ12, l12, y12, z12⟩, st12⟩ := X10.virtualBack hx (y := (⟨"com/example/propgen/values/SizeRange", "contains", "(I)Z"⟩ : MethodName)) (z := (⟨"com/example/propgen/values/SizeRange", "contains", "(I)Z"⟩ : MethodName)) hown (mvT hZ (hw _ (List.mem_of_getElem? (i := 20) rfl))) (mvT hZ (hw _ (List.mem_of_getElem? (i := 21) rfl))) (notFace_of_selects (args := #[]) (mvT hZ (hw _ (List.mem_of_getElem? (i := 23) rfl)))) (mvT hZ (hw _ (List.mem_of_getElem? (i := 23) rfl))) (mvT hZ (hw _ (List.mem_of_getElem? (i := 22) rfl))) (by decide) (backOf (W := 0) (rm4 l Z a0 hw [] b (mn - (1 : Int32)) mn mx hC FU FV) hZ (hw _ (List.mem_of_getElem? (i := 24) rfl)) (hw _ (List.mem_of_getElem? (i := 4) rfl)) (by decide) (by decide)) q12a q12c (g := (mkF m 78 #[.val (.int p1), .val (.int p2), .val (.int p3), .val (.int mn), .val (.long sp), .second, .val (.long off), .second, .val (.int mx), .val (.ref b), .unset, .unset, .unset, .unset, .unset] [(.int (mn - (1 : Int32))), (.ref b)])) rfl (by rw [hml]; rfl) (Steps.refl _) (argsL := [(.int (mn - (1 : Int32)))]) (rest := []) (lenOf pd_I_Z rfl) rfl (by show 2 * 0 + _ ≤ _; exact Nat.le_of_eq rfl) (hb hby at_78) (fun _ _ => ⟨rfl, e10, (by decide : 1 + 0 ≤ _), (by decide : 2 + 0 ≤ _)⟩)
      dsimp only [Pt.U, Pt.locs, Pt.cells, Pt.slots] at X12 l12 y12 z12 st12 hQ12
      subst l12 y12 z12
      obtain ⟨rfl, rfl, e12⟩ := hQ12
      replace X12 : Stand p l e room_1 s m #[(.int p1), (.int p2), (.int p3)] below meth c T12 L8 1 2 := by rw [List.append_nil] at X12; exact X12
      refine own_via2 (Y' := (T12.setTop (mkF m 81 #[.val (.int p1), .val (.int p2), .val (.int p3), .val (.int mn), .val (.long sp), .second, .val (.long off), .second, .val (.int mx), .val (.ref b), .unset, .unset, .unset, .unset, .unset] [(.int (own_has mn mx (mn - (1 : Int32))))]))) (fun t kt => st12.trans kt) ?_
      refine own_via2 (Y' := (T12.setTop (mkF m 86 #[.val (.int p1), .val (.int p2), .val (.int p3), .val (.int mn), .val (.long sp), .second, .val (.long off), .second, .val (.int mx), .val (.ref b), .unset, .unset, .unset, .unset, .unset] []))) (fun t kt => ?_) ?_
      · show Steps p.tables e below (T12.setTop (mkF m 81 #[.val (.int p1), .val (.int p2), .val (.int p3), .val (.int mn), .val (.long sp), .second, .val (.long off), .second, .val (.int mx), .val (.ref b), .unset, .unset, .unset, .unset, .unset] [(.int (own_has mn mx (mn - (1 : Int32))))])) _
        refine XS.ifYes X12.here hx rfl (pc0 := 81) (pc' := 86) rfl (hb hby at_81) rfl (XT.i0_eq_t (own_under _ _ _ (by rw [own_pred mn h1]; omega))) (by decide) (by decide) ?_
        exact kt
      exact ⟨T12, ⟨X12, e12⟩, fun t kt => kt⟩
    · refine own_via2 (Y' := (T10.setTop (mkF m 86 #[.val (.int p1), .val (.int p2), .val (.int p3), .val (.int mn), .val (.long sp), .second, .val (.long off), .second, .val (.int mx), .val (.ref b), .unset, .unset, .unset, .unset, .unset] []))) (fun t kt => ?_) ?_
      · show Steps p.tables e below (T10.setTop (mkF m 70 #[.val (.int p1), .val (.int p2), .val (.int p3), .val (.int mn), .val (.long sp), .second, .val (.long off), .second, .val (.int mx), .val (.ref b), .unset, .unset, .unset, .unset, .unset] [(.int mn)])) _
        refine XS.ifYes X10.here hx rfl (pc0 := 70) (pc' := 86) rfl (hb hby at_70) rfl (XT.i0_le_t h1) (by decide) (by decide) ?_
        exact kt
      exact ⟨T10, ⟨X10, e10⟩, fun t kt => kt⟩
  refine own_via (Y' := (T11.setTop (mkF m 86 #[.val (.int p1), .val (.int p2), .val (.int p3), .val (.int mn), .val (.long sp), .second, .val (.long off), .second, .val (.int mx), .val (.ref b), .unset, .unset, .unset, .unset, .unset] []))) (fun t kt => r11 t kt) ?_
  refine own_via (Y' := (T11.setTop (mkF m 90 #[.val (.int p1), .val (.int p2), .val (.int p3), .val (.int mn), .val (.long sp), .second, .val (.long off), .second, .val (.int mx), .val (.ref b), .unset, .unset, .unset, .unset, .unset] [(.int (2147483647 : Int32)), (.int mx)]))) (fun t kt => ?_) ?_
  · show Steps p.tables e below (T11.setTop (mkF m 86 #[.val (.int p1), .val (.int p2), .val (.int p3), .val (.int mn), .val (.long sp), .second, .val (.long off), .second, .val (.int mx), .val (.ref b), .unset, .unset, .unset, .unset, .unset] [])) _
    refine XS.iload X11.here hx rfl (hb hby at_86) rfl ?_
    show Steps p.tables e below (T11.setTop (mkF m 88 #[.val (.int p1), .val (.int p2), .val (.int p3), .val (.int mn), .val (.long sp), .second, .val (.long off), .second, .val (.int mx), .val (.ref b), .unset, .unset, .unset, .unset, .unset] [(.int mx)])) _
    refine X11.ldcI hx hown (mvT hZ (hw _ (List.mem_of_getElem? (i := 0) rfl))) (g := (mkF m 88 #[.val (.int p1), .val (.int p2), .val (.int p3), .val (.int mn), .val (.long sp), .second, .val (.long off), .second, .val (.int mx), .val (.ref b), .unset, .unset, .unset, .unset, .unset] [(.int mx)])) rfl (hb hby at_88) ?_
    exact kt
  obtain ⟨T13, ⟨X13, e13⟩, r13⟩ : ∃ T' : State, (Stand p l e room_1 s m #[(.int p1), (.int p2), (.int p3)] below meth c T' L8 1 2 ∧ T'.heap = hC) ∧ ∀ t, Steps p.tables e below (T'.setTop (mkF m 107 #[.val (.int p1), .val (.int p2), .val (.int p3), .val (.int mn), .val (.long sp), .second, .val (.long off), .second, .val (.int mx), .val (.ref b), .unset, .unset, .unset, .unset, .unset] [])) t → Steps p.tables e below (T11.setTop (mkF m 90 #[.val (.int p1), .val (.int p2), .val (.int p3), .val (.int mn), .val (.long sp), .second, .val (.long off), .second, .val (.int mx), .val (.ref b), .unset, .unset, .unset, .unset, .unset] [(.int (2147483647 : Int32)), (.int mx)])) t := by
    by_cases h1 : mx < (2147483647 : Int32)
    · refine own_via2 (Y' := (T11.setTop (mkF m 99 #[.val (.int p1), .val (.int p2), .val (.int p3), .val (.int mn), .val (.long sp), .second, .val (.long off), .second, .val (.int mx), .val (.ref b), .unset, .unset, .unset, .unset, .unset] [(.int (mx + (1 : Int32))), (.ref b)]))) (fun t kt => ?_) ?_
      · show Steps p.tables e below (T11.setTop (mkF m 90 #[.val (.int p1), .val (.int p2), .val (.int p3), .val (.int mn), .val (.long sp), .second, .val (.long off), .second, .val (.int mx), .val (.ref b), .unset, .unset, .unset, .unset, .unset] [(.int (2147483647 : Int32)), (.int mx)])) _
        refine XS.icmpNo X11.here hx rfl (hb hby at_90) rfl (XT.ii_ge_f h1) ?_
        show Steps p.tables e below (T11.setTop (mkF m 93 #[.val (.int p1), .val (.int p2), .val (.int p3), .val (.int mn), .val (.long sp), .second, .val (.long off), .second, .val (.int mx), .val (.ref b), .unset, .unset, .unset, .unset, .unset] [])) _
        refine XS.aload X11.here hx rfl (hb hby at_93) rfl rfl ?_
        show Steps p.tables e below (T11.setTop (mkF m 95 #[.val (.int p1), .val (.int p2), .val (.int p3), .val (.int mn), .val (.long sp), .second, .val (.long off), .second, .val (.int mx), .val (.ref b), .unset, .unset, .unset, .unset, .unset] [(.ref b)])) _
        refine XS.iload X11.here hx rfl (hb hby at_95) rfl ?_
        show Steps p.tables e below (T11.setTop (mkF m 97 #[.val (.int p1), .val (.int p2), .val (.int p3), .val (.int mn), .val (.long sp), .second, .val (.long off), .second, .val (.int mx), .val (.ref b), .unset, .unset, .unset, .unset, .unset] [(.int mx), (.ref b)])) _
        refine XT.iconstV X11.here hx rfl (1 : Int32) (hb hby at_97) (by decide) ?_
        show Steps p.tables e below (T11.setTop (mkF m 98 #[.val (.int p1), .val (.int p2), .val (.int p3), .val (.int mn), .val (.long sp), .second, .val (.long off), .second, .val (.int mx), .val (.ref b), .unset, .unset, .unset, .unset, .unset] [(.int (1 : Int32)), (.int mx), (.ref b)])) _
        refine XS.iadd X11.here hx rfl (hb hby at_98) rfl ?_
        exact kt
      obtain ⟨cq14, kq14, q14a, q14b, q14c⟩ := isOf hZ e11 EC
      obtain ⟨_, _, ⟨T14, L14, k14, n14⟩, -, X14, ⟨Lc14, hQ14, l14, y14, z14⟩, st14⟩ := X11.virtualBack hx (y := (⟨"com/example/propgen/values/SizeRange", "contains", "(I)Z"⟩ : MethodName)) (z := (⟨"com/example/propgen/values/SizeRange", "contains", "(I)Z"⟩ : MethodName)) hown (mvT hZ (hw _ (List.mem_of_getElem? (i := 20) rfl))) (mvT hZ (hw _ (List.mem_of_getElem? (i := 21) rfl))) (notFace_of_selects (args := #[]) (mvT hZ (hw _ (List.mem_of_getElem? (i := 23) rfl)))) (mvT hZ (hw _ (List.mem_of_getElem? (i := 23) rfl))) (mvT hZ (hw _ (List.mem_of_getElem? (i := 22) rfl))) (by decide) (backOf (W := 0) (rm4 l Z a0 hw [] b (mx + (1 : Int32)) mn mx hC FU FV) hZ (hw _ (List.mem_of_getElem? (i := 24) rfl)) (hw _ (List.mem_of_getElem? (i := 4) rfl)) (by decide) (by decide)) q14a q14c (g := (mkF m 99 #[.val (.int p1), .val (.int p2), .val (.int p3), .val (.int mn), .val (.long sp), .second, .val (.long off), .second, .val (.int mx), .val (.ref b), .unset, .unset, .unset, .unset, .unset] [(.int (mx + (1 : Int32))), (.ref b)])) rfl (by rw [hml]; rfl) (Steps.refl _) (argsL := [(.int (mx + (1 : Int32)))]) (rest := []) (lenOf pd_I_Z rfl) rfl (by show 2 * 0 + _ ≤ _; exact Nat.le_of_eq rfl) (hb hby at_99) (fun _ _ => ⟨rfl, e11, (by decide : 1 + 0 ≤ _), (by decide : 2 + 0 ≤ _)⟩)
      dsimp only [Pt.U, Pt.locs, Pt.cells, Pt.slots] at X14 l14 y14 z14 st14 hQ14
      subst l14 y14 z14
      obtain ⟨rfl, rfl, e14⟩ := hQ14
      replace X14 : Stand p l e room_1 s m #[(.int p1), (.int p2), (.int p3)] below meth c T14 L8 1 2 := by rw [List.append_nil] at X14; exact X14
      refine own_via2 (Y' := (T14.setTop (mkF m 102 #[.val (.int p1), .val (.int p2), .val (.int p3), .val (.int mn), .val (.long sp), .second, .val (.long off), .second, .val (.int mx), .val (.ref b), .unset, .unset, .unset, .unset, .unset] [(.int (own_has mn mx (mx + (1 : Int32))))]))) (fun t kt => st14.trans kt) ?_
      refine own_via2 (Y' := (T14.setTop (mkF m 107 #[.val (.int p1), .val (.int p2), .val (.int p3), .val (.int mn), .val (.long sp), .second, .val (.long off), .second, .val (.int mx), .val (.ref b), .unset, .unset, .unset, .unset, .unset] []))) (fun t kt => ?_) ?_
      · show Steps p.tables e below (T14.setTop (mkF m 102 #[.val (.int p1), .val (.int p2), .val (.int p3), .val (.int mn), .val (.long sp), .second, .val (.long off), .second, .val (.int mx), .val (.ref b), .unset, .unset, .unset, .unset, .unset] [(.int (own_has mn mx (mx + (1 : Int32))))])) _
        refine XS.ifYes X14.here hx rfl (pc0 := 102) (pc' := 107) rfl (hb hby at_102) rfl (XT.i0_eq_t (own_over _ _ _ (by rw [own_succ mx h1 (by omega)]; omega))) (by decide) (by decide) ?_
        exact kt
      exact ⟨T14, ⟨X14, e14⟩, fun t kt => kt⟩
    · refine own_via2 (Y' := (T11.setTop (mkF m 107 #[.val (.int p1), .val (.int p2), .val (.int p3), .val (.int mn), .val (.long sp), .second, .val (.long off), .second, .val (.int mx), .val (.ref b), .unset, .unset, .unset, .unset, .unset] []))) (fun t kt => ?_) ?_
      · show Steps p.tables e below (T11.setTop (mkF m 90 #[.val (.int p1), .val (.int p2), .val (.int p3), .val (.int mn), .val (.long sp), .second, .val (.long off), .second, .val (.int mx), .val (.ref b), .unset, .unset, .unset, .unset, .unset] [(.int (2147483647 : Int32)), (.int mx)])) _
        refine XS.icmpYes X11.here hx rfl (pc0 := 90) (pc' := 107) rfl (hb hby at_90) rfl (XT.ii_ge_t h1) (by decide) (by decide) ?_
        exact kt
      exact ⟨T11, ⟨X11, e11⟩, fun t kt => kt⟩
  refine own_via (Y' := (T13.setTop (mkF m 107 #[.val (.int p1), .val (.int p2), .val (.int p3), .val (.int mn), .val (.long sp), .second, .val (.long off), .second, .val (.int mx), .val (.ref b), .unset, .unset, .unset, .unset, .unset] []))) (fun t kt => r13 t kt) ?_
  refine own_via (Y' := (T13.setTop (mkF m 111 #[.val (.int p1), .val (.int p2), .val (.int p3), .val (.int mn), .val (.long sp), .second, .val (.long off), .second, .val (.int mx), .val (.ref b), .unset, .unset, .unset, .unset, .unset] [(.int (-2147483648 : Int32)), (.ref b)]))) (fun t kt => ?_) ?_
  · show Steps p.tables e below (T13.setTop (mkF m 107 #[.val (.int p1), .val (.int p2), .val (.int p3), .val (.int mn), .val (.long sp), .second, .val (.long off), .second, .val (.int mx), .val (.ref b), .unset, .unset, .unset, .unset, .unset] [])) _
    refine XS.aload X13.here hx rfl (hb hby at_107) rfl rfl ?_
    show Steps p.tables e below (T13.setTop (mkF m 109 #[.val (.int p1), .val (.int p2), .val (.int p3), .val (.int mn), .val (.long sp), .second, .val (.long off), .second, .val (.int mx), .val (.ref b), .unset, .unset, .unset, .unset, .unset] [(.ref b)])) _
    refine X13.ldcI hx hown (mvT hZ (hw _ (List.mem_of_getElem? (i := 25) rfl))) (g := (mkF m 109 #[.val (.int p1), .val (.int p2), .val (.int p3), .val (.int mn), .val (.long sp), .second, .val (.long off), .second, .val (.int mx), .val (.ref b), .unset, .unset, .unset, .unset, .unset] [(.ref b)])) rfl (hb hby at_109) ?_
    exact kt
  obtain ⟨cq15, kq15, q15a, q15b, q15c⟩ := isOf hZ e13 EC
  obtain ⟨_, _, ⟨T15, L15, k15, n15⟩, -, X15, ⟨Lc15, hQ15, l15, y15, z15⟩, st15⟩ := X13.virtualBack hx (y := (⟨"com/example/propgen/values/SizeRange", "contains", "(I)Z"⟩ : MethodName)) (z := (⟨"com/example/propgen/values/SizeRange", "contains", "(I)Z"⟩ : MethodName)) hown (mvT hZ (hw _ (List.mem_of_getElem? (i := 20) rfl))) (mvT hZ (hw _ (List.mem_of_getElem? (i := 21) rfl))) (notFace_of_selects (args := #[]) (mvT hZ (hw _ (List.mem_of_getElem? (i := 23) rfl)))) (mvT hZ (hw _ (List.mem_of_getElem? (i := 23) rfl))) (mvT hZ (hw _ (List.mem_of_getElem? (i := 22) rfl))) (by decide) (backOf (W := 0) (rm4 l Z a0 hw [] b (-2147483648 : Int32) mn mx hC FU FV) hZ (hw _ (List.mem_of_getElem? (i := 24) rfl)) (hw _ (List.mem_of_getElem? (i := 4) rfl)) (by decide) (by decide)) q15a q15c (g := (mkF m 111 #[.val (.int p1), .val (.int p2), .val (.int p3), .val (.int mn), .val (.long sp), .second, .val (.long off), .second, .val (.int mx), .val (.ref b), .unset, .unset, .unset, .unset, .unset] [(.int (-2147483648 : Int32)), (.ref b)])) rfl (by rw [hml]; rfl) (Steps.refl _) (argsL := [(.int (-2147483648 : Int32))]) (rest := []) (lenOf pd_I_Z rfl) rfl (by show 2 * 0 + _ ≤ _; exact Nat.le_of_eq rfl) (hb hby at_111) (fun _ _ => ⟨rfl, e13, (by decide : 1 + 0 ≤ _), (by decide : 2 + 0 ≤ _)⟩)
  dsimp only [Pt.U, Pt.locs, Pt.cells, Pt.slots] at X15 l15 y15 z15 st15 hQ15
  subst l15 y15 z15
  obtain ⟨rfl, rfl, e15⟩ := hQ15
  replace X15 : Stand p l e room_1 s m #[(.int p1), (.int p2), (.int p3)] below meth c T15 L8 1 2 := by rw [List.append_nil] at X15; exact X15
  refine own_via (Y' := (T15.setTop (mkF m 114 #[.val (.int p1), .val (.int p2), .val (.int p3), .val (.int mn), .val (.long sp), .second, .val (.long off), .second, .val (.int mx), .val (.ref b), .unset, .unset, .unset, .unset, .unset] [(.int (own_has mn mx (-2147483648 : Int32)))]))) (fun t kt => st15.trans kt) ?_
  refine own_via (Y' := (T15.setTop (mkF m 138 #[.val (.int p1), .val (.int p2), .val (.int p3), .val (.int mn), .val (.long sp), .second, .val (.long off), .second, .val (.int mx), .val (.ref b), .val (.long ((p3.toInt64) - (mn.toInt64))), .second, .val (.long ((mx.toInt64) - (mn.toInt64))), .second, .unset] [(.int (XT.cmpL ((p3.toInt64) - (mn.toInt64)) (0 : Int64)))]))) (fun t kt => ?_) ?_
  · show Steps p.tables e below (T15.setTop (mkF m 114 #[.val (.int p1), .val (.int p2), .val (.int p3), .val (.int mn), .val (.long sp), .second, .val (.long off), .second, .val (.int mx), .val (.ref b), .unset, .unset, .unset, .unset, .unset] [(.int (own_has mn mx (-2147483648 : Int32)))])) _
    refine XS.ifYes X15.here hx rfl (pc0 := 114) (pc' := 119) rfl (hb hby at_114) rfl (XT.i0_eq_t (own_under _ _ _ (by rw [show (-2147483648 : Int32).toInt = -2147483648 from by decide]; omega))) (by decide) (by decide) ?_
    show Steps p.tables e below (T15.setTop (mkF m 119 #[.val (.int p1), .val (.int p2), .val (.int p3), .val (.int mn), .val (.long sp), .second, .val (.long off), .second, .val (.int mx), .val (.ref b), .unset, .unset, .unset, .unset, .unset] [])) _
    refine XS.iloadN X15.here hx rfl (hb hby at_119) rfl ?_
    show Steps p.tables e below (T15.setTop (mkF m 120 #[.val (.int p1), .val (.int p2), .val (.int p3), .val (.int mn), .val (.long sp), .second, .val (.long off), .second, .val (.int mx), .val (.ref b), .unset, .unset, .unset, .unset, .unset] [(.int p3)])) _
    refine XT.i2l X15.here hx rfl (hb hby at_120) rfl ?_
    show Steps p.tables e below (T15.setTop (mkF m 121 #[.val (.int p1), .val (.int p2), .val (.int p3), .val (.int mn), .val (.long sp), .second, .val (.long off), .second, .val (.int mx), .val (.ref b), .unset, .unset, .unset, .unset, .unset] [(.long (p3.toInt64))])) _
    refine XS.iloadN X15.here hx rfl (hb hby at_121) rfl ?_
    show Steps p.tables e below (T15.setTop (mkF m 122 #[.val (.int p1), .val (.int p2), .val (.int p3), .val (.int mn), .val (.long sp), .second, .val (.long off), .second, .val (.int mx), .val (.ref b), .unset, .unset, .unset, .unset, .unset] [(.int mn), (.long (p3.toInt64))])) _
    refine XT.i2l X15.here hx rfl (hb hby at_122) rfl ?_
    show Steps p.tables e below (T15.setTop (mkF m 123 #[.val (.int p1), .val (.int p2), .val (.int p3), .val (.int mn), .val (.long sp), .second, .val (.long off), .second, .val (.int mx), .val (.ref b), .unset, .unset, .unset, .unset, .unset] [(.long (mn.toInt64)), (.long (p3.toInt64))])) _
    refine XT.lsub X15.here hx rfl (hb hby at_123) rfl ?_
    show Steps p.tables e below (T15.setTop (mkF m 124 #[.val (.int p1), .val (.int p2), .val (.int p3), .val (.int mn), .val (.long sp), .second, .val (.long off), .second, .val (.int mx), .val (.ref b), .unset, .unset, .unset, .unset, .unset] [(.long ((p3.toInt64) - (mn.toInt64)))])) _
    refine XT.lstore X15.here hx rfl (hb hby at_124) rfl (l' := #[.val (.int p1), .val (.int p2), .val (.int p3), .val (.int mn), .val (.long sp), .second, .val (.long off), .second, .val (.int mx), .val (.ref b), .val (.long ((p3.toInt64) - (mn.toInt64))), .second, .unset, .unset, .unset]) rfl ?_
    show Steps p.tables e below (T15.setTop (mkF m 126 #[.val (.int p1), .val (.int p2), .val (.int p3), .val (.int mn), .val (.long sp), .second, .val (.long off), .second, .val (.int mx), .val (.ref b), .val (.long ((p3.toInt64) - (mn.toInt64))), .second, .unset, .unset, .unset] [])) _
    refine XS.iload X15.here hx rfl (hb hby at_126) rfl ?_
    show Steps p.tables e below (T15.setTop (mkF m 128 #[.val (.int p1), .val (.int p2), .val (.int p3), .val (.int mn), .val (.long sp), .second, .val (.long off), .second, .val (.int mx), .val (.ref b), .val (.long ((p3.toInt64) - (mn.toInt64))), .second, .unset, .unset, .unset] [(.int mx)])) _
    refine XT.i2l X15.here hx rfl (hb hby at_128) rfl ?_
    show Steps p.tables e below (T15.setTop (mkF m 129 #[.val (.int p1), .val (.int p2), .val (.int p3), .val (.int mn), .val (.long sp), .second, .val (.long off), .second, .val (.int mx), .val (.ref b), .val (.long ((p3.toInt64) - (mn.toInt64))), .second, .unset, .unset, .unset] [(.long (mx.toInt64))])) _
    refine XS.iloadN X15.here hx rfl (hb hby at_129) rfl ?_
    show Steps p.tables e below (T15.setTop (mkF m 130 #[.val (.int p1), .val (.int p2), .val (.int p3), .val (.int mn), .val (.long sp), .second, .val (.long off), .second, .val (.int mx), .val (.ref b), .val (.long ((p3.toInt64) - (mn.toInt64))), .second, .unset, .unset, .unset] [(.int mn), (.long (mx.toInt64))])) _
    refine XT.i2l X15.here hx rfl (hb hby at_130) rfl ?_
    show Steps p.tables e below (T15.setTop (mkF m 131 #[.val (.int p1), .val (.int p2), .val (.int p3), .val (.int mn), .val (.long sp), .second, .val (.long off), .second, .val (.int mx), .val (.ref b), .val (.long ((p3.toInt64) - (mn.toInt64))), .second, .unset, .unset, .unset] [(.long (mn.toInt64)), (.long (mx.toInt64))])) _
    refine XT.lsub X15.here hx rfl (hb hby at_131) rfl ?_
    show Steps p.tables e below (T15.setTop (mkF m 132 #[.val (.int p1), .val (.int p2), .val (.int p3), .val (.int mn), .val (.long sp), .second, .val (.long off), .second, .val (.int mx), .val (.ref b), .val (.long ((p3.toInt64) - (mn.toInt64))), .second, .unset, .unset, .unset] [(.long ((mx.toInt64) - (mn.toInt64)))])) _
    refine XT.lstore X15.here hx rfl (hb hby at_132) rfl (l' := #[.val (.int p1), .val (.int p2), .val (.int p3), .val (.int mn), .val (.long sp), .second, .val (.long off), .second, .val (.int mx), .val (.ref b), .val (.long ((p3.toInt64) - (mn.toInt64))), .second, .val (.long ((mx.toInt64) - (mn.toInt64))), .second, .unset]) rfl ?_
    show Steps p.tables e below (T15.setTop (mkF m 134 #[.val (.int p1), .val (.int p2), .val (.int p3), .val (.int mn), .val (.long sp), .second, .val (.long off), .second, .val (.int mx), .val (.ref b), .val (.long ((p3.toInt64) - (mn.toInt64))), .second, .val (.long ((mx.toInt64) - (mn.toInt64))), .second, .unset] [])) _
    refine XT.lload X15.here hx rfl (hb hby at_134) rfl ?_
    show Steps p.tables e below (T15.setTop (mkF m 136 #[.val (.int p1), .val (.int p2), .val (.int p3), .val (.int mn), .val (.long sp), .second, .val (.long off), .second, .val (.int mx), .val (.ref b), .val (.long ((p3.toInt64) - (mn.toInt64))), .second, .val (.long ((mx.toInt64) - (mn.toInt64))), .second, .unset] [(.long ((p3.toInt64) - (mn.toInt64)))])) _
    refine XT.lconstV X15.here hx rfl (0 : Int64) (hb hby at_136) (by decide) ?_
    show Steps p.tables e below (T15.setTop (mkF m 137 #[.val (.int p1), .val (.int p2), .val (.int p3), .val (.int mn), .val (.long sp), .second, .val (.long off), .second, .val (.int mx), .val (.ref b), .val (.long ((p3.toInt64) - (mn.toInt64))), .second, .val (.long ((mx.toInt64) - (mn.toInt64))), .second, .unset] [(.long (0 : Int64)), (.long ((p3.toInt64) - (mn.toInt64)))])) _
    refine XT.lcmp X15.here hx rfl (hb hby at_137) rfl ?_
    exact kt
  obtain ⟨ex, hex, r16⟩ : ∃ ex : Int32, (ex = own_has mn mx p3) ∧ ∀ t, Steps p.tables e below (T15.setTop (mkF m 154 #[.val (.int p1), .val (.int p2), .val (.int p3), .val (.int mn), .val (.long sp), .second, .val (.long off), .second, .val (.int mx), .val (.ref b), .val (.long ((p3.toInt64) - (mn.toInt64))), .second, .val (.long ((mx.toInt64) - (mn.toInt64))), .second, .unset] [(.int ex)])) t → Steps p.tables e below (T15.setTop (mkF m 138 #[.val (.int p1), .val (.int p2), .val (.int p3), .val (.int mn), .val (.long sp), .second, .val (.long off), .second, .val (.int mx), .val (.ref b), .val (.long ((p3.toInt64) - (mn.toInt64))), .second, .val (.long ((mx.toInt64) - (mn.toInt64))), .second, .unset] [(.int (XT.cmpL ((p3.toInt64) - (mn.toInt64)) (0 : Int64)))])) t := by
    by_cases h1 : ((p3.toInt64) - (mn.toInt64)) < (0 : Int64)
    · refine own_via2 (Y' := (T15.setTop (mkF m 154 #[.val (.int p1), .val (.int p2), .val (.int p3), .val (.int mn), .val (.long sp), .second, .val (.long off), .second, .val (.int mx), .val (.ref b), .val (.long ((p3.toInt64) - (mn.toInt64))), .second, .val (.long ((mx.toInt64) - (mn.toInt64))), .second, .unset] [(.int (0 : Int32))]))) (fun t kt => ?_) ?_
      · show Steps p.tables e below (T15.setTop (mkF m 138 #[.val (.int p1), .val (.int p2), .val (.int p3), .val (.int mn), .val (.long sp), .second, .val (.long off), .second, .val (.int mx), .val (.ref b), .val (.long ((p3.toInt64) - (mn.toInt64))), .second, .val (.long ((mx.toInt64) - (mn.toInt64))), .second, .unset] [(.int (XT.cmpL ((p3.toInt64) - (mn.toInt64)) (0 : Int64)))])) _
        refine XS.ifYes X15.here hx rfl (pc0 := 138) (pc' := 153) rfl (hb hby at_138) rfl (XT.ll_lt_t h1) (by decide) (by decide) ?_
        show Steps p.tables e below (T15.setTop (mkF m 153 #[.val (.int p1), .val (.int p2), .val (.int p3), .val (.int mn), .val (.long sp), .second, .val (.long off), .second, .val (.int mx), .val (.ref b), .val (.long ((p3.toInt64) - (mn.toInt64))), .second, .val (.long ((mx.toInt64) - (mn.toInt64))), .second, .unset] [])) _
        refine XT.iconstV X15.here hx rfl (0 : Int32) (hb hby at_153) (by decide) ?_
        exact kt
      exact ⟨(0 : Int32), own_e1 mn mx p3 h1, fun t kt => kt⟩
    · refine own_via2 (Y' := (T15.setTop (mkF m 146 #[.val (.int p1), .val (.int p2), .val (.int p3), .val (.int mn), .val (.long sp), .second, .val (.long off), .second, .val (.int mx), .val (.ref b), .val (.long ((p3.toInt64) - (mn.toInt64))), .second, .val (.long ((mx.toInt64) - (mn.toInt64))), .second, .unset] [(.int (XT.cmpL ((p3.toInt64) - (mn.toInt64)) ((mx.toInt64) - (mn.toInt64))))]))) (fun t kt => ?_) ?_
      · show Steps p.tables e below (T15.setTop (mkF m 138 #[.val (.int p1), .val (.int p2), .val (.int p3), .val (.int mn), .val (.long sp), .second, .val (.long off), .second, .val (.int mx), .val (.ref b), .val (.long ((p3.toInt64) - (mn.toInt64))), .second, .val (.long ((mx.toInt64) - (mn.toInt64))), .second, .unset] [(.int (XT.cmpL ((p3.toInt64) - (mn.toInt64)) (0 : Int64)))])) _
        refine XS.ifNo X15.here hx rfl (hb hby at_138) rfl (XT.ll_lt_f h1) ?_
        show Steps p.tables e below (T15.setTop (mkF m 141 #[.val (.int p1), .val (.int p2), .val (.int p3), .val (.int mn), .val (.long sp), .second, .val (.long off), .second, .val (.int mx), .val (.ref b), .val (.long ((p3.toInt64) - (mn.toInt64))), .second, .val (.long ((mx.toInt64) - (mn.toInt64))), .second, .unset] [])) _
        refine XT.lload X15.here hx rfl (hb hby at_141) rfl ?_
        show Steps p.tables e below (T15.setTop (mkF m 143 #[.val (.int p1), .val (.int p2), .val (.int p3), .val (.int mn), .val (.long sp), .second, .val (.long off), .second, .val (.int mx), .val (.ref b), .val (.long ((p3.toInt64) - (mn.toInt64))), .second, .val (.long ((mx.toInt64) - (mn.toInt64))), .second, .unset] [(.long ((p3.toInt64) - (mn.toInt64)))])) _
        refine XT.lload X15.here hx rfl (hb hby at_143) rfl ?_
        show Steps p.tables e below (T15.setTop (mkF m 145 #[.val (.int p1), .val (.int p2), .val (.int p3), .val (.int mn), .val (.long sp), .second, .val (.long off), .second, .val (.int mx), .val (.ref b), .val (.long ((p3.toInt64) - (mn.toInt64))), .second, .val (.long ((mx.toInt64) - (mn.toInt64))), .second, .unset] [(.long ((mx.toInt64) - (mn.toInt64))), (.long ((p3.toInt64) - (mn.toInt64)))])) _
        refine XT.lcmp X15.here hx rfl (hb hby at_145) rfl ?_
        exact kt
      by_cases h2 : ((mx.toInt64) - (mn.toInt64)) < ((p3.toInt64) - (mn.toInt64))
      · refine own_via2 (Y' := (T15.setTop (mkF m 154 #[.val (.int p1), .val (.int p2), .val (.int p3), .val (.int mn), .val (.long sp), .second, .val (.long off), .second, .val (.int mx), .val (.ref b), .val (.long ((p3.toInt64) - (mn.toInt64))), .second, .val (.long ((mx.toInt64) - (mn.toInt64))), .second, .unset] [(.int (0 : Int32))]))) (fun t kt => ?_) ?_
        · show Steps p.tables e below (T15.setTop (mkF m 146 #[.val (.int p1), .val (.int p2), .val (.int p3), .val (.int mn), .val (.long sp), .second, .val (.long off), .second, .val (.int mx), .val (.ref b), .val (.long ((p3.toInt64) - (mn.toInt64))), .second, .val (.long ((mx.toInt64) - (mn.toInt64))), .second, .unset] [(.int (XT.cmpL ((p3.toInt64) - (mn.toInt64)) ((mx.toInt64) - (mn.toInt64))))])) _
          refine XS.ifYes X15.here hx rfl (pc0 := 146) (pc' := 153) rfl (hb hby at_146) rfl (XT.ll_gt_t h2) (by decide) (by decide) ?_
          show Steps p.tables e below (T15.setTop (mkF m 153 #[.val (.int p1), .val (.int p2), .val (.int p3), .val (.int mn), .val (.long sp), .second, .val (.long off), .second, .val (.int mx), .val (.ref b), .val (.long ((p3.toInt64) - (mn.toInt64))), .second, .val (.long ((mx.toInt64) - (mn.toInt64))), .second, .unset] [])) _
          refine XT.iconstV X15.here hx rfl (0 : Int32) (hb hby at_153) (by decide) ?_
          exact kt
        exact ⟨(0 : Int32), own_e2 mn mx p3 h2, fun t kt => kt⟩
      · refine own_via2 (Y' := (T15.setTop (mkF m 154 #[.val (.int p1), .val (.int p2), .val (.int p3), .val (.int mn), .val (.long sp), .second, .val (.long off), .second, .val (.int mx), .val (.ref b), .val (.long ((p3.toInt64) - (mn.toInt64))), .second, .val (.long ((mx.toInt64) - (mn.toInt64))), .second, .unset] [(.int (1 : Int32))]))) (fun t kt => ?_) ?_
        · show Steps p.tables e below (T15.setTop (mkF m 146 #[.val (.int p1), .val (.int p2), .val (.int p3), .val (.int mn), .val (.long sp), .second, .val (.long off), .second, .val (.int mx), .val (.ref b), .val (.long ((p3.toInt64) - (mn.toInt64))), .second, .val (.long ((mx.toInt64) - (mn.toInt64))), .second, .unset] [(.int (XT.cmpL ((p3.toInt64) - (mn.toInt64)) ((mx.toInt64) - (mn.toInt64))))])) _
          refine XS.ifNo X15.here hx rfl (hb hby at_146) rfl (XT.ll_gt_f h2) ?_
          show Steps p.tables e below (T15.setTop (mkF m 149 #[.val (.int p1), .val (.int p2), .val (.int p3), .val (.int mn), .val (.long sp), .second, .val (.long off), .second, .val (.int mx), .val (.ref b), .val (.long ((p3.toInt64) - (mn.toInt64))), .second, .val (.long ((mx.toInt64) - (mn.toInt64))), .second, .unset] [])) _
          refine XT.iconstV X15.here hx rfl (1 : Int32) (hb hby at_149) (by decide) ?_
          show Steps p.tables e below (T15.setTop (mkF m 150 #[.val (.int p1), .val (.int p2), .val (.int p3), .val (.int mn), .val (.long sp), .second, .val (.long off), .second, .val (.int mx), .val (.ref b), .val (.long ((p3.toInt64) - (mn.toInt64))), .second, .val (.long ((mx.toInt64) - (mn.toInt64))), .second, .unset] [(.int (1 : Int32))])) _
          refine XS.goto X15.here hx rfl (pc0 := 150) (pc' := 154) rfl (hb hby at_150) (by decide) (by decide) ?_
          exact kt
        exact ⟨(1 : Int32), own_e3 mn mx p3 h1 h2, fun t kt => kt⟩
  refine own_via (Y' := (T15.setTop (mkF m 154 #[.val (.int p1), .val (.int p2), .val (.int p3), .val (.int mn), .val (.long sp), .second, .val (.long off), .second, .val (.int mx), .val (.ref b), .val (.long ((p3.toInt64) - (mn.toInt64))), .second, .val (.long ((mx.toInt64) - (mn.toInt64))), .second, .unset] [(.int ex)]))) (fun t kt => r16 t kt) ?_
  refine own_via (Y' := (T15.setTop (mkF m 159 #[.val (.int p1), .val (.int p2), .val (.int p3), .val (.int mn), .val (.long sp), .second, .val (.long off), .second, .val (.int mx), .val (.ref b), .val (.long ((p3.toInt64) - (mn.toInt64))), .second, .val (.long ((mx.toInt64) - (mn.toInt64))), .second, .val (.int ex)] [(.int p3), (.ref b)]))) (fun t kt => ?_) ?_
  · show Steps p.tables e below (T15.setTop (mkF m 154 #[.val (.int p1), .val (.int p2), .val (.int p3), .val (.int mn), .val (.long sp), .second, .val (.long off), .second, .val (.int mx), .val (.ref b), .val (.long ((p3.toInt64) - (mn.toInt64))), .second, .val (.long ((mx.toInt64) - (mn.toInt64))), .second, .unset] [(.int ex)])) _
    refine XS.istore X15.here hx rfl (hb hby at_154) rfl (l' := #[.val (.int p1), .val (.int p2), .val (.int p3), .val (.int mn), .val (.long sp), .second, .val (.long off), .second, .val (.int mx), .val (.ref b), .val (.long ((p3.toInt64) - (mn.toInt64))), .second, .val (.long ((mx.toInt64) - (mn.toInt64))), .second, .val (.int ex)]) rfl ?_
    show Steps p.tables e below (T15.setTop (mkF m 156 #[.val (.int p1), .val (.int p2), .val (.int p3), .val (.int mn), .val (.long sp), .second, .val (.long off), .second, .val (.int mx), .val (.ref b), .val (.long ((p3.toInt64) - (mn.toInt64))), .second, .val (.long ((mx.toInt64) - (mn.toInt64))), .second, .val (.int ex)] [])) _
    refine XS.aload X15.here hx rfl (hb hby at_156) rfl rfl ?_
    show Steps p.tables e below (T15.setTop (mkF m 158 #[.val (.int p1), .val (.int p2), .val (.int p3), .val (.int mn), .val (.long sp), .second, .val (.long off), .second, .val (.int mx), .val (.ref b), .val (.long ((p3.toInt64) - (mn.toInt64))), .second, .val (.long ((mx.toInt64) - (mn.toInt64))), .second, .val (.int ex)] [(.ref b)])) _
    refine XS.iloadN X15.here hx rfl (hb hby at_158) rfl ?_
    exact kt
  obtain ⟨cq17, kq17, q17a, q17b, q17c⟩ := isOf hZ e15 EC
  obtain ⟨_, _, ⟨T17, L17, k17, n17⟩, -, X17, ⟨Lc17, hQ17, l17, y17, z17⟩, st17⟩ := X15.virtualBack hx (y := (⟨"com/example/propgen/values/SizeRange", "contains", "(I)Z"⟩ : MethodName)) (z := (⟨"com/example/propgen/values/SizeRange", "contains", "(I)Z"⟩ : MethodName)) hown (mvT hZ (hw _ (List.mem_of_getElem? (i := 20) rfl))) (mvT hZ (hw _ (List.mem_of_getElem? (i := 21) rfl))) (notFace_of_selects (args := #[]) (mvT hZ (hw _ (List.mem_of_getElem? (i := 23) rfl)))) (mvT hZ (hw _ (List.mem_of_getElem? (i := 23) rfl))) (mvT hZ (hw _ (List.mem_of_getElem? (i := 22) rfl))) (by decide) (backOf (W := 0) (rm4 l Z a0 hw [] b p3 mn mx hC FU FV) hZ (hw _ (List.mem_of_getElem? (i := 24) rfl)) (hw _ (List.mem_of_getElem? (i := 4) rfl)) (by decide) (by decide)) q17a q17c (g := (mkF m 159 #[.val (.int p1), .val (.int p2), .val (.int p3), .val (.int mn), .val (.long sp), .second, .val (.long off), .second, .val (.int mx), .val (.ref b), .val (.long ((p3.toInt64) - (mn.toInt64))), .second, .val (.long ((mx.toInt64) - (mn.toInt64))), .second, .val (.int ex)] [(.int p3), (.ref b)])) rfl (by rw [hml]; rfl) (Steps.refl _) (argsL := [(.int p3)]) (rest := []) (lenOf pd_I_Z rfl) rfl (by show 2 * 0 + _ ≤ _; exact Nat.le_of_eq rfl) (hb hby at_159) (fun _ _ => ⟨rfl, e15, (by decide : 1 + 0 ≤ _), (by decide : 2 + 0 ≤ _)⟩)
  dsimp only [Pt.U, Pt.locs, Pt.cells, Pt.slots] at X17 l17 y17 z17 st17 hQ17
  subst l17 y17 z17
  obtain ⟨rfl, rfl, e17⟩ := hQ17
  replace X17 : Stand p l e room_1 s m #[(.int p1), (.int p2), (.int p3)] below meth c T17 L8 1 2 := by rw [List.append_nil] at X17; exact X17
  refine own_via (Y' := (T17.setTop (mkF m 162 #[.val (.int p1), .val (.int p2), .val (.int p3), .val (.int mn), .val (.long sp), .second, .val (.long off), .second, .val (.int mx), .val (.ref b), .val (.long ((p3.toInt64) - (mn.toInt64))), .second, .val (.long ((mx.toInt64) - (mn.toInt64))), .second, .val (.int ex)] [(.int (own_has mn mx p3))]))) (fun t kt => st17.trans kt) ?_
  obtain ⟨fs, hr, hrun, hended, hW, hsame⟩ := X17.leave (v := (some (.int (1 : Int32)))) (fun h => by rw [Bd.returns] at h; cases h)
  refine ⟨_, _, ?_, hrun, hended, _, _, rfl, ?_, ⟨_, rfl⟩, hW, hsame.mono (by decide) (by decide)⟩
  · show Steps p.tables e below (T17.setTop (mkF m 162 #[.val (.int p1), .val (.int p2), .val (.int p3), .val (.int mn), .val (.long sp), .second, .val (.long off), .second, .val (.int mx), .val (.ref b), .val (.long ((p3.toInt64) - (mn.toInt64))), .second, .val (.long ((mx.toInt64) - (mn.toInt64))), .second, .val (.int ex)] [(.int (own_has mn mx p3))])) _
    refine XS.iload X17.here hx rfl (hb hby at_162) rfl ?_
    show Steps p.tables e below (T17.setTop (mkF m 164 #[.val (.int p1), .val (.int p2), .val (.int p3), .val (.int mn), .val (.long sp), .second, .val (.long off), .second, .val (.int mx), .val (.ref b), .val (.long ((p3.toInt64) - (mn.toInt64))), .second, .val (.long ((mx.toInt64) - (mn.toInt64))), .second, .val (.int ex)] [(.int ex), (.int (own_has mn mx p3))])) _
    refine XS.icmpNo X17.here hx rfl (hb hby at_164) rfl (XT.ii_ne_f hex.symm) ?_
    show Steps p.tables e below (T17.setTop (mkF m 167 #[.val (.int p1), .val (.int p2), .val (.int p3), .val (.int mn), .val (.long sp), .second, .val (.long off), .second, .val (.int mx), .val (.ref b), .val (.long ((p3.toInt64) - (mn.toInt64))), .second, .val (.long ((mx.toInt64) - (mn.toInt64))), .second, .val (.int ex)] [])) _
    refine XT.iconstV X17.here hx rfl (1 : Int32) (hb hby at_167) (by decide) ?_
    show Steps p.tables e below (T17.setTop (mkF m 168 #[.val (.int p1), .val (.int p2), .val (.int p3), .val (.int mn), .val (.long sp), .second, .val (.long off), .second, .val (.int mx), .val (.ref b), .val (.long ((p3.toInt64) - (mn.toInt64))), .second, .val (.long ((mx.toInt64) - (mn.toInt64))), .second, .val (.int ex)] [(.int (1 : Int32))])) _
    refine XS.goto X17.here hx rfl (pc0 := 168) (pc' := 172) rfl (hb hby at_168) (by decide) (by decide) ?_
    show Steps p.tables e below (T17.setTop (mkF m 172 #[.val (.int p1), .val (.int p2), .val (.int p3), .val (.int mn), .val (.long sp), .second, .val (.long off), .second, .val (.int mx), .val (.ref b), .val (.long ((p3.toInt64) - (mn.toInt64))), .second, .val (.long ((mx.toInt64) - (mn.toInt64))), .second, .val (.int ex)] [(.int (1 : Int32))])) _
    exact retN X17 hx (t := .boolean) Bd.returns (by simp) (hb hby at_172) hr
  · exact ⟨rfl, NC⟩
set_option maxRecDepth 65536 in
set_option maxHeartbeats 40000000 in
theorem comes_1 {Post : Tables → Env → Array Value → State → Outcome → State → Prop} (hpost : ∀ tb e args s v u, (limb_1_1.after args s (.returned v) u = true ∧ limb_1_2.after args s (.returned v) u = true ∧ True) → FrameEnd s (.returned v) u (Jvm.fieldLocs frame_1_writes args s ++ Jvm.arrayLocs frame_1_arrays args s ++ Jvm.staticLocs frame_1_statics s) 16 128 → Post tb e args s (.returned v) u) :
    ArmFor flags0 classFile x code maxLocals ret World_1 tables_1 room_1 Calls_1 rest_1 Pre_1 Post := by
  intro l hfl _ _ p e ha hc hk s m args below hf hA hF happ hP
  obtain ⟨hcalls, hrest, hpre⟩ := hP
  obtain ⟨-, -, -, hnamed, -, -, -, hat⟩ := (Spec.applies_iff hf).mp happ
  obtain ⟨hg, hn⟩ := and_e (Cond.before_iff.mp (show (Jvm.Cond.and given_1 narrow_1).before args s = true from hpre))
  obtain ⟨gc, gr0⟩ := and_e hg
  obtain ⟨g0, gr1⟩ := and_e gr0
  obtain ⟨g1, gr2⟩ := and_e gr1
  obtain ⟨w0, w1, w2, rfl⟩ : ∃ w0 w1 w2 : Value, args = #[w0, w1, w2] := by
    have hs : args.size = 3 := by simpa [Cond.value, given_1] using gc
    obtain ⟨L⟩ := args
    match L, hs with
    | [w0, w1, w2], _ => exact ⟨w0, w1, w2, rfl⟩
  have hw := fun d (hd : d ∈ tables_1) => atoms_spec (ws := Jvm.Cond.code x code maxLocals ret :: tables_1) hat d (List.mem_cons_of_mem _ hd)
  obtain ⟨i0, ei0⟩ := is_v g0
  obtain rfl : w0 = (.int i0) := Option.some.inj ei0
  obtain ⟨i1, ei1⟩ := is_v g1
  obtain rfl : w1 = (.int i1) := Option.some.inj ei1
  obtain ⟨i2, ei2⟩ := is_v gr2
  obtain rfl : w2 = (.int i2) := Option.some.inj ei2
  obtain ⟨n, o, h1, h2, h3, _, L, rfl, ⟨rfl, N⟩, hq⟩ := rm0 l s _ hw tables_1 i0 i1 i2 s.heap s.heap.size (Nat.le_refl _) p e ha hc hk s m _ below hf ((Spec.applies_iff_loose hf).mp happ).1 ⟨rfl, State.Warmed39.refl s, rfl⟩ trivial
  refine ⟨n, _, h1, h2, h3, hpost _ _ _ _ _ _ ⟨Cond.after_iff.mpr rfl, Cond.after_iff.mpr (eq_i res_at (Term.int_eval (1)) rfl), trivial⟩ ⟨hq.1, hq.2.1, (hq.2.2.sift fun y hy => Or.inr (N y hy)).mono (by decide) (by decide)⟩⟩
theorem main_1_1 : Claimed_1_1 := comes_1 fun _ _ _ _ _ _ h hF => ⟨h.1, hF⟩
theorem main_1_2 : Claimed_1_2 := comes_1 fun _ _ _ _ _ _ h hF => ⟨h.2.1, hF⟩
end Jvm.Pilot.@@N@@
namespace Jvm.Pilot.@@N@@
open Jvm Jvm.ClassFile Sem Op Lib Jvm.Free Jvm.Stand Jvm.Pilot.@@N@@.Jvm.D
/-! MADE BY PROGRAM (witnessworld.py) out of the Statement's table words and the real class files: 10 classes; the members and pool entries that the words name. The judged class is class 1, her method 1. -/
namespace start1
open Jvm.ClassFile
def u (s : String) : CpInfo := .utf8 (stringToUtf16 s)
/-- a pool by its gaps: so many unusable entries, then the entry; so many at the end -/
def gap : Nat → List CpInfo → List CpInfo
  | 0, r => r
  | n + 1, r => .unusable :: gap n r
def poolList (es : List (Nat × CpInfo)) (last : Nat) : List CpInfo := es.foldr (fun e r => gap e.1 (e.2 :: r)) (gap last [])
def pool (es : List (Nat × CpInfo)) (last : Nat) : Array CpInfo := ⟨poolList es last⟩
def fileOf (pool : Array CpInfo) (this : Nat) (attrs : Array Attribute := #[]) (ms : Array MethodInfo := #[]) (fl : Nat := 33) (sup : Nat := 0) (ifs : Array Nat := #[]) (fds : Array FieldInfo := #[]) : ClassFile where
  minorVersion := 0
  majorVersion := 65
  constantPool := pool
  accessFlags := fl
  thisClass := this
  superClass := sup
  interfaces := ifs
  fields := fds
  methods := ms
  attributes := attrs
def plain (name : String) (sup : Option ClassId) : Class where
  name := name
  kind := .ordinary
  loader := none
  accessFlags := 33
  super := sup
  interfaces := #[]
  cf := none
  fields := #[]
  methods := #[]
  instanceTypes := #[]
  staticTypes := #[]
  resolved := #[]
  callSites := []
  init := .initialized
  statics := none
  mirror := none

def pool0 : Array CpInfo := pool [(5, u "<init>"), (0, u "()V"), (1, .class_ 10), (1, u "java/lang/Object")] 113

def k0c0 : Code := { maxStack := 0, maxLocals := 1, code := object_method_1_code, exceptionTable := #[], attributes := #[] }
def k0m0 : Method := { name := "<init>", desc := "()V", sig := { parameters := [], returnType := none }, accessFlags := 1, code := some k0c0 }
/-- java/lang/Object -/
def k0 : Class := { plain "java/lang/Object" none with
  accessFlags := 33
  interfaces := #[]
  cf := some (fileOf pool0 8 #[] #[{ accessFlags := 1, nameIndex := 5, descriptorIndex := 6, attributes := #[] }] 33 0 #[] #[])
  fields := #[]
  methods := #[k0m0]
  instanceTypes := #[]
  staticTypes := #[]
  resolved := Array.replicate 124 none
  statics := none }

def pool1 : Array CpInfo := pool [(2, .class_ 4), (1, u "java/lang/Object"), (0, u "<init>"), (0, u "()V"), (0, .integer 2147483647), (2, .long 2147483647), (1, .class_ 13), (0, u "com/example/propgen/values/SizeRange"), (0, .methodref 12 15), (0, .nameAndType 5 16), (0, u "(II)V"), (0, .methodref 12 18), (0, .nameAndType 19 20), (0, u "contains"), (0, u "(I)Z"), (0, .integer 2147483648), (0, .class_ 23), (0, u "com/example/propgen/values/SizeRangeContainsPinLaw"), (2, u "law"), (0, u "(III)Z")] 3

def k1m0 : Method := { name := "<init>", desc := "()V", sig := { parameters := [], returnType := none }, accessFlags := 2, code := none }
def k1c1 : Code := { maxStack := 4, maxLocals := 15, code := code, exceptionTable := #[], attributes := #[] }
def k1m1 : Method := { name := "law", desc := "(III)Z", sig := { parameters := [.int, .int, .int], returnType := some .boolean }, accessFlags := 9, code := some k1c1 }
/-- com/example/propgen/values/SizeRangeContainsPinLaw -/
def k1 : Class := { plain "com/example/propgen/values/SizeRangeContainsPinLaw" (some 0) with
  accessFlags := 49
  interfaces := #[]
  cf := some (fileOf pool1 22 #[] #[{ accessFlags := 2, nameIndex := 5, descriptorIndex := 6, attributes := #[] }, { accessFlags := 9, nameIndex := 26, descriptorIndex := 27, attributes := #[] }] 49 2 #[] #[])
  fields := #[]
  methods := #[k1m0, k1m1]
  instanceTypes := #[]
  staticTypes := #[]
  resolved := Array.replicate 31 none
  statics := none }

def pool2 : Array CpInfo := pool [(1, .methodref 2 3), (0, .class_ 4), (0, .nameAndType 5 6), (0, u "java/lang/Object"), (0, u "<init>"), (0, u "()V"), (0, .class_ 8), (0, u "java/lang/Record")] 13

def k2c0 : Code := { maxStack := 1, maxLocals := 1, code := jdk_30_method_1_code, exceptionTable := #[], attributes := #[] }
def k2m0 : Method := { name := "<init>", desc := "()V", sig := { parameters := [], returnType := none }, accessFlags := 4, code := some k2c0 }
/-- java/lang/Record -/
def k2 : Class := { plain "java/lang/Record" (some 0) with
  accessFlags := 1057
  interfaces := #[]
  cf := some (fileOf pool2 7 #[] #[{ accessFlags := 4, nameIndex := 5, descriptorIndex := 6, attributes := #[] }] 1057 2 #[] #[])
  fields := #[]
  methods := #[k2m0]
  instanceTypes := #[]
  staticTypes := #[]
  resolved := Array.replicate 22 none
  statics := none }

def pool3 : Array CpInfo := pool [(1, .methodref 2 3), (0, .class_ 4), (0, .nameAndType 5 6), (0, u "java/lang/Record"), (0, u "<init>"), (0, u "()V"), (0, .fieldref 8 9), (0, .class_ 10), (0, .nameAndType 11 12), (0, u "com/example/propgen/values/SizeRange"), (0, u "min"), (0, u "I"), (0, .fieldref 8 14), (0, .nameAndType 15 12), (0, u "max"), (7, u "(II)V"), (17, u "ANY"), (0, u "Lcom/example/propgen/values/SizeRange;"), (3, u "contains"), (0, u "(I)Z")] 28

def k3c0 : Code := { maxStack := 2, maxLocals := 3, code := prog_76_method_1_code, exceptionTable := #[], attributes := #[] }
def k3m0 : Method := { name := "<init>", desc := "(II)V", sig := { parameters := [.int, .int], returnType := none }, accessFlags := 0, code := some k3c0 }
def k3c1 : Code := { maxStack := 2, maxLocals := 2, code := prog_76_method_2_code, exceptionTable := #[], attributes := #[] }
def k3m1 : Method := { name := "contains", desc := "(I)Z", sig := { parameters := [.int], returnType := some .boolean }, accessFlags := 0, code := some k3c1 }
/-- com/example/propgen/values/SizeRange -/
def k3 : Class := { plain "com/example/propgen/values/SizeRange" (some 2) with
  accessFlags := 48
  interfaces := #[]
  cf := some (fileOf pool3 8 #[] #[{ accessFlags := 0, nameIndex := 5, descriptorIndex := 23, attributes := #[] }, { accessFlags := 0, nameIndex := 46, descriptorIndex := 47, attributes := #[] }] 48 2 #[] #[{ accessFlags := 18, nameIndex := 11, descriptorIndex := 12, attributes := #[] }, { accessFlags := 18, nameIndex := 15, descriptorIndex := 12, attributes := #[] }, { accessFlags := 24, nameIndex := 41, descriptorIndex := 42, attributes := #[] }])
  fields := #[{ name := "min", type := .int, accessFlags := 18, slot := 0, constantValue := 0 }, { name := "max", type := .int, accessFlags := 18, slot := 1, constantValue := 0 }, { name := "ANY", type := (.object "com/example/propgen/values/SizeRange"), accessFlags := 24, slot := 0, constantValue := 0 }]
  methods := #[k3m0, k3m1]
  instanceTypes := #[.int, .int]
  staticTypes := #[(.object "com/example/propgen/values/SizeRange")]
  resolved := Array.replicate 76 none
  statics := none }

def pool4 : Array CpInfo := pool [(1, u "java/lang/Cloneable"), (0, .class_ 1), (0, u "java/lang/Object"), (0, .class_ 3)] 3

/-- java/lang/Cloneable -/
def k4 : Class := { plain "java/lang/Cloneable" (some 0) with
  accessFlags := 1537
  interfaces := #[]
  cf := some (fileOf pool4 2 #[] #[] 1537 4 #[] #[])
  fields := #[]
  methods := #[]
  instanceTypes := #[]
  staticTypes := #[]
  resolved := Array.replicate 8 none
  statics := none }

def pool5 : Array CpInfo := pool [(1, u "java/io/Serializable"), (0, .class_ 1), (0, u "java/lang/Object"), (0, .class_ 3)] 3

/-- java/io/Serializable -/
def k5 : Class := { plain "java/io/Serializable" (some 0) with
  accessFlags := 1537
  interfaces := #[]
  cf := some (fileOf pool5 2 #[] #[] 1537 4 #[] #[])
  fields := #[]
  methods := #[]
  instanceTypes := #[]
  staticTypes := #[]
  resolved := Array.replicate 8 none
  statics := none }

/-- the primitive byte -/
def k6 : Class := { plain "byte" none with kind := .primitive 'B', accessFlags := 0x411 }
/-- [B -/
def k7 : Class := { plain "[B" (some 0) with kind := .array 6 .byte, interfaces := #[4, 5], accessFlags := 1041 }

/-- the primitive int -/
def k8 : Class := { plain "int" none with kind := .primitive 'I', accessFlags := 0x411 }
/-- [I -/
def k9 : Class := { plain "[I" (some 0) with kind := .array 8 .int, interfaces := #[4, 5], accessFlags := 1041 }

def heap : Heap := #[]
def classes : Array Class := #[k0, k1, k2, k3, k4, k5, k6, k7, k8, k9]
def interned : List (Array UInt16 × Addr) := []
def slotsUsed : Nat := 0
def theMethod : MethodId := ⟨1, 1⟩
def args0 : Array Value := #[.int 5, .int 300, .int 7]
def aboutOver (below : List Frame) : State where
  vm := { classes := classes, interned := interned.toArray }
  heap := heap
  slotsUsed := slotsUsed
  threads := #[{ frames := .invoking theMethod args0 :: below }]
def below0 : List Frame := [.native { method := ⟨0, 0⟩, args := #[] }]
def about1 : State := aboutOver below0
def p0 : Program := .bare "" "" ""
def e0 : Env := launch0.env 0 0 0
theorem w_frames : about1.frames = Frame.invoking theMethod args0 :: below0 := rfl
set_option maxRecDepth 65536 in
theorem w_args : argsFit about1.vm theMethod args0 = true := by decide +kernel
set_option maxRecDepth 65536 in
theorem w_heap : heapFits about1 = true := by decide +kernel
set_option maxRecDepth 65536 in
theorem w_runnable : about1.curStatus? = some .runnable := by decide +kernel
set_option maxRecDepth 65536 in
theorem w_alone : about1.alone = true := by decide +kernel
set_option maxRecDepth 65536 in
theorem w_named : about1.methodNamed? x = some theMethod := by decide +kernel
set_option maxRecDepth 65536 in
theorem w_hears : about1.hears theMethod below0 = true := by decide +kernel
set_option maxRecDepth 65536 in
theorem w_ripe : about1.ripe theMethod args0 below0 = true := by decide +kernel
theorem w_running : about1.status = .running := rfl
set_option maxRecDepth 65536 in
theorem w_room : about1.hasRoom e0.platform room_1 = true :=
  launch0.hasRoom_least _ room_1 (by decide +kernel) (by decide +kernel) (by decide +kernel) (by decide +kernel) (by decide +kernel) (by decide +kernel)
theorem allAtoms_all (ts : List Jvm.Cond) (a : Array Jvm.Value) (st : Jvm.State) : (allAtoms ts).before a st = ts.all (fun c => c.before a st) := by
  induction ts with
  | nil => rfl
  | cons c t ih =>
    show (Jvm.Cond.and c (allAtoms t)).before a st = _
    rw [Jvm.Cond.before_and, ih, List.all_cons]
def words1 : List Jvm.Cond := Jvm.Cond.code x code maxLocals ret :: tables_1
/-- a 'code' word, met by the world's own term for the bytes: nothing is compared byte by byte -/
theorem code_word {y : MethodName} {bytes : ByteArray} {mx : Nat} {rt : Option FieldType} {a : Array Value} {s : State} {m : MethodId} {meth : Method} {c : Code} (h1 : s.methodNamed? y = some m) (h2 : s.vm.method? m = some meth) (h3 : meth.code = some c) (h4 : c.code = bytes)
    (h5 : (c.maxLocals == mx && c.exceptionTable.isEmpty && decide (c.maxStack ≤ mostOperands) && decide (meth.sig.returnType = rt) && !meth.locks && decide (parseMethodDescriptor y.desc = some meth.sig)) = true) : (Jvm.Cond.code y bytes mx rt).before a s = true := by
  simp only [Bool.and_eq_true, beq_iff_eq, Bool.not_eq_true', decide_eq_true_eq] at h5
  obtain ⟨⟨⟨⟨⟨g1, g2⟩, g3⟩, g4⟩, g5⟩, g6⟩ := h5
  simp [Cond.before, Cond.holds, Cond.value, h1, h2, h3, h4, g1, g2, g3, g4, g5, g6]
def isCode : Jvm.Cond → Bool
  | .code _ _ _ _ => true
  | _ => false
theorem all_split {L : List Jvm.Cond} {P : Jvm.Cond → Bool} (h1 : L.all (fun c => isCode c || P c) = true) (h2 : ∀ c ∈ L.filter isCode, P c = true) : L.all P = true := by
  refine List.all_eq_true.mpr fun c hc => ?_
  have h := List.all_eq_true.mp h1 c hc
  rcases Bool.eq_false_or_eq_true (isCode c) with hi | hi
  · exact h2 c (List.mem_filter.mpr ⟨hc, hi⟩)
  · simpa [hi] using h
set_option maxRecDepth 65536 in
theorem w_c0 : (Jvm.Cond.code x code maxLocals ret).before args0 about1 = true := code_word (m := ⟨1, 1⟩) (meth := k1m1) (c := k1c1) (by decide +kernel) rfl rfl rfl (by decide +kernel)
set_option maxRecDepth 65536 in
theorem w_c1 : (Jvm.Cond.code ({ cls := "com/example/propgen/values/SizeRange", name := "<init>", desc := "(II)V" } : Jvm.MethodName) prog_76_method_1_code (3 : Nat) (Option.none : Option Jvm.ClassFile.FieldType)).before args0 about1 = true := code_word (m := ⟨3, 0⟩) (meth := k3m0) (c := k3c0) (by decide +kernel) rfl rfl rfl (by decide +kernel)
set_option maxRecDepth 65536 in
theorem w_c2 : (Jvm.Cond.code ({ cls := "java/lang/Record", name := "<init>", desc := "()V" } : Jvm.MethodName) jdk_30_method_1_code (1 : Nat) (Option.none : Option Jvm.ClassFile.FieldType)).before args0 about1 = true := code_word (m := ⟨2, 0⟩) (meth := k2m0) (c := k2c0) (by decide +kernel) rfl rfl rfl (by decide +kernel)
set_option maxRecDepth 65536 in
theorem w_c3 : (Jvm.Cond.code ({ cls := "java/lang/Object", name := "<init>", desc := "()V" } : Jvm.MethodName) object_method_1_code (1 : Nat) (Option.none : Option Jvm.ClassFile.FieldType)).before args0 about1 = true := code_word (m := ⟨0, 0⟩) (meth := k0m0) (c := k0c0) (by decide +kernel) rfl rfl rfl (by decide +kernel)
set_option maxRecDepth 65536 in
theorem w_c4 : (Jvm.Cond.code ({ cls := "com/example/propgen/values/SizeRange", name := "contains", desc := "(I)Z" } : Jvm.MethodName) prog_76_method_2_code (2 : Nat) (Option.some Jvm.ClassFile.FieldType.boolean)).before args0 about1 = true := code_word (m := ⟨3, 1⟩) (meth := k3m1) (c := k3c1) (by decide +kernel) rfl rfl rfl (by decide +kernel)
def codes1 : List Jvm.Cond := [Jvm.Cond.code x code maxLocals ret, Jvm.Cond.code ({ cls := "com/example/propgen/values/SizeRange", name := "<init>", desc := "(II)V" } : Jvm.MethodName) prog_76_method_1_code (3 : Nat) (Option.none : Option Jvm.ClassFile.FieldType), Jvm.Cond.code ({ cls := "java/lang/Record", name := "<init>", desc := "()V" } : Jvm.MethodName) jdk_30_method_1_code (1 : Nat) (Option.none : Option Jvm.ClassFile.FieldType), Jvm.Cond.code ({ cls := "java/lang/Object", name := "<init>", desc := "()V" } : Jvm.MethodName) object_method_1_code (1 : Nat) (Option.none : Option Jvm.ClassFile.FieldType), Jvm.Cond.code ({ cls := "com/example/propgen/values/SizeRange", name := "contains", desc := "(I)Z" } : Jvm.MethodName) prog_76_method_2_code (2 : Nat) (Option.some Jvm.ClassFile.FieldType.boolean)]
set_option maxRecDepth 65536 in
theorem codes_eq : words1.filter isCode = codes1 := rfl
theorem w_codes : ∀ c ∈ words1.filter isCode, c.before args0 about1 = true := by
  rw [codes_eq]
  intro c hc
  simp only [codes1, List.mem_cons, List.not_mem_nil, or_false] at hc
  rcases hc with rfl | rfl | rfl | rfl | rfl
  · exact w_c0
  · exact w_c1
  · exact w_c2
  · exact w_c3
  · exact w_c4
set_option maxRecDepth 65536 in
theorem w_t1 : (words1.take 24).all (fun c => isCode c || c.before args0 about1) = true := by decide +kernel
set_option maxRecDepth 65536 in
theorem w_t2 : (words1.drop 24).all (fun c => isCode c || c.before args0 about1) = true := by decide +kernel
theorem w_tables : (allAtoms (Jvm.Cond.code x code maxLocals ret :: tables_1)).before args0 about1 = true := by
  rw [allAtoms_all]
  show words1.all (fun c => c.before args0 about1) = true
  refine all_split ?_ w_codes
  rw [← List.take_append_drop 24 words1, List.all_append, w_t1, w_t2]
  rfl
set_option maxRecDepth 65536 in
theorem w_case : (Jvm.Cond.and given_1 narrow_1).before args0 about1 = true := by decide +kernel
theorem w_applies : (headSpec (Jvm.Cond.code x code maxLocals ret :: tables_1) room_1).applies x e0.platform about1 = true :=
  (Spec.applies_iff w_frames).mpr ⟨w_running, w_runnable, w_alone, w_named, w_hears, w_ripe, w_room, w_tables⟩
theorem atStart : AtStart classFile x code maxLocals ret World_1 tables_1 room_1 Calls_1 rest_1 Pre_1 launch0 p0 e0 about1 theMethod args0 below0 :=
  ⟨lists_1, trivial, launch0.admits_env _ _ _, launch0.least_env, fairChoices_fair.cas, fairChoices_fair.clock, w_frames, w_args, w_heap, w_applies, trivial, trivial, w_case⟩
end start1
theorem witness_1 : WitnessClaimed_1 := ⟨start1.p0, start1.e0, start1.about1, start1.theMethod, start1.args0, start1.below0, start1.atStart⟩
end Jvm.Pilot.@@N@@
