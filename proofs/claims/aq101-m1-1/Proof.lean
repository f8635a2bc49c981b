import JvmDerived
import JvmDerived.Pilot.@@N@@Statement
import JvmDerived.Pilot.@@N@@Code
set_option linter.unusedVariables false
set_option linter.unusedSimpArgs false
@@BLOCK:NumsL.lean.txt@@
namespace Jvm.RoadKit
open Sem ClassFile Op Lib Jvm.Stand Jvm.Free Jvm.LawKit
section New
variable {p : Program} {l : Launch} {e : Env} {R : Room} {s : State} {m : MethodId} {args : Array Value} {below : List Frame} {meth : Method} {c : Code} {T : State} {locs : List Loc} {cells slots : Nat}
theorem retI (X : Stand p l e R s m args below meth c T locs cells slots) (hx : p.tables.exec = Jvm.exec) {pc : Nat} {Ls : Array Slot} {z : Int32} {rest : List Value} (hret : meth.sig.returnType = some .int) (hd : decode c.code pc = .ok (.ireturn, 1)) {fs : List Frame}
    (hl : ∀ (f : JFrame) (acts : List Action), f.method = m → f.locked = none → f.entered = [] → (doReturn e (T.setTop f) acts (some (.int z))).1 = T.setFrames fs) : Steps p.tables e below (T.setTop (mkF m pc Ls (.int z :: rest))) (T.setFrames fs) := by
  have hm' : T.vm.method? m = some meth := X.method'
  have hn : narrow .int (.int z) = .int z := rfl
  show Steps p.tables e below (T.setTop { method := m, pc := pc, locals := Ls, stack := _ :: rest, locked := none }) _
  jvm_step X.here [X.here.top, hx, hd, hm', hret, hn]
  first | (intro acts; rw [hl _ acts rfl rfl rfl]) | rw [hl _ _ rfl rfl rfl]
  exact Steps.refl _
end New
end Jvm.RoadKit
namespace Jvm.Pilot.@@N@@
open Jvm Jvm.ClassFile Sem Op Lib Jvm.Free Jvm.Stand Jvm.LawKit Jvm.RoadKit Bundle Jvm.Pilot.@@N@@.Jvm.D
/-- the goal of a walk, carried from one point to the next -/
theorem own_via {tb : Tables} {e : Env} {below : List Frame} {Y Y' : State} {P : State → Outcome → Prop} (h : ∀ t, Steps tb e below Y' t → Steps tb e below Y t) (g : ∃ s₂ o, Steps tb e below Y' s₂ ∧ P s₂ o) : ∃ s₂ o, Steps tb e below Y s₂ ∧ P s₂ o := by
  obtain ⟨s₂, o, h1, h2⟩ := g
  exact ⟨s₂, o, h _ h1, h2⟩
/-- the same where the goal is a join: 'from here the run comes to F x for some x with A x' -/
theorem own_via2 {tb : Tables} {e : Env} {below : List Frame} {Y Y' : State} {α : Type} {A : α → Prop} {F : α → State} (h : ∀ t, Steps tb e below Y' t → Steps tb e below Y t) (g : ∃ x, A x ∧ ∀ t, Steps tb e below (F x) t → Steps tb e below Y' t) : ∃ x, A x ∧ ∀ t, Steps tb e below (F x) t → Steps tb e below Y t := by
  obtain ⟨x, h1, h2⟩ := g
  exact ⟨x, h1, fun t kt => h _ (h2 _ kt)⟩
/-- what a callee leaves that writes nothing: its answer, no place written, the heap as it was -/
def own_Q (r : Option Value) (h0 : Heap) (v : Option Value) (h : Heap) (L : List Loc) : Prop := v = r ∧ L = [] ∧ h = h0
theorem pd_IJJZ_V : parseMethodDescriptor "(IJJZ)V" = some ⟨[.int, .long, .long, .boolean], none⟩ := by decide +kernel
theorem pd__V : parseMethodDescriptor "()V" = some ⟨[], none⟩ := by decide +kernel
theorem pd__Z : parseMethodDescriptor "()Z" = some ⟨[], some .boolean⟩ := by decide +kernel
theorem pd__J : parseMethodDescriptor "()J" = some ⟨[], some .long⟩ := by decide +kernel
theorem pd__I : parseMethodDescriptor "()I" = some ⟨[], some .int⟩ := by decide +kernel
theorem d1_0 : decode prog_20_method_2_code 0 = .ok (.aload_n 0, 1) := by decide +kernel
theorem d1_1 : decode prog_20_method_2_code 1 = .ok (.invokespecial 1, 3) := by decide +kernel
theorem d1_4 : decode prog_20_method_2_code 4 = .ok (.aload_n 0, 1) := by decide +kernel
theorem d1_5 : decode prog_20_method_2_code 5 = .ok (.iload_n 1, 1) := by decide +kernel
theorem d1_6 : decode prog_20_method_2_code 6 = .ok (.putfield 7, 3) := by decide +kernel
theorem d1_9 : decode prog_20_method_2_code 9 = .ok (.aload_n 0, 1) := by decide +kernel
theorem d1_10 : decode prog_20_method_2_code 10 = .ok (.lload_n 2, 1) := by decide +kernel
theorem d1_11 : decode prog_20_method_2_code 11 = .ok (.putfield 13, 3) := by decide +kernel
theorem d1_14 : decode prog_20_method_2_code 14 = .ok (.aload_n 0, 1) := by decide +kernel
theorem d1_15 : decode prog_20_method_2_code 15 = .ok (.lload 4, 2) := by decide +kernel
theorem d1_17 : decode prog_20_method_2_code 17 = .ok (.putfield 17, 3) := by decide +kernel
theorem d1_20 : decode prog_20_method_2_code 20 = .ok (.aload_n 0, 1) := by decide +kernel
theorem d1_21 : decode prog_20_method_2_code 21 = .ok (.iload 6, 2) := by decide +kernel
theorem d1_23 : decode prog_20_method_2_code 23 = .ok (.putfield 20, 3) := by decide +kernel
theorem d1_26 : decode prog_20_method_2_code 26 = .ok (.return_, 1) := by decide +kernel
theorem pn_RateLimiter_Tally : plainName "com/example/okay_bearer/okaybearer/ratelimit/RateLimiter$Tally" = true := by first | (simp [plainName, overriddenIn]; done) | decide +kernel
theorem d2_0 : decode jdk_30_method_1_code 0 = .ok (.aload_n 0, 1) := by decide +kernel
theorem d2_1 : decode jdk_30_method_1_code 1 = .ok (.invokespecial 1, 3) := by decide +kernel
theorem d2_4 : decode jdk_30_method_1_code 4 = .ok (.return_, 1) := by decide +kernel
theorem pn_Record : plainName "java/lang/Record" = true := by first | (simp [plainName, overriddenIn]; done) | decide +kernel
theorem d4_0 : decode prog_20_method_3_code 0 = .ok (.aload_n 0, 1) := by decide +kernel
theorem d4_1 : decode prog_20_method_3_code 1 = .ok (.getfield 20, 3) := by decide +kernel
theorem d4_4 : decode prog_20_method_3_code 4 = .ok (.ifCond .eq 20, 3) := by decide +kernel
theorem d4_7 : decode prog_20_method_3_code 7 = .ok (.aload_n 0, 1) := by decide +kernel
theorem d4_8 : decode prog_20_method_3_code 8 = .ok (.getfield 13, 3) := by decide +kernel
theorem d4_11 : decode prog_20_method_3_code 11 = .ok (.aload_n 0, 1) := by decide +kernel
theorem d4_12 : decode prog_20_method_3_code 12 = .ok (.getfield 7, 3) := by decide +kernel
theorem d4_15 : decode prog_20_method_3_code 15 = .ok (.i2l, 1) := by decide +kernel
theorem d4_16 : decode prog_20_method_3_code 16 = .ok (.lcmp, 1) := by decide +kernel
theorem d4_17 : decode prog_20_method_3_code 17 = .ok (.ifCond .gt 7, 3) := by decide +kernel
theorem d4_20 : decode prog_20_method_3_code 20 = .ok (.iconst 1, 1) := by decide +kernel
theorem d4_21 : decode prog_20_method_3_code 21 = .ok (.goto 4, 3) := by decide +kernel
theorem d4_24 : decode prog_20_method_3_code 24 = .ok (.iconst 0, 1) := by decide +kernel
theorem d4_25 : decode prog_20_method_3_code 25 = .ok (.ireturn, 1) := by decide +kernel
theorem d5_0 : decode prog_20_method_11_code 0 = .ok (.aload_n 0, 1) := by decide +kernel
theorem d5_1 : decode prog_20_method_11_code 1 = .ok (.getfield 20, 3) := by decide +kernel
theorem d5_4 : decode prog_20_method_11_code 4 = .ok (.ireturn, 1) := by decide +kernel
theorem d6_0 : decode prog_20_method_9_code 0 = .ok (.aload_n 0, 1) := by decide +kernel
theorem d6_1 : decode prog_20_method_9_code 1 = .ok (.getfield 13, 3) := by decide +kernel
theorem d6_4 : decode prog_20_method_9_code 4 = .ok (.lreturn, 1) := by decide +kernel
theorem d7_0 : decode prog_20_method_8_code 0 = .ok (.aload_n 0, 1) := by decide +kernel
theorem d7_1 : decode prog_20_method_8_code 1 = .ok (.getfield 7, 3) := by decide +kernel
theorem d7_4 : decode prog_20_method_8_code 4 = .ok (.ireturn, 1) := by decide +kernel
theorem pn_TallyAllowsPinLaw : plainName "com/example/okay_bearer/okaybearer/ratelimit/TallyAllowsPinLaw" = true := by first | (simp [plainName, overriddenIn]; done) | decide +kernel
/-- Tally.allows, plainly -/
def own_allow (k : Int32) (n : Int64) (b : Int32) : Int32 := if k = 0 then 0 else if b.toInt64 < n then 0 else 1
theorem own_bit (k : Int32) (h : k = 0 ∨ k = 1) : nar .boolean k = k := by
  rcases h with rfl | rfl <;> decide
theorem own_le (b : Int32) (n : Int64) : n < b.toInt64 + (1 : Int64) ↔ ¬ b.toInt64 < n := by
  have h1 := b.toInt_lt
  have h2 := b.le_toInt
  have e : b.toInt64.toInt = b.toInt := Int32.toInt_toInt64 b
  have c1 : (1 : Int64).toInt = 1 := by decide
  have s1 : (b.toInt64 + (1 : Int64)).toInt = b.toInt + 1 := by
    rw [Jvm.Kit.i64_add (by rw [c1, e]; omega) (by rw [c1, e]; omega), c1, e]
  rw [Int64.lt_iff_toInt_lt, Int64.lt_iff_toInt_lt, s1, e]
  omega
theorem own_e1 (k : Int32) (n : Int64) (b : Int32) (h : k = 0) : 0 = own_allow k n b := by simp only [own_allow, if_pos h]
theorem own_e2 (k : Int32) (n : Int64) (b : Int32) (h : ¬ k = 0) (h2 : n < b.toInt64 + (1 : Int64)) : 1 = own_allow k n b := by simp only [own_allow, if_neg h, if_neg ((own_le b n).mp h2)]
theorem own_e3 (k : Int32) (n : Int64) (b : Int32) (h : ¬ k = 0) (h2 : ¬ n < b.toInt64 + (1 : Int64)) : 0 = own_allow k n b := by
  have h3 : b.toInt64 < n := Classical.byContradiction fun z => h2 ((own_le b n).mpr z)
  simp only [own_allow, if_neg h, if_pos h3]
theorem ef_2 (m : MethodId) (a1 : Addr) : entryFrame m #[(.ref a1)] 1 = mkF m 0 #[.val (.ref a1)] [] := by first | (simp [entryFrame, mkF, argsToLocals, Value.category]; done) | rfl
set_option maxRecDepth 65536 in
set_option maxHeartbeats 40000000 in
theorem rm2 (l : Launch) (Z : State) (a0 : Array Value) (hw : ∀ d ∈ tables_1, d.before a0 Z = true) (ws : List Jvm.Cond) (a1 : Addr) (h0 : Heap) :
    MetFree l (⟨"java/lang/Record", "<init>", "()V"⟩ : MethodName) (head1 (Jvm.Cond.code (⟨"java/lang/Record", "<init>", "()V"⟩ : MethodName) jdk_30_method_1_code 1 none :: ws) ({ frames := 1, cells := 0, slots := 0, locals := 12 } : Room)) (fun a U => a = #[(.ref a1)] ∧ Z.Warmed39 U.vm ∧ U.heap = h0) (fun _ _ _ _ _ => True) (fun _ U o U' => ∃ v L, o = .returned v ∧ own_Q none h0 v U'.heap L ∧ FrameEnd U o U' L ({ frames := 1, cells := 0, slots := 0, locals := 12 } : Room).cells ({ frames := 1, cells := 0, slots := 0, locals := 12 } : Room).slots) := by
  refine MetFree.of_bodySF (plainFor_of_name pn_Record) hisR ?_
  intro p e s m args below meth c s₁ Bd hml0 hP hK
  obtain ⟨rfl, hZ, hh⟩ := hP
  have hx := Bd.exec
  have hby := Bd.bytes
  have hml : c.maxLocals = 1 := hml0
  have hown : s.vm.findClass "java/lang/Record" = some m.cls := findClass_of_methodNamed Bd.named
  have hnm := (name_of_methodNamed Bd.named Bd.method).1
  have X0 : Stand p l e ({ frames := 1, cells := 0, slots := 0, locals := 12 } : Room) s m #[(.ref a1)] below meth c s₁ [] 0 0 := Stand.of_body Bd
  have e0 : s₁.heap = h0 := by rw [← hh, Bd.state]; rfl
  refine own_via (Y' := (s₁.setTop (mkF m 0 #[.val (.ref a1)] []))) (fun t kt => castTop (ef_2 m a1) kt) ?_
  refine own_via (Y' := (s₁.setTop (mkF m 1 #[.val (.ref a1)] [(.ref a1)]))) (fun t kt => ?_) ?_
  · show Steps p.tables e below (s₁.setTop (mkF m 0 #[.val (.ref a1)] [])) _
    refine XS.aloadN X0.here hx rfl (hb hby d2_0) rfl rfl ?_
    exact kt
  obtain ⟨T1, X1, e1, st1⟩ := initO X0 hx hZ hown (hw _ (List.mem_of_getElem? (i := 11) rfl)) (hw _ (List.mem_of_getElem? (i := 12) rfl)) (hw _ (List.mem_of_getElem? (i := 13) rfl)) e0 (g := (mkF m 1 #[.val (.ref a1)] [(.ref a1)])) rfl (by rw [hml]; rfl) rfl (hb hby d2_1) (by decide) (W := 0) (by show 2 * 0 + _ ≤ _; exact Nat.le_of_eq rfl) (by decide)
  refine own_via (Y' := (T1.setTop (mkF m 4 #[.val (.ref a1)] []))) (fun t kt => st1 _ kt) ?_
  obtain ⟨fs, hr, hrun, hended, hW, hsame⟩ := X1.leave (v := none) (fun _ => rfl)
  refine ⟨_, _, ?_, hrun, hended, _, _, rfl, ?_, ⟨_, rfl⟩, hW, hsame.mono (by decide) (by decide)⟩
  · show Steps p.tables e below (T1.setTop (mkF m 4 #[.val (.ref a1)] [])) _
    exact X1.returnOut hx Bd.returns (hb hby d2_4) hr
  · exact ⟨rfl, rfl, e1⟩
/-- what the constructor leaves -/
def own_QC (Z : State) (a1 : Addr) (p2 : Int32) (p3 : Int64) (p4 : Int64) (p5 : Int32) (h0 : Heap) (n0 : Nat) (v : Option Value) (h : Heap) (L : List Loc) : Prop := v = none ∧ Fr n0 L ∧ Keep h0 h [a1] ∧ Exa Z h a1 "com/example/okay_bearer/okaybearer/ratelimit/RateLimiter$Tally" ∧ Fld Z h a1 "com/example/okay_bearer/okaybearer/ratelimit/RateLimiter$Tally" "budget" "I" (.int p2) ∧ Fld Z h a1 "com/example/okay_bearer/okaybearer/ratelimit/RateLimiter$Tally" "counted" "J" (.long p3) ∧ Fld Z h a1 "com/example/okay_bearer/okaybearer/ratelimit/RateLimiter$Tally" "end" "J" (.long p4) ∧ Fld Z h a1 "com/example/okay_bearer/okaybearer/ratelimit/RateLimiter$Tally" "kept" "Z" (.int (nar .boolean p5))
theorem ef_1 (m : MethodId) (a1 : Addr) (p2 : Int32) (p3 : Int64) (p4 : Int64) (p5 : Int32) : entryFrame m #[(.ref a1), (.int p2), (.long p3), (.long p4), (.int p5)] 7 = mkF m 0 #[.val (.ref a1), .val (.int p2), .val (.long p3), .second, .val (.long p4), .second, .val (.int p5)] [] := by first | (simp [entryFrame, mkF, argsToLocals, Value.category]; done) | rfl
set_option maxRecDepth 65536 in
set_option maxHeartbeats 40000000 in
theorem rm1 (l : Launch) (Z : State) (a0 : Array Value) (hw : ∀ d ∈ tables_1, d.before a0 Z = true) (ws : List Jvm.Cond) (a1 : Addr) (p2 : Int32) (p3 : Int64) (p4 : Int64) (p5 : Int32) (h0 : Heap) (n0 : Nat) (g_a1 : n0 ≤ a1) (E_a1 : Exa Z h0 a1 "com/example/okay_bearer/okaybearer/ratelimit/RateLimiter$Tally") (F_budget : Fld Z h0 a1 "com/example/okay_bearer/okaybearer/ratelimit/RateLimiter$Tally" "budget" "I" (.int (0 : Int32))) (F_counted : Fld Z h0 a1 "com/example/okay_bearer/okaybearer/ratelimit/RateLimiter$Tally" "counted" "J" (.long (0 : Int64))) (F_end : Fld Z h0 a1 "com/example/okay_bearer/okaybearer/ratelimit/RateLimiter$Tally" "end" "J" (.long (0 : Int64))) (F_kept : Fld Z h0 a1 "com/example/okay_bearer/okaybearer/ratelimit/RateLimiter$Tally" "kept" "Z" (.int (0 : Int32))) :
    MetFree l (⟨"com/example/okay_bearer/okaybearer/ratelimit/RateLimiter$Tally", "<init>", "(IJJZ)V"⟩ : MethodName) (head1 (Jvm.Cond.code (⟨"com/example/okay_bearer/okaybearer/ratelimit/RateLimiter$Tally", "<init>", "(IJJZ)V"⟩ : MethodName) prog_20_method_2_code 7 none :: ws) ({ frames := 2, cells := 0, slots := 0, locals := 24 } : Room)) (fun a U => a = #[(.ref a1), (.int p2), (.long p3), (.long p4), (.int p5)] ∧ Z.Warmed39 U.vm ∧ U.heap = h0) (fun _ _ _ _ _ => True) (fun _ U o U' => ∃ v L, o = .returned v ∧ own_QC Z a1 p2 p3 p4 p5 h0 n0 v U'.heap L ∧ FrameEnd U o U' L ({ frames := 2, cells := 0, slots := 0, locals := 24 } : Room).cells ({ frames := 2, cells := 0, slots := 0, locals := 24 } : Room).slots) := by
  refine MetFree.of_bodySF (plainFor_of_name pn_RateLimiter_Tally) hisR ?_
  intro p e s m args below meth c s₁ Bd hml0 hP hK
  obtain ⟨rfl, hZ, hh⟩ := hP
  have hx := Bd.exec
  have hby := Bd.bytes
  have hml : c.maxLocals = 7 := hml0
  have hown : s.vm.findClass "com/example/okay_bearer/okaybearer/ratelimit/RateLimiter$Tally" = some m.cls := findClass_of_methodNamed Bd.named
  have hnm := (name_of_methodNamed Bd.named Bd.method).1
  have X0 : Stand p l e ({ frames := 2, cells := 0, slots := 0, locals := 24 } : Room) s m #[(.ref a1), (.int p2), (.long p3), (.long p4), (.int p5)] below meth c s₁ [] 0 0 := Stand.of_body Bd
  have e0 : s₁.heap = h0 := by rw [← hh, Bd.state]; rfl
  refine own_via (Y' := (s₁.setTop (mkF m 0 #[.val (.ref a1), .val (.int p2), .val (.long p3), .second, .val (.long p4), .second, .val (.int p5)] []))) (fun t kt => castTop (ef_1 m a1 p2 p3 p4 p5) kt) ?_
  have N0 := Fr.nil n0
  refine own_via (Y' := (s₁.setTop (mkF m 1 #[.val (.ref a1), .val (.int p2), .val (.long p3), .second, .val (.long p4), .second, .val (.int p5)] [(.ref a1)]))) (fun t kt => ?_) ?_
  · show Steps p.tables e below (s₁.setTop (mkF m 0 #[.val (.ref a1), .val (.int p2), .val (.long p3), .second, .val (.long p4), .second, .val (.int p5)] [])) _
    refine XS.aloadN X0.here hx rfl (hb hby d1_0) rfl rfl ?_
    exact kt
  obtain ⟨_, _, ⟨T2, L2, k2, n2⟩, -, X2, ⟨Lc2, hQ2, l2, y2, z2⟩, st2⟩ := X0.specialBack hx (y := (⟨"java/lang/Record", "<init>", "()V"⟩ : MethodName)) rfl hown (mvT hZ (hw _ (List.mem_of_getElem? (i := 6) rfl))) (mvT hZ (hw _ (List.mem_of_getElem? (i := 7) rfl))) (mvT hZ (hw _ (List.mem_of_getElem? (i := 10) rfl))) (by decide) (backOf (W := 0) (rm2 l Z a0 hw [] a1 h0) hZ (hw _ (List.mem_of_getElem? (i := 10) rfl)) (hw _ (List.mem_of_getElem? (i := 9) rfl)) (by decide) (by decide)) (g := (mkF m 1 #[.val (.ref a1), .val (.int p2), .val (.long p3), .second, .val (.long p4), .second, .val (.int p5)] [(.ref a1)])) rfl (by rw [hml]; rfl) (Steps.refl _) (a := a1) (argsL := []) (rest := []) (lenOf pd__V rfl) rfl (by show 2 * 0 + _ ≤ _; exact Nat.le_of_eq rfl) (hb hby d1_1) (fun _ _ => ⟨rfl, e0, (by decide : 0 + 0 ≤ _), (by decide : 0 + 0 ≤ _)⟩)
  dsimp only [Pt.U, Pt.locs, Pt.cells, Pt.slots] at X2 l2 y2 z2 st2 hQ2
  subst l2 y2 z2
  obtain ⟨rfl, rfl, e2⟩ := hQ2
  replace X2 : Stand p l e ({ frames := 2, cells := 0, slots := 0, locals := 24 } : Room) s m #[(.ref a1), (.int p2), (.long p3), (.long p4), (.int p5)] below meth c T2 [] 0 0 := X2
  refine own_via (Y' := (T2.setTop (mkF m 4 #[.val (.ref a1), .val (.int p2), .val (.long p3), .second, .val (.long p4), .second, .val (.int p5)] []))) (fun t kt => st2.trans kt) ?_
  refine own_via (Y' := (T2.setTop (mkF m 6 #[.val (.ref a1), .val (.int p2), .val (.long p3), .second, .val (.long p4), .second, .val (.int p5)] [(.int p2), (.ref a1)]))) (fun t kt => ?_) ?_
  · show Steps p.tables e below (T2.setTop (mkF m 4 #[.val (.ref a1), .val (.int p2), .val (.long p3), .second, .val (.long p4), .second, .val (.int p5)] [])) _
    refine XS.aloadN X2.here hx rfl (hb hby d1_4) rfl rfl ?_
    show Steps p.tables e below (T2.setTop (mkF m 5 #[.val (.ref a1), .val (.int p2), .val (.long p3), .second, .val (.long p4), .second, .val (.int p5)] [(.ref a1)])) _
    refine XS.iloadN X2.here hx rfl (hb hby d1_5) rfl ?_
    exact kt
  obtain ⟨T3, h3, X3, e3, W3, st3⟩ := putF X2 hx hZ hown (host := "") (Or.inl (hw _ (List.mem_of_getElem? (i := 14) rfl))) Via.refl e2 F_budget E_a1 (Or.inr ⟨(hw _ (List.mem_of_getElem? (i := 15) rfl)), rfl, hnm⟩) (hw _ (List.mem_of_getElem? (i := 1) rfl)) (ty := .int) (by decide) rfl rfl (g := (mkF m 6 #[.val (.ref a1), .val (.int p2), .val (.long p3), .second, .val (.long p4), .second, .val (.int p5)] [(.int p2), (.ref a1)])) rfl rfl (hb hby d1_6)
  have F_budget_3 : Fld Z h3 a1 "com/example/okay_bearer/okaybearer/ratelimit/RateLimiter$Tally" "budget" "I" (.int p2) := F_budget.same W3
  have F_counted_3 := F_counted.other W3 (Or.inr (slot_ne (Or.inr (hw _ (List.mem_of_getElem? (i := 17) rfl))) (Or.inr (hw _ (List.mem_of_getElem? (i := 15) rfl))) (by decide) (t := .long) (t' := .int) (by decide) (by decide)))
  have F_end_3 := F_end.other W3 (Or.inr (slot_ne (Or.inr (hw _ (List.mem_of_getElem? (i := 19) rfl))) (Or.inr (hw _ (List.mem_of_getElem? (i := 15) rfl))) (by decide) (t := .long) (t' := .int) (by decide) (by decide)))
  have F_kept_3 := F_kept.other W3 (Or.inr (slot_ne (Or.inr (hw _ (List.mem_of_getElem? (i := 21) rfl))) (Or.inr (hw _ (List.mem_of_getElem? (i := 15) rfl))) (by decide) (t := .boolean) (t' := .int) (by decide) (by decide)))
  have E_3 := E_a1.wr W3
  have K3 : Keep h0 h3 [a1] := (Keep.refl h0 [a1]).wr W3 (Or.inl (List.mem_of_getElem? (i := 0) rfl))
  have N3 := Fr.snoc X3 N0 g_a1
  refine own_via (Y' := (T3.setTop (mkF m 9 #[.val (.ref a1), .val (.int p2), .val (.long p3), .second, .val (.long p4), .second, .val (.int p5)] []))) (fun t kt => st3 _ kt) ?_
  refine own_via (Y' := (T3.setTop (mkF m 11 #[.val (.ref a1), .val (.int p2), .val (.long p3), .second, .val (.long p4), .second, .val (.int p5)] [(.long p3), (.ref a1)]))) (fun t kt => ?_) ?_
  · show Steps p.tables e below (T3.setTop (mkF m 9 #[.val (.ref a1), .val (.int p2), .val (.long p3), .second, .val (.long p4), .second, .val (.int p5)] [])) _
    refine XS.aloadN X3.here hx rfl (hb hby d1_9) rfl rfl ?_
    show Steps p.tables e below (T3.setTop (mkF m 10 #[.val (.ref a1), .val (.int p2), .val (.long p3), .second, .val (.long p4), .second, .val (.int p5)] [(.ref a1)])) _
    refine XT.lloadN X3.here hx rfl (hb hby d1_10) rfl ?_
    exact kt
  obtain ⟨T4, h4, X4, e4, W4, st4⟩ := putF X3 hx hZ hown (host := "") (Or.inl (hw _ (List.mem_of_getElem? (i := 16) rfl))) Via.refl e3 F_counted_3 E_3 (Or.inr ⟨(hw _ (List.mem_of_getElem? (i := 17) rfl)), rfl, hnm⟩) (hw _ (List.mem_of_getElem? (i := 1) rfl)) (ty := .long) (by decide) rfl rfl (g := (mkF m 11 #[.val (.ref a1), .val (.int p2), .val (.long p3), .second, .val (.long p4), .second, .val (.int p5)] [(.long p3), (.ref a1)])) rfl rfl (hb hby d1_11)
  have F_budget_4 := F_budget_3.other W4 (Or.inr (slot_ne (Or.inr (hw _ (List.mem_of_getElem? (i := 15) rfl))) (Or.inr (hw _ (List.mem_of_getElem? (i := 17) rfl))) (by decide) (t := .int) (t' := .long) (by decide) (by decide)))
  have F_counted_4 : Fld Z h4 a1 "com/example/okay_bearer/okaybearer/ratelimit/RateLimiter$Tally" "counted" "J" (.long p3) := F_counted_3.same W4
  have F_end_4 := F_end_3.other W4 (Or.inr (slot_ne (Or.inr (hw _ (List.mem_of_getElem? (i := 19) rfl))) (Or.inr (hw _ (List.mem_of_getElem? (i := 17) rfl))) (by decide) (t := .long) (t' := .long) (by decide) (by decide)))
  have F_kept_4 := F_kept_3.other W4 (Or.inr (slot_ne (Or.inr (hw _ (List.mem_of_getElem? (i := 21) rfl))) (Or.inr (hw _ (List.mem_of_getElem? (i := 17) rfl))) (by decide) (t := .boolean) (t' := .long) (by decide) (by decide)))
  have E_4 := E_3.wr W4
  have K4 : Keep h0 h4 [a1] := K3.wr W4 (Or.inl (List.mem_of_getElem? (i := 0) rfl))
  have N4 := Fr.snoc X4 N3 g_a1
  refine own_via (Y' := (T4.setTop (mkF m 14 #[.val (.ref a1), .val (.int p2), .val (.long p3), .second, .val (.long p4), .second, .val (.int p5)] []))) (fun t kt => st4 _ kt) ?_
  refine own_via (Y' := (T4.setTop (mkF m 17 #[.val (.ref a1), .val (.int p2), .val (.long p3), .second, .val (.long p4), .second, .val (.int p5)] [(.long p4), (.ref a1)]))) (fun t kt => ?_) ?_
  · show Steps p.tables e below (T4.setTop (mkF m 14 #[.val (.ref a1), .val (.int p2), .val (.long p3), .second, .val (.long p4), .second, .val (.int p5)] [])) _
    refine XS.aloadN X4.here hx rfl (hb hby d1_14) rfl rfl ?_
    show Steps p.tables e below (T4.setTop (mkF m 15 #[.val (.ref a1), .val (.int p2), .val (.long p3), .second, .val (.long p4), .second, .val (.int p5)] [(.ref a1)])) _
    refine XT.lload X4.here hx rfl (hb hby d1_15) rfl ?_
    exact kt
  obtain ⟨T5, h5, X5, e5, W5, st5⟩ := putF X4 hx hZ hown (host := "") (Or.inl (hw _ (List.mem_of_getElem? (i := 18) rfl))) Via.refl e4 F_end_4 E_4 (Or.inr ⟨(hw _ (List.mem_of_getElem? (i := 19) rfl)), rfl, hnm⟩) (hw _ (List.mem_of_getElem? (i := 1) rfl)) (ty := .long) (by decide) rfl rfl (g := (mkF m 17 #[.val (.ref a1), .val (.int p2), .val (.long p3), .second, .val (.long p4), .second, .val (.int p5)] [(.long p4), (.ref a1)])) rfl rfl (hb hby d1_17)
  have F_budget_5 := F_budget_4.other W5 (Or.inr (slot_ne (Or.inr (hw _ (List.mem_of_getElem? (i := 15) rfl))) (Or.inr (hw _ (List.mem_of_getElem? (i := 19) rfl))) (by decide) (t := .int) (t' := .long) (by decide) (by decide)))
  have F_counted_5 := F_counted_4.other W5 (Or.inr (slot_ne (Or.inr (hw _ (List.mem_of_getElem? (i := 17) rfl))) (Or.inr (hw _ (List.mem_of_getElem? (i := 19) rfl))) (by decide) (t := .long) (t' := .long) (by decide) (by decide)))
  have F_end_5 : Fld Z h5 a1 "com/example/okay_bearer/okaybearer/ratelimit/RateLimiter$Tally" "end" "J" (.long p4) := F_end_4.same W5
  have F_kept_5 := F_kept_4.other W5 (Or.inr (slot_ne (Or.inr (hw _ (List.mem_of_getElem? (i := 21) rfl))) (Or.inr (hw _ (List.mem_of_getElem? (i := 19) rfl))) (by decide) (t := .boolean) (t' := .long) (by decide) (by decide)))
  have E_5 := E_4.wr W5
  have K5 : Keep h0 h5 [a1] := K4.wr W5 (Or.inl (List.mem_of_getElem? (i := 0) rfl))
  have N5 := Fr.snoc X5 N4 g_a1
  refine own_via (Y' := (T5.setTop (mkF m 20 #[.val (.ref a1), .val (.int p2), .val (.long p3), .second, .val (.long p4), .second, .val (.int p5)] []))) (fun t kt => st5 _ kt) ?_
  refine own_via (Y' := (T5.setTop (mkF m 23 #[.val (.ref a1), .val (.int p2), .val (.long p3), .second, .val (.long p4), .second, .val (.int p5)] [(.int p5), (.ref a1)]))) (fun t kt => ?_) ?_
  · show Steps p.tables e below (T5.setTop (mkF m 20 #[.val (.ref a1), .val (.int p2), .val (.long p3), .second, .val (.long p4), .second, .val (.int p5)] [])) _
    refine XS.aloadN X5.here hx rfl (hb hby d1_20) rfl rfl ?_
    show Steps p.tables e below (T5.setTop (mkF m 21 #[.val (.ref a1), .val (.int p2), .val (.long p3), .second, .val (.long p4), .second, .val (.int p5)] [(.ref a1)])) _
    refine XS.iload X5.here hx rfl (hb hby d1_21) rfl ?_
    exact kt
  obtain ⟨T6, h6, X6, e6, W6, st6⟩ := putFN X5 hx hZ hown (hw _ (List.mem_of_getElem? (i := 20) rfl)) Via.refl e5 F_kept_5 E_5 (Or.inr ⟨(hw _ (List.mem_of_getElem? (i := 21) rfl)), rfl, hnm⟩) (hw _ (List.mem_of_getElem? (i := 1) rfl)) (ty := .boolean) (v' := (.int (nar .boolean p5))) (by decide) rfl (fits_nar_bool _) (g := (mkF m 23 #[.val (.ref a1), .val (.int p2), .val (.long p3), .second, .val (.long p4), .second, .val (.int p5)] [(.int p5), (.ref a1)])) rfl rfl (hb hby d1_23)
  have F_budget_6 := F_budget_5.other W6 (Or.inr (slot_ne (Or.inr (hw _ (List.mem_of_getElem? (i := 15) rfl))) (Or.inr (hw _ (List.mem_of_getElem? (i := 21) rfl))) (by decide) (t := .int) (t' := .boolean) (by decide) (by decide)))
  have F_counted_6 := F_counted_5.other W6 (Or.inr (slot_ne (Or.inr (hw _ (List.mem_of_getElem? (i := 17) rfl))) (Or.inr (hw _ (List.mem_of_getElem? (i := 21) rfl))) (by decide) (t := .long) (t' := .boolean) (by decide) (by decide)))
  have F_end_6 := F_end_5.other W6 (Or.inr (slot_ne (Or.inr (hw _ (List.mem_of_getElem? (i := 19) rfl))) (Or.inr (hw _ (List.mem_of_getElem? (i := 21) rfl))) (by decide) (t := .long) (t' := .boolean) (by decide) (by decide)))
  have F_kept_6 : Fld Z h6 a1 "com/example/okay_bearer/okaybearer/ratelimit/RateLimiter$Tally" "kept" "Z" (.int (nar .boolean p5)) := F_kept_5.same W6
  have E_6 := E_5.wr W6
  have K6 : Keep h0 h6 [a1] := K5.wr W6 (Or.inl (List.mem_of_getElem? (i := 0) rfl))
  have N6 := Fr.snoc X6 N5 g_a1
  refine own_via (Y' := (T6.setTop (mkF m 26 #[.val (.ref a1), .val (.int p2), .val (.long p3), .second, .val (.long p4), .second, .val (.int p5)] []))) (fun t kt => st6 _ kt) ?_
  obtain ⟨fs, hr, hrun, hended, hW, hsame⟩ := X6.leave (v := none) (fun _ => rfl)
  refine ⟨_, _, ?_, hrun, hended, _, _, rfl, ?_, ⟨_, rfl⟩, hW, hsame.mono (by decide) (by decide)⟩
  · show Steps p.tables e below (T6.setTop (mkF m 26 #[.val (.ref a1), .val (.int p2), .val (.long p3), .second, .val (.long p4), .second, .val (.int p5)] [])) _
    exact X6.returnOut hx Bd.returns (hb hby d1_26) hr
  · show own_QC Z a1 p2 p3 p4 p5 h0 n0 _ T6.heap _; rw [e6]; exact ⟨rfl, N6, K6, E_6, F_budget_6, F_counted_6, F_end_6, F_kept_6⟩
theorem ef_4 (m : MethodId) (a1 : Addr) : entryFrame m #[(.ref a1)] 1 = mkF m 0 #[.val (.ref a1)] [] := by first | (simp [entryFrame, mkF, argsToLocals, Value.category]; done) | rfl
set_option maxRecDepth 65536 in
set_option maxHeartbeats 40000000 in
theorem rm4 (l : Launch) (Z : State) (a0 : Array Value) (hw : ∀ d ∈ tables_1, d.before a0 Z = true) (ws : List Jvm.Cond) (a1 : Addr) (k : Int32) (n : Int64) (b : Int32) (h0 : Heap) (F_k : Fld Z h0 a1 "com/example/okay_bearer/okaybearer/ratelimit/RateLimiter$Tally" "kept" "Z" (.int k)) (F_n : Fld Z h0 a1 "com/example/okay_bearer/okaybearer/ratelimit/RateLimiter$Tally" "counted" "J" (.long n)) (F_b : Fld Z h0 a1 "com/example/okay_bearer/okaybearer/ratelimit/RateLimiter$Tally" "budget" "I" (.int b)) :
    MetFree l (⟨"com/example/okay_bearer/okaybearer/ratelimit/RateLimiter$Tally", "allows", "()Z"⟩ : MethodName) (head1 (Jvm.Cond.code (⟨"com/example/okay_bearer/okaybearer/ratelimit/RateLimiter$Tally", "allows", "()Z"⟩ : MethodName) prog_20_method_3_code 1 (some .boolean) :: ws) ({ frames := 0, cells := 0, slots := 0, locals := 0 } : Room)) (fun a U => a = #[(.ref a1)] ∧ Z.Warmed39 U.vm ∧ U.heap = h0) (fun _ _ _ _ _ => True) (fun _ U o U' => ∃ v L, o = .returned v ∧ own_Q (some (.int (own_allow k n b))) h0 v U'.heap L ∧ FrameEnd U o U' L ({ frames := 0, cells := 0, slots := 0, locals := 0 } : Room).cells ({ frames := 0, cells := 0, slots := 0, locals := 0 } : Room).slots) := by
  refine MetFree.of_bodySF (plainFor_of_name pn_RateLimiter_Tally) hisR ?_
  intro p e s m args below meth c s₁ Bd hml0 hP hK
  obtain ⟨rfl, hZ, hh⟩ := hP
  have hx := Bd.exec
  have hby := Bd.bytes
  have hml : c.maxLocals = 1 := hml0
  have hown : s.vm.findClass "com/example/okay_bearer/okaybearer/ratelimit/RateLimiter$Tally" = some m.cls := findClass_of_methodNamed Bd.named
  have hnm := (name_of_methodNamed Bd.named Bd.method).1
  have X0 : Stand p l e ({ frames := 0, cells := 0, slots := 0, locals := 0 } : Room) s m #[(.ref a1)] below meth c s₁ [] 0 0 := Stand.of_body Bd
  have e0 : s₁.heap = h0 := by rw [← hh, Bd.state]; rfl
  refine own_via (Y' := (s₁.setTop (mkF m 0 #[.val (.ref a1)] []))) (fun t kt => castTop (ef_4 m a1) kt) ?_
  refine own_via (Y' := (s₁.setTop (mkF m 1 #[.val (.ref a1)] [(.ref a1)]))) (fun t kt => ?_) ?_
  · show Steps p.tables e below (s₁.setTop (mkF m 0 #[.val (.ref a1)] [])) _
    refine XS.aloadN X0.here hx rfl (hb hby d4_0) rfl rfl ?_
    exact kt
  obtain ⟨T7, X7, e7, st7⟩ := getF X0 hx hZ hown (host := "") (Or.inl (hw _ (List.mem_of_getElem? (i := 20) rfl))) Via.refl e0 F_k (g := (mkF m 1 #[.val (.ref a1)] [(.ref a1)])) rfl rfl (hb hby d4_1)
  refine own_via (Y' := (T7.setTop (mkF m 4 #[.val (.ref a1)] [(.int k)]))) (fun t kt => st7 _ kt) ?_
  by_cases h1 : k = 0
  · obtain ⟨fs, hr, hrun, hended, hW, hsame⟩ := X7.leave (v := (some (.int (0 : Int32)))) (fun h => by rw [Bd.returns] at h; cases h)
    refine ⟨_, _, ?_, hrun, hended, _, _, rfl, ?_, ⟨_, rfl⟩, hW, hsame.mono (by decide) (by decide)⟩
    · show Steps p.tables e below (T7.setTop (mkF m 4 #[.val (.ref a1)] [(.int k)])) _
      refine XS.ifYes X7.here hx rfl (pc0 := 4) (pc' := 24) rfl (hb hby d4_4) rfl (XT.i0_eq_t h1) (by decide) (by decide) ?_
      show Steps p.tables e below (T7.setTop (mkF m 24 #[.val (.ref a1)] [])) _
      refine XT.iconstV X7.here hx rfl (0 : Int32) (hb hby d4_24) (by decide) ?_
      show Steps p.tables e below (T7.setTop (mkF m 25 #[.val (.ref a1)] [(.int (0 : Int32))])) _
      exact retN X7 hx (t := .boolean) Bd.returns (by simp) (hb hby d4_25) hr
    · exact ⟨by simp only [own_allow, if_pos h1], rfl, e7⟩
  · refine own_via (Y' := (T7.setTop (mkF m 8 #[.val (.ref a1)] [(.ref a1)]))) (fun t kt => ?_) ?_
    · show Steps p.tables e below (T7.setTop (mkF m 4 #[.val (.ref a1)] [(.int k)])) _
      refine XS.ifNo X7.here hx rfl (hb hby d4_4) rfl (XT.i0_eq_f h1) ?_
      show Steps p.tables e below (T7.setTop (mkF m 7 #[.val (.ref a1)] [])) _
      refine XS.aloadN X7.here hx rfl (hb hby d4_7) rfl rfl ?_
      exact kt
    obtain ⟨T8, X8, e8, st8⟩ := getF X7 hx hZ hown (host := "") (Or.inl (hw _ (List.mem_of_getElem? (i := 16) rfl))) Via.refl e7 F_n (g := (mkF m 8 #[.val (.ref a1)] [(.ref a1)])) rfl rfl (hb hby d4_8)
    refine own_via (Y' := (T8.setTop (mkF m 11 #[.val (.ref a1)] [(.long n)]))) (fun t kt => st8 _ kt) ?_
    refine own_via (Y' := (T8.setTop (mkF m 12 #[.val (.ref a1)] [(.ref a1), (.long n)]))) (fun t kt => ?_) ?_
    · show Steps p.tables e below (T8.setTop (mkF m 11 #[.val (.ref a1)] [(.long n)])) _
      refine XS.aloadN X8.here hx rfl (hb hby d4_11) rfl rfl ?_
      exact kt
    obtain ⟨T9, X9, e9, st9⟩ := getF X8 hx hZ hown (host := "") (Or.inl (hw _ (List.mem_of_getElem? (i := 14) rfl))) Via.refl e8 F_b (g := (mkF m 12 #[.val (.ref a1)] [(.ref a1), (.long n)])) rfl rfl (hb hby d4_12)
    refine own_via (Y' := (T9.setTop (mkF m 15 #[.val (.ref a1)] [(.int b), (.long n)]))) (fun t kt => st9 _ kt) ?_
    refine own_via (Y' := (T9.setTop (mkF m 17 #[.val (.ref a1)] [(.int (XT.cmpL n (b.toInt64)))]))) (fun t kt => ?_) ?_
    · show Steps p.tables e below (T9.setTop (mkF m 15 #[.val (.ref a1)] [(.int b), (.long n)])) _
      refine XT.i2l X9.here hx rfl (hb hby d4_15) rfl ?_
      show Steps p.tables e below (T9.setTop (mkF m 16 #[.val (.ref a1)] [(.long (b.toInt64)), (.long n)])) _
      refine XT.lcmp X9.here hx rfl (hb hby d4_16) rfl ?_
      exact kt
    by_cases h2 : (b.toInt64) < n
    · obtain ⟨fs, hr, hrun, hended, hW, hsame⟩ := X9.leave (v := (some (.int (0 : Int32)))) (fun h => by rw [Bd.returns] at h; cases h)
      refine ⟨_, _, ?_, hrun, hended, _, _, rfl, ?_, ⟨_, rfl⟩, hW, hsame.mono (by decide) (by decide)⟩
      · show Steps p.tables e below (T9.setTop (mkF m 17 #[.val (.ref a1)] [(.int (XT.cmpL n (b.toInt64)))])) _
        refine XS.ifYes X9.here hx rfl (pc0 := 17) (pc' := 24) rfl (hb hby d4_17) rfl (XT.ll_gt_t h2) (by decide) (by decide) ?_
        show Steps p.tables e below (T9.setTop (mkF m 24 #[.val (.ref a1)] [])) _
        refine XT.iconstV X9.here hx rfl (0 : Int32) (hb hby d4_24) (by decide) ?_
        show Steps p.tables e below (T9.setTop (mkF m 25 #[.val (.ref a1)] [(.int (0 : Int32))])) _
        exact retN X9 hx (t := .boolean) Bd.returns (by simp) (hb hby d4_25) hr
      · exact ⟨by simp only [own_allow, if_neg h1, if_pos h2], rfl, e9⟩
    · obtain ⟨fs, hr, hrun, hended, hW, hsame⟩ := X9.leave (v := (some (.int (1 : Int32)))) (fun h => by rw [Bd.returns] at h; cases h)
      refine ⟨_, _, ?_, hrun, hended, _, _, rfl, ?_, ⟨_, rfl⟩, hW, hsame.mono (by decide) (by decide)⟩
      · show Steps p.tables e below (T9.setTop (mkF m 17 #[.val (.ref a1)] [(.int (XT.cmpL n (b.toInt64)))])) _
        refine XS.ifNo X9.here hx rfl (hb hby d4_17) rfl (XT.ll_gt_f h2) ?_
        show Steps p.tables e below (T9.setTop (mkF m 20 #[.val (.ref a1)] [])) _
        refine XT.iconstV X9.here hx rfl (1 : Int32) (hb hby d4_20) (by decide) ?_
        show Steps p.tables e below (T9.setTop (mkF m 21 #[.val (.ref a1)] [(.int (1 : Int32))])) _
        refine XS.goto X9.here hx rfl (pc0 := 21) (pc' := 25) rfl (hb hby d4_21) (by decide) (by decide) ?_
        show Steps p.tables e below (T9.setTop (mkF m 25 #[.val (.ref a1)] [(.int (1 : Int32))])) _
        exact retN X9 hx (t := .boolean) Bd.returns (by simp) (hb hby d4_25) hr
      · exact ⟨by simp only [own_allow, if_neg h1, if_neg h2], rfl, e9⟩
theorem ef_5 (m : MethodId) (a1 : Addr) : entryFrame m #[(.ref a1)] 1 = mkF m 0 #[.val (.ref a1)] [] := by first | (simp [entryFrame, mkF, argsToLocals, Value.category]; done) | rfl
set_option maxRecDepth 65536 in
set_option maxHeartbeats 40000000 in
theorem rm5 (l : Launch) (Z : State) (a0 : Array Value) (hw : ∀ d ∈ tables_1, d.before a0 Z = true) (ws : List Jvm.Cond) (a1 : Addr) (k : Int32) (h0 : Heap) (F_k : Fld Z h0 a1 "com/example/okay_bearer/okaybearer/ratelimit/RateLimiter$Tally" "kept" "Z" (.int k)) :
    MetFree l (⟨"com/example/okay_bearer/okaybearer/ratelimit/RateLimiter$Tally", "kept", "()Z"⟩ : MethodName) (head1 (Jvm.Cond.code (⟨"com/example/okay_bearer/okaybearer/ratelimit/RateLimiter$Tally", "kept", "()Z"⟩ : MethodName) prog_20_method_11_code 1 (some .boolean) :: ws) ({ frames := 0, cells := 0, slots := 0, locals := 0 } : Room)) (fun a U => a = #[(.ref a1)] ∧ Z.Warmed39 U.vm ∧ U.heap = h0) (fun _ _ _ _ _ => True) (fun _ U o U' => ∃ v L, o = .returned v ∧ own_Q (some (.int (nar .boolean k))) h0 v U'.heap L ∧ FrameEnd U o U' L ({ frames := 0, cells := 0, slots := 0, locals := 0 } : Room).cells ({ frames := 0, cells := 0, slots := 0, locals := 0 } : Room).slots) := by
  refine MetFree.of_bodySF (plainFor_of_name pn_RateLimiter_Tally) hisR ?_
  intro p e s m args below meth c s₁ Bd hml0 hP hK
  obtain ⟨rfl, hZ, hh⟩ := hP
  have hx := Bd.exec
  have hby := Bd.bytes
  have hml : c.maxLocals = 1 := hml0
  have hown : s.vm.findClass "com/example/okay_bearer/okaybearer/ratelimit/RateLimiter$Tally" = some m.cls := findClass_of_methodNamed Bd.named
  have hnm := (name_of_methodNamed Bd.named Bd.method).1
  have X0 : Stand p l e ({ frames := 0, cells := 0, slots := 0, locals := 0 } : Room) s m #[(.ref a1)] below meth c s₁ [] 0 0 := Stand.of_body Bd
  have e0 : s₁.heap = h0 := by rw [← hh, Bd.state]; rfl
  refine own_via (Y' := (s₁.setTop (mkF m 0 #[.val (.ref a1)] []))) (fun t kt => castTop (ef_5 m a1) kt) ?_
  refine own_via (Y' := (s₁.setTop (mkF m 1 #[.val (.ref a1)] [(.ref a1)]))) (fun t kt => ?_) ?_
  · show Steps p.tables e below (s₁.setTop (mkF m 0 #[.val (.ref a1)] [])) _
    refine XS.aloadN X0.here hx rfl (hb hby d5_0) rfl rfl ?_
    exact kt
  obtain ⟨T10, X10, e10, st10⟩ := getF X0 hx hZ hown (host := "") (Or.inl (hw _ (List.mem_of_getElem? (i := 20) rfl))) Via.refl e0 F_k (g := (mkF m 1 #[.val (.ref a1)] [(.ref a1)])) rfl rfl (hb hby d5_1)
  refine own_via (Y' := (T10.setTop (mkF m 4 #[.val (.ref a1)] [(.int k)]))) (fun t kt => st10 _ kt) ?_
  obtain ⟨fs, hr, hrun, hended, hW, hsame⟩ := X10.leave (v := (some (.int (nar .boolean k)))) (fun h => by rw [Bd.returns] at h; cases h)
  refine ⟨_, _, ?_, hrun, hended, _, _, rfl, ?_, ⟨_, rfl⟩, hW, hsame.mono (by decide) (by decide)⟩
  · show Steps p.tables e below (T10.setTop (mkF m 4 #[.val (.ref a1)] [(.int k)])) _
    exact retN X10 hx (t := .boolean) Bd.returns (by simp) (hb hby d5_4) hr
  · exact ⟨rfl, rfl, e10⟩
theorem ef_6 (m : MethodId) (a1 : Addr) : entryFrame m #[(.ref a1)] 1 = mkF m 0 #[.val (.ref a1)] [] := by first | (simp [entryFrame, mkF, argsToLocals, Value.category]; done) | rfl
set_option maxRecDepth 65536 in
set_option maxHeartbeats 40000000 in
theorem rm6 (l : Launch) (Z : State) (a0 : Array Value) (hw : ∀ d ∈ tables_1, d.before a0 Z = true) (ws : List Jvm.Cond) (a1 : Addr) (n : Int64) (h0 : Heap) (F_n : Fld Z h0 a1 "com/example/okay_bearer/okaybearer/ratelimit/RateLimiter$Tally" "counted" "J" (.long n)) :
    MetFree l (⟨"com/example/okay_bearer/okaybearer/ratelimit/RateLimiter$Tally", "counted", "()J"⟩ : MethodName) (head1 (Jvm.Cond.code (⟨"com/example/okay_bearer/okaybearer/ratelimit/RateLimiter$Tally", "counted", "()J"⟩ : MethodName) prog_20_method_9_code 1 (some .long) :: ws) ({ frames := 0, cells := 0, slots := 0, locals := 0 } : Room)) (fun a U => a = #[(.ref a1)] ∧ Z.Warmed39 U.vm ∧ U.heap = h0) (fun _ _ _ _ _ => True) (fun _ U o U' => ∃ v L, o = .returned v ∧ own_Q (some (.long n)) h0 v U'.heap L ∧ FrameEnd U o U' L ({ frames := 0, cells := 0, slots := 0, locals := 0 } : Room).cells ({ frames := 0, cells := 0, slots := 0, locals := 0 } : Room).slots) := by
  refine MetFree.of_bodySF (plainFor_of_name pn_RateLimiter_Tally) hisR ?_
  intro p e s m args below meth c s₁ Bd hml0 hP hK
  obtain ⟨rfl, hZ, hh⟩ := hP
  have hx := Bd.exec
  have hby := Bd.bytes
  have hml : c.maxLocals = 1 := hml0
  have hown : s.vm.findClass "com/example/okay_bearer/okaybearer/ratelimit/RateLimiter$Tally" = some m.cls := findClass_of_methodNamed Bd.named
  have hnm := (name_of_methodNamed Bd.named Bd.method).1
  have X0 : Stand p l e ({ frames := 0, cells := 0, slots := 0, locals := 0 } : Room) s m #[(.ref a1)] below meth c s₁ [] 0 0 := Stand.of_body Bd
  have e0 : s₁.heap = h0 := by rw [← hh, Bd.state]; rfl
  refine own_via (Y' := (s₁.setTop (mkF m 0 #[.val (.ref a1)] []))) (fun t kt => castTop (ef_6 m a1) kt) ?_
  refine own_via (Y' := (s₁.setTop (mkF m 1 #[.val (.ref a1)] [(.ref a1)]))) (fun t kt => ?_) ?_
  · show Steps p.tables e below (s₁.setTop (mkF m 0 #[.val (.ref a1)] [])) _
    refine XS.aloadN X0.here hx rfl (hb hby d6_0) rfl rfl ?_
    exact kt
  obtain ⟨T11, X11, e11, st11⟩ := getF X0 hx hZ hown (host := "") (Or.inl (hw _ (List.mem_of_getElem? (i := 16) rfl))) Via.refl e0 F_n (g := (mkF m 1 #[.val (.ref a1)] [(.ref a1)])) rfl rfl (hb hby d6_1)
  refine own_via (Y' := (T11.setTop (mkF m 4 #[.val (.ref a1)] [(.long n)]))) (fun t kt => st11 _ kt) ?_
  obtain ⟨fs, hr, hrun, hended, hW, hsame⟩ := X11.leave (v := (some (.long n))) (fun h => by rw [Bd.returns] at h; cases h)
  refine ⟨_, _, ?_, hrun, hended, _, _, rfl, ?_, ⟨_, rfl⟩, hW, hsame.mono (by decide) (by decide)⟩
  · show Steps p.tables e below (T11.setTop (mkF m 4 #[.val (.ref a1)] [(.long n)])) _
    exact X11.lreturnOut hx Bd.returns (hb hby d6_4) hr
  · exact ⟨rfl, rfl, e11⟩
theorem ef_7 (m : MethodId) (a1 : Addr) : entryFrame m #[(.ref a1)] 1 = mkF m 0 #[.val (.ref a1)] [] := by first | (simp [entryFrame, mkF, argsToLocals, Value.category]; done) | rfl
set_option maxRecDepth 65536 in
set_option maxHeartbeats 40000000 in
theorem rm7 (l : Launch) (Z : State) (a0 : Array Value) (hw : ∀ d ∈ tables_1, d.before a0 Z = true) (ws : List Jvm.Cond) (a1 : Addr) (b : Int32) (h0 : Heap) (F_b : Fld Z h0 a1 "com/example/okay_bearer/okaybearer/ratelimit/RateLimiter$Tally" "budget" "I" (.int b)) :
    MetFree l (⟨"com/example/okay_bearer/okaybearer/ratelimit/RateLimiter$Tally", "budget", "()I"⟩ : MethodName) (head1 (Jvm.Cond.code (⟨"com/example/okay_bearer/okaybearer/ratelimit/RateLimiter$Tally", "budget", "()I"⟩ : MethodName) prog_20_method_8_code 1 (some .int) :: ws) ({ frames := 0, cells := 0, slots := 0, locals := 0 } : Room)) (fun a U => a = #[(.ref a1)] ∧ Z.Warmed39 U.vm ∧ U.heap = h0) (fun _ _ _ _ _ => True) (fun _ U o U' => ∃ v L, o = .returned v ∧ own_Q (some (.int b)) h0 v U'.heap L ∧ FrameEnd U o U' L ({ frames := 0, cells := 0, slots := 0, locals := 0 } : Room).cells ({ frames := 0, cells := 0, slots := 0, locals := 0 } : Room).slots) := by
  refine MetFree.of_bodySF (plainFor_of_name pn_RateLimiter_Tally) hisR ?_
  intro p e s m args below meth c s₁ Bd hml0 hP hK
  obtain ⟨rfl, hZ, hh⟩ := hP
  have hx := Bd.exec
  have hby := Bd.bytes
  have hml : c.maxLocals = 1 := hml0
  have hown : s.vm.findClass "com/example/okay_bearer/okaybearer/ratelimit/RateLimiter$Tally" = some m.cls := findClass_of_methodNamed Bd.named
  have hnm := (name_of_methodNamed Bd.named Bd.method).1
  have X0 : Stand p l e ({ frames := 0, cells := 0, slots := 0, locals := 0 } : Room) s m #[(.ref a1)] below meth c s₁ [] 0 0 := Stand.of_body Bd
  have e0 : s₁.heap = h0 := by rw [← hh, Bd.state]; rfl
  refine own_via (Y' := (s₁.setTop (mkF m 0 #[.val (.ref a1)] []))) (fun t kt => castTop (ef_7 m a1) kt) ?_
  refine own_via (Y' := (s₁.setTop (mkF m 1 #[.val (.ref a1)] [(.ref a1)]))) (fun t kt => ?_) ?_
  · show Steps p.tables e below (s₁.setTop (mkF m 0 #[.val (.ref a1)] [])) _
    refine XS.aloadN X0.here hx rfl (hb hby d7_0) rfl rfl ?_
    exact kt
  obtain ⟨T12, X12, e12, st12⟩ := getF X0 hx hZ hown (host := "") (Or.inl (hw _ (List.mem_of_getElem? (i := 14) rfl))) Via.refl e0 F_b (g := (mkF m 1 #[.val (.ref a1)] [(.ref a1)])) rfl rfl (hb hby d7_1)
  refine own_via (Y' := (T12.setTop (mkF m 4 #[.val (.ref a1)] [(.int b)]))) (fun t kt => st12 _ kt) ?_
  obtain ⟨fs, hr, hrun, hended, hW, hsame⟩ := X12.leave (v := (some (.int b))) (fun h => by rw [Bd.returns] at h; cases h)
  refine ⟨_, _, ?_, hrun, hended, _, _, rfl, ?_, ⟨_, rfl⟩, hW, hsame.mono (by decide) (by decide)⟩
  · show Steps p.tables e below (T12.setTop (mkF m 4 #[.val (.ref a1)] [(.int b)])) _
    exact retI X12 hx Bd.returns (hb hby d7_4) hr
  · exact ⟨rfl, rfl, e12⟩
/-- what the law leaves: it returns 1; whatever was written lies in new cells -/
def own_Q0 (n0 : Nat) (v : Option Value) (h : Heap) (L : List Loc) : Prop := v = some (.int (1 : Int32)) ∧ Fr n0 L
theorem ef_0 (m : MethodId) (p1 : Int32) (p2 : Int64) (p3 : Int64) (p4 : Int32) : entryFrame m #[(.int p1), (.long p2), (.long p3), (.int p4)] maxLocals = mkF m 0 #[.val (.int p1), .val (.long p2), .second, .val (.long p3), .second, .val (.int p4), .unset, .unset, .unset, .unset, .unset] [] := by first | (simp [entryFrame, mkF, argsToLocals, Value.category, maxLocals]; done) | rfl
set_option maxRecDepth 65536 in
set_option maxHeartbeats 40000000 in
theorem rm0 (l : Launch) (Z : State) (a0 : Array Value) (hw : ∀ d ∈ tables_1, d.before a0 Z = true) (ws : List Jvm.Cond) (p1 : Int32) (p2 : Int64) (p3 : Int64) (p4 : Int32) (h0 : Heap) (n0 : Nat) (Z0 : n0 ≤ h0.size) :
    MetFree l x (head1 (Jvm.Cond.code x code maxLocals ret :: ws) room_1) (fun a U => a = #[(.int p1), (.long p2), (.long p3), (.int p4)] ∧ Z.Warmed39 U.vm ∧ U.heap = h0) (fun _ _ _ _ _ => True) (fun _ U o U' => ∃ v L, o = .returned v ∧ own_Q0 n0 v U'.heap L ∧ FrameEnd U o U' L room_1.cells room_1.slots) := by
  refine MetFree.of_bodySF (plainFor_of_name pn_TallyAllowsPinLaw) hisR ?_
  intro p e s m args below meth c s₁ Bd hml0 hP hK
  obtain ⟨rfl, hZ, hh⟩ := hP
  have hx := Bd.exec
  have hby := Bd.bytes
  have hml : c.maxLocals = 11 := hml0
  have hown : s.vm.findClass "com/example/okay_bearer/okaybearer/ratelimit/TallyAllowsPinLaw" = some m.cls := findClass_of_methodNamed Bd.named
  have hnm := (name_of_methodNamed Bd.named Bd.method).1
  have X0 : Stand p l e room_1 s m #[(.int p1), (.long p2), (.long p3), (.int p4)] below meth c s₁ [] 0 0 := Stand.of_body Bd
  have e0 : s₁.heap = h0 := by rw [← hh, Bd.state]; rfl
  refine own_via (Y' := (s₁.setTop (mkF m 0 #[.val (.int p1), .val (.long p2), .second, .val (.long p3), .second, .val (.int p4), .unset, .unset, .unset, .unset, .unset] []))) (fun t kt => castTop (ef_0 m p1 p2 p3 p4) kt) ?_
  refine own_via (Y' := (s₁.setTop (mkF m 4 #[.val (.int p1), .val (.long p2), .second, .val (.long p3), .second, .val (.int p4), .unset, .unset, .unset, .unset, .unset] [(.int (p4 &&& (1 : Int32)))]))) (fun t kt => ?_) ?_
  · show Steps p.tables e below (s₁.setTop (mkF m 0 #[.val (.int p1), .val (.long p2), .second, .val (.long p3), .second, .val (.int p4), .unset, .unset, .unset, .unset, .unset] [])) _
    refine XS.iload X0.here hx rfl (hb hby at_0) rfl ?_
    show Steps p.tables e below (s₁.setTop (mkF m 2 #[.val (.int p1), .val (.long p2), .second, .val (.long p3), .second, .val (.int p4), .unset, .unset, .unset, .unset, .unset] [(.int p4)])) _
    refine XT.iconstV X0.here hx rfl (1 : Int32) (hb hby at_2) (by decide) ?_
    show Steps p.tables e below (s₁.setTop (mkF m 3 #[.val (.int p1), .val (.long p2), .second, .val (.long p3), .second, .val (.int p4), .unset, .unset, .unset, .unset, .unset] [(.int (1 : Int32)), (.int p4)])) _
    refine XS.iand X0.here hx rfl (hb hby at_3) rfl ?_
    exact kt
  obtain ⟨kp, hkp, r13⟩ : ∃ kp : Int32, (kp = 0 ∨ kp = 1) ∧ ∀ t, Steps p.tables e below (s₁.setTop (mkF m 12 #[.val (.int p1), .val (.long p2), .second, .val (.long p3), .second, .val (.int p4), .unset, .unset, .unset, .unset, .unset] [(.int kp)])) t → Steps p.tables e below (s₁.setTop (mkF m 4 #[.val (.int p1), .val (.long p2), .second, .val (.long p3), .second, .val (.int p4), .unset, .unset, .unset, .unset, .unset] [(.int (p4 &&& (1 : Int32)))])) t := by
    by_cases h1 : (p4 &&& (1 : Int32)) = 0
    · refine own_via2 (Y' := (s₁.setTop (mkF m 12 #[.val (.int p1), .val (.long p2), .second, .val (.long p3), .second, .val (.int p4), .unset, .unset, .unset, .unset, .unset] [(.int (0 : Int32))]))) (fun t kt => ?_) ?_
      · show Steps p.tables e below (s₁.setTop (mkF m 4 #[.val (.int p1), .val (.long p2), .second, .val (.long p3), .second, .val (.int p4), .unset, .unset, .unset, .unset, .unset] [(.int (p4 &&& (1 : Int32)))])) _
        refine XS.ifYes X0.here hx rfl (pc0 := 4) (pc' := 11) rfl (hb hby at_4) rfl (XT.i0_eq_t h1) (by decide) (by decide) ?_
        show Steps p.tables e below (s₁.setTop (mkF m 11 #[.val (.int p1), .val (.long p2), .second, .val (.long p3), .second, .val (.int p4), .unset, .unset, .unset, .unset, .unset] [])) _
        refine XT.iconstV X0.here hx rfl (0 : Int32) (hb hby at_11) (by decide) ?_
        exact kt
      exact ⟨(0 : Int32), Or.inl rfl, fun t kt => kt⟩
    · refine own_via2 (Y' := (s₁.setTop (mkF m 12 #[.val (.int p1), .val (.long p2), .second, .val (.long p3), .second, .val (.int p4), .unset, .unset, .unset, .unset, .unset] [(.int (1 : Int32))]))) (fun t kt => ?_) ?_
      · show Steps p.tables e below (s₁.setTop (mkF m 4 #[.val (.int p1), .val (.long p2), .second, .val (.long p3), .second, .val (.int p4), .unset, .unset, .unset, .unset, .unset] [(.int (p4 &&& (1 : Int32)))])) _
        refine XS.ifNo X0.here hx rfl (hb hby at_4) rfl (XT.i0_eq_f h1) ?_
        show Steps p.tables e below (s₁.setTop (mkF m 7 #[.val (.int p1), .val (.long p2), .second, .val (.long p3), .second, .val (.int p4), .unset, .unset, .unset, .unset, .unset] [])) _
        refine XT.iconstV X0.here hx rfl (1 : Int32) (hb hby at_7) (by decide) ?_
        show Steps p.tables e below (s₁.setTop (mkF m 8 #[.val (.int p1), .val (.long p2), .second, .val (.long p3), .second, .val (.int p4), .unset, .unset, .unset, .unset, .unset] [(.int (1 : Int32))])) _
        refine XS.goto X0.here hx rfl (pc0 := 8) (pc' := 12) rfl (hb hby at_8) (by decide) (by decide) ?_
        exact kt
      exact ⟨(1 : Int32), Or.inr rfl, fun t kt => kt⟩
  refine own_via (Y' := (s₁.setTop (mkF m 12 #[.val (.int p1), .val (.long p2), .second, .val (.long p3), .second, .val (.int p4), .unset, .unset, .unset, .unset, .unset] [(.int kp)]))) (fun t kt => r13 t kt) ?_
  have hkb : nar .boolean kp = kp := own_bit kp hkp
  refine own_via (Y' := (s₁.setTop (mkF m 21 #[.val (.int p1), .val (.long p2), .second, .val (.long p3), .second, .val (.int p4), .val (.int kp), .val (.long p2), .second, .unset, .unset] [(.int (p4 &&& (2 : Int32)))]))) (fun t kt => ?_) ?_
  · show Steps p.tables e below (s₁.setTop (mkF m 12 #[.val (.int p1), .val (.long p2), .second, .val (.long p3), .second, .val (.int p4), .unset, .unset, .unset, .unset, .unset] [(.int kp)])) _
    refine XS.istore X0.here hx rfl (hb hby at_12) rfl (l' := #[.val (.int p1), .val (.long p2), .second, .val (.long p3), .second, .val (.int p4), .val (.int kp), .unset, .unset, .unset, .unset]) rfl ?_
    show Steps p.tables e below (s₁.setTop (mkF m 14 #[.val (.int p1), .val (.long p2), .second, .val (.long p3), .second, .val (.int p4), .val (.int kp), .unset, .unset, .unset, .unset] [])) _
    refine XT.lloadN X0.here hx rfl (hb hby at_14) rfl ?_
    show Steps p.tables e below (s₁.setTop (mkF m 15 #[.val (.int p1), .val (.long p2), .second, .val (.long p3), .second, .val (.int p4), .val (.int kp), .unset, .unset, .unset, .unset] [(.long p2)])) _
    refine XT.lstore X0.here hx rfl (hb hby at_15) rfl (l' := #[.val (.int p1), .val (.long p2), .second, .val (.long p3), .second, .val (.int p4), .val (.int kp), .val (.long p2), .second, .unset, .unset]) rfl ?_
    show Steps p.tables e below (s₁.setTop (mkF m 17 #[.val (.int p1), .val (.long p2), .second, .val (.long p3), .second, .val (.int p4), .val (.int kp), .val (.long p2), .second, .unset, .unset] [])) _
    refine XS.iload X0.here hx rfl (hb hby at_17) rfl ?_
    show Steps p.tables e below (s₁.setTop (mkF m 19 #[.val (.int p1), .val (.long p2), .second, .val (.long p3), .second, .val (.int p4), .val (.int kp), .val (.long p2), .second, .unset, .unset] [(.int p4)])) _
    refine XT.iconstV X0.here hx rfl (2 : Int32) (hb hby at_19) (by decide) ?_
    show Steps p.tables e below (s₁.setTop (mkF m 20 #[.val (.int p1), .val (.long p2), .second, .val (.long p3), .second, .val (.int p4), .val (.int kp), .val (.long p2), .second, .unset, .unset] [(.int (2 : Int32)), (.int p4)])) _
    refine XS.iand X0.here hx rfl (hb hby at_20) rfl ?_
    exact kt
  obtain ⟨cc, hcc, r14⟩ : ∃ cc : Int64, (True) ∧ ∀ t, Steps p.tables e below (s₁.setTop (mkF m 38 #[.val (.int p1), .val (.long p2), .second, .val (.long p3), .second, .val (.int p4), .val (.int kp), .val (.long cc), .second, .unset, .unset] [])) t → Steps p.tables e below (s₁.setTop (mkF m 21 #[.val (.int p1), .val (.long p2), .second, .val (.long p3), .second, .val (.int p4), .val (.int kp), .val (.long p2), .second, .unset, .unset] [(.int (p4 &&& (2 : Int32)))])) t := by
    by_cases h1 : (p4 &&& (2 : Int32)) = 0
    · refine own_via2 (Y' := (s₁.setTop (mkF m 38 #[.val (.int p1), .val (.long p2), .second, .val (.long p3), .second, .val (.int p4), .val (.int kp), .val (.long p2), .second, .unset, .unset] []))) (fun t kt => ?_) ?_
      · show Steps p.tables e below (s₁.setTop (mkF m 21 #[.val (.int p1), .val (.long p2), .second, .val (.long p3), .second, .val (.int p4), .val (.int kp), .val (.long p2), .second, .unset, .unset] [(.int (p4 &&& (2 : Int32)))])) _
        refine XS.ifYes X0.here hx rfl (pc0 := 21) (pc' := 38) rfl (hb hby at_21) rfl (XT.i0_eq_t h1) (by decide) (by decide) ?_
        exact kt
      exact ⟨p2, trivial, fun t kt => kt⟩
    · refine own_via2 (Y' := (s₁.setTop (mkF m 38 #[.val (.int p1), .val (.long p2), .second, .val (.long p3), .second, .val (.int p4), .val (.int kp), .val (.long ((p1.toInt64) + ((((XT.ushr p4 (2 : Int32)) &&& (3 : Int32)) - (1 : Int32)).toInt64))), .second, .unset, .unset] []))) (fun t kt => ?_) ?_
      · show Steps p.tables e below (s₁.setTop (mkF m 21 #[.val (.int p1), .val (.long p2), .second, .val (.long p3), .second, .val (.int p4), .val (.int kp), .val (.long p2), .second, .unset, .unset] [(.int (p4 &&& (2 : Int32)))])) _
        refine XS.ifNo X0.here hx rfl (hb hby at_21) rfl (XT.i0_eq_f h1) ?_
        show Steps p.tables e below (s₁.setTop (mkF m 24 #[.val (.int p1), .val (.long p2), .second, .val (.long p3), .second, .val (.int p4), .val (.int kp), .val (.long p2), .second, .unset, .unset] [])) _
        refine XS.iloadN X0.here hx rfl (hb hby at_24) rfl ?_
        show Steps p.tables e below (s₁.setTop (mkF m 25 #[.val (.int p1), .val (.long p2), .second, .val (.long p3), .second, .val (.int p4), .val (.int kp), .val (.long p2), .second, .unset, .unset] [(.int p1)])) _
        refine XT.i2l X0.here hx rfl (hb hby at_25) rfl ?_
        show Steps p.tables e below (s₁.setTop (mkF m 26 #[.val (.int p1), .val (.long p2), .second, .val (.long p3), .second, .val (.int p4), .val (.int kp), .val (.long p2), .second, .unset, .unset] [(.long (p1.toInt64))])) _
        refine XS.iload X0.here hx rfl (hb hby at_26) rfl ?_
        show Steps p.tables e below (s₁.setTop (mkF m 28 #[.val (.int p1), .val (.long p2), .second, .val (.long p3), .second, .val (.int p4), .val (.int kp), .val (.long p2), .second, .unset, .unset] [(.int p4), (.long (p1.toInt64))])) _
        refine XT.iconstV X0.here hx rfl (2 : Int32) (hb hby at_28) (by decide) ?_
        show Steps p.tables e below (s₁.setTop (mkF m 29 #[.val (.int p1), .val (.long p2), .second, .val (.long p3), .second, .val (.int p4), .val (.int kp), .val (.long p2), .second, .unset, .unset] [(.int (2 : Int32)), (.int p4), (.long (p1.toInt64))])) _
        refine XT.iushr X0.here hx rfl (hb hby at_29) rfl ?_
        show Steps p.tables e below (s₁.setTop (mkF m 30 #[.val (.int p1), .val (.long p2), .second, .val (.long p3), .second, .val (.int p4), .val (.int kp), .val (.long p2), .second, .unset, .unset] [(.int (XT.ushr p4 (2 : Int32))), (.long (p1.toInt64))])) _
        refine XT.iconstV X0.here hx rfl (3 : Int32) (hb hby at_30) (by decide) ?_
        show Steps p.tables e below (s₁.setTop (mkF m 31 #[.val (.int p1), .val (.long p2), .second, .val (.long p3), .second, .val (.int p4), .val (.int kp), .val (.long p2), .second, .unset, .unset] [(.int (3 : Int32)), (.int (XT.ushr p4 (2 : Int32))), (.long (p1.toInt64))])) _
        refine XS.iand X0.here hx rfl (hb hby at_31) rfl ?_
        show Steps p.tables e below (s₁.setTop (mkF m 32 #[.val (.int p1), .val (.long p2), .second, .val (.long p3), .second, .val (.int p4), .val (.int kp), .val (.long p2), .second, .unset, .unset] [(.int ((XT.ushr p4 (2 : Int32)) &&& (3 : Int32))), (.long (p1.toInt64))])) _
        refine XT.iconstV X0.here hx rfl (1 : Int32) (hb hby at_32) (by decide) ?_
        show Steps p.tables e below (s₁.setTop (mkF m 33 #[.val (.int p1), .val (.long p2), .second, .val (.long p3), .second, .val (.int p4), .val (.int kp), .val (.long p2), .second, .unset, .unset] [(.int (1 : Int32)), (.int ((XT.ushr p4 (2 : Int32)) &&& (3 : Int32))), (.long (p1.toInt64))])) _
        refine XS.isub X0.here hx rfl (hb hby at_33) rfl ?_
        show Steps p.tables e below (s₁.setTop (mkF m 34 #[.val (.int p1), .val (.long p2), .second, .val (.long p3), .second, .val (.int p4), .val (.int kp), .val (.long p2), .second, .unset, .unset] [(.int (((XT.ushr p4 (2 : Int32)) &&& (3 : Int32)) - (1 : Int32))), (.long (p1.toInt64))])) _
        refine XT.i2l X0.here hx rfl (hb hby at_34) rfl ?_
        show Steps p.tables e below (s₁.setTop (mkF m 35 #[.val (.int p1), .val (.long p2), .second, .val (.long p3), .second, .val (.int p4), .val (.int kp), .val (.long p2), .second, .unset, .unset] [(.long ((((XT.ushr p4 (2 : Int32)) &&& (3 : Int32)) - (1 : Int32)).toInt64)), (.long (p1.toInt64))])) _
        refine XT.ladd X0.here hx rfl (hb hby at_35) rfl ?_
        show Steps p.tables e below (s₁.setTop (mkF m 36 #[.val (.int p1), .val (.long p2), .second, .val (.long p3), .second, .val (.int p4), .val (.int kp), .val (.long p2), .second, .unset, .unset] [(.long ((p1.toInt64) + ((((XT.ushr p4 (2 : Int32)) &&& (3 : Int32)) - (1 : Int32)).toInt64)))])) _
        refine XT.lstore X0.here hx rfl (hb hby at_36) rfl (l' := #[.val (.int p1), .val (.long p2), .second, .val (.long p3), .second, .val (.int p4), .val (.int kp), .val (.long ((p1.toInt64) + ((((XT.ushr p4 (2 : Int32)) &&& (3 : Int32)) - (1 : Int32)).toInt64))), .second, .unset, .unset]) rfl ?_
        exact kt
      exact ⟨((p1.toInt64) + ((((XT.ushr p4 (2 : Int32)) &&& (3 : Int32)) - (1 : Int32)).toInt64)), trivial, fun t kt => kt⟩
  refine own_via (Y' := (s₁.setTop (mkF m 38 #[.val (.int p1), .val (.long p2), .second, .val (.long p3), .second, .val (.int p4), .val (.int kp), .val (.long cc), .second, .unset, .unset] []))) (fun t kt => r14 t kt) ?_
  obtain ⟨T15, h15, X15, e15, E15, A15, D15, -, st15⟩ := newO X0 hx hZ hown (hw _ (List.mem_of_getElem? (i := 0) rfl)) (hw _ (List.mem_of_getElem? (i := 1) rfl)) (hw _ (List.mem_of_getElem? (i := 2) rfl)) e0 (g := (mkF m 38 #[.val (.int p1), .val (.long p2), .second, .val (.long p3), .second, .val (.int p4), .val (.int kp), .val (.long cc), .second, .unset, .unset] [])) rfl (hb hby at_38) (by decide) (by decide)
  obtain ⟨b, g15⟩ : ∃ z, z = h0.size := ⟨_, rfl⟩
  rw [← g15] at A15 D15 st15
  have g_b : n0 ≤ b := Nat.le_trans Z0 (Nat.le_of_eq g15.symm)
  have E_b := A15
  have F_budget_b : Fld Z h15 b "com/example/okay_bearer/okaybearer/ratelimit/RateLimiter$Tally" "budget" "I" (.int (0 : Int32)) := D15 (Or.inr (hw _ (List.mem_of_getElem? (i := 15) rfl))) (ty := .int) (by decide)
  have F_counted_b : Fld Z h15 b "com/example/okay_bearer/okaybearer/ratelimit/RateLimiter$Tally" "counted" "J" (.long (0 : Int64)) := D15 (Or.inr (hw _ (List.mem_of_getElem? (i := 17) rfl))) (ty := .long) (by decide)
  have F_end_b : Fld Z h15 b "com/example/okay_bearer/okaybearer/ratelimit/RateLimiter$Tally" "end" "J" (.long (0 : Int64)) := D15 (Or.inr (hw _ (List.mem_of_getElem? (i := 19) rfl))) (ty := .long) (by decide)
  have F_kept_b : Fld Z h15 b "com/example/okay_bearer/okaybearer/ratelimit/RateLimiter$Tally" "kept" "Z" (.int (0 : Int32)) := D15 (Or.inr (hw _ (List.mem_of_getElem? (i := 21) rfl))) (ty := .boolean) (by decide)
  replace X15 : Stand p l e room_1 s m #[(.int p1), (.long p2), (.long p3), (.int p4)] below meth c T15 [] 1 4 := X15
  refine own_via (Y' := (T15.setTop (mkF m 41 #[.val (.int p1), .val (.long p2), .second, .val (.long p3), .second, .val (.int p4), .val (.int kp), .val (.long cc), .second, .unset, .unset] [(.ref b)]))) (fun t kt => st15 _ kt) ?_
  refine own_via (Y' := (T15.setTop (mkF m 48 #[.val (.int p1), .val (.long p2), .second, .val (.long p3), .second, .val (.int p4), .val (.int kp), .val (.long cc), .second, .unset, .unset] [(.int kp), (.long p3), (.long cc), (.int p1), (.ref b), (.ref b)]))) (fun t kt => ?_) ?_
  · show Steps p.tables e below (T15.setTop (mkF m 41 #[.val (.int p1), .val (.long p2), .second, .val (.long p3), .second, .val (.int p4), .val (.int kp), .val (.long cc), .second, .unset, .unset] [(.ref b)])) _
    refine XS.dup X15.here hx rfl (hb hby at_41) rfl rfl ?_
    show Steps p.tables e below (T15.setTop (mkF m 42 #[.val (.int p1), .val (.long p2), .second, .val (.long p3), .second, .val (.int p4), .val (.int kp), .val (.long cc), .second, .unset, .unset] [(.ref b), (.ref b)])) _
    refine XS.iloadN X15.here hx rfl (hb hby at_42) rfl ?_
    show Steps p.tables e below (T15.setTop (mkF m 43 #[.val (.int p1), .val (.long p2), .second, .val (.long p3), .second, .val (.int p4), .val (.int kp), .val (.long cc), .second, .unset, .unset] [(.int p1), (.ref b), (.ref b)])) _
    refine XT.lload X15.here hx rfl (hb hby at_43) rfl ?_
    show Steps p.tables e below (T15.setTop (mkF m 45 #[.val (.int p1), .val (.long p2), .second, .val (.long p3), .second, .val (.int p4), .val (.int kp), .val (.long cc), .second, .unset, .unset] [(.long cc), (.int p1), (.ref b), (.ref b)])) _
    refine XT.lloadN X15.here hx rfl (hb hby at_45) rfl ?_
    show Steps p.tables e below (T15.setTop (mkF m 46 #[.val (.int p1), .val (.long p2), .second, .val (.long p3), .second, .val (.int p4), .val (.int kp), .val (.long cc), .second, .unset, .unset] [(.long p3), (.long cc), (.int p1), (.ref b), (.ref b)])) _
    refine XS.iload X15.here hx rfl (hb hby at_46) rfl ?_
    exact kt
  obtain ⟨_, _, ⟨T16, L16, k16, n16⟩, -, X16, ⟨Lc16, hQ16, l16, y16, z16⟩, st16⟩ := X15.specialBack hx (y := (⟨"com/example/okay_bearer/okaybearer/ratelimit/RateLimiter$Tally", "<init>", "(IJJZ)V"⟩ : MethodName)) rfl hown (mvT hZ (hw _ (List.mem_of_getElem? (i := 3) rfl))) (mvT hZ (hw _ (List.mem_of_getElem? (i := 4) rfl))) (mvT hZ (hw _ (List.mem_of_getElem? (i := 5) rfl))) (by decide) (backOf (W := 1) (rm1 l Z a0 hw [] b p1 cc p3 kp h15 n0 g_b E_b F_budget_b F_counted_b F_end_b F_kept_b) hZ (hw _ (List.mem_of_getElem? (i := 5) rfl)) (hw _ (List.mem_of_getElem? (i := 2) rfl)) (by decide) (by decide)) (g := (mkF m 48 #[.val (.int p1), .val (.long p2), .second, .val (.long p3), .second, .val (.int p4), .val (.int kp), .val (.long cc), .second, .unset, .unset] [(.int kp), (.long p3), (.long cc), (.int p1), (.ref b), (.ref b)])) rfl (by rw [hml]; rfl) (Steps.refl _) (a := b) (argsL := [(.int p1), (.long cc), (.long p3), (.int kp)]) (rest := [(.ref b)]) (lenOf pd_IJJZ_V rfl) rfl (by show 2 * 0 + _ ≤ _; exact Nat.le_of_eq rfl) (hb hby at_48) (fun _ _ => ⟨rfl, e15, (by decide : 1 + 0 ≤ _), (by decide : 4 + 0 ≤ _)⟩)
  dsimp only [Pt.U, Pt.locs, Pt.cells, Pt.slots] at X16 l16 y16 z16 st16 hQ16
  subst l16 y16 z16
  obtain ⟨rfl, NC, KC, EC, FB, FN, FE, FK⟩ := hQ16
  replace X16 : Stand p l e room_1 s m #[(.int p1), (.long p2), (.long p3), (.int p4)] below meth c T16 L16 1 4 := X16
  obtain ⟨hC, e16⟩ : ∃ z, T16.heap = z := ⟨_, rfl⟩
  rw [e16] at KC EC FB FN FE FK
  refine own_via (Y' := (T16.setTop (mkF m 51 #[.val (.int p1), .val (.long p2), .second, .val (.long p3), .second, .val (.int p4), .val (.int kp), .val (.long cc), .second, .unset, .unset] [(.ref b)]))) (fun t kt => st16.trans kt) ?_
  rw [hkb] at FK
  refine own_via (Y' := (T16.setTop (mkF m 55 #[.val (.int p1), .val (.long p2), .second, .val (.long p3), .second, .val (.int p4), .val (.int kp), .val (.long cc), .second, .val (.ref b), .unset] [(.int kp)]))) (fun t kt => ?_) ?_
  · show Steps p.tables e below (T16.setTop (mkF m 51 #[.val (.int p1), .val (.long p2), .second, .val (.long p3), .second, .val (.int p4), .val (.int kp), .val (.long cc), .second, .unset, .unset] [(.ref b)])) _
    refine XS.astore X16.here hx rfl (hb hby at_51) rfl rfl (l' := #[.val (.int p1), .val (.long p2), .second, .val (.long p3), .second, .val (.int p4), .val (.int kp), .val (.long cc), .second, .val (.ref b), .unset]) rfl ?_
    show Steps p.tables e below (T16.setTop (mkF m 53 #[.val (.int p1), .val (.long p2), .second, .val (.long p3), .second, .val (.int p4), .val (.int kp), .val (.long cc), .second, .val (.ref b), .unset] [])) _
    refine XS.iload X16.here hx rfl (hb hby at_53) rfl ?_
    exact kt
  obtain ⟨ex, hex, r17⟩ : ∃ ex : Int32, (ex = own_allow kp cc p1) ∧ ∀ t, Steps p.tables e below (T16.setTop (mkF m 83 #[.val (.int p1), .val (.long p2), .second, .val (.long p3), .second, .val (.int p4), .val (.int kp), .val (.long cc), .second, .val (.ref b), .val (.int ex)] [])) t → Steps p.tables e below (T16.setTop (mkF m 55 #[.val (.int p1), .val (.long p2), .second, .val (.long p3), .second, .val (.int p4), .val (.int kp), .val (.long cc), .second, .val (.ref b), .unset] [(.int kp)])) t := by
    by_cases h1 : kp = 0
    · refine own_via2 (Y' := (T16.setTop (mkF m 83 #[.val (.int p1), .val (.long p2), .second, .val (.long p3), .second, .val (.int p4), .val (.int kp), .val (.long cc), .second, .val (.ref b), .val (.int (0 : Int32))] []))) (fun t kt => ?_) ?_
      · show Steps p.tables e below (T16.setTop (mkF m 55 #[.val (.int p1), .val (.long p2), .second, .val (.long p3), .second, .val (.int p4), .val (.int kp), .val (.long cc), .second, .val (.ref b), .unset] [(.int kp)])) _
        refine XS.ifNo X16.here hx rfl (hb hby at_55) rfl (XT.i0_ne_f h1) ?_
        show Steps p.tables e below (T16.setTop (mkF m 58 #[.val (.int p1), .val (.long p2), .second, .val (.long p3), .second, .val (.int p4), .val (.int kp), .val (.long cc), .second, .val (.ref b), .unset] [])) _
        refine XT.iconstV X16.here hx rfl (0 : Int32) (hb hby at_58) (by decide) ?_
        show Steps p.tables e below (T16.setTop (mkF m 59 #[.val (.int p1), .val (.long p2), .second, .val (.long p3), .second, .val (.int p4), .val (.int kp), .val (.long cc), .second, .val (.ref b), .unset] [(.int (0 : Int32))])) _
        refine XS.istore X16.here hx rfl (hb hby at_59) rfl (l' := #[.val (.int p1), .val (.long p2), .second, .val (.long p3), .second, .val (.int p4), .val (.int kp), .val (.long cc), .second, .val (.ref b), .val (.int (0 : Int32))]) rfl ?_
        show Steps p.tables e below (T16.setTop (mkF m 61 #[.val (.int p1), .val (.long p2), .second, .val (.long p3), .second, .val (.int p4), .val (.int kp), .val (.long cc), .second, .val (.ref b), .val (.int (0 : Int32))] [])) _
        refine XS.goto X16.here hx rfl (pc0 := 61) (pc' := 83) rfl (hb hby at_61) (by decide) (by decide) ?_
        exact kt
      exact ⟨(0 : Int32), own_e1 kp cc p1 h1, fun t kt => kt⟩
    · refine own_via2 (Y' := (T16.setTop (mkF m 71 #[.val (.int p1), .val (.long p2), .second, .val (.long p3), .second, .val (.int p4), .val (.int kp), .val (.long cc), .second, .val (.ref b), .unset] [(.int (XT.cmpL cc ((p1.toInt64) + (1 : Int64))))]))) (fun t kt => ?_) ?_
      · show Steps p.tables e below (T16.setTop (mkF m 55 #[.val (.int p1), .val (.long p2), .second, .val (.long p3), .second, .val (.int p4), .val (.int kp), .val (.long cc), .second, .val (.ref b), .unset] [(.int kp)])) _
        refine XS.ifYes X16.here hx rfl (pc0 := 55) (pc' := 64) rfl (hb hby at_55) rfl (XT.i0_ne_t h1) (by decide) (by decide) ?_
        show Steps p.tables e below (T16.setTop (mkF m 64 #[.val (.int p1), .val (.long p2), .second, .val (.long p3), .second, .val (.int p4), .val (.int kp), .val (.long cc), .second, .val (.ref b), .unset] [])) _
        refine XT.lload X16.here hx rfl (hb hby at_64) rfl ?_
        show Steps p.tables e below (T16.setTop (mkF m 66 #[.val (.int p1), .val (.long p2), .second, .val (.long p3), .second, .val (.int p4), .val (.int kp), .val (.long cc), .second, .val (.ref b), .unset] [(.long cc)])) _
        refine XS.iloadN X16.here hx rfl (hb hby at_66) rfl ?_
        show Steps p.tables e below (T16.setTop (mkF m 67 #[.val (.int p1), .val (.long p2), .second, .val (.long p3), .second, .val (.int p4), .val (.int kp), .val (.long cc), .second, .val (.ref b), .unset] [(.int p1), (.long cc)])) _
        refine XT.i2l X16.here hx rfl (hb hby at_67) rfl ?_
        show Steps p.tables e below (T16.setTop (mkF m 68 #[.val (.int p1), .val (.long p2), .second, .val (.long p3), .second, .val (.int p4), .val (.int kp), .val (.long cc), .second, .val (.ref b), .unset] [(.long (p1.toInt64)), (.long cc)])) _
        refine XT.lconstV X16.here hx rfl (1 : Int64) (hb hby at_68) (by decide) ?_
        show Steps p.tables e below (T16.setTop (mkF m 69 #[.val (.int p1), .val (.long p2), .second, .val (.long p3), .second, .val (.int p4), .val (.int kp), .val (.long cc), .second, .val (.ref b), .unset] [(.long (1 : Int64)), (.long (p1.toInt64)), (.long cc)])) _
        refine XT.ladd X16.here hx rfl (hb hby at_69) rfl ?_
        show Steps p.tables e below (T16.setTop (mkF m 70 #[.val (.int p1), .val (.long p2), .second, .val (.long p3), .second, .val (.int p4), .val (.int kp), .val (.long cc), .second, .val (.ref b), .unset] [(.long ((p1.toInt64) + (1 : Int64))), (.long cc)])) _
        refine XT.lcmp X16.here hx rfl (hb hby at_70) rfl ?_
        exact kt
      by_cases h2 : cc < ((p1.toInt64) + (1 : Int64))
      · refine own_via2 (Y' := (T16.setTop (mkF m 83 #[.val (.int p1), .val (.long p2), .second, .val (.long p3), .second, .val (.int p4), .val (.int kp), .val (.long cc), .second, .val (.ref b), .val (.int (1 : Int32))] []))) (fun t kt => ?_) ?_
        · show Steps p.tables e below (T16.setTop (mkF m 71 #[.val (.int p1), .val (.long p2), .second, .val (.long p3), .second, .val (.int p4), .val (.int kp), .val (.long cc), .second, .val (.ref b), .unset] [(.int (XT.cmpL cc ((p1.toInt64) + (1 : Int64))))])) _
          refine XS.ifNo X16.here hx rfl (hb hby at_71) rfl (XT.ll_ge_f h2) ?_
          show Steps p.tables e below (T16.setTop (mkF m 74 #[.val (.int p1), .val (.long p2), .second, .val (.long p3), .second, .val (.int p4), .val (.int kp), .val (.long cc), .second, .val (.ref b), .unset] [])) _
          refine XT.iconstV X16.here hx rfl (1 : Int32) (hb hby at_74) (by decide) ?_
          show Steps p.tables e below (T16.setTop (mkF m 75 #[.val (.int p1), .val (.long p2), .second, .val (.long p3), .second, .val (.int p4), .val (.int kp), .val (.long cc), .second, .val (.ref b), .unset] [(.int (1 : Int32))])) _
          refine XS.istore X16.here hx rfl (hb hby at_75) rfl (l' := #[.val (.int p1), .val (.long p2), .second, .val (.long p3), .second, .val (.int p4), .val (.int kp), .val (.long cc), .second, .val (.ref b), .val (.int (1 : Int32))]) rfl ?_
          show Steps p.tables e below (T16.setTop (mkF m 77 #[.val (.int p1), .val (.long p2), .second, .val (.long p3), .second, .val (.int p4), .val (.int kp), .val (.long cc), .second, .val (.ref b), .val (.int (1 : Int32))] [])) _
          refine XS.goto X16.here hx rfl (pc0 := 77) (pc' := 83) rfl (hb hby at_77) (by decide) (by decide) ?_
          exact kt
        exact ⟨(1 : Int32), own_e2 kp cc p1 h1 h2, fun t kt => kt⟩
      · refine own_via2 (Y' := (T16.setTop (mkF m 83 #[.val (.int p1), .val (.long p2), .second, .val (.long p3), .second, .val (.int p4), .val (.int kp), .val (.long cc), .second, .val (.ref b), .val (.int (0 : Int32))] []))) (fun t kt => ?_) ?_
        · show Steps p.tables e below (T16.setTop (mkF m 71 #[.val (.int p1), .val (.long p2), .second, .val (.long p3), .second, .val (.int p4), .val (.int kp), .val (.long cc), .second, .val (.ref b), .unset] [(.int (XT.cmpL cc ((p1.toInt64) + (1 : Int64))))])) _
          refine XS.ifYes X16.here hx rfl (pc0 := 71) (pc' := 80) rfl (hb hby at_71) rfl (XT.ll_ge_t h2) (by decide) (by decide) ?_
          show Steps p.tables e below (T16.setTop (mkF m 80 #[.val (.int p1), .val (.long p2), .second, .val (.long p3), .second, .val (.int p4), .val (.int kp), .val (.long cc), .second, .val (.ref b), .unset] [])) _
          refine XT.iconstV X16.here hx rfl (0 : Int32) (hb hby at_80) (by decide) ?_
          show Steps p.tables e below (T16.setTop (mkF m 81 #[.val (.int p1), .val (.long p2), .second, .val (.long p3), .second, .val (.int p4), .val (.int kp), .val (.long cc), .second, .val (.ref b), .unset] [(.int (0 : Int32))])) _
          refine XS.istore X16.here hx rfl (hb hby at_81) rfl (l' := #[.val (.int p1), .val (.long p2), .second, .val (.long p3), .second, .val (.int p4), .val (.int kp), .val (.long cc), .second, .val (.ref b), .val (.int (0 : Int32))]) rfl ?_
          exact kt
        exact ⟨(0 : Int32), own_e3 kp cc p1 h1 h2, fun t kt => kt⟩
  refine own_via (Y' := (T16.setTop (mkF m 83 #[.val (.int p1), .val (.long p2), .second, .val (.long p3), .second, .val (.int p4), .val (.int kp), .val (.long cc), .second, .val (.ref b), .val (.int ex)] []))) (fun t kt => r17 t kt) ?_
  refine own_via (Y' := (T16.setTop (mkF m 85 #[.val (.int p1), .val (.long p2), .second, .val (.long p3), .second, .val (.int p4), .val (.int kp), .val (.long cc), .second, .val (.ref b), .val (.int ex)] [(.ref b)]))) (fun t kt => ?_) ?_
  · show Steps p.tables e below (T16.setTop (mkF m 83 #[.val (.int p1), .val (.long p2), .second, .val (.long p3), .second, .val (.int p4), .val (.int kp), .val (.long cc), .second, .val (.ref b), .val (.int ex)] [])) _
    refine XS.aload X16.here hx rfl (hb hby at_83) rfl rfl ?_
    exact kt
  obtain ⟨cq18, kq18, q18a, q18b, q18c⟩ := isOf hZ e16 EC
  obtain ⟨_, _, ⟨T18, L18, k18, n18⟩, -, X18, ⟨Lc18, hQ18, l18, y18, z18⟩, st18⟩ := X16.virtualBack hx (y := (⟨"com/example/okay_bearer/okaybearer/ratelimit/RateLimiter$Tally", "allows", "()Z"⟩ : MethodName)) (z := (⟨"com/example/okay_bearer/okaybearer/ratelimit/RateLimiter$Tally", "allows", "()Z"⟩ : MethodName)) hown (mvT hZ (hw _ (List.mem_of_getElem? (i := 22) rfl))) (mvT hZ (hw _ (List.mem_of_getElem? (i := 23) rfl))) (notFace_of_selects (args := #[]) (mvT hZ (hw _ (List.mem_of_getElem? (i := 25) rfl)))) (mvT hZ (hw _ (List.mem_of_getElem? (i := 25) rfl))) (mvT hZ (hw _ (List.mem_of_getElem? (i := 24) rfl))) (by decide) (backOf (W := 0) (rm4 l Z a0 hw [] b kp cc p1 hC FK FN FB) hZ (hw _ (List.mem_of_getElem? (i := 26) rfl)) (hw _ (List.mem_of_getElem? (i := 2) rfl)) (by decide) (by decide)) q18a q18c (g := (mkF m 85 #[.val (.int p1), .val (.long p2), .second, .val (.long p3), .second, .val (.int p4), .val (.int kp), .val (.long cc), .second, .val (.ref b), .val (.int ex)] [(.ref b)])) rfl (by rw [hml]; rfl) (Steps.refl _) (argsL := []) (rest := []) (lenOf pd__Z rfl) rfl (by show 2 * 0 + _ ≤ _; exact Nat.le_of_eq rfl) (hb hby at_85) (fun _ _ => ⟨rfl, e16, (by decide : 1 + 0 ≤ _), (by decide : 4 + 0 ≤ _)⟩)
  dsimp only [Pt.U, Pt.locs, Pt.cells, Pt.slots] at X18 l18 y18 z18 st18 hQ18
  subst l18 y18 z18
  obtain ⟨rfl, rfl, e18⟩ := hQ18
  replace X18 : Stand p l e room_1 s m #[(.int p1), (.long p2), (.long p3), (.int p4)] below meth c T18 L16 1 4 := by rw [List.append_nil] at X18; exact X18
  refine own_via (Y' := (T18.setTop (mkF m 88 #[.val (.int p1), .val (.long p2), .second, .val (.long p3), .second, .val (.int p4), .val (.int kp), .val (.long cc), .second, .val (.ref b), .val (.int ex)] [(.int (own_allow kp cc p1))]))) (fun t kt => st18.trans kt) ?_
  refine own_via (Y' := (T18.setTop (mkF m 95 #[.val (.int p1), .val (.long p2), .second, .val (.long p3), .second, .val (.int p4), .val (.int kp), .val (.long cc), .second, .val (.ref b), .val (.int ex)] [(.ref b)]))) (fun t kt => ?_) ?_
  · show Steps p.tables e below (T18.setTop (mkF m 88 #[.val (.int p1), .val (.long p2), .second, .val (.long p3), .second, .val (.int p4), .val (.int kp), .val (.long cc), .second, .val (.ref b), .val (.int ex)] [(.int (own_allow kp cc p1))])) _
    refine XS.iload X18.here hx rfl (hb hby at_88) rfl ?_
    show Steps p.tables e below (T18.setTop (mkF m 90 #[.val (.int p1), .val (.long p2), .second, .val (.long p3), .second, .val (.int p4), .val (.int kp), .val (.long cc), .second, .val (.ref b), .val (.int ex)] [(.int ex), (.int (own_allow kp cc p1))])) _
    refine XS.icmpNo X18.here hx rfl (hb hby at_90) rfl (XT.ii_ne_f hex.symm) ?_
    show Steps p.tables e below (T18.setTop (mkF m 93 #[.val (.int p1), .val (.long p2), .second, .val (.long p3), .second, .val (.int p4), .val (.int kp), .val (.long cc), .second, .val (.ref b), .val (.int ex)] [])) _
    refine XS.aload X18.here hx rfl (hb hby at_93) rfl rfl ?_
    exact kt
  obtain ⟨cq19, kq19, q19a, q19b, q19c⟩ := isOf hZ e18 EC
  obtain ⟨_, _, ⟨T19, L19, k19, n19⟩, -, X19, ⟨Lc19, hQ19, l19, y19, z19⟩, st19⟩ := X18.virtualBack hx (y := (⟨"com/example/okay_bearer/okaybearer/ratelimit/RateLimiter$Tally", "kept", "()Z"⟩ : MethodName)) (z := (⟨"com/example/okay_bearer/okaybearer/ratelimit/RateLimiter$Tally", "kept", "()Z"⟩ : MethodName)) hown (mvT hZ (hw _ (List.mem_of_getElem? (i := 27) rfl))) (mvT hZ (hw _ (List.mem_of_getElem? (i := 28) rfl))) (notFace_of_selects (args := #[]) (mvT hZ (hw _ (List.mem_of_getElem? (i := 30) rfl)))) (mvT hZ (hw _ (List.mem_of_getElem? (i := 30) rfl))) (mvT hZ (hw _ (List.mem_of_getElem? (i := 29) rfl))) (by decide) (backOf (W := 0) (rm5 l Z a0 hw [] b kp hC FK) hZ (hw _ (List.mem_of_getElem? (i := 31) rfl)) (hw _ (List.mem_of_getElem? (i := 2) rfl)) (by decide) (by decide)) q19a q19c (g := (mkF m 95 #[.val (.int p1), .val (.long p2), .second, .val (.long p3), .second, .val (.int p4), .val (.int kp), .val (.long cc), .second, .val (.ref b), .val (.int ex)] [(.ref b)])) rfl (by rw [hml]; rfl) (Steps.refl _) (argsL := []) (rest := []) (lenOf pd__Z rfl) rfl (by show 2 * 0 + _ ≤ _; exact Nat.le_of_eq rfl) (hb hby at_95) (fun _ _ => ⟨rfl, e18, (by decide : 1 + 0 ≤ _), (by decide : 4 + 0 ≤ _)⟩)
  dsimp only [Pt.U, Pt.locs, Pt.cells, Pt.slots] at X19 l19 y19 z19 st19 hQ19
  subst l19 y19 z19
  obtain ⟨rfl, rfl, e19⟩ := hQ19
  replace X19 : Stand p l e room_1 s m #[(.int p1), (.long p2), (.long p3), (.int p4)] below meth c T19 L16 1 4 := by rw [List.append_nil] at X19; exact X19
  refine own_via (Y' := (T19.setTop (mkF m 98 #[.val (.int p1), .val (.long p2), .second, .val (.long p3), .second, .val (.int p4), .val (.int kp), .val (.long cc), .second, .val (.ref b), .val (.int ex)] [(.int (nar .boolean kp))]))) (fun t kt => st19.trans kt) ?_
  refine own_via (Y' := (T19.setTop (mkF m 105 #[.val (.int p1), .val (.long p2), .second, .val (.long p3), .second, .val (.int p4), .val (.int kp), .val (.long cc), .second, .val (.ref b), .val (.int ex)] [(.ref b)]))) (fun t kt => ?_) ?_
  · show Steps p.tables e below (T19.setTop (mkF m 98 #[.val (.int p1), .val (.long p2), .second, .val (.long p3), .second, .val (.int p4), .val (.int kp), .val (.long cc), .second, .val (.ref b), .val (.int ex)] [(.int (nar .boolean kp))])) _
    refine XS.iload X19.here hx rfl (hb hby at_98) rfl ?_
    show Steps p.tables e below (T19.setTop (mkF m 100 #[.val (.int p1), .val (.long p2), .second, .val (.long p3), .second, .val (.int p4), .val (.int kp), .val (.long cc), .second, .val (.ref b), .val (.int ex)] [(.int kp), (.int (nar .boolean kp))])) _
    refine XS.icmpNo X19.here hx rfl (hb hby at_100) rfl (XT.ii_ne_f hkb) ?_
    show Steps p.tables e below (T19.setTop (mkF m 103 #[.val (.int p1), .val (.long p2), .second, .val (.long p3), .second, .val (.int p4), .val (.int kp), .val (.long cc), .second, .val (.ref b), .val (.int ex)] [])) _
    refine XS.aload X19.here hx rfl (hb hby at_103) rfl rfl ?_
    exact kt
  obtain ⟨cq20, kq20, q20a, q20b, q20c⟩ := isOf hZ e19 EC
  obtain ⟨_, _, ⟨T20, L20, k20, n20⟩, -, X20, ⟨Lc20, hQ20, l20, y20, z20⟩, st20⟩ := X19.virtualBack hx (y := (⟨"com/example/okay_bearer/okaybearer/ratelimit/RateLimiter$Tally", "counted", "()J"⟩ : MethodName)) (z := (⟨"com/example/okay_bearer/okaybearer/ratelimit/RateLimiter$Tally", "counted", "()J"⟩ : MethodName)) hown (mvT hZ (hw _ (List.mem_of_getElem? (i := 32) rfl))) (mvT hZ (hw _ (List.mem_of_getElem? (i := 33) rfl))) (notFace_of_selects (args := #[]) (mvT hZ (hw _ (List.mem_of_getElem? (i := 35) rfl)))) (mvT hZ (hw _ (List.mem_of_getElem? (i := 35) rfl))) (mvT hZ (hw _ (List.mem_of_getElem? (i := 34) rfl))) (by decide) (backOf (W := 0) (rm6 l Z a0 hw [] b cc hC FN) hZ (hw _ (List.mem_of_getElem? (i := 36) rfl)) (hw _ (List.mem_of_getElem? (i := 2) rfl)) (by decide) (by decide)) q20a q20c (g := (mkF m 105 #[.val (.int p1), .val (.long p2), .second, .val (.long p3), .second, .val (.int p4), .val (.int kp), .val (.long cc), .second, .val (.ref b), .val (.int ex)] [(.ref b)])) rfl (by rw [hml]; rfl) (Steps.refl _) (argsL := []) (rest := []) (lenOf pd__J rfl) rfl (by show 2 * 0 + _ ≤ _; exact Nat.le_of_eq rfl) (hb hby at_105) (fun _ _ => ⟨rfl, e19, (by decide : 1 + 0 ≤ _), (by decide : 4 + 0 ≤ _)⟩)
  dsimp only [Pt.U, Pt.locs, Pt.cells, Pt.slots] at X20 l20 y20 z20 st20 hQ20
  subst l20 y20 z20
  obtain ⟨rfl, rfl, e20⟩ := hQ20
  replace X20 : Stand p l e room_1 s m #[(.int p1), (.long p2), (.long p3), (.int p4)] below meth c T20 L16 1 4 := by rw [List.append_nil] at X20; exact X20
  refine own_via (Y' := (T20.setTop (mkF m 108 #[.val (.int p1), .val (.long p2), .second, .val (.long p3), .second, .val (.int p4), .val (.int kp), .val (.long cc), .second, .val (.ref b), .val (.int ex)] [(.long cc)]))) (fun t kt => st20.trans kt) ?_
  refine own_via (Y' := (T20.setTop (mkF m 116 #[.val (.int p1), .val (.long p2), .second, .val (.long p3), .second, .val (.int p4), .val (.int kp), .val (.long cc), .second, .val (.ref b), .val (.int ex)] [(.ref b)]))) (fun t kt => ?_) ?_
  · show Steps p.tables e below (T20.setTop (mkF m 108 #[.val (.int p1), .val (.long p2), .second, .val (.long p3), .second, .val (.int p4), .val (.int kp), .val (.long cc), .second, .val (.ref b), .val (.int ex)] [(.long cc)])) _
    refine XT.lload X20.here hx rfl (hb hby at_108) rfl ?_
    show Steps p.tables e below (T20.setTop (mkF m 110 #[.val (.int p1), .val (.long p2), .second, .val (.long p3), .second, .val (.int p4), .val (.int kp), .val (.long cc), .second, .val (.ref b), .val (.int ex)] [(.long cc), (.long cc)])) _
    refine XT.lcmp X20.here hx rfl (hb hby at_110) rfl ?_
    show Steps p.tables e below (T20.setTop (mkF m 111 #[.val (.int p1), .val (.long p2), .second, .val (.long p3), .second, .val (.int p4), .val (.int kp), .val (.long cc), .second, .val (.ref b), .val (.int ex)] [(.int (XT.cmpL cc cc))])) _
    refine XS.ifNo X20.here hx rfl (hb hby at_111) rfl (XT.ll_ne_f rfl) ?_
    show Steps p.tables e below (T20.setTop (mkF m 114 #[.val (.int p1), .val (.long p2), .second, .val (.long p3), .second, .val (.int p4), .val (.int kp), .val (.long cc), .second, .val (.ref b), .val (.int ex)] [])) _
    refine XS.aload X20.here hx rfl (hb hby at_114) rfl rfl ?_
    exact kt
  obtain ⟨cq21, kq21, q21a, q21b, q21c⟩ := isOf hZ e20 EC
  obtain ⟨_, _, ⟨T21, L21, k21, n21⟩, -, X21, ⟨Lc21, hQ21, l21, y21, z21⟩, st21⟩ := X20.virtualBack hx (y := (⟨"com/example/okay_bearer/okaybearer/ratelimit/RateLimiter$Tally", "budget", "()I"⟩ : MethodName)) (z := (⟨"com/example/okay_bearer/okaybearer/ratelimit/RateLimiter$Tally", "budget", "()I"⟩ : MethodName)) hown (mvT hZ (hw _ (List.mem_of_getElem? (i := 37) rfl))) (mvT hZ (hw _ (List.mem_of_getElem? (i := 38) rfl))) (notFace_of_selects (args := #[]) (mvT hZ (hw _ (List.mem_of_getElem? (i := 40) rfl)))) (mvT hZ (hw _ (List.mem_of_getElem? (i := 40) rfl))) (mvT hZ (hw _ (List.mem_of_getElem? (i := 39) rfl))) (by decide) (backOf (W := 0) (rm7 l Z a0 hw [] b p1 hC FB) hZ (hw _ (List.mem_of_getElem? (i := 41) rfl)) (hw _ (List.mem_of_getElem? (i := 2) rfl)) (by decide) (by decide)) q21a q21c (g := (mkF m 116 #[.val (.int p1), .val (.long p2), .second, .val (.long p3), .second, .val (.int p4), .val (.int kp), .val (.long cc), .second, .val (.ref b), .val (.int ex)] [(.ref b)])) rfl (by rw [hml]; rfl) (Steps.refl _) (argsL := []) (rest := []) (lenOf pd__I rfl) rfl (by show 2 * 0 + _ ≤ _; exact Nat.le_of_eq rfl) (hb hby at_116) (fun _ _ => ⟨rfl, e20, (by decide : 1 + 0 ≤ _), (by decide : 4 + 0 ≤ _)⟩)
  dsimp only [Pt.U, Pt.locs, Pt.cells, Pt.slots] at X21 l21 y21 z21 st21 hQ21
  subst l21 y21 z21
  obtain ⟨rfl, rfl, e21⟩ := hQ21
  replace X21 : Stand p l e room_1 s m #[(.int p1), (.long p2), (.long p3), (.int p4)] below meth c T21 L16 1 4 := by rw [List.append_nil] at X21; exact X21
  refine own_via (Y' := (T21.setTop (mkF m 119 #[.val (.int p1), .val (.long p2), .second, .val (.long p3), .second, .val (.int p4), .val (.int kp), .val (.long cc), .second, .val (.ref b), .val (.int ex)] [(.int p1)]))) (fun t kt => st21.trans kt) ?_
  obtain ⟨fs, hr, hrun, hended, hW, hsame⟩ := X21.leave (v := (some (.int (1 : Int32)))) (fun h => by rw [Bd.returns] at h; cases h)
  refine ⟨_, _, ?_, hrun, hended, _, _, rfl, ?_, ⟨_, rfl⟩, hW, hsame.mono (by decide) (by decide)⟩
  · show Steps p.tables e below (T21.setTop (mkF m 119 #[.val (.int p1), .val (.long p2), .second, .val (.long p3), .second, .val (.int p4), .val (.int kp), .val (.long cc), .second, .val (.ref b), .val (.int ex)] [(.int p1)])) _
    refine XS.iloadN X21.here hx rfl (hb hby at_119) rfl ?_
    show Steps p.tables e below (T21.setTop (mkF m 120 #[.val (.int p1), .val (.long p2), .second, .val (.long p3), .second, .val (.int p4), .val (.int kp), .val (.long cc), .second, .val (.ref b), .val (.int ex)] [(.int p1), (.int p1)])) _
    refine XS.icmpNo X21.here hx rfl (hb hby at_120) rfl (XT.ii_ne_f rfl) ?_
    show Steps p.tables e below (T21.setTop (mkF m 123 #[.val (.int p1), .val (.long p2), .second, .val (.long p3), .second, .val (.int p4), .val (.int kp), .val (.long cc), .second, .val (.ref b), .val (.int ex)] [])) _
    refine XT.iconstV X21.here hx rfl (1 : Int32) (hb hby at_123) (by decide) ?_
    show Steps p.tables e below (T21.setTop (mkF m 124 #[.val (.int p1), .val (.long p2), .second, .val (.long p3), .second, .val (.int p4), .val (.int kp), .val (.long cc), .second, .val (.ref b), .val (.int ex)] [(.int (1 : Int32))])) _
    refine XS.goto X21.here hx rfl (pc0 := 124) (pc' := 128) rfl (hb hby at_124) (by decide) (by decide) ?_
    show Steps p.tables e below (T21.setTop (mkF m 128 #[.val (.int p1), .val (.long p2), .second, .val (.long p3), .second, .val (.int p4), .val (.int kp), .val (.long cc), .second, .val (.ref b), .val (.int ex)] [(.int (1 : Int32))])) _
    exact retN X21 hx (t := .boolean) Bd.returns (by simp) (hb hby at_128) hr
  · exact ⟨rfl, NC⟩
set_option maxRecDepth 65536 in
set_option maxHeartbeats 40000000 in
theorem comes_1 {Post : Tables → Env → Array Value → State → Outcome → State → Prop} (hpost : ∀ tb e args s v u, (limb_1_1.after args s (.returned v) u = true ∧ limb_1_2.after args s (.returned v) u = true ∧ True) → FrameEnd s (.returned v) u (Jvm.fieldLocs frame_1_writes args s ++ Jvm.arrayLocs frame_1_arrays args s ++ Jvm.staticLocs frame_1_statics s) 16 128 → Post tb e args s (.returned v) u) :
    ArmFor flags0 classFile x code maxLocals ret World_1 tables_1 room_1 Calls_1 rest_1 Pre_1 Post := by
  intro l hfl _ _ p e ha hc hk s m args below hf hA hF happ hP
  obtain ⟨hcalls, hrest, hpre⟩ := hP
  obtain ⟨-, -, -, hnamed, -, -, -, hat⟩ := (Spec.applies_iff hf).mp happ
  obtain ⟨hg, hn⟩ := and_e (Cond.before_iff.mp (show (Jvm.Cond.and given_1 narrow_1).before args s = true from hpre))
  obtain ⟨gc, gr0⟩ := and_e hg
  obtain ⟨g0, gr1⟩ := and_e gr0
  obtain ⟨g1, gr2⟩ := and_e gr1
  obtain ⟨g2, gr3⟩ := and_e gr2
  obtain ⟨w0, w1, w2, w3, rfl⟩ : ∃ w0 w1 w2 w3 : Value, args = #[w0, w1, w2, w3] := by
    have hs : args.size = 4 := by simpa [Cond.value, given_1] using gc
    obtain ⟨L⟩ := args
    match L, hs with
    | [w0, w1, w2, w3], _ => exact ⟨w0, w1, w2, w3, rfl⟩
  have hw := fun d (hd : d ∈ tables_1) => atoms_spec (ws := Jvm.Cond.code x code maxLocals ret :: tables_1) hat d (List.mem_cons_of_mem _ hd)
  obtain ⟨i0, ei0⟩ := is_v g0
  obtain rfl : w0 = (.int i0) := Option.some.inj ei0
  obtain ⟨i1, ei1⟩ := isL_v g1
  obtain rfl : w1 = (.long i1) := Option.some.inj ei1
  obtain ⟨i2, ei2⟩ := isL_v g2
  obtain rfl : w2 = (.long i2) := Option.some.inj ei2
  obtain ⟨i3, ei3⟩ := is_v gr3
  obtain rfl : w3 = (.int i3) := Option.some.inj ei3
  obtain ⟨n, o, h1, h2, h3, _, L, rfl, ⟨rfl, N⟩, hq⟩ := rm0 l s _ hw tables_1 i0 i1 i2 i3 s.heap s.heap.size (Nat.le_refl _) p e ha hc hk s m _ below hf ((Spec.applies_iff_loose hf).mp happ).1 ⟨rfl, State.Warmed39.refl s, rfl⟩ trivial
  refine ⟨n, _, h1, h2, h3, hpost _ _ _ _ _ _ ⟨Cond.after_iff.mpr rfl, Cond.after_iff.mpr (eq_i res_at (Term.int_eval (1)) rfl), trivial⟩ ⟨hq.1, hq.2.1, (hq.2.2.sift fun y hy => Or.inr (N y hy)).mono (by decide) (by decide)⟩⟩
theorem main_1_1 : Claimed_1_1 := comes_1 fun _ _ _ _ _ _ h hF => ⟨h.1, hF⟩
theorem main_1_2 : Claimed_1_2 := comes_1 fun _ _ _ _ _ _ h hF => ⟨h.2.1, hF⟩
end Jvm.Pilot.@@N@@
namespace Jvm.Pilot.@@N@@
open Jvm Jvm.ClassFile Sem Op Lib Jvm.Free Jvm.Stand Jvm.Pilot.@@N@@.Jvm.D
/-! MADE BY PROGRAM (witnessworld.py) out of the Statement's table words and the real class files: 10 classes; the members and pool entries that the words name. The judged class is class 1, her method 1. -/
namespace start1
open Jvm.ClassFile
def u (s : String) : CpInfo := .utf8 (stringToUtf16 s)
/-- a pool by its gaps: so many unusable entries, then the entry; so many at the end -/
def gap : Nat → List CpInfo → List CpInfo
  | 0, r => r
  | n + 1, r => .unusable :: gap n r
def poolList (es : List (Nat × CpInfo)) (last : Nat) : List CpInfo := es.foldr (fun e r => gap e.1 (e.2 :: r)) (gap last [])
def pool (es : List (Nat × CpInfo)) (last : Nat) : Array CpInfo := ⟨poolList es last⟩
def fileOf (pool : Array CpInfo) (this : Nat) (attrs : Array Attribute := #[]) (ms : Array MethodInfo := #[]) (fl : Nat := 33) (sup : Nat := 0) (ifs : Array Nat := #[]) (fds : Array FieldInfo := #[]) : ClassFile where
  minorVersion := 0
  majorVersion := 65
  constantPool := pool
  accessFlags := fl
  thisClass := this
  superClass := sup
  interfaces := ifs
  fields := fds
  methods := ms
  attributes := attrs
def plain (name : String) (sup : Option ClassId) : Class where
  name := name
  kind := .ordinary
  loader := none
  accessFlags := 33
  super := sup
  interfaces := #[]
  cf := none
  fields := #[]
  methods := #[]
  instanceTypes := #[]
  staticTypes := #[]
  resolved := #[]
  callSites := []
  init := .initialized
  statics := none
  mirror := none

def pool0 : Array CpInfo := pool [(5, u "<init>"), (0, u "()V"), (1, .class_ 10), (1, u "java/lang/Object")] 113

def k0c0 : Code := { maxStack := 0, maxLocals := 1, code := object_method_1_code, exceptionTable := #[], attributes := #[] }
def k0m0 : Method := { name := "<init>", desc := "()V", sig := { parameters := [], returnType := none }, accessFlags := 1, code := some k0c0 }
/-- java/lang/Object -/
def k0 : Class := { plain "java/lang/Object" none with
  accessFlags := 33
  interfaces := #[]
  cf := some (fileOf pool0 8 #[] #[{ accessFlags := 1, nameIndex := 5, descriptorIndex := 6, attributes := #[] }] 33 0 #[] #[])
  fields := #[]
  methods := #[k0m0]
  instanceTypes := #[]
  staticTypes := #[]
  resolved := Array.replicate 124 none
  statics := none }

def pool1 : Array CpInfo := pool [(2, .class_ 4), (1, u "java/lang/Object"), (0, u "<init>"), (0, u "()V"), (0, .class_ 8), (0, u "com/example/okay_bearer/okaybearer/ratelimit/RateLimiter$Tally"), (0, .methodref 7 10), (0, .nameAndType 5 11), (0, u "(IJJZ)V"), (0, .methodref 7 13), (0, .nameAndType 14 15), (0, u "allows"), (0, u "()Z"), (0, .methodref 7 17), (0, .nameAndType 18 15), (0, u "kept"), (0, .methodref 7 20), (0, .nameAndType 21 22), (0, u "counted"), (0, u "()J"), (0, .methodref 7 24), (0, .nameAndType 25 26), (0, u "budget"), (0, u "()I"), (0, .class_ 28), (0, u "com/example/okay_bearer/okaybearer/ratelimit/TallyAllowsPinLaw"), (2, u "law"), (0, u "(IJJI)Z")] 7

def k1m0 : Method := { name := "<init>", desc := "()V", sig := { parameters := [], returnType := none }, accessFlags := 1, code := none }
def k1c1 : Code := { maxStack := 8, maxLocals := 11, code := code, exceptionTable := #[], attributes := #[] }
def k1m1 : Method := { name := "law", desc := "(IJJI)Z", sig := { parameters := [.int, .long, .long, .int], returnType := some .boolean }, accessFlags := 9, code := some k1c1 }
/-- com/example/okay_bearer/okaybearer/ratelimit/TallyAllowsPinLaw -/
def k1 : Class := { plain "com/example/okay_bearer/okaybearer/ratelimit/TallyAllowsPinLaw" (some 0) with
  accessFlags := 49
  interfaces := #[]
  cf := some (fileOf pool1 27 #[] #[{ accessFlags := 1, nameIndex := 5, descriptorIndex := 6, attributes := #[] }, { accessFlags := 9, nameIndex := 31, descriptorIndex := 32, attributes := #[] }] 49 2 #[] #[])
  fields := #[]
  methods := #[k1m0, k1m1]
  instanceTypes := #[]
  staticTypes := #[]
  resolved := Array.replicate 40 none
  statics := none }

def pool2 : Array CpInfo := pool [(1, .methodref 2 3), (0, .class_ 4), (0, .nameAndType 5 6), (0, u "java/lang/Object"), (0, u "<init>"), (0, u "()V"), (0, .class_ 8), (0, u "java/lang/Record")] 13

def k2c0 : Code := { maxStack := 1, maxLocals := 1, code := jdk_30_method_1_code, exceptionTable := #[], attributes := #[] }
def k2m0 : Method := { name := "<init>", desc := "()V", sig := { parameters := [], returnType := none }, accessFlags := 4, code := some k2c0 }
/-- java/lang/Record -/
def k2 : Class := { plain "java/lang/Record" (some 0) with
  accessFlags := 1057
  interfaces := #[]
  cf := some (fileOf pool2 7 #[] #[{ accessFlags := 4, nameIndex := 5, descriptorIndex := 6, attributes := #[] }] 1057 2 #[] #[])
  fields := #[]
  methods := #[k2m0]
  instanceTypes := #[]
  staticTypes := #[]
  resolved := Array.replicate 22 none
  statics := none }

def pool3 : Array CpInfo := pool [(1, .methodref 2 3), (0, .class_ 4), (0, .nameAndType 5 6), (0, u "java/lang/Record"), (0, u "<init>"), (0, u "()V"), (0, .fieldref 8 9), (0, .class_ 10), (0, .nameAndType 11 12), (0, u "com/example/okay_bearer/okaybearer/ratelimit/RateLimiter$Tally"), (0, u "budget"), (0, u "I"), (0, .fieldref 8 14), (0, .nameAndType 15 16), (0, u "counted"), (0, u "J"), (0, .fieldref 8 18), (0, .nameAndType 19 16), (0, u "end"), (0, .fieldref 8 21), (0, .nameAndType 22 23), (0, u "kept"), (0, u "Z"), (2, u "(IJJZ)V"), (22, u "allows"), (0, u "()Z"), (2, u "()J"), (1, u "()I"), (4, .class_ 61), (0, u "com/example/okay_bearer/okaybearer/ratelimit/RateLimiter")] 22

def k3c0 : Code := { maxStack := 3, maxLocals := 7, code := prog_20_method_2_code, exceptionTable := #[], attributes := #[] }
def k3m0 : Method := { name := "<init>", desc := "(IJJZ)V", sig := { parameters := [.int, .long, .long, .boolean], returnType := none }, accessFlags := 0, code := some k3c0 }
def k3c1 : Code := { maxStack := 4, maxLocals := 1, code := prog_20_method_3_code, exceptionTable := #[], attributes := #[] }
def k3m1 : Method := { name := "allows", desc := "()Z", sig := { parameters := [], returnType := some .boolean }, accessFlags := 0, code := some k3c1 }
def k3c2 : Code := { maxStack := 1, maxLocals := 1, code := prog_20_method_8_code, exceptionTable := #[], attributes := #[] }
def k3m2 : Method := { name := "budget", desc := "()I", sig := { parameters := [], returnType := some .int }, accessFlags := 1, code := some k3c2 }
def k3c3 : Code := { maxStack := 2, maxLocals := 1, code := prog_20_method_9_code, exceptionTable := #[], attributes := #[] }
def k3m3 : Method := { name := "counted", desc := "()J", sig := { parameters := [], returnType := some .long }, accessFlags := 1, code := some k3c3 }
def k3c4 : Code := { maxStack := 1, maxLocals := 1, code := prog_20_method_11_code, exceptionTable := #[], attributes := #[] }
def k3m4 : Method := { name := "kept", desc := "()Z", sig := { parameters := [], returnType := some .boolean }, accessFlags := 1, code := some k3c4 }
/-- com/example/okay_bearer/okaybearer/ratelimit/RateLimiter$Tally -/
def k3 : Class := { plain "com/example/okay_bearer/okaybearer/ratelimit/RateLimiter$Tally" (some 2) with
  accessFlags := 48
  interfaces := #[]
  cf := some (fileOf pool3 8 #[.nestHost 60] #[{ accessFlags := 0, nameIndex := 5, descriptorIndex := 26, attributes := #[] }, { accessFlags := 0, nameIndex := 49, descriptorIndex := 50, attributes := #[] }, { accessFlags := 1, nameIndex := 11, descriptorIndex := 55, attributes := #[] }, { accessFlags := 1, nameIndex := 15, descriptorIndex := 53, attributes := #[] }, { accessFlags := 1, nameIndex := 22, descriptorIndex := 50, attributes := #[] }] 48 2 #[] #[{ accessFlags := 18, nameIndex := 11, descriptorIndex := 12, attributes := #[] }, { accessFlags := 18, nameIndex := 15, descriptorIndex := 16, attributes := #[] }, { accessFlags := 18, nameIndex := 19, descriptorIndex := 16, attributes := #[] }, { accessFlags := 18, nameIndex := 22, descriptorIndex := 23, attributes := #[] }])
  fields := #[{ name := "budget", type := .int, accessFlags := 18, slot := 0, constantValue := 0 }, { name := "counted", type := .long, accessFlags := 18, slot := 1, constantValue := 0 }, { name := "end", type := .long, accessFlags := 18, slot := 2, constantValue := 0 }, { name := "kept", type := .boolean, accessFlags := 18, slot := 3, constantValue := 0 }]
  methods := #[k3m0, k3m1, k3m2, k3m3, k3m4]
  instanceTypes := #[.int, .long, .long, .boolean]
  staticTypes := #[]
  resolved := Array.replicate 84 none
  statics := none }

def pool4 : Array CpInfo := pool [(1, u "java/lang/Cloneable"), (0, .class_ 1), (0, u "java/lang/Object"), (0, .class_ 3)] 3

/-- java/lang/Cloneable -/
def k4 : Class := { plain "java/lang/Cloneable" (some 0) with
  accessFlags := 1537
  interfaces := #[]
  cf := some (fileOf pool4 2 #[] #[] 1537 4 #[] #[])
  fields := #[]
  methods := #[]
  instanceTypes := #[]
  staticTypes := #[]
  resolved := Array.replicate 8 none
  statics := none }

def pool5 : Array CpInfo := pool [(1, u "java/io/Serializable"), (0, .class_ 1), (0, u "java/lang/Object"), (0, .class_ 3)] 3

/-- java/io/Serializable -/
def k5 : Class := { plain "java/io/Serializable" (some 0) with
  accessFlags := 1537
  interfaces := #[]
  cf := some (fileOf pool5 2 #[] #[] 1537 4 #[] #[])
  fields := #[]
  methods := #[]
  instanceTypes := #[]
  staticTypes := #[]
  resolved := Array.replicate 8 none
  statics := none }

/-- the primitive byte -/
def k6 : Class := { plain "byte" none with kind := .primitive 'B', accessFlags := 0x411 }
/-- [B -/
def k7 : Class := { plain "[B" (some 0) with kind := .array 6 .byte, interfaces := #[4, 5], accessFlags := 1041 }

/-- the primitive int -/
def k8 : Class := { plain "int" none with kind := .primitive 'I', accessFlags := 0x411 }
/-- [I -/
def k9 : Class := { plain "[I" (some 0) with kind := .array 8 .int, interfaces := #[4, 5], accessFlags := 1041 }

def heap : Heap := #[]
def classes : Array Class := #[k0, k1, k2, k3, k4, k5, k6, k7, k8, k9]
def interned : List (Array UInt16 × Addr) := []
def slotsUsed : Nat := 0
def theMethod : MethodId := ⟨1, 1⟩
def args0 : Array Value := #[.int 5, .long 3, .long 7, .int 1]
def aboutOver (below : List Frame) : State where
  vm := { classes := classes, interned := interned.toArray }
  heap := heap
  slotsUsed := slotsUsed
  threads := #[{ frames := .invoking theMethod args0 :: below }]
def below0 : List Frame := [.native { method := ⟨0, 0⟩, args := #[] }]
def about1 : State := aboutOver below0
def p0 : Program := .bare "" "" ""
def e0 : Env := launch0.env 0 0 0
theorem w_frames : about1.frames = Frame.invoking theMethod args0 :: below0 := rfl
set_option maxRecDepth 65536 in
theorem w_args : argsFit about1.vm theMethod args0 = true := by decide +kernel
set_option maxRecDepth 65536 in
theorem w_heap : heapFits about1 = true := by decide +kernel
set_option maxRecDepth 65536 in
theorem w_runnable : about1.curStatus? = some .runnable := by decide +kernel
set_option maxRecDepth 65536 in
theorem w_alone : about1.alone = true := by decide +kernel
set_option maxRecDepth 65536 in
theorem w_named : about1.methodNamed? x = some theMethod := by decide +kernel
set_option maxRecDepth 65536 in
theorem w_hears : about1.hears theMethod below0 = true := by decide +kernel
set_option maxRecDepth 65536 in
theorem w_ripe : about1.ripe theMethod args0 below0 = true := by decide +kernel
theorem w_running : about1.status = .running := rfl
set_option maxRecDepth 65536 in
theorem w_room : about1.hasRoom e0.platform room_1 = true :=
  launch0.hasRoom_least _ room_1 (by decide +kernel) (by decide +kernel) (by decide +kernel) (by decide +kernel) (by decide +kernel) (by decide +kernel)
theorem allAtoms_all (ts : List Jvm.Cond) (a : Array Jvm.Value) (st : Jvm.State) : (allAtoms ts).before a st = ts.all (fun c => c.before a st) := by
  induction ts with
  | nil => rfl
  | cons c t ih =>
    show (Jvm.Cond.and c (allAtoms t)).before a st = _
    rw [Jvm.Cond.before_and, ih, List.all_cons]
def words1 : List Jvm.Cond := Jvm.Cond.code x code maxLocals ret :: tables_1
/-- a 'code' word, met by the world's own term for the bytes: nothing is compared byte by byte -/
theorem code_word {y : MethodName} {bytes : ByteArray} {mx : Nat} {rt : Option FieldType} {a : Array Value} {s : State} {m : MethodId} {meth : Method} {c : Code} (h1 : s.methodNamed? y = some m) (h2 : s.vm.method? m = some meth) (h3 : meth.code = some c) (h4 : c.code = bytes)
    (h5 : (c.maxLocals == mx && c.exceptionTable.isEmpty && decide (c.maxStack ≤ mostOperands) && decide (meth.sig.returnType = rt) && !meth.locks && decide (parseMethodDescriptor y.desc = some meth.sig)) = true) : (Jvm.Cond.code y bytes mx rt).before a s = true := by
  simp only [Bool.and_eq_true, beq_iff_eq, Bool.not_eq_true', decide_eq_true_eq] at h5
  obtain ⟨⟨⟨⟨⟨g1, g2⟩, g3⟩, g4⟩, g5⟩, g6⟩ := h5
  simp [Cond.before, Cond.holds, Cond.value, h1, h2, h3, h4, g1, g2, g3, g4, g5, g6]
def isCode : Jvm.Cond → Bool
  | .code _ _ _ _ => true
  | _ => false
theorem all_split {L : List Jvm.Cond} {P : Jvm.Cond → Bool} (h1 : L.all (fun c => isCode c || P c) = true) (h2 : ∀ c ∈ L.filter isCode, P c = true) : L.all P = true := by
  refine List.all_eq_true.mpr fun c hc => ?_
  have h := List.all_eq_true.mp h1 c hc
  rcases Bool.eq_false_or_eq_true (isCode c) with hi | hi
  · exact h2 c (List.mem_filter.mpr ⟨hc, hi⟩)
  · simpa [hi] using h
set_option maxRecDepth 65536 in
theorem w_c0 : (Jvm.Cond.code x code maxLocals ret).before args0 about1 = true := code_word (m := ⟨1, 1⟩) (meth := k1m1) (c := k1c1) (by decide +kernel) rfl rfl rfl (by decide +kernel)
set_option maxRecDepth 65536 in
theorem w_c1 : (Jvm.Cond.code ({ cls := "com/example/okay_bearer/okaybearer/ratelimit/RateLimiter$Tally", name := "<init>", desc := "(IJJZ)V" } : Jvm.MethodName) prog_20_method_2_code (7 : Nat) (Option.none : Option Jvm.ClassFile.FieldType)).before args0 about1 = true := code_word (m := ⟨3, 0⟩) (meth := k3m0) (c := k3c0) (by decide +kernel) rfl rfl rfl (by decide +kernel)
set_option maxRecDepth 65536 in
theorem w_c2 : (Jvm.Cond.code ({ cls := "java/lang/Record", name := "<init>", desc := "()V" } : Jvm.MethodName) jdk_30_method_1_code (1 : Nat) (Option.none : Option Jvm.ClassFile.FieldType)).before args0 about1 = true := code_word (m := ⟨2, 0⟩) (meth := k2m0) (c := k2c0) (by decide +kernel) rfl rfl rfl (by decide +kernel)
set_option maxRecDepth 65536 in
theorem w_c3 : (Jvm.Cond.code ({ cls := "java/lang/Object", name := "<init>", desc := "()V" } : Jvm.MethodName) object_method_1_code (1 : Nat) (Option.none : Option Jvm.ClassFile.FieldType)).before args0 about1 = true := code_word (m := ⟨0, 0⟩) (meth := k0m0) (c := k0c0) (by decide +kernel) rfl rfl rfl (by decide +kernel)
set_option maxRecDepth 65536 in
theorem w_c4 : (Jvm.Cond.code ({ cls := "com/example/okay_bearer/okaybearer/ratelimit/RateLimiter$Tally", name := "allows", desc := "()Z" } : Jvm.MethodName) prog_20_method_3_code (1 : Nat) (Option.some Jvm.ClassFile.FieldType.boolean)).before args0 about1 = true := code_word (m := ⟨3, 1⟩) (meth := k3m1) (c := k3c1) (by decide +kernel) rfl rfl rfl (by decide +kernel)
set_option maxRecDepth 65536 in
theorem w_c5 : (Jvm.Cond.code ({ cls := "com/example/okay_bearer/okaybearer/ratelimit/RateLimiter$Tally", name := "kept", desc := "()Z" } : Jvm.MethodName) prog_20_method_11_code (1 : Nat) (Option.some Jvm.ClassFile.FieldType.boolean)).before args0 about1 = true := code_word (m := ⟨3, 4⟩) (meth := k3m4) (c := k3c4) (by decide +kernel) rfl rfl rfl (by decide +kernel)
set_option maxRecDepth 65536 in
theorem w_c6 : (Jvm.Cond.code ({ cls := "com/example/okay_bearer/okaybearer/ratelimit/RateLimiter$Tally", name := "counted", desc := "()J" } : Jvm.MethodName) prog_20_method_9_code (1 : Nat) (Option.some Jvm.ClassFile.FieldType.long)).before args0 about1 = true := code_word (m := ⟨3, 3⟩) (meth := k3m3) (c := k3c3) (by decide +kernel) rfl rfl rfl (by decide +kernel)
set_option maxRecDepth 65536 in
theorem w_c7 : (Jvm.Cond.code ({ cls := "com/example/okay_bearer/okaybearer/ratelimit/RateLimiter$Tally", name := "budget", desc := "()I" } : Jvm.MethodName) prog_20_method_8_code (1 : Nat) (Option.some Jvm.ClassFile.FieldType.int)).before args0 about1 = true := code_word (m := ⟨3, 2⟩) (meth := k3m2) (c := k3c2) (by decide +kernel) rfl rfl rfl (by decide +kernel)
def codes1 : List Jvm.Cond := [Jvm.Cond.code x code maxLocals ret, Jvm.Cond.code ({ cls := "com/example/okay_bearer/okaybearer/ratelimit/RateLimiter$Tally", name := "<init>", desc := "(IJJZ)V" } : Jvm.MethodName) prog_20_method_2_code (7 : Nat) (Option.none : Option Jvm.ClassFile.FieldType), Jvm.Cond.code ({ cls := "java/lang/Record", name := "<init>", desc := "()V" } : Jvm.MethodName) jdk_30_method_1_code (1 : Nat) (Option.none : Option Jvm.ClassFile.FieldType), Jvm.Cond.code ({ cls := "java/lang/Object", name := "<init>", desc := "()V" } : Jvm.MethodName) object_method_1_code (1 : Nat) (Option.none : Option Jvm.ClassFile.FieldType), Jvm.Cond.code ({ cls := "com/example/okay_bearer/okaybearer/ratelimit/RateLimiter$Tally", name := "allows", desc := "()Z" } : Jvm.MethodName) prog_20_method_3_code (1 : Nat) (Option.some Jvm.ClassFile.FieldType.boolean), Jvm.Cond.code ({ cls := "com/example/okay_bearer/okaybearer/ratelimit/RateLimiter$Tally", name := "kept", desc := "()Z" } : Jvm.MethodName) prog_20_method_11_code (1 : Nat) (Option.some Jvm.ClassFile.FieldType.boolean), Jvm.Cond.code ({ cls := "com/example/okay_bearer/okaybearer/ratelimit/RateLimiter$Tally", name := "counted", desc := "()J" } : Jvm.MethodName) prog_20_method_9_code (1 : Nat) (Option.some Jvm.ClassFile.FieldType.long), Jvm.Cond.code ({ cls := "com/example/okay_bearer/okaybearer/ratelimit/RateLimiter$Tally", name := "budget", desc := "()I" } : Jvm.MethodName) prog_20_method_8_code (1 : Nat) (Option.some Jvm.ClassFile.FieldType.int)]
set_option maxRecDepth 65536 in
theorem codes_eq : words1.filter isCode = codes1 := rfl
theorem w_codes : ∀ c ∈ words1.filter isCode, c.before args0 about1 = true := by
  rw [codes_eq]
  intro c hc
  simp only [codes1, List.mem_cons, List.not_mem_nil, or_false] at hc
  rcases hc with rfl | rfl | rfl | rfl | rfl | rfl | rfl | rfl
  · exact w_c0
  · exact w_c1
  · exact w_c2
  · exact w_c3
  · exact w_c4
  · exact w_c5
  · exact w_c6
  · exact w_c7
set_option maxRecDepth 65536 in
theorem w_t1 : (words1.take 24).all (fun c => isCode c || c.before args0 about1) = true := by decide +kernel
set_option maxRecDepth 65536 in
theorem w_t2 : (words1.drop 24).all (fun c => isCode c || c.before args0 about1) = true := by decide +kernel
theorem w_tables : (allAtoms (Jvm.Cond.code x code maxLocals ret :: tables_1)).before args0 about1 = true := by
  rw [allAtoms_all]
  show words1.all (fun c => c.before args0 about1) = true
  refine all_split ?_ w_codes
  rw [← List.take_append_drop 24 words1, List.all_append, w_t1, w_t2]
  rfl
set_option maxRecDepth 65536 in
theorem w_case : (Jvm.Cond.and given_1 narrow_1).before args0 about1 = true := by decide +kernel
theorem w_applies : (headSpec (Jvm.Cond.code x code maxLocals ret :: tables_1) room_1).applies x e0.platform about1 = true :=
  (Spec.applies_iff w_frames).mpr ⟨w_running, w_runnable, w_alone, w_named, w_hears, w_ripe, w_room, w_tables⟩
theorem atStart : AtStart classFile x code maxLocals ret World_1 tables_1 room_1 Calls_1 rest_1 Pre_1 launch0 p0 e0 about1 theMethod args0 below0 :=
  ⟨lists_1, trivial, launch0.admits_env _ _ _, launch0.least_env, fairChoices_fair.cas, fairChoices_fair.clock, w_frames, w_args, w_heap, w_applies, trivial, trivial, w_case⟩
end start1
theorem witness_1 : WitnessClaimed_1 := ⟨start1.p0, start1.e0, start1.about1, start1.theMethod, start1.args0, start1.below0, start1.atStart⟩
end Jvm.Pilot.@@N@@
