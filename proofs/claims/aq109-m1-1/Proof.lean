import JvmDerived
import JvmDerived.Pilot.@@N@@Statement
import JvmDerived.Pilot.@@N@@Code
set_option linter.unusedVariables false
set_option linter.unusedSimpArgs false
@@BLOCK:NumsL.lean.txt@@
namespace Jvm.RoadKit
open Sem ClassFile Op Lib Jvm.Stand Jvm.Free Jvm.LawKit
section New
variable {p : Program} {l : Launch} {e : Env} {R : Room} {s : State} {m : MethodId} {args : Array Value} {below : List Frame} {meth : Method} {c : Code} {T : State} {locs : List Loc} {cells slots : Nat}
theorem retI (X : Stand p l e R s m args below meth c T locs cells slots) (hx : p.tables.exec = Jvm.exec) {pc : Nat} {Ls : Array Slot} {z : Int32} {rest : List Value} (hret : meth.sig.returnType = some .int) (hd : decode c.code pc = .ok (.ireturn, 1)) {fs : List Frame}
    (hl : ∀ (f : JFrame) (acts : List Action), f.method = m → f.locked = none → f.entered = [] → (doReturn e (T.setTop f) acts (some (.int z))).1 = T.setFrames fs) : Steps p.tables e below (T.setTop (mkF m pc Ls (.int z :: rest))) (T.setFrames fs) := by
  have hm' : T.vm.method? m = some meth := X.method'
  have hn : narrow .int (.int z) = .int z := rfl
  show Steps p.tables e below (T.setTop { method := m, pc := pc, locals := Ls, stack := _ :: rest, locked := none }) _
  jvm_step X.here [X.here.top, hx, hd, hm', hret, hn]
  first | (intro acts; rw [hl _ acts rfl rfl rfl]) | rw [hl _ _ rfl rfl rfl]
  exact Steps.refl _
end New
end Jvm.RoadKit
namespace Jvm.Pilot.@@N@@
open Jvm Jvm.ClassFile Sem Op Lib Jvm.Free Jvm.Stand Jvm.LawKit Jvm.RoadKit Bundle Jvm.Pilot.@@N@@.Jvm.D
/-- the goal of a walk, carried from one point to the next -/
theorem own_via {tb : Tables} {e : Env} {below : List Frame} {Y Y' : State} {P : State → Outcome → Prop} (h : ∀ t, Steps tb e below Y' t → Steps tb e below Y t) (g : ∃ s₂ o, Steps tb e below Y' s₂ ∧ P s₂ o) : ∃ s₂ o, Steps tb e below Y s₂ ∧ P s₂ o := by
  obtain ⟨s₂, o, h1, h2⟩ := g
  exact ⟨s₂, o, h _ h1, h2⟩
/-- the same where the goal is a join: 'from here the run comes to F x for some x with A x' -/
theorem own_via2 {tb : Tables} {e : Env} {below : List Frame} {Y Y' : State} {α : Type} {A : α → Prop} {F : α → State} (h : ∀ t, Steps tb e below Y' t → Steps tb e below Y t) (g : ∃ x, A x ∧ ∀ t, Steps tb e below (F x) t → Steps tb e below Y' t) : ∃ x, A x ∧ ∀ t, Steps tb e below (F x) t → Steps tb e below Y t := by
  obtain ⟨x, h1, h2⟩ := g
  exact ⟨x, h1, fun t kt => h _ (h2 _ kt)⟩
/-- what a callee leaves that writes nothing: its answer, no place written, the heap as it was -/
def own_Q (r : Option Value) (h0 : Heap) (v : Option Value) (h : Heap) (L : List Loc) : Prop := v = r ∧ L = [] ∧ h = h0
theorem pd_II_I : parseMethodDescriptor "(II)I" = some ⟨[.int, .int], some .int⟩ := by decide +kernel
theorem pd_III_V : parseMethodDescriptor "(III)V" = some ⟨[.int, .int, .int], none⟩ := by decide +kernel
theorem pd__V : parseMethodDescriptor "()V" = some ⟨[], none⟩ := by decide +kernel
theorem pd_I_Z : parseMethodDescriptor "(I)Z" = some ⟨[.int], some .boolean⟩ := by decide +kernel
theorem pd_IZIZ_Z : parseMethodDescriptor "(IZIZ)Z" = some ⟨[.int, .boolean, .int, .boolean], some .boolean⟩ := by decide +kernel
theorem d1_0 : decode jdk_29_method_65_code 0 = .ok (.iload_n 0, 1) := by decide +kernel
theorem d1_1 : decode jdk_29_method_65_code 1 = .ok (.iload_n 1, 1) := by decide +kernel
theorem d1_2 : decode jdk_29_method_65_code 2 = .ok (.if_icmp .lt 7, 3) := by decide +kernel
theorem d1_5 : decode jdk_29_method_65_code 5 = .ok (.iload_n 0, 1) := by decide +kernel
theorem d1_6 : decode jdk_29_method_65_code 6 = .ok (.goto 4, 3) := by decide +kernel
theorem d1_9 : decode jdk_29_method_65_code 9 = .ok (.iload_n 1, 1) := by decide +kernel
theorem d1_10 : decode jdk_29_method_65_code 10 = .ok (.ireturn, 1) := by decide +kernel
theorem d2_0 : decode prog_14_method_1_code 0 = .ok (.aload_n 0, 1) := by decide +kernel
theorem d2_1 : decode prog_14_method_1_code 1 = .ok (.invokespecial 1, 3) := by decide +kernel
theorem d2_4 : decode prog_14_method_1_code 4 = .ok (.aload_n 0, 1) := by decide +kernel
theorem d2_5 : decode prog_14_method_1_code 5 = .ok (.iload_n 1, 1) := by decide +kernel
theorem d2_6 : decode prog_14_method_1_code 6 = .ok (.putfield 7, 3) := by decide +kernel
theorem d2_9 : decode prog_14_method_1_code 9 = .ok (.aload_n 0, 1) := by decide +kernel
theorem d2_10 : decode prog_14_method_1_code 10 = .ok (.iload_n 2, 1) := by decide +kernel
theorem d2_11 : decode prog_14_method_1_code 11 = .ok (.i2l, 1) := by decide +kernel
theorem d2_12 : decode prog_14_method_1_code 12 = .ok (.putfield 13, 3) := by decide +kernel
theorem d2_15 : decode prog_14_method_1_code 15 = .ok (.aload_n 0, 1) := by decide +kernel
theorem d2_16 : decode prog_14_method_1_code 16 = .ok (.iload_n 3, 1) := by decide +kernel
theorem d2_17 : decode prog_14_method_1_code 17 = .ok (.i2l, 1) := by decide +kernel
theorem d2_18 : decode prog_14_method_1_code 18 = .ok (.putfield 17, 3) := by decide +kernel
theorem d2_21 : decode prog_14_method_1_code 21 = .ok (.return_, 1) := by decide +kernel
theorem pn_RetryPolicy : plainName "com/example/hoopoe/hoopoe/RetryPolicy" = true := by first | (simp [plainName, overriddenIn]; done) | decide +kernel
theorem d4_0 : decode prog_14_method_2_code 0 = .ok (.iload_n 1, 1) := by decide +kernel
theorem d4_1 : decode prog_14_method_2_code 1 = .ok (.aload_n 0, 1) := by decide +kernel
theorem d4_2 : decode prog_14_method_2_code 2 = .ok (.getfield 7, 3) := by decide +kernel
theorem d4_5 : decode prog_14_method_2_code 5 = .ok (.if_icmp .lt 7, 3) := by decide +kernel
theorem d4_8 : decode prog_14_method_2_code 8 = .ok (.iconst 1, 1) := by decide +kernel
theorem d4_9 : decode prog_14_method_2_code 9 = .ok (.goto 4, 3) := by decide +kernel
theorem d4_12 : decode prog_14_method_2_code 12 = .ok (.iconst 0, 1) := by decide +kernel
theorem d4_13 : decode prog_14_method_2_code 13 = .ok (.ireturn, 1) := by decide +kernel
theorem d5_0 : decode method_2_code 0 = .ok (.iload_n 0, 1) := by decide +kernel
theorem d5_1 : decode method_2_code 1 = .ok (.iload_n 2, 1) := by decide +kernel
theorem d5_2 : decode method_2_code 2 = .ok (.if_icmp .gt 9, 3) := by decide +kernel
theorem d5_5 : decode method_2_code 5 = .ok (.iload_n 1, 1) := by decide +kernel
theorem d5_6 : decode method_2_code 6 = .ok (.ifCond .eq 5, 3) := by decide +kernel
theorem d5_9 : decode method_2_code 9 = .ok (.iload_n 3, 1) := by decide +kernel
theorem d5_10 : decode method_2_code 10 = .ok (.ireturn, 1) := by decide +kernel
theorem d5_11 : decode method_2_code 11 = .ok (.iconst 1, 1) := by decide +kernel
theorem d5_12 : decode method_2_code 12 = .ok (.ireturn, 1) := by decide +kernel
theorem pn_RetryPolicySpentPinLaw : plainName "com/example/hoopoe/hoopoe/RetryPolicySpentPinLaw" = true := by first | (simp [plainName, overriddenIn]; done) | decide +kernel
/-- Math.max, plainly -/
def own_max (a b : Int32) : Int32 := if a < b then b else a
/-- RetryPolicy.spent, plainly -/
def own_spent (m f : Int32) : Int32 := if f < m then 0 else 1
/-- the law's own mono, plainly (a boolean's return keeps the lowest bit) -/
def own_mono (a sa b sb : Int32) : Int32 := if b < a then 1 else if sa = 0 then 1 else nar .boolean sb
theorem own_one : (1 : Int32).toInt = 1 := by decide
/-- the threshold is at least 1 -/
theorem own_pos (x : Int32) : 1 ≤ (own_max 1 x).toInt := by
  unfold own_max
  split
  · rename_i h
    rw [Int32.lt_iff_toInt_lt, own_one] at h
    omega
  · rw [own_one]; omega
theorem own_pred (m : Int32) (h : 1 ≤ m.toInt) : (m - 1).toInt = m.toInt - 1 := by
  have h1 := m.toInt_lt
  rw [Int32.toInt_sub, own_one]
  exact Int.bmod_eq_of_le (by omega) (by omega)
theorem own_at (m : Int32) : ¬ own_spent m m = 0 := by
  have h : ¬ m < m := by rw [Int32.lt_iff_toInt_lt]; omega
  simp only [own_spent, if_neg h]
  decide
theorem own_below (m : Int32) (h : 1 ≤ m.toInt) : own_spent m (m - 1) = 0 := by
  have h1 : m - 1 < m := by rw [Int32.lt_iff_toInt_lt, own_pred m h]; omega
  simp only [own_spent, if_pos h1]
/-- spent is monotone -/
theorem own_up (m f g : Int32) : ¬ own_mono f (own_spent m f) g (own_spent m g) = 0 := by
  unfold own_mono
  by_cases h1 : g < f
  · rw [if_pos h1]; decide
  · rw [if_neg h1]
    by_cases h2 : f < m
    · have e : own_spent m f = 0 := by simp only [own_spent, if_pos h2]
      rw [if_pos e]; decide
    · have e : own_spent m f = 1 := by simp only [own_spent, if_neg h2]
      rw [Int32.lt_iff_toInt_lt] at h1 h2
      have h3 : ¬ g < m := by rw [Int32.lt_iff_toInt_lt]; omega
      have e' : own_spent m g = 1 := by simp only [own_spent, if_neg h3]
      rw [e, e']; decide
theorem ef_1 (m : MethodId) (p1 : Int32) (p2 : Int32) : entryFrame m #[(.int p1), (.int p2)] 2 = mkF m 0 #[.val (.int p1), .val (.int p2)] [] := by first | (simp [entryFrame, mkF, argsToLocals, Value.category]; done) | rfl
set_option maxRecDepth 65536 in
set_option maxHeartbeats 40000000 in
theorem rm1 (l : Launch) (Z : State) (a0 : Array Value) (hw : ∀ d ∈ tables_1, d.before a0 Z = true) (ws : List Jvm.Cond) (p1 : Int32) (p2 : Int32) (h0 : Heap) :
    MetFree l (⟨"java/lang/Math", "max", "(II)I"⟩ : MethodName) (head1 (Jvm.Cond.code (⟨"java/lang/Math", "max", "(II)I"⟩ : MethodName) jdk_29_method_65_code 2 (some .int) :: ws) ({ frames := 0, cells := 0, slots := 0, locals := 0 } : Room)) (fun a U => a = #[(.int p1), (.int p2)] ∧ Z.Warmed39 U.vm ∧ U.heap = h0) (fun _ _ _ _ _ => True) (fun _ U o U' => ∃ v L, o = .returned v ∧ own_Q (some (.int (own_max p1 p2))) h0 v U'.heap L ∧ FrameEnd U o U' L ({ frames := 0, cells := 0, slots := 0, locals := 0 } : Room).cells ({ frames := 0, cells := 0, slots := 0, locals := 0 } : Room).slots) := by
  refine MetFree.of_bodySF (Jvm.Free.JP.mathPlain rfl (by decide +kernel)) hisR ?_
  intro p e s m args below meth c s₁ Bd hml0 hP hK
  obtain ⟨rfl, hZ, hh⟩ := hP
  have hx := Bd.exec
  have hby := Bd.bytes
  have hml : c.maxLocals = 2 := hml0
  have hown : s.vm.findClass "java/lang/Math" = some m.cls := findClass_of_methodNamed Bd.named
  have hnm := (name_of_methodNamed Bd.named Bd.method).1
  have X0 : Stand p l e ({ frames := 0, cells := 0, slots := 0, locals := 0 } : Room) s m #[(.int p1), (.int p2)] below meth c s₁ [] 0 0 := Stand.of_body Bd
  have e0 : s₁.heap = h0 := by rw [← hh, Bd.state]; rfl
  refine own_via (Y' := (s₁.setTop (mkF m 0 #[.val (.int p1), .val (.int p2)] []))) (fun t kt => castTop (ef_1 m p1 p2) kt) ?_
  refine own_via (Y' := (s₁.setTop (mkF m 2 #[.val (.int p1), .val (.int p2)] [(.int p2), (.int p1)]))) (fun t kt => ?_) ?_
  · show Steps p.tables e below (s₁.setTop (mkF m 0 #[.val (.int p1), .val (.int p2)] [])) _
    refine XS.iloadN X0.here hx rfl (hb hby d1_0) rfl ?_
    show Steps p.tables e below (s₁.setTop (mkF m 1 #[.val (.int p1), .val (.int p2)] [(.int p1)])) _
    refine XS.iloadN X0.here hx rfl (hb hby d1_1) rfl ?_
    exact kt
  by_cases h1 : p1 < p2
  · obtain ⟨fs, hr, hrun, hended, hW, hsame⟩ := X0.leave (v := (some (.int p2))) (fun h => by rw [Bd.returns] at h; cases h)
    refine ⟨_, _, ?_, hrun, hended, _, _, rfl, ?_, ⟨_, rfl⟩, hW, hsame.mono (by decide) (by decide)⟩
    · show Steps p.tables e below (s₁.setTop (mkF m 2 #[.val (.int p1), .val (.int p2)] [(.int p2), (.int p1)])) _
      refine XS.icmpYes X0.here hx rfl (pc0 := 2) (pc' := 9) rfl (hb hby d1_2) rfl (XT.ii_lt_t h1) (by decide) (by decide) ?_
      show Steps p.tables e below (s₁.setTop (mkF m 9 #[.val (.int p1), .val (.int p2)] [])) _
      refine XS.iloadN X0.here hx rfl (hb hby d1_9) rfl ?_
      show Steps p.tables e below (s₁.setTop (mkF m 10 #[.val (.int p1), .val (.int p2)] [(.int p2)])) _
      exact retI X0 hx Bd.returns (hb hby d1_10) hr
    · exact ⟨by simp only [own_max, if_pos h1], rfl, e0⟩
  · obtain ⟨fs, hr, hrun, hended, hW, hsame⟩ := X0.leave (v := (some (.int p1))) (fun h => by rw [Bd.returns] at h; cases h)
    refine ⟨_, _, ?_, hrun, hended, _, _, rfl, ?_, ⟨_, rfl⟩, hW, hsame.mono (by decide) (by decide)⟩
    · show Steps p.tables e below (s₁.setTop (mkF m 2 #[.val (.int p1), .val (.int p2)] [(.int p2), (.int p1)])) _
      refine XS.icmpNo X0.here hx rfl (hb hby d1_2) rfl (XT.ii_lt_f h1) ?_
      show Steps p.tables e below (s₁.setTop (mkF m 5 #[.val (.int p1), .val (.int p2)] [])) _
      refine XS.iloadN X0.here hx rfl (hb hby d1_5) rfl ?_
      show Steps p.tables e below (s₁.setTop (mkF m 6 #[.val (.int p1), .val (.int p2)] [(.int p1)])) _
      refine XS.goto X0.here hx rfl (pc0 := 6) (pc' := 10) rfl (hb hby d1_6) (by decide) (by decide) ?_
      show Steps p.tables e below (s₁.setTop (mkF m 10 #[.val (.int p1), .val (.int p2)] [(.int p1)])) _
      exact retI X0 hx Bd.returns (hb hby d1_10) hr
    · exact ⟨by simp only [own_max, if_neg h1], rfl, e0⟩
/-- what the constructor leaves -/
def own_QC (Z : State) (a1 : Addr) (p2 : Int32) (p3 : Int32) (p4 : Int32) (h0 : Heap) (n0 : Nat) (v : Option Value) (h : Heap) (L : List Loc) : Prop := v = none ∧ Fr n0 L ∧ Keep h0 h [a1] ∧ Exa Z h a1 "com/example/hoopoe/hoopoe/RetryPolicy" ∧ Fld Z h a1 "com/example/hoopoe/hoopoe/RetryPolicy" "maxAttempts" "I" (.int p2) ∧ Fld Z h a1 "com/example/hoopoe/hoopoe/RetryPolicy" "baseMillis" "J" (.long (p3.toInt64)) ∧ Fld Z h a1 "com/example/hoopoe/hoopoe/RetryPolicy" "capMillis" "J" (.long (p4.toInt64))
theorem ef_2 (m : MethodId) (a1 : Addr) (p2 : Int32) (p3 : Int32) (p4 : Int32) : entryFrame m #[(.ref a1), (.int p2), (.int p3), (.int p4)] 4 = mkF m 0 #[.val (.ref a1), .val (.int p2), .val (.int p3), .val (.int p4)] [] := by first | (simp [entryFrame, mkF, argsToLocals, Value.category]; done) | rfl
set_option maxRecDepth 65536 in
set_option maxHeartbeats 40000000 in
theorem rm2 (l : Launch) (Z : State) (a0 : Array Value) (hw : ∀ d ∈ tables_1, d.before a0 Z = true) (ws : List Jvm.Cond) (a1 : Addr) (p2 : Int32) (p3 : Int32) (p4 : Int32) (h0 : Heap) (n0 : Nat) (g_a1 : n0 ≤ a1) (E_a1 : Exa Z h0 a1 "com/example/hoopoe/hoopoe/RetryPolicy") (F_maxAttempts : Fld Z h0 a1 "com/example/hoopoe/hoopoe/RetryPolicy" "maxAttempts" "I" (.int (0 : Int32))) (F_baseMillis : Fld Z h0 a1 "com/example/hoopoe/hoopoe/RetryPolicy" "baseMillis" "J" (.long (0 : Int64))) (F_capMillis : Fld Z h0 a1 "com/example/hoopoe/hoopoe/RetryPolicy" "capMillis" "J" (.long (0 : Int64))) :
    MetFree l (⟨"com/example/hoopoe/hoopoe/RetryPolicy", "<init>", "(III)V"⟩ : MethodName) (head1 (Jvm.Cond.code (⟨"com/example/hoopoe/hoopoe/RetryPolicy", "<init>", "(III)V"⟩ : MethodName) prog_14_method_1_code 4 none :: ws) ({ frames := 1, cells := 0, slots := 0, locals := 12 } : Room)) (fun a U => a = #[(.ref a1), (.int p2), (.int p3), (.int p4)] ∧ Z.Warmed39 U.vm ∧ U.heap = h0) (fun _ _ _ _ _ => True) (fun _ U o U' => ∃ v L, o = .returned v ∧ own_QC Z a1 p2 p3 p4 h0 n0 v U'.heap L ∧ FrameEnd U o U' L ({ frames := 1, cells := 0, slots := 0, locals := 12 } : Room).cells ({ frames := 1, cells := 0, slots := 0, locals := 12 } : Room).slots) := by
  refine MetFree.of_bodySF (plainFor_of_name pn_RetryPolicy) hisR ?_
  intro p e s m args below meth c s₁ Bd hml0 hP hK
  obtain ⟨rfl, hZ, hh⟩ := hP
  have hx := Bd.exec
  have hby := Bd.bytes
  have hml : c.maxLocals = 4 := hml0
  have hown : s.vm.findClass "com/example/hoopoe/hoopoe/RetryPolicy" = some m.cls := findClass_of_methodNamed Bd.named
  have hnm := (name_of_methodNamed Bd.named Bd.method).1
  have X0 : Stand p l e ({ frames := 1, cells := 0, slots := 0, locals := 12 } : Room) s m #[(.ref a1), (.int p2), (.int p3), (.int p4)] below meth c s₁ [] 0 0 := Stand.of_body Bd
  have e0 : s₁.heap = h0 := by rw [← hh, Bd.state]; rfl
  refine own_via (Y' := (s₁.setTop (mkF m 0 #[.val (.ref a1), .val (.int p2), .val (.int p3), .val (.int p4)] []))) (fun t kt => castTop (ef_2 m a1 p2 p3 p4) kt) ?_
  have N0 := Fr.nil n0
  refine own_via (Y' := (s₁.setTop (mkF m 1 #[.val (.ref a1), .val (.int p2), .val (.int p3), .val (.int p4)] [(.ref a1)]))) (fun t kt => ?_) ?_
  · show Steps p.tables e below (s₁.setTop (mkF m 0 #[.val (.ref a1), .val (.int p2), .val (.int p3), .val (.int p4)] [])) _
    refine XS.aloadN X0.here hx rfl (hb hby d2_0) rfl rfl ?_
    exact kt
  obtain ⟨T1, X1, e1, st1⟩ := initO X0 hx hZ hown (hw _ (List.mem_of_getElem? (i := 11) rfl)) (hw _ (List.mem_of_getElem? (i := 12) rfl)) (hw _ (List.mem_of_getElem? (i := 13) rfl)) e0 (g := (mkF m 1 #[.val (.ref a1), .val (.int p2), .val (.int p3), .val (.int p4)] [(.ref a1)])) rfl (by rw [hml]; rfl) rfl (hb hby d2_1) (by decide) (W := 0) (by show 2 * 0 + _ ≤ _; exact Nat.le_of_eq rfl) (by decide)
  refine own_via (Y' := (T1.setTop (mkF m 4 #[.val (.ref a1), .val (.int p2), .val (.int p3), .val (.int p4)] []))) (fun t kt => st1 _ kt) ?_
  refine own_via (Y' := (T1.setTop (mkF m 6 #[.val (.ref a1), .val (.int p2), .val (.int p3), .val (.int p4)] [(.int p2), (.ref a1)]))) (fun t kt => ?_) ?_
  · show Steps p.tables e below (T1.setTop (mkF m 4 #[.val (.ref a1), .val (.int p2), .val (.int p3), .val (.int p4)] [])) _
    refine XS.aloadN X1.here hx rfl (hb hby d2_4) rfl rfl ?_
    show Steps p.tables e below (T1.setTop (mkF m 5 #[.val (.ref a1), .val (.int p2), .val (.int p3), .val (.int p4)] [(.ref a1)])) _
    refine XS.iloadN X1.here hx rfl (hb hby d2_5) rfl ?_
    exact kt
  obtain ⟨T2, h2, X2, e2, W2, st2⟩ := putF X1 hx hZ hown (host := "") (Or.inl (hw _ (List.mem_of_getElem? (i := 14) rfl))) Via.refl e1 F_maxAttempts E_a1 (Or.inr ⟨(hw _ (List.mem_of_getElem? (i := 15) rfl)), rfl, hnm⟩) (hw _ (List.mem_of_getElem? (i := 6) rfl)) (ty := .int) (by decide) rfl rfl (g := (mkF m 6 #[.val (.ref a1), .val (.int p2), .val (.int p3), .val (.int p4)] [(.int p2), (.ref a1)])) rfl rfl (hb hby d2_6)
  have F_maxAttempts_2 : Fld Z h2 a1 "com/example/hoopoe/hoopoe/RetryPolicy" "maxAttempts" "I" (.int p2) := F_maxAttempts.same W2
  have F_baseMillis_2 := F_baseMillis.other W2 (Or.inr (slot_ne (Or.inr (hw _ (List.mem_of_getElem? (i := 17) rfl))) (Or.inr (hw _ (List.mem_of_getElem? (i := 15) rfl))) (by decide) (t := .long) (t' := .int) (by decide) (by decide)))
  have F_capMillis_2 := F_capMillis.other W2 (Or.inr (slot_ne (Or.inr (hw _ (List.mem_of_getElem? (i := 19) rfl))) (Or.inr (hw _ (List.mem_of_getElem? (i := 15) rfl))) (by decide) (t := .long) (t' := .int) (by decide) (by decide)))
  have E_2 := E_a1.wr W2
  have K2 : Keep h0 h2 [a1] := (Keep.refl h0 [a1]).wr W2 (Or.inl (List.mem_of_getElem? (i := 0) rfl))
  have N2 := Fr.snoc X2 N0 g_a1
  refine own_via (Y' := (T2.setTop (mkF m 9 #[.val (.ref a1), .val (.int p2), .val (.int p3), .val (.int p4)] []))) (fun t kt => st2 _ kt) ?_
  refine own_via (Y' := (T2.setTop (mkF m 12 #[.val (.ref a1), .val (.int p2), .val (.int p3), .val (.int p4)] [(.long (p3.toInt64)), (.ref a1)]))) (fun t kt => ?_) ?_
  · show Steps p.tables e below (T2.setTop (mkF m 9 #[.val (.ref a1), .val (.int p2), .val (.int p3), .val (.int p4)] [])) _
    refine XS.aloadN X2.here hx rfl (hb hby d2_9) rfl rfl ?_
    show Steps p.tables e below (T2.setTop (mkF m 10 #[.val (.ref a1), .val (.int p2), .val (.int p3), .val (.int p4)] [(.ref a1)])) _
    refine XS.iloadN X2.here hx rfl (hb hby d2_10) rfl ?_
    show Steps p.tables e below (T2.setTop (mkF m 11 #[.val (.ref a1), .val (.int p2), .val (.int p3), .val (.int p4)] [(.int p3), (.ref a1)])) _
    refine XT.i2l X2.here hx rfl (hb hby d2_11) rfl ?_
    exact kt
  obtain ⟨T3, h3, X3, e3, W3, st3⟩ := putF X2 hx hZ hown (host := "") (Or.inl (hw _ (List.mem_of_getElem? (i := 16) rfl))) Via.refl e2 F_baseMillis_2 E_2 (Or.inr ⟨(hw _ (List.mem_of_getElem? (i := 17) rfl)), rfl, hnm⟩) (hw _ (List.mem_of_getElem? (i := 6) rfl)) (ty := .long) (by decide) rfl rfl (g := (mkF m 12 #[.val (.ref a1), .val (.int p2), .val (.int p3), .val (.int p4)] [(.long (p3.toInt64)), (.ref a1)])) rfl rfl (hb hby d2_12)
  have F_maxAttempts_3 := F_maxAttempts_2.other W3 (Or.inr (slot_ne (Or.inr (hw _ (List.mem_of_getElem? (i := 15) rfl))) (Or.inr (hw _ (List.mem_of_getElem? (i := 17) rfl))) (by decide) (t := .int) (t' := .long) (by decide) (by decide)))
  have F_baseMillis_3 : Fld Z h3 a1 "com/example/hoopoe/hoopoe/RetryPolicy" "baseMillis" "J" (.long (p3.toInt64)) := F_baseMillis_2.same W3
  have F_capMillis_3 := F_capMillis_2.other W3 (Or.inr (slot_ne (Or.inr (hw _ (List.mem_of_getElem? (i := 19) rfl))) (Or.inr (hw _ (List.mem_of_getElem? (i := 17) rfl))) (by decide) (t := .long) (t' := .long) (by decide) (by decide)))
  have E_3 := E_2.wr W3
  have K3 : Keep h0 h3 [a1] := K2.wr W3 (Or.inl (List.mem_of_getElem? (i := 0) rfl))
  have N3 := Fr.snoc X3 N2 g_a1
  refine own_via (Y' := (T3.setTop (mkF m 15 #[.val (.ref a1), .val (.int p2), .val (.int p3), .val (.int p4)] []))) (fun t kt => st3 _ kt) ?_
  refine own_via (Y' := (T3.setTop (mkF m 18 #[.val (.ref a1), .val (.int p2), .val (.int p3), .val (.int p4)] [(.long (p4.toInt64)), (.ref a1)]))) (fun t kt => ?_) ?_
  · show Steps p.tables e below (T3.setTop (mkF m 15 #[.val (.ref a1), .val (.int p2), .val (.int p3), .val (.int p4)] [])) _
    refine XS.aloadN X3.here hx rfl (hb hby d2_15) rfl rfl ?_
    show Steps p.tables e below (T3.setTop (mkF m 16 #[.val (.ref a1), .val (.int p2), .val (.int p3), .val (.int p4)] [(.ref a1)])) _
    refine XS.iloadN X3.here hx rfl (hb hby d2_16) rfl ?_
    show Steps p.tables e below (T3.setTop (mkF m 17 #[.val (.ref a1), .val (.int p2), .val (.int p3), .val (.int p4)] [(.int p4), (.ref a1)])) _
    refine XT.i2l X3.here hx rfl (hb hby d2_17) rfl ?_
    exact kt
  obtain ⟨T4, h4, X4, e4, W4, st4⟩ := putF X3 hx hZ hown (host := "") (Or.inl (hw _ (List.mem_of_getElem? (i := 18) rfl))) Via.refl e3 F_capMillis_3 E_3 (Or.inr ⟨(hw _ (List.mem_of_getElem? (i := 19) rfl)), rfl, hnm⟩) (hw _ (List.mem_of_getElem? (i := 6) rfl)) (ty := .long) (by decide) rfl rfl (g := (mkF m 18 #[.val (.ref a1), .val (.int p2), .val (.int p3), .val (.int p4)] [(.long (p4.toInt64)), (.ref a1)])) rfl rfl (hb hby d2_18)
  have F_maxAttempts_4 := F_maxAttempts_3.other W4 (Or.inr (slot_ne (Or.inr (hw _ (List.mem_of_getElem? (i := 15) rfl))) (Or.inr (hw _ (List.mem_of_getElem? (i := 19) rfl))) (by decide) (t := .int) (t' := .long) (by decide) (by decide)))
  have F_baseMillis_4 := F_baseMillis_3.other W4 (Or.inr (slot_ne (Or.inr (hw _ (List.mem_of_getElem? (i := 17) rfl))) (Or.inr (hw _ (List.mem_of_getElem? (i := 19) rfl))) (by decide) (t := .long) (t' := .long) (by decide) (by decide)))
  have F_capMillis_4 : Fld Z h4 a1 "com/example/hoopoe/hoopoe/RetryPolicy" "capMillis" "J" (.long (p4.toInt64)) := F_capMillis_3.same W4
  have E_4 := E_3.wr W4
  have K4 : Keep h0 h4 [a1] := K3.wr W4 (Or.inl (List.mem_of_getElem? (i := 0) rfl))
  have N4 := Fr.snoc X4 N3 g_a1
  refine own_via (Y' := (T4.setTop (mkF m 21 #[.val (.ref a1), .val (.int p2), .val (.int p3), .val (.int p4)] []))) (fun t kt => st4 _ kt) ?_
  obtain ⟨fs, hr, hrun, hended, hW, hsame⟩ := X4.leave (v := none) (fun _ => rfl)
  refine ⟨_, _, ?_, hrun, hended, _, _, rfl, ?_, ⟨_, rfl⟩, hW, hsame.mono (by decide) (by decide)⟩
  · show Steps p.tables e below (T4.setTop (mkF m 21 #[.val (.ref a1), .val (.int p2), .val (.int p3), .val (.int p4)] [])) _
    exact X4.returnOut hx Bd.returns (hb hby d2_21) hr
  · show own_QC Z a1 p2 p3 p4 h0 n0 _ T4.heap _; rw [e4]; exact ⟨rfl, N4, K4, E_4, F_maxAttempts_4, F_baseMillis_4, F_capMillis_4⟩
theorem ef_4 (m : MethodId) (a1 : Addr) (p2 : Int32) : entryFrame m #[(.ref a1), (.int p2)] 2 = mkF m 0 #[.val (.ref a1), .val (.int p2)] [] := by first | (simp [entryFrame, mkF, argsToLocals, Value.category]; done) | rfl
set_option maxRecDepth 65536 in
set_option maxHeartbeats 40000000 in
theorem rm4 (l : Launch) (Z : State) (a0 : Array Value) (hw : ∀ d ∈ tables_1, d.before a0 Z = true) (ws : List Jvm.Cond) (a1 : Addr) (p2 : Int32) (u : Int32) (h0 : Heap) (F_f : Fld Z h0 a1 "com/example/hoopoe/hoopoe/RetryPolicy" "maxAttempts" "I" (.int u)) :
    MetFree l (⟨"com/example/hoopoe/hoopoe/RetryPolicy", "spent", "(I)Z"⟩ : MethodName) (head1 (Jvm.Cond.code (⟨"com/example/hoopoe/hoopoe/RetryPolicy", "spent", "(I)Z"⟩ : MethodName) prog_14_method_2_code 2 (some .boolean) :: ws) ({ frames := 0, cells := 0, slots := 0, locals := 0 } : Room)) (fun a U => a = #[(.ref a1), (.int p2)] ∧ Z.Warmed39 U.vm ∧ U.heap = h0) (fun _ _ _ _ _ => True) (fun _ U o U' => ∃ v L, o = .returned v ∧ own_Q (some (.int (own_spent u p2))) h0 v U'.heap L ∧ FrameEnd U o U' L ({ frames := 0, cells := 0, slots := 0, locals := 0 } : Room).cells ({ frames := 0, cells := 0, slots := 0, locals := 0 } : Room).slots) := by
  refine MetFree.of_bodySF (plainFor_of_name pn_RetryPolicy) hisR ?_
  intro p e s m args below meth c s₁ Bd hml0 hP hK
  obtain ⟨rfl, hZ, hh⟩ := hP
  have hx := Bd.exec
  have hby := Bd.bytes
  have hml : c.maxLocals = 2 := hml0
  have hown : s.vm.findClass "com/example/hoopoe/hoopoe/RetryPolicy" = some m.cls := findClass_of_methodNamed Bd.named
  have hnm := (name_of_methodNamed Bd.named Bd.method).1
  have X0 : Stand p l e ({ frames := 0, cells := 0, slots := 0, locals := 0 } : Room) s m #[(.ref a1), (.int p2)] below meth c s₁ [] 0 0 := Stand.of_body Bd
  have e0 : s₁.heap = h0 := by rw [← hh, Bd.state]; rfl
  refine own_via (Y' := (s₁.setTop (mkF m 0 #[.val (.ref a1), .val (.int p2)] []))) (fun t kt => castTop (ef_4 m a1 p2) kt) ?_
  refine own_via (Y' := (s₁.setTop (mkF m 2 #[.val (.ref a1), .val (.int p2)] [(.ref a1), (.int p2)]))) (fun t kt => ?_) ?_
  · show Steps p.tables e below (s₁.setTop (mkF m 0 #[.val (.ref a1), .val (.int p2)] [])) _
    refine XS.iloadN X0.here hx rfl (hb hby d4_0) rfl ?_
    show Steps p.tables e below (s₁.setTop (mkF m 1 #[.val (.ref a1), .val (.int p2)] [(.int p2)])) _
    refine XS.aloadN X0.here hx rfl (hb hby d4_1) rfl rfl ?_
    exact kt
  obtain ⟨T5, X5, e5, st5⟩ := getF X0 hx hZ hown (host := "") (Or.inl (hw _ (List.mem_of_getElem? (i := 14) rfl))) Via.refl e0 F_f (g := (mkF m 2 #[.val (.ref a1), .val (.int p2)] [(.ref a1), (.int p2)])) rfl rfl (hb hby d4_2)
  refine own_via (Y' := (T5.setTop (mkF m 5 #[.val (.ref a1), .val (.int p2)] [(.int u), (.int p2)]))) (fun t kt => st5 _ kt) ?_
  by_cases h1 : p2 < u
  · obtain ⟨fs, hr, hrun, hended, hW, hsame⟩ := X5.leave (v := (some (.int (0 : Int32)))) (fun h => by rw [Bd.returns] at h; cases h)
    refine ⟨_, _, ?_, hrun, hended, _, _, rfl, ?_, ⟨_, rfl⟩, hW, hsame.mono (by decide) (by decide)⟩
    · show Steps p.tables e below (T5.setTop (mkF m 5 #[.val (.ref a1), .val (.int p2)] [(.int u), (.int p2)])) _
      refine XS.icmpYes X5.here hx rfl (pc0 := 5) (pc' := 12) rfl (hb hby d4_5) rfl (XT.ii_lt_t h1) (by decide) (by decide) ?_
      show Steps p.tables e below (T5.setTop (mkF m 12 #[.val (.ref a1), .val (.int p2)] [])) _
      refine XT.iconstV X5.here hx rfl (0 : Int32) (hb hby d4_12) (by decide) ?_
      show Steps p.tables e below (T5.setTop (mkF m 13 #[.val (.ref a1), .val (.int p2)] [(.int (0 : Int32))])) _
      exact retN X5 hx (t := .boolean) Bd.returns (by simp) (hb hby d4_13) hr
    · exact ⟨by simp only [own_spent, if_pos h1], rfl, e5⟩
  · obtain ⟨fs, hr, hrun, hended, hW, hsame⟩ := X5.leave (v := (some (.int (1 : Int32)))) (fun h => by rw [Bd.returns] at h; cases h)
    refine ⟨_, _, ?_, hrun, hended, _, _, rfl, ?_, ⟨_, rfl⟩, hW, hsame.mono (by decide) (by decide)⟩
    · show Steps p.tables e below (T5.setTop (mkF m 5 #[.val (.ref a1), .val (.int p2)] [(.int u), (.int p2)])) _
      refine XS.icmpNo X5.here hx rfl (hb hby d4_5) rfl (XT.ii_lt_f h1) ?_
      show Steps p.tables e below (T5.setTop (mkF m 8 #[.val (.ref a1), .val (.int p2)] [])) _
      refine XT.iconstV X5.here hx rfl (1 : Int32) (hb hby d4_8) (by decide) ?_
      show Steps p.tables e below (T5.setTop (mkF m 9 #[.val (.ref a1), .val (.int p2)] [(.int (1 : Int32))])) _
      refine XS.goto X5.here hx rfl (pc0 := 9) (pc' := 13) rfl (hb hby d4_9) (by decide) (by decide) ?_
      show Steps p.tables e below (T5.setTop (mkF m 13 #[.val (.ref a1), .val (.int p2)] [(.int (1 : Int32))])) _
      exact retN X5 hx (t := .boolean) Bd.returns (by simp) (hb hby d4_13) hr
    · exact ⟨by simp only [own_spent, if_neg h1], rfl, e5⟩
theorem ef_5 (m : MethodId) (p1 : Int32) (p2 : Int32) (p3 : Int32) (p4 : Int32) : entryFrame m #[(.int p1), (.int p2), (.int p3), (.int p4)] 4 = mkF m 0 #[.val (.int p1), .val (.int p2), .val (.int p3), .val (.int p4)] [] := by first | (simp [entryFrame, mkF, argsToLocals, Value.category]; done) | rfl
set_option maxRecDepth 65536 in
set_option maxHeartbeats 40000000 in
theorem rm5 (l : Launch) (Z : State) (a0 : Array Value) (hw : ∀ d ∈ tables_1, d.before a0 Z = true) (ws : List Jvm.Cond) (p1 : Int32) (p2 : Int32) (p3 : Int32) (p4 : Int32) (h0 : Heap) :
    MetFree l (⟨"com/example/hoopoe/hoopoe/RetryPolicySpentPinLaw", "mono", "(IZIZ)Z"⟩ : MethodName) (head1 (Jvm.Cond.code (⟨"com/example/hoopoe/hoopoe/RetryPolicySpentPinLaw", "mono", "(IZIZ)Z"⟩ : MethodName) method_2_code 4 (some .boolean) :: ws) ({ frames := 0, cells := 0, slots := 0, locals := 0 } : Room)) (fun a U => a = #[(.int p1), (.int p2), (.int p3), (.int p4)] ∧ Z.Warmed39 U.vm ∧ U.heap = h0) (fun _ _ _ _ _ => True) (fun _ U o U' => ∃ v L, o = .returned v ∧ own_Q (some (.int (own_mono p1 p2 p3 p4))) h0 v U'.heap L ∧ FrameEnd U o U' L ({ frames := 0, cells := 0, slots := 0, locals := 0 } : Room).cells ({ frames := 0, cells := 0, slots := 0, locals := 0 } : Room).slots) := by
  refine MetFree.of_bodySF (plainFor_of_name pn_RetryPolicySpentPinLaw) hisR ?_
  intro p e s m args below meth c s₁ Bd hml0 hP hK
  obtain ⟨rfl, hZ, hh⟩ := hP
  have hx := Bd.exec
  have hby := Bd.bytes
  have hml : c.maxLocals = 4 := hml0
  have hown : s.vm.findClass "com/example/hoopoe/hoopoe/RetryPolicySpentPinLaw" = some m.cls := findClass_of_methodNamed Bd.named
  have hnm := (name_of_methodNamed Bd.named Bd.method).1
  have X0 : Stand p l e ({ frames := 0, cells := 0, slots := 0, locals := 0 } : Room) s m #[(.int p1), (.int p2), (.int p3), (.int p4)] below meth c s₁ [] 0 0 := Stand.of_body Bd
  have e0 : s₁.heap = h0 := by rw [← hh, Bd.state]; rfl
  refine own_via (Y' := (s₁.setTop (mkF m 0 #[.val (.int p1), .val (.int p2), .val (.int p3), .val (.int p4)] []))) (fun t kt => castTop (ef_5 m p1 p2 p3 p4) kt) ?_
  refine own_via (Y' := (s₁.setTop (mkF m 2 #[.val (.int p1), .val (.int p2), .val (.int p3), .val (.int p4)] [(.int p3), (.int p1)]))) (fun t kt => ?_) ?_
  · show Steps p.tables e below (s₁.setTop (mkF m 0 #[.val (.int p1), .val (.int p2), .val (.int p3), .val (.int p4)] [])) _
    refine XS.iloadN X0.here hx rfl (hb hby d5_0) rfl ?_
    show Steps p.tables e below (s₁.setTop (mkF m 1 #[.val (.int p1), .val (.int p2), .val (.int p3), .val (.int p4)] [(.int p1)])) _
    refine XS.iloadN X0.here hx rfl (hb hby d5_1) rfl ?_
    exact kt
  by_cases h1 : p3 < p1
  · obtain ⟨fs, hr, hrun, hended, hW, hsame⟩ := X0.leave (v := (some (.int (1 : Int32)))) (fun h => by rw [Bd.returns] at h; cases h)
    refine ⟨_, _, ?_, hrun, hended, _, _, rfl, ?_, ⟨_, rfl⟩, hW, hsame.mono (by decide) (by decide)⟩
    · show Steps p.tables e below (s₁.setTop (mkF m 2 #[.val (.int p1), .val (.int p2), .val (.int p3), .val (.int p4)] [(.int p3), (.int p1)])) _
      refine XS.icmpYes X0.here hx rfl (pc0 := 2) (pc' := 11) rfl (hb hby d5_2) rfl (XT.ii_gt_t h1) (by decide) (by decide) ?_
      show Steps p.tables e below (s₁.setTop (mkF m 11 #[.val (.int p1), .val (.int p2), .val (.int p3), .val (.int p4)] [])) _
      refine XT.iconstV X0.here hx rfl (1 : Int32) (hb hby d5_11) (by decide) ?_
      show Steps p.tables e below (s₁.setTop (mkF m 12 #[.val (.int p1), .val (.int p2), .val (.int p3), .val (.int p4)] [(.int (1 : Int32))])) _
      exact retN X0 hx (t := .boolean) Bd.returns (by simp) (hb hby d5_12) hr
    · exact ⟨by simp only [own_mono, if_pos h1], rfl, e0⟩
  · refine own_via (Y' := (s₁.setTop (mkF m 6 #[.val (.int p1), .val (.int p2), .val (.int p3), .val (.int p4)] [(.int p2)]))) (fun t kt => ?_) ?_
    · show Steps p.tables e below (s₁.setTop (mkF m 2 #[.val (.int p1), .val (.int p2), .val (.int p3), .val (.int p4)] [(.int p3), (.int p1)])) _
      refine XS.icmpNo X0.here hx rfl (hb hby d5_2) rfl (XT.ii_gt_f h1) ?_
      show Steps p.tables e below (s₁.setTop (mkF m 5 #[.val (.int p1), .val (.int p2), .val (.int p3), .val (.int p4)] [])) _
      refine XS.iloadN X0.here hx rfl (hb hby d5_5) rfl ?_
      exact kt
    by_cases h2 : p2 = 0
    · obtain ⟨fs, hr, hrun, hended, hW, hsame⟩ := X0.leave (v := (some (.int (1 : Int32)))) (fun h => by rw [Bd.returns] at h; cases h)
      refine ⟨_, _, ?_, hrun, hended, _, _, rfl, ?_, ⟨_, rfl⟩, hW, hsame.mono (by decide) (by decide)⟩
      · show Steps p.tables e below (s₁.setTop (mkF m 6 #[.val (.int p1), .val (.int p2), .val (.int p3), .val (.int p4)] [(.int p2)])) _
        refine XS.ifYes X0.here hx rfl (pc0 := 6) (pc' := 11) rfl (hb hby d5_6) rfl (XT.i0_eq_t h2) (by decide) (by decide) ?_
        show Steps p.tables e below (s₁.setTop (mkF m 11 #[.val (.int p1), .val (.int p2), .val (.int p3), .val (.int p4)] [])) _
        refine XT.iconstV X0.here hx rfl (1 : Int32) (hb hby d5_11) (by decide) ?_
        show Steps p.tables e below (s₁.setTop (mkF m 12 #[.val (.int p1), .val (.int p2), .val (.int p3), .val (.int p4)] [(.int (1 : Int32))])) _
        exact retN X0 hx (t := .boolean) Bd.returns (by simp) (hb hby d5_12) hr
      · exact ⟨by simp only [own_mono, if_neg h1, if_pos h2], rfl, e0⟩
    · obtain ⟨fs, hr, hrun, hended, hW, hsame⟩ := X0.leave (v := (some (.int (nar .boolean p4)))) (fun h => by rw [Bd.returns] at h; cases h)
      refine ⟨_, _, ?_, hrun, hended, _, _, rfl, ?_, ⟨_, rfl⟩, hW, hsame.mono (by decide) (by decide)⟩
      · show Steps p.tables e below (s₁.setTop (mkF m 6 #[.val (.int p1), .val (.int p2), .val (.int p3), .val (.int p4)] [(.int p2)])) _
        refine XS.ifNo X0.here hx rfl (hb hby d5_6) rfl (XT.i0_eq_f h2) ?_
        show Steps p.tables e below (s₁.setTop (mkF m 9 #[.val (.int p1), .val (.int p2), .val (.int p3), .val (.int p4)] [])) _
        refine XS.iloadN X0.here hx rfl (hb hby d5_9) rfl ?_
        show Steps p.tables e below (s₁.setTop (mkF m 10 #[.val (.int p1), .val (.int p2), .val (.int p3), .val (.int p4)] [(.int p4)])) _
        exact retN X0 hx (t := .boolean) Bd.returns (by simp) (hb hby d5_10) hr
      · exact ⟨by simp only [own_mono, if_neg h1, if_neg h2], rfl, e0⟩
/-- what the law leaves: it returns 1; whatever was written lies in new cells -/
def own_Q0 (n0 : Nat) (v : Option Value) (h : Heap) (L : List Loc) : Prop := v = some (.int (1 : Int32)) ∧ Fr n0 L
theorem ef_0 (m : MethodId) (p1 : Int32) (p2 : Int32) (p3 : Int32) (p4 : Int32) (p5 : Int32) : entryFrame m #[(.int p1), (.int p2), (.int p3), (.int p4), (.int p5)] maxLocals = mkF m 0 #[.val (.int p1), .val (.int p2), .val (.int p3), .val (.int p4), .val (.int p5), .unset, .unset, .unset, .unset, .unset, .unset, .unset, .unset] [] := by first | (simp [entryFrame, mkF, argsToLocals, Value.category, maxLocals]; done) | rfl
set_option maxRecDepth 65536 in
set_option maxHeartbeats 40000000 in
theorem rm0 (l : Launch) (Z : State) (a0 : Array Value) (hw : ∀ d ∈ tables_1, d.before a0 Z = true) (ws : List Jvm.Cond) (p1 : Int32) (p2 : Int32) (p3 : Int32) (p4 : Int32) (p5 : Int32) (h0 : Heap) (n0 : Nat) (Z0 : n0 ≤ h0.size) :
    MetFree l x (head1 (Jvm.Cond.code x code maxLocals ret :: ws) room_1) (fun a U => a = #[(.int p1), (.int p2), (.int p3), (.int p4), (.int p5)] ∧ Z.Warmed39 U.vm ∧ U.heap = h0) (fun _ _ _ _ _ => True) (fun _ U o U' => ∃ v L, o = .returned v ∧ own_Q0 n0 v U'.heap L ∧ FrameEnd U o U' L room_1.cells room_1.slots) := by
  refine MetFree.of_bodySF (plainFor_of_name pn_RetryPolicySpentPinLaw) hisR ?_
  intro p e s m args below meth c s₁ Bd hml0 hP hK
  obtain ⟨rfl, hZ, hh⟩ := hP
  have hx := Bd.exec
  have hby := Bd.bytes
  have hml : c.maxLocals = 13 := hml0
  have hown : s.vm.findClass "com/example/hoopoe/hoopoe/RetryPolicySpentPinLaw" = some m.cls := findClass_of_methodNamed Bd.named
  have hnm := (name_of_methodNamed Bd.named Bd.method).1
  have X0 : Stand p l e room_1 s m #[(.int p1), (.int p2), (.int p3), (.int p4), (.int p5)] below meth c s₁ [] 0 0 := Stand.of_body Bd
  have e0 : s₁.heap = h0 := by rw [← hh, Bd.state]; rfl
  refine own_via (Y' := (s₁.setTop (mkF m 0 #[.val (.int p1), .val (.int p2), .val (.int p3), .val (.int p4), .val (.int p5), .unset, .unset, .unset, .unset, .unset, .unset, .unset, .unset] []))) (fun t kt => castTop (ef_0 m p1 p2 p3 p4 p5) kt) ?_
  refine own_via (Y' := (s₁.setTop (mkF m 5 #[.val (.int p1), .val (.int p2), .val (.int p3), .val (.int p4), .val (.int p5), .unset, .unset, .unset, .unset, .unset, .unset, .unset, .unset] [(.int (p1 &&& (2147483647 : Int32))), (.int (1 : Int32))]))) (fun t kt => ?_) ?_
  · show Steps p.tables e below (s₁.setTop (mkF m 0 #[.val (.int p1), .val (.int p2), .val (.int p3), .val (.int p4), .val (.int p5), .unset, .unset, .unset, .unset, .unset, .unset, .unset, .unset] [])) _
    refine XT.iconstV X0.here hx rfl (1 : Int32) (hb hby at_0) (by decide) ?_
    show Steps p.tables e below (s₁.setTop (mkF m 1 #[.val (.int p1), .val (.int p2), .val (.int p3), .val (.int p4), .val (.int p5), .unset, .unset, .unset, .unset, .unset, .unset, .unset, .unset] [(.int (1 : Int32))])) _
    refine XS.iloadN X0.here hx rfl (hb hby at_1) rfl ?_
    show Steps p.tables e below (s₁.setTop (mkF m 2 #[.val (.int p1), .val (.int p2), .val (.int p3), .val (.int p4), .val (.int p5), .unset, .unset, .unset, .unset, .unset, .unset, .unset, .unset] [(.int p1), (.int (1 : Int32))])) _
    refine X0.ldcI hx hown (mvT hZ (hw _ (List.mem_of_getElem? (i := 0) rfl))) (g := (mkF m 2 #[.val (.int p1), .val (.int p2), .val (.int p3), .val (.int p4), .val (.int p5), .unset, .unset, .unset, .unset, .unset, .unset, .unset, .unset] [(.int p1), (.int (1 : Int32))])) rfl (hb hby at_2) ?_
    show Steps p.tables e below (s₁.setTop (mkF m 4 #[.val (.int p1), .val (.int p2), .val (.int p3), .val (.int p4), .val (.int p5), .unset, .unset, .unset, .unset, .unset, .unset, .unset, .unset] [(.int (2147483647 : Int32)), (.int p1), (.int (1 : Int32))])) _
    refine XS.iand X0.here hx rfl (hb hby at_4) rfl ?_
    exact kt
  obtain ⟨_, _, ⟨T6, L6, k6, n6⟩, -, X6, ⟨Lc6, hQ6, l6, y6, z6⟩, st6⟩ := Jvm.LawKit.callS X0 hx (y := (⟨"java/lang/Math", "max", "(II)I"⟩ : MethodName)) hown (mvT hZ (hw _ (List.mem_of_getElem? (i := 1) rfl))) (mvT hZ (hw _ (List.mem_of_getElem? (i := 2) rfl))) (mvT hZ (hw _ (List.mem_of_getElem? (i := 3) rfl))) (mvT hZ (hw _ (List.mem_of_getElem? (i := 4) rfl))) (by decide) (backOf (W := 0) (rm1 l Z a0 hw [] (1 : Int32) (p1 &&& (2147483647 : Int32)) h0) hZ (hw _ (List.mem_of_getElem? (i := 4) rfl)) (hw _ (List.mem_of_getElem? (i := 3) rfl)) (by decide) (by decide)) (g := (mkF m 5 #[.val (.int p1), .val (.int p2), .val (.int p3), .val (.int p4), .val (.int p5), .unset, .unset, .unset, .unset, .unset, .unset, .unset, .unset] [(.int (p1 &&& (2147483647 : Int32))), (.int (1 : Int32))])) rfl (by rw [hml]; rfl) (argsL := [(.int (1 : Int32)), (.int (p1 &&& (2147483647 : Int32)))]) (rest := []) (lenOf pd_II_I rfl) rfl (by show 2 * 0 + _ ≤ _; exact Nat.le_of_eq rfl) (hb hby at_5) (fun _ _ => ⟨rfl, e0, (by decide : 0 + 0 ≤ _), (by decide : 0 + 0 ≤ _)⟩)
  dsimp only [Pt.U, Pt.locs, Pt.cells, Pt.slots] at X6 l6 y6 z6 st6 hQ6
  subst l6 y6 z6
  obtain ⟨rfl, rfl, e6⟩ := hQ6
  replace X6 : Stand p l e room_1 s m #[(.int p1), (.int p2), (.int p3), (.int p4), (.int p5)] below meth c T6 [] 0 0 := X6
  refine own_via (Y' := (T6.setTop (mkF m 8 #[.val (.int p1), .val (.int p2), .val (.int p3), .val (.int p4), .val (.int p5), .unset, .unset, .unset, .unset, .unset, .unset, .unset, .unset] [(.int (own_max (1 : Int32) (p1 &&& (2147483647 : Int32))))]))) (fun t kt => st6 _ kt) ?_
  obtain ⟨mm, hmm⟩ : ∃ z, z = (own_max (1 : Int32) (p1 &&& (2147483647 : Int32))) := ⟨_, rfl⟩
  rw [← hmm]
  refine own_via (Y' := (T6.setTop (mkF m 15 #[.val (.int p1), .val (.int p2), .val (.int p3), .val (.int p4), .val (.int p5), .val (.int mm), .unset, .unset, .unset, .unset, .unset, .unset, .unset] [(.int (p2 &&& (2147483647 : Int32))), (.int (1 : Int32))]))) (fun t kt => ?_) ?_
  · show Steps p.tables e below (T6.setTop (mkF m 8 #[.val (.int p1), .val (.int p2), .val (.int p3), .val (.int p4), .val (.int p5), .unset, .unset, .unset, .unset, .unset, .unset, .unset, .unset] [(.int mm)])) _
    refine XS.istore X6.here hx rfl (hb hby at_8) rfl (l' := #[.val (.int p1), .val (.int p2), .val (.int p3), .val (.int p4), .val (.int p5), .val (.int mm), .unset, .unset, .unset, .unset, .unset, .unset, .unset]) rfl ?_
    show Steps p.tables e below (T6.setTop (mkF m 10 #[.val (.int p1), .val (.int p2), .val (.int p3), .val (.int p4), .val (.int p5), .val (.int mm), .unset, .unset, .unset, .unset, .unset, .unset, .unset] [])) _
    refine XT.iconstV X6.here hx rfl (1 : Int32) (hb hby at_10) (by decide) ?_
    show Steps p.tables e below (T6.setTop (mkF m 11 #[.val (.int p1), .val (.int p2), .val (.int p3), .val (.int p4), .val (.int p5), .val (.int mm), .unset, .unset, .unset, .unset, .unset, .unset, .unset] [(.int (1 : Int32))])) _
    refine XS.iloadN X6.here hx rfl (hb hby at_11) rfl ?_
    show Steps p.tables e below (T6.setTop (mkF m 12 #[.val (.int p1), .val (.int p2), .val (.int p3), .val (.int p4), .val (.int p5), .val (.int mm), .unset, .unset, .unset, .unset, .unset, .unset, .unset] [(.int p2), (.int (1 : Int32))])) _
    refine X6.ldcI hx hown (mvT hZ (hw _ (List.mem_of_getElem? (i := 0) rfl))) (g := (mkF m 12 #[.val (.int p1), .val (.int p2), .val (.int p3), .val (.int p4), .val (.int p5), .val (.int mm), .unset, .unset, .unset, .unset, .unset, .unset, .unset] [(.int p2), (.int (1 : Int32))])) rfl (hb hby at_12) ?_
    show Steps p.tables e below (T6.setTop (mkF m 14 #[.val (.int p1), .val (.int p2), .val (.int p3), .val (.int p4), .val (.int p5), .val (.int mm), .unset, .unset, .unset, .unset, .unset, .unset, .unset] [(.int (2147483647 : Int32)), (.int p2), (.int (1 : Int32))])) _
    refine XS.iand X6.here hx rfl (hb hby at_14) rfl ?_
    exact kt
  obtain ⟨_, _, ⟨T7, L7, k7, n7⟩, -, X7, ⟨Lc7, hQ7, l7, y7, z7⟩, st7⟩ := Jvm.LawKit.callS X6 hx (y := (⟨"java/lang/Math", "max", "(II)I"⟩ : MethodName)) hown (mvT hZ (hw _ (List.mem_of_getElem? (i := 1) rfl))) (mvT hZ (hw _ (List.mem_of_getElem? (i := 2) rfl))) (mvT hZ (hw _ (List.mem_of_getElem? (i := 3) rfl))) (mvT hZ (hw _ (List.mem_of_getElem? (i := 4) rfl))) (by decide) (backOf (W := 0) (rm1 l Z a0 hw [] (1 : Int32) (p2 &&& (2147483647 : Int32)) h0) hZ (hw _ (List.mem_of_getElem? (i := 4) rfl)) (hw _ (List.mem_of_getElem? (i := 3) rfl)) (by decide) (by decide)) (g := (mkF m 15 #[.val (.int p1), .val (.int p2), .val (.int p3), .val (.int p4), .val (.int p5), .val (.int mm), .unset, .unset, .unset, .unset, .unset, .unset, .unset] [(.int (p2 &&& (2147483647 : Int32))), (.int (1 : Int32))])) rfl (by rw [hml]; rfl) (argsL := [(.int (1 : Int32)), (.int (p2 &&& (2147483647 : Int32)))]) (rest := []) (lenOf pd_II_I rfl) rfl (by show 2 * 0 + _ ≤ _; exact Nat.le_of_eq rfl) (hb hby at_15) (fun _ _ => ⟨rfl, e6, (by decide : 0 + 0 ≤ _), (by decide : 0 + 0 ≤ _)⟩)
  dsimp only [Pt.U, Pt.locs, Pt.cells, Pt.slots] at X7 l7 y7 z7 st7 hQ7
  subst l7 y7 z7
  obtain ⟨rfl, rfl, e7⟩ := hQ7
  replace X7 : Stand p l e room_1 s m #[(.int p1), (.int p2), (.int p3), (.int p4), (.int p5)] below meth c T7 [] 0 0 := X7
  refine own_via (Y' := (T7.setTop (mkF m 18 #[.val (.int p1), .val (.int p2), .val (.int p3), .val (.int p4), .val (.int p5), .val (.int mm), .unset, .unset, .unset, .unset, .unset, .unset, .unset] [(.int (own_max (1 : Int32) (p2 &&& (2147483647 : Int32))))]))) (fun t kt => st7 _ kt) ?_
  obtain ⟨mb, hmb⟩ : ∃ z, z = (own_max (1 : Int32) (p2 &&& (2147483647 : Int32))) := ⟨_, rfl⟩
  rw [← hmb]
  refine own_via (Y' := (T7.setTop (mkF m 25 #[.val (.int p1), .val (.int p2), .val (.int p3), .val (.int p4), .val (.int p5), .val (.int mm), .val (.int mb), .unset, .unset, .unset, .unset, .unset, .unset] [(.int (p3 &&& (2147483647 : Int32))), (.int (1 : Int32))]))) (fun t kt => ?_) ?_
  · show Steps p.tables e below (T7.setTop (mkF m 18 #[.val (.int p1), .val (.int p2), .val (.int p3), .val (.int p4), .val (.int p5), .val (.int mm), .unset, .unset, .unset, .unset, .unset, .unset, .unset] [(.int mb)])) _
    refine XS.istore X7.here hx rfl (hb hby at_18) rfl (l' := #[.val (.int p1), .val (.int p2), .val (.int p3), .val (.int p4), .val (.int p5), .val (.int mm), .val (.int mb), .unset, .unset, .unset, .unset, .unset, .unset]) rfl ?_
    show Steps p.tables e below (T7.setTop (mkF m 20 #[.val (.int p1), .val (.int p2), .val (.int p3), .val (.int p4), .val (.int p5), .val (.int mm), .val (.int mb), .unset, .unset, .unset, .unset, .unset, .unset] [])) _
    refine XT.iconstV X7.here hx rfl (1 : Int32) (hb hby at_20) (by decide) ?_
    show Steps p.tables e below (T7.setTop (mkF m 21 #[.val (.int p1), .val (.int p2), .val (.int p3), .val (.int p4), .val (.int p5), .val (.int mm), .val (.int mb), .unset, .unset, .unset, .unset, .unset, .unset] [(.int (1 : Int32))])) _
    refine XS.iloadN X7.here hx rfl (hb hby at_21) rfl ?_
    show Steps p.tables e below (T7.setTop (mkF m 22 #[.val (.int p1), .val (.int p2), .val (.int p3), .val (.int p4), .val (.int p5), .val (.int mm), .val (.int mb), .unset, .unset, .unset, .unset, .unset, .unset] [(.int p3), (.int (1 : Int32))])) _
    refine X7.ldcI hx hown (mvT hZ (hw _ (List.mem_of_getElem? (i := 0) rfl))) (g := (mkF m 22 #[.val (.int p1), .val (.int p2), .val (.int p3), .val (.int p4), .val (.int p5), .val (.int mm), .val (.int mb), .unset, .unset, .unset, .unset, .unset, .unset] [(.int p3), (.int (1 : Int32))])) rfl (hb hby at_22) ?_
    show Steps p.tables e below (T7.setTop (mkF m 24 #[.val (.int p1), .val (.int p2), .val (.int p3), .val (.int p4), .val (.int p5), .val (.int mm), .val (.int mb), .unset, .unset, .unset, .unset, .unset, .unset] [(.int (2147483647 : Int32)), (.int p3), (.int (1 : Int32))])) _
    refine XS.iand X7.here hx rfl (hb hby at_24) rfl ?_
    exact kt
  obtain ⟨_, _, ⟨T8, L8, k8, n8⟩, -, X8, ⟨Lc8, hQ8, l8, y8, z8⟩, st8⟩ := Jvm.LawKit.callS X7 hx (y := (⟨"java/lang/Math", "max", "(II)I"⟩ : MethodName)) hown (mvT hZ (hw _ (List.mem_of_getElem? (i := 1) rfl))) (mvT hZ (hw _ (List.mem_of_getElem? (i := 2) rfl))) (mvT hZ (hw _ (List.mem_of_getElem? (i := 3) rfl))) (mvT hZ (hw _ (List.mem_of_getElem? (i := 4) rfl))) (by decide) (backOf (W := 0) (rm1 l Z a0 hw [] (1 : Int32) (p3 &&& (2147483647 : Int32)) h0) hZ (hw _ (List.mem_of_getElem? (i := 4) rfl)) (hw _ (List.mem_of_getElem? (i := 3) rfl)) (by decide) (by decide)) (g := (mkF m 25 #[.val (.int p1), .val (.int p2), .val (.int p3), .val (.int p4), .val (.int p5), .val (.int mm), .val (.int mb), .unset, .unset, .unset, .unset, .unset, .unset] [(.int (p3 &&& (2147483647 : Int32))), (.int (1 : Int32))])) rfl (by rw [hml]; rfl) (argsL := [(.int (1 : Int32)), (.int (p3 &&& (2147483647 : Int32)))]) (rest := []) (lenOf pd_II_I rfl) rfl (by show 2 * 0 + _ ≤ _; exact Nat.le_of_eq rfl) (hb hby at_25) (fun _ _ => ⟨rfl, e7, (by decide : 0 + 0 ≤ _), (by decide : 0 + 0 ≤ _)⟩)
  dsimp only [Pt.U, Pt.locs, Pt.cells, Pt.slots] at X8 l8 y8 z8 st8 hQ8
  subst l8 y8 z8
  obtain ⟨rfl, rfl, e8⟩ := hQ8
  replace X8 : Stand p l e room_1 s m #[(.int p1), (.int p2), (.int p3), (.int p4), (.int p5)] below meth c T8 [] 0 0 := X8
  refine own_via (Y' := (T8.setTop (mkF m 28 #[.val (.int p1), .val (.int p2), .val (.int p3), .val (.int p4), .val (.int p5), .val (.int mm), .val (.int mb), .unset, .unset, .unset, .unset, .unset, .unset] [(.int (own_max (1 : Int32) (p3 &&& (2147483647 : Int32))))]))) (fun t kt => st8 _ kt) ?_
  obtain ⟨mc, hmc⟩ : ∃ z, z = (own_max (1 : Int32) (p3 &&& (2147483647 : Int32))) := ⟨_, rfl⟩
  rw [← hmc]
  have hm1 : 1 ≤ mm.toInt := by rw [hmm]; exact own_pos _
  refine own_via (Y' := (T8.setTop (mkF m 30 #[.val (.int p1), .val (.int p2), .val (.int p3), .val (.int p4), .val (.int p5), .val (.int mm), .val (.int mb), .val (.int mc), .unset, .unset, .unset, .unset, .unset] []))) (fun t kt => ?_) ?_
  · show Steps p.tables e below (T8.setTop (mkF m 28 #[.val (.int p1), .val (.int p2), .val (.int p3), .val (.int p4), .val (.int p5), .val (.int mm), .val (.int mb), .unset, .unset, .unset, .unset, .unset, .unset] [(.int mc)])) _
    refine XS.istore X8.here hx rfl (hb hby at_28) rfl (l' := #[.val (.int p1), .val (.int p2), .val (.int p3), .val (.int p4), .val (.int p5), .val (.int mm), .val (.int mb), .val (.int mc), .unset, .unset, .unset, .unset, .unset]) rfl ?_
    exact kt
  obtain ⟨T9, h9, X9, e9, E9, A9, D9, -, st9⟩ := newO X8 hx hZ hown (hw _ (List.mem_of_getElem? (i := 5) rfl)) (hw _ (List.mem_of_getElem? (i := 6) rfl)) (hw _ (List.mem_of_getElem? (i := 7) rfl)) e8 (g := (mkF m 30 #[.val (.int p1), .val (.int p2), .val (.int p3), .val (.int p4), .val (.int p5), .val (.int mm), .val (.int mb), .val (.int mc), .unset, .unset, .unset, .unset, .unset] [])) rfl (hb hby at_30) (by decide) (by decide)
  obtain ⟨b, g9⟩ : ∃ z, z = h0.size := ⟨_, rfl⟩
  rw [← g9] at A9 D9 st9
  have g_b : n0 ≤ b := Nat.le_trans Z0 (Nat.le_of_eq g9.symm)
  have E_b := A9
  have F_maxAttempts_b : Fld Z h9 b "com/example/hoopoe/hoopoe/RetryPolicy" "maxAttempts" "I" (.int (0 : Int32)) := D9 (Or.inr (hw _ (List.mem_of_getElem? (i := 15) rfl))) (ty := .int) (by decide)
  have F_baseMillis_b : Fld Z h9 b "com/example/hoopoe/hoopoe/RetryPolicy" "baseMillis" "J" (.long (0 : Int64)) := D9 (Or.inr (hw _ (List.mem_of_getElem? (i := 17) rfl))) (ty := .long) (by decide)
  have F_capMillis_b : Fld Z h9 b "com/example/hoopoe/hoopoe/RetryPolicy" "capMillis" "J" (.long (0 : Int64)) := D9 (Or.inr (hw _ (List.mem_of_getElem? (i := 19) rfl))) (ty := .long) (by decide)
  replace X9 : Stand p l e room_1 s m #[(.int p1), (.int p2), (.int p3), (.int p4), (.int p5)] below meth c T9 [] 1 3 := X9
  refine own_via (Y' := (T9.setTop (mkF m 33 #[.val (.int p1), .val (.int p2), .val (.int p3), .val (.int p4), .val (.int p5), .val (.int mm), .val (.int mb), .val (.int mc), .unset, .unset, .unset, .unset, .unset] [(.ref b)]))) (fun t kt => st9 _ kt) ?_
  refine own_via (Y' := (T9.setTop (mkF m 40 #[.val (.int p1), .val (.int p2), .val (.int p3), .val (.int p4), .val (.int p5), .val (.int mm), .val (.int mb), .val (.int mc), .unset, .unset, .unset, .unset, .unset] [(.int mc), (.int mb), (.int mm), (.ref b), (.ref b)]))) (fun t kt => ?_) ?_
  · show Steps p.tables e below (T9.setTop (mkF m 33 #[.val (.int p1), .val (.int p2), .val (.int p3), .val (.int p4), .val (.int p5), .val (.int mm), .val (.int mb), .val (.int mc), .unset, .unset, .unset, .unset, .unset] [(.ref b)])) _
    refine XS.dup X9.here hx rfl (hb hby at_33) rfl rfl ?_
    show Steps p.tables e below (T9.setTop (mkF m 34 #[.val (.int p1), .val (.int p2), .val (.int p3), .val (.int p4), .val (.int p5), .val (.int mm), .val (.int mb), .val (.int mc), .unset, .unset, .unset, .unset, .unset] [(.ref b), (.ref b)])) _
    refine XS.iload X9.here hx rfl (hb hby at_34) rfl ?_
    show Steps p.tables e below (T9.setTop (mkF m 36 #[.val (.int p1), .val (.int p2), .val (.int p3), .val (.int p4), .val (.int p5), .val (.int mm), .val (.int mb), .val (.int mc), .unset, .unset, .unset, .unset, .unset] [(.int mm), (.ref b), (.ref b)])) _
    refine XS.iload X9.here hx rfl (hb hby at_36) rfl ?_
    show Steps p.tables e below (T9.setTop (mkF m 38 #[.val (.int p1), .val (.int p2), .val (.int p3), .val (.int p4), .val (.int p5), .val (.int mm), .val (.int mb), .val (.int mc), .unset, .unset, .unset, .unset, .unset] [(.int mb), (.int mm), (.ref b), (.ref b)])) _
    refine XS.iload X9.here hx rfl (hb hby at_38) rfl ?_
    exact kt
  obtain ⟨_, _, ⟨T10, L10, k10, n10⟩, -, X10, ⟨Lc10, hQ10, l10, y10, z10⟩, st10⟩ := X9.specialBack hx (y := (⟨"com/example/hoopoe/hoopoe/RetryPolicy", "<init>", "(III)V"⟩ : MethodName)) rfl hown (mvT hZ (hw _ (List.mem_of_getElem? (i := 8) rfl))) (mvT hZ (hw _ (List.mem_of_getElem? (i := 9) rfl))) (mvT hZ (hw _ (List.mem_of_getElem? (i := 10) rfl))) (by decide) (backOf (W := 1) (rm2 l Z a0 hw [] b mm mb mc h9 n0 g_b E_b F_maxAttempts_b F_baseMillis_b F_capMillis_b) hZ (hw _ (List.mem_of_getElem? (i := 10) rfl)) (hw _ (List.mem_of_getElem? (i := 7) rfl)) (by decide) (by decide)) (g := (mkF m 40 #[.val (.int p1), .val (.int p2), .val (.int p3), .val (.int p4), .val (.int p5), .val (.int mm), .val (.int mb), .val (.int mc), .unset, .unset, .unset, .unset, .unset] [(.int mc), (.int mb), (.int mm), (.ref b), (.ref b)])) rfl (by rw [hml]; rfl) (Steps.refl _) (a := b) (argsL := [(.int mm), (.int mb), (.int mc)]) (rest := [(.ref b)]) (lenOf pd_III_V rfl) rfl (by show 2 * 0 + _ ≤ _; exact Nat.le_of_eq rfl) (hb hby at_40) (fun _ _ => ⟨rfl, e9, (by decide : 1 + 0 ≤ _), (by decide : 3 + 0 ≤ _)⟩)
  dsimp only [Pt.U, Pt.locs, Pt.cells, Pt.slots] at X10 l10 y10 z10 st10 hQ10
  subst l10 y10 z10
  obtain ⟨rfl, NC, KC, EC, FM, FB, FC⟩ := hQ10
  replace X10 : Stand p l e room_1 s m #[(.int p1), (.int p2), (.int p3), (.int p4), (.int p5)] below meth c T10 L10 1 3 := X10
  obtain ⟨hC, e10⟩ : ∃ z, T10.heap = z := ⟨_, rfl⟩
  rw [e10] at KC EC FM FB FC
  refine own_via (Y' := (T10.setTop (mkF m 43 #[.val (.int p1), .val (.int p2), .val (.int p3), .val (.int p4), .val (.int p5), .val (.int mm), .val (.int mb), .val (.int mc), .unset, .unset, .unset, .unset, .unset] [(.ref b)]))) (fun t kt => st10.trans kt) ?_
  refine own_via (Y' := (T10.setTop (mkF m 49 #[.val (.int p1), .val (.int p2), .val (.int p3), .val (.int p4), .val (.int p5), .val (.int mm), .val (.int mb), .val (.int mc), .val (.ref b), .unset, .unset, .unset, .unset] [(.int mm), (.ref b)]))) (fun t kt => ?_) ?_
  · show Steps p.tables e below (T10.setTop (mkF m 43 #[.val (.int p1), .val (.int p2), .val (.int p3), .val (.int p4), .val (.int p5), .val (.int mm), .val (.int mb), .val (.int mc), .unset, .unset, .unset, .unset, .unset] [(.ref b)])) _
    refine XS.astore X10.here hx rfl (hb hby at_43) rfl rfl (l' := #[.val (.int p1), .val (.int p2), .val (.int p3), .val (.int p4), .val (.int p5), .val (.int mm), .val (.int mb), .val (.int mc), .val (.ref b), .unset, .unset, .unset, .unset]) rfl ?_
    show Steps p.tables e below (T10.setTop (mkF m 45 #[.val (.int p1), .val (.int p2), .val (.int p3), .val (.int p4), .val (.int p5), .val (.int mm), .val (.int mb), .val (.int mc), .val (.ref b), .unset, .unset, .unset, .unset] [])) _
    refine XS.aload X10.here hx rfl (hb hby at_45) rfl rfl ?_
    show Steps p.tables e below (T10.setTop (mkF m 47 #[.val (.int p1), .val (.int p2), .val (.int p3), .val (.int p4), .val (.int p5), .val (.int mm), .val (.int mb), .val (.int mc), .val (.ref b), .unset, .unset, .unset, .unset] [(.ref b)])) _
    refine XS.iload X10.here hx rfl (hb hby at_47) rfl ?_
    exact kt
  obtain ⟨cq11, kq11, q11a, q11b, q11c⟩ := isOf hZ e10 EC
  obtain ⟨_, _, ⟨T11, L11, k11, n11⟩, -, X11, ⟨Lc11, hQ11, l11, y11, z11⟩, st11⟩ := X10.virtualBack hx (y := (⟨"com/example/hoopoe/hoopoe/RetryPolicy", "spent", "(I)Z"⟩ : MethodName)) (z := (⟨"com/example/hoopoe/hoopoe/RetryPolicy", "spent", "(I)Z"⟩ : MethodName)) hown (mvT hZ (hw _ (List.mem_of_getElem? (i := 20) rfl))) (mvT hZ (hw _ (List.mem_of_getElem? (i := 21) rfl))) (notFace_of_selects (args := #[]) (mvT hZ (hw _ (List.mem_of_getElem? (i := 23) rfl)))) (mvT hZ (hw _ (List.mem_of_getElem? (i := 23) rfl))) (mvT hZ (hw _ (List.mem_of_getElem? (i := 22) rfl))) (by decide) (backOf (W := 0) (rm4 l Z a0 hw [] b mm mm hC FM) hZ (hw _ (List.mem_of_getElem? (i := 24) rfl)) (hw _ (List.mem_of_getElem? (i := 7) rfl)) (by decide) (by decide)) q11a q11c (g := (mkF m 49 #[.val (.int p1), .val (.int p2), .val (.int p3), .val (.int p4), .val (.int p5), .val (.int mm), .val (.int mb), .val (.int mc), .val (.ref b), .unset, .unset, .unset, .unset] [(.int mm), (.ref b)])) rfl (by rw [hml]; rfl) (Steps.refl _) (argsL := [(.int mm)]) (rest := []) (lenOf pd_I_Z rfl) rfl (by show 2 * 0 + _ ≤ _; exact Nat.le_of_eq rfl) (hb hby at_49) (fun _ _ => ⟨rfl, e10, (by decide : 1 + 0 ≤ _), (by decide : 3 + 0 ≤ _)⟩)
  dsimp only [Pt.U, Pt.locs, Pt.cells, Pt.slots] at X11 l11 y11 z11 st11 hQ11
  subst l11 y11 z11
  obtain ⟨rfl, rfl, e11⟩ := hQ11
  replace X11 : Stand p l e room_1 s m #[(.int p1), (.int p2), (.int p3), (.int p4), (.int p5)] below meth c T11 L10 1 3 := by rw [List.append_nil] at X11; exact X11
  refine own_via (Y' := (T11.setTop (mkF m 52 #[.val (.int p1), .val (.int p2), .val (.int p3), .val (.int p4), .val (.int p5), .val (.int mm), .val (.int mb), .val (.int mc), .val (.ref b), .unset, .unset, .unset, .unset] [(.int (own_spent mm mm))]))) (fun t kt => st11.trans kt) ?_
  refine own_via (Y' := (T11.setTop (mkF m 60 #[.val (.int p1), .val (.int p2), .val (.int p3), .val (.int p4), .val (.int p5), .val (.int mm), .val (.int mb), .val (.int mc), .val (.ref b), .val (.int (own_spent mm mm)), .unset, .unset, .unset] [(.int (mm - (1 : Int32))), (.ref b)]))) (fun t kt => ?_) ?_
  · show Steps p.tables e below (T11.setTop (mkF m 52 #[.val (.int p1), .val (.int p2), .val (.int p3), .val (.int p4), .val (.int p5), .val (.int mm), .val (.int mb), .val (.int mc), .val (.ref b), .unset, .unset, .unset, .unset] [(.int (own_spent mm mm))])) _
    refine XS.istore X11.here hx rfl (hb hby at_52) rfl (l' := #[.val (.int p1), .val (.int p2), .val (.int p3), .val (.int p4), .val (.int p5), .val (.int mm), .val (.int mb), .val (.int mc), .val (.ref b), .val (.int (own_spent mm mm)), .unset, .unset, .unset]) rfl ?_
    show Steps p.tables e below (T11.setTop (mkF m 54 #[.val (.int p1), .val (.int p2), .val (.int p3), .val (.int p4), .val (.int p5), .val (.int mm), .val (.int mb), .val (.int mc), .val (.ref b), .val (.int (own_spent mm mm)), .unset, .unset, .unset] [])) _
    refine XS.aload X11.here hx rfl (hb hby at_54) rfl rfl ?_
    show Steps p.tables e below (T11.setTop (mkF m 56 #[.val (.int p1), .val (.int p2), .val (.int p3), .val (.int p4), .val (.int p5), .val (.int mm), .val (.int mb), .val (.int mc), .val (.ref b), .val (.int (own_spent mm mm)), .unset, .unset, .unset] [(.ref b)])) _
    refine XS.iload X11.here hx rfl (hb hby at_56) rfl ?_
    show Steps p.tables e below (T11.setTop (mkF m 58 #[.val (.int p1), .val (.int p2), .val (.int p3), .val (.int p4), .val (.int p5), .val (.int mm), .val (.int mb), .val (.int mc), .val (.ref b), .val (.int (own_spent mm mm)), .unset, .unset, .unset] [(.int mm), (.ref b)])) _
    refine XT.iconstV X11.here hx rfl (1 : Int32) (hb hby at_58) (by decide) ?_
    show Steps p.tables e below (T11.setTop (mkF m 59 #[.val (.int p1), .val (.int p2), .val (.int p3), .val (.int p4), .val (.int p5), .val (.int mm), .val (.int mb), .val (.int mc), .val (.ref b), .val (.int (own_spent mm mm)), .unset, .unset, .unset] [(.int (1 : Int32)), (.int mm), (.ref b)])) _
    refine XS.isub X11.here hx rfl (hb hby at_59) rfl ?_
    exact kt
  obtain ⟨cq12, kq12, q12a, q12b, q12c⟩ := isOf hZ e11 EC
  obtain ⟨_, _, ⟨T12, L12, k12, n12⟩, -, X12, ⟨Lc12, hQ12, l12, y12, z12⟩, st12⟩ := X11.virtualBack hx (y := (⟨"com/example/hoopoe/hoopoe/RetryPolicy", "spent", "(I)Z"⟩ : MethodName)) (z := (⟨"com/example/hoopoe/hoopoe/RetryPolicy", "spent", "(I)Z"⟩ : MethodName)) hown (mvT hZ (hw _ (List.mem_of_getElem? (i := 20) rfl))) (mvT hZ (hw _ (List.mem_of_getElem? (i := 21) rfl))) (notFace_of_selects (args := #[]) (mvT hZ (hw _ (List.mem_of_getElem? (i := 23) rfl)))) (mvT hZ (hw _ (List.mem_of_getElem? (i := 23) rfl))) (mvT hZ (hw _ (List.mem_of_getElem? (i := 22) rfl))) (by decide) (backOf (W := 0) (rm4 l Z a0 hw [] b (mm - (1 : Int32)) mm hC FM) hZ (hw _ (List.mem_of_getElem? (i := 24) rfl)) (hw _ (List.mem_of_getElem? (i := 7) rfl)) (by decide) (by decide)) q12a q12c (g := (mkF m 60 #[.val (.int p1), .val (.int p2), .val (.int p3), .val (.int p4), .val (.int p5), .val (.int mm), .val (.int mb), .val (.int mc), .val (.ref b), .val (.int (own_spent mm mm)), .unset, .unset, .unset] [(.int (mm - (1 : Int32))), (.ref b)])) rfl (by rw [hml]; rfl) (Steps.refl _) (argsL := [(.int (mm - (1 : Int32)))]) (rest := []) (lenOf pd_I_Z rfl) rfl (by show 2 * 0 + _ ≤ _; exact Nat.le_of_eq rfl) (hb hby at_60) (fun _ _ => ⟨rfl, e11, (by decide : 1 + 0 ≤ _), (by decide : 3 + 0 ≤ _)⟩)
  dsimp only [Pt.U, Pt.locs, Pt.cells, Pt.slots] at X12 l12 y12 z12 st12 hQ12
  subst l12 y12 z12
  obtain ⟨rfl, rfl, e12⟩ := hQ12
  replace X12 : Stand p l e room_1 s m #[(.int p1), (.int p2), (.int p3), (.int p4), (.int p5)] below meth c T12 L10 1 3 := by rw [List.append_nil] at X12; exact X12
  refine own_via (Y' := (T12.setTop (mkF m 63 #[.val (.int p1), .val (.int p2), .val (.int p3), .val (.int p4), .val (.int p5), .val (.int mm), .val (.int mb), .val (.int mc), .val (.ref b), .val (.int (own_spent mm mm)), .unset, .unset, .unset] [(.int (own_spent mm (mm - (1 : Int32))))]))) (fun t kt => st12.trans kt) ?_
  refine own_via (Y' := (T12.setTop (mkF m 68 #[.val (.int p1), .val (.int p2), .val (.int p3), .val (.int p4), .val (.int p5), .val (.int mm), .val (.int mb), .val (.int mc), .val (.ref b), .val (.int (own_spent mm mm)), .val (.int (own_spent mm (mm - (1 : Int32)))), .unset, .unset] [(.int p4), (.ref b)]))) (fun t kt => ?_) ?_
  · show Steps p.tables e below (T12.setTop (mkF m 63 #[.val (.int p1), .val (.int p2), .val (.int p3), .val (.int p4), .val (.int p5), .val (.int mm), .val (.int mb), .val (.int mc), .val (.ref b), .val (.int (own_spent mm mm)), .unset, .unset, .unset] [(.int (own_spent mm (mm - (1 : Int32))))])) _
    refine XS.istore X12.here hx rfl (hb hby at_63) rfl (l' := #[.val (.int p1), .val (.int p2), .val (.int p3), .val (.int p4), .val (.int p5), .val (.int mm), .val (.int mb), .val (.int mc), .val (.ref b), .val (.int (own_spent mm mm)), .val (.int (own_spent mm (mm - (1 : Int32)))), .unset, .unset]) rfl ?_
    show Steps p.tables e below (T12.setTop (mkF m 65 #[.val (.int p1), .val (.int p2), .val (.int p3), .val (.int p4), .val (.int p5), .val (.int mm), .val (.int mb), .val (.int mc), .val (.ref b), .val (.int (own_spent mm mm)), .val (.int (own_spent mm (mm - (1 : Int32)))), .unset, .unset] [])) _
    refine XS.aload X12.here hx rfl (hb hby at_65) rfl rfl ?_
    show Steps p.tables e below (T12.setTop (mkF m 67 #[.val (.int p1), .val (.int p2), .val (.int p3), .val (.int p4), .val (.int p5), .val (.int mm), .val (.int mb), .val (.int mc), .val (.ref b), .val (.int (own_spent mm mm)), .val (.int (own_spent mm (mm - (1 : Int32)))), .unset, .unset] [(.ref b)])) _
    refine XS.iloadN X12.here hx rfl (hb hby at_67) rfl ?_
    exact kt
  obtain ⟨cq13, kq13, q13a, q13b, q13c⟩ := isOf hZ e12 EC
  obtain ⟨_, _, ⟨T13, L13, k13, n13⟩, -, X13, ⟨Lc13, hQ13, l13, y13, z13⟩, st13⟩ := X12.virtualBack hx (y := (⟨"com/example/hoopoe/hoopoe/RetryPolicy", "spent", "(I)Z"⟩ : MethodName)) (z := (⟨"com/example/hoopoe/hoopoe/RetryPolicy", "spent", "(I)Z"⟩ : MethodName)) hown (mvT hZ (hw _ (List.mem_of_getElem? (i := 20) rfl))) (mvT hZ (hw _ (List.mem_of_getElem? (i := 21) rfl))) (notFace_of_selects (args := #[]) (mvT hZ (hw _ (List.mem_of_getElem? (i := 23) rfl)))) (mvT hZ (hw _ (List.mem_of_getElem? (i := 23) rfl))) (mvT hZ (hw _ (List.mem_of_getElem? (i := 22) rfl))) (by decide) (backOf (W := 0) (rm4 l Z a0 hw [] b p4 mm hC FM) hZ (hw _ (List.mem_of_getElem? (i := 24) rfl)) (hw _ (List.mem_of_getElem? (i := 7) rfl)) (by decide) (by decide)) q13a q13c (g := (mkF m 68 #[.val (.int p1), .val (.int p2), .val (.int p3), .val (.int p4), .val (.int p5), .val (.int mm), .val (.int mb), .val (.int mc), .val (.ref b), .val (.int (own_spent mm mm)), .val (.int (own_spent mm (mm - (1 : Int32)))), .unset, .unset] [(.int p4), (.ref b)])) rfl (by rw [hml]; rfl) (Steps.refl _) (argsL := [(.int p4)]) (rest := []) (lenOf pd_I_Z rfl) rfl (by show 2 * 0 + _ ≤ _; exact Nat.le_of_eq rfl) (hb hby at_68) (fun _ _ => ⟨rfl, e12, (by decide : 1 + 0 ≤ _), (by decide : 3 + 0 ≤ _)⟩)
  dsimp only [Pt.U, Pt.locs, Pt.cells, Pt.slots] at X13 l13 y13 z13 st13 hQ13
  subst l13 y13 z13
  obtain ⟨rfl, rfl, e13⟩ := hQ13
  replace X13 : Stand p l e room_1 s m #[(.int p1), (.int p2), (.int p3), (.int p4), (.int p5)] below meth c T13 L10 1 3 := by rw [List.append_nil] at X13; exact X13
  refine own_via (Y' := (T13.setTop (mkF m 71 #[.val (.int p1), .val (.int p2), .val (.int p3), .val (.int p4), .val (.int p5), .val (.int mm), .val (.int mb), .val (.int mc), .val (.ref b), .val (.int (own_spent mm mm)), .val (.int (own_spent mm (mm - (1 : Int32)))), .unset, .unset] [(.int (own_spent mm p4))]))) (fun t kt => st13.trans kt) ?_
  refine own_via (Y' := (T13.setTop (mkF m 77 #[.val (.int p1), .val (.int p2), .val (.int p3), .val (.int p4), .val (.int p5), .val (.int mm), .val (.int mb), .val (.int mc), .val (.ref b), .val (.int (own_spent mm mm)), .val (.int (own_spent mm (mm - (1 : Int32)))), .val (.int (own_spent mm p4)), .unset] [(.int p5), (.ref b)]))) (fun t kt => ?_) ?_
  · show Steps p.tables e below (T13.setTop (mkF m 71 #[.val (.int p1), .val (.int p2), .val (.int p3), .val (.int p4), .val (.int p5), .val (.int mm), .val (.int mb), .val (.int mc), .val (.ref b), .val (.int (own_spent mm mm)), .val (.int (own_spent mm (mm - (1 : Int32)))), .unset, .unset] [(.int (own_spent mm p4))])) _
    refine XS.istore X13.here hx rfl (hb hby at_71) rfl (l' := #[.val (.int p1), .val (.int p2), .val (.int p3), .val (.int p4), .val (.int p5), .val (.int mm), .val (.int mb), .val (.int mc), .val (.ref b), .val (.int (own_spent mm mm)), .val (.int (own_spent mm (mm - (1 : Int32)))), .val (.int (own_spent mm p4)), .unset]) rfl ?_
    show Steps p.tables e below (T13.setTop (mkF m 73 #[.val (.int p1), .val (.int p2), .val (.int p3), .val (.int p4), .val (.int p5), .val (.int mm), .val (.int mb), .val (.int mc), .val (.ref b), .val (.int (own_spent mm mm)), .val (.int (own_spent mm (mm - (1 : Int32)))), .val (.int (own_spent mm p4)), .unset] [])) _
    refine XS.aload X13.here hx rfl (hb hby at_73) rfl rfl ?_
    show Steps p.tables e below (T13.setTop (mkF m 75 #[.val (.int p1), .val (.int p2), .val (.int p3), .val (.int p4), .val (.int p5), .val (.int mm), .val (.int mb), .val (.int mc), .val (.ref b), .val (.int (own_spent mm mm)), .val (.int (own_spent mm (mm - (1 : Int32)))), .val (.int (own_spent mm p4)), .unset] [(.ref b)])) _
    refine XS.iload X13.here hx rfl (hb hby at_75) rfl ?_
    exact kt
  obtain ⟨cq14, kq14, q14a, q14b, q14c⟩ := isOf hZ e13 EC
  obtain ⟨_, _, ⟨T14, L14, k14, n14⟩, -, X14, ⟨Lc14, hQ14, l14, y14, z14⟩, st14⟩ := X13.virtualBack hx (y := (⟨"com/example/hoopoe/hoopoe/RetryPolicy", "spent", "(I)Z"⟩ : MethodName)) (z := (⟨"com/example/hoopoe/hoopoe/RetryPolicy", "spent", "(I)Z"⟩ : MethodName)) hown (mvT hZ (hw _ (List.mem_of_getElem? (i := 20) rfl))) (mvT hZ (hw _ (List.mem_of_getElem? (i := 21) rfl))) (notFace_of_selects (args := #[]) (mvT hZ (hw _ (List.mem_of_getElem? (i := 23) rfl)))) (mvT hZ (hw _ (List.mem_of_getElem? (i := 23) rfl))) (mvT hZ (hw _ (List.mem_of_getElem? (i := 22) rfl))) (by decide) (backOf (W := 0) (rm4 l Z a0 hw [] b p5 mm hC FM) hZ (hw _ (List.mem_of_getElem? (i := 24) rfl)) (hw _ (List.mem_of_getElem? (i := 7) rfl)) (by decide) (by decide)) q14a q14c (g := (mkF m 77 #[.val (.int p1), .val (.int p2), .val (.int p3), .val (.int p4), .val (.int p5), .val (.int mm), .val (.int mb), .val (.int mc), .val (.ref b), .val (.int (own_spent mm mm)), .val (.int (own_spent mm (mm - (1 : Int32)))), .val (.int (own_spent mm p4)), .unset] [(.int p5), (.ref b)])) rfl (by rw [hml]; rfl) (Steps.refl _) (argsL := [(.int p5)]) (rest := []) (lenOf pd_I_Z rfl) rfl (by show 2 * 0 + _ ≤ _; exact Nat.le_of_eq rfl) (hb hby at_77) (fun _ _ => ⟨rfl, e13, (by decide : 1 + 0 ≤ _), (by decide : 3 + 0 ≤ _)⟩)
  dsimp only [Pt.U, Pt.locs, Pt.cells, Pt.slots] at X14 l14 y14 z14 st14 hQ14
  subst l14 y14 z14
  obtain ⟨rfl, rfl, e14⟩ := hQ14
  replace X14 : Stand p l e room_1 s m #[(.int p1), (.int p2), (.int p3), (.int p4), (.int p5)] below meth c T14 L10 1 3 := by rw [List.append_nil] at X14; exact X14
  refine own_via (Y' := (T14.setTop (mkF m 80 #[.val (.int p1), .val (.int p2), .val (.int p3), .val (.int p4), .val (.int p5), .val (.int mm), .val (.int mb), .val (.int mc), .val (.ref b), .val (.int (own_spent mm mm)), .val (.int (own_spent mm (mm - (1 : Int32)))), .val (.int (own_spent mm p4)), .unset] [(.int (own_spent mm p5))]))) (fun t kt => st14.trans kt) ?_
  refine own_via (Y' := (T14.setTop (mkF m 103 #[.val (.int p1), .val (.int p2), .val (.int p3), .val (.int p4), .val (.int p5), .val (.int mm), .val (.int mb), .val (.int mc), .val (.ref b), .val (.int (own_spent mm mm)), .val (.int (own_spent mm (mm - (1 : Int32)))), .val (.int (own_spent mm p4)), .val (.int (own_spent mm p5))] [(.int (own_spent mm p4)), (.int p4), (.int (own_spent mm mm)), (.int mm)]))) (fun t kt => ?_) ?_
  · show Steps p.tables e below (T14.setTop (mkF m 80 #[.val (.int p1), .val (.int p2), .val (.int p3), .val (.int p4), .val (.int p5), .val (.int mm), .val (.int mb), .val (.int mc), .val (.ref b), .val (.int (own_spent mm mm)), .val (.int (own_spent mm (mm - (1 : Int32)))), .val (.int (own_spent mm p4)), .unset] [(.int (own_spent mm p5))])) _
    refine XS.istore X14.here hx rfl (hb hby at_80) rfl (l' := #[.val (.int p1), .val (.int p2), .val (.int p3), .val (.int p4), .val (.int p5), .val (.int mm), .val (.int mb), .val (.int mc), .val (.ref b), .val (.int (own_spent mm mm)), .val (.int (own_spent mm (mm - (1 : Int32)))), .val (.int (own_spent mm p4)), .val (.int (own_spent mm p5))]) rfl ?_
    show Steps p.tables e below (T14.setTop (mkF m 82 #[.val (.int p1), .val (.int p2), .val (.int p3), .val (.int p4), .val (.int p5), .val (.int mm), .val (.int mb), .val (.int mc), .val (.ref b), .val (.int (own_spent mm mm)), .val (.int (own_spent mm (mm - (1 : Int32)))), .val (.int (own_spent mm p4)), .val (.int (own_spent mm p5))] [])) _
    refine XS.iload X14.here hx rfl (hb hby at_82) rfl ?_
    show Steps p.tables e below (T14.setTop (mkF m 84 #[.val (.int p1), .val (.int p2), .val (.int p3), .val (.int p4), .val (.int p5), .val (.int mm), .val (.int mb), .val (.int mc), .val (.ref b), .val (.int (own_spent mm mm)), .val (.int (own_spent mm (mm - (1 : Int32)))), .val (.int (own_spent mm p4)), .val (.int (own_spent mm p5))] [(.int (own_spent mm mm))])) _
    refine XS.ifYes X14.here hx rfl (pc0 := 84) (pc' := 89) rfl (hb hby at_84) rfl (XT.i0_ne_t (own_at mm)) (by decide) (by decide) ?_
    show Steps p.tables e below (T14.setTop (mkF m 89 #[.val (.int p1), .val (.int p2), .val (.int p3), .val (.int p4), .val (.int p5), .val (.int mm), .val (.int mb), .val (.int mc), .val (.ref b), .val (.int (own_spent mm mm)), .val (.int (own_spent mm (mm - (1 : Int32)))), .val (.int (own_spent mm p4)), .val (.int (own_spent mm p5))] [])) _
    refine XS.iload X14.here hx rfl (hb hby at_89) rfl ?_
    show Steps p.tables e below (T14.setTop (mkF m 91 #[.val (.int p1), .val (.int p2), .val (.int p3), .val (.int p4), .val (.int p5), .val (.int mm), .val (.int mb), .val (.int mc), .val (.ref b), .val (.int (own_spent mm mm)), .val (.int (own_spent mm (mm - (1 : Int32)))), .val (.int (own_spent mm p4)), .val (.int (own_spent mm p5))] [(.int (own_spent mm (mm - (1 : Int32))))])) _
    refine XS.ifYes X14.here hx rfl (pc0 := 91) (pc' := 96) rfl (hb hby at_91) rfl (XT.i0_eq_t (own_below mm hm1)) (by decide) (by decide) ?_
    show Steps p.tables e below (T14.setTop (mkF m 96 #[.val (.int p1), .val (.int p2), .val (.int p3), .val (.int p4), .val (.int p5), .val (.int mm), .val (.int mb), .val (.int mc), .val (.ref b), .val (.int (own_spent mm mm)), .val (.int (own_spent mm (mm - (1 : Int32)))), .val (.int (own_spent mm p4)), .val (.int (own_spent mm p5))] [])) _
    refine XS.iload X14.here hx rfl (hb hby at_96) rfl ?_
    show Steps p.tables e below (T14.setTop (mkF m 98 #[.val (.int p1), .val (.int p2), .val (.int p3), .val (.int p4), .val (.int p5), .val (.int mm), .val (.int mb), .val (.int mc), .val (.ref b), .val (.int (own_spent mm mm)), .val (.int (own_spent mm (mm - (1 : Int32)))), .val (.int (own_spent mm p4)), .val (.int (own_spent mm p5))] [(.int mm)])) _
    refine XS.iload X14.here hx rfl (hb hby at_98) rfl ?_
    show Steps p.tables e below (T14.setTop (mkF m 100 #[.val (.int p1), .val (.int p2), .val (.int p3), .val (.int p4), .val (.int p5), .val (.int mm), .val (.int mb), .val (.int mc), .val (.ref b), .val (.int (own_spent mm mm)), .val (.int (own_spent mm (mm - (1 : Int32)))), .val (.int (own_spent mm p4)), .val (.int (own_spent mm p5))] [(.int (own_spent mm mm)), (.int mm)])) _
    refine XS.iloadN X14.here hx rfl (hb hby at_100) rfl ?_
    show Steps p.tables e below (T14.setTop (mkF m 101 #[.val (.int p1), .val (.int p2), .val (.int p3), .val (.int p4), .val (.int p5), .val (.int mm), .val (.int mb), .val (.int mc), .val (.ref b), .val (.int (own_spent mm mm)), .val (.int (own_spent mm (mm - (1 : Int32)))), .val (.int (own_spent mm p4)), .val (.int (own_spent mm p5))] [(.int p4), (.int (own_spent mm mm)), (.int mm)])) _
    refine XS.iload X14.here hx rfl (hb hby at_101) rfl ?_
    exact kt
  obtain ⟨_, _, ⟨T15, L15, k15, n15⟩, -, X15, ⟨Lc15, hQ15, l15, y15, z15⟩, st15⟩ := Jvm.LawKit.callS X14 hx (y := (⟨"com/example/hoopoe/hoopoe/RetryPolicySpentPinLaw", "mono", "(IZIZ)Z"⟩ : MethodName)) hown (mvT hZ (hw _ (List.mem_of_getElem? (i := 25) rfl))) (mvT hZ (hw _ (List.mem_of_getElem? (i := 26) rfl))) (mvT hZ (hw _ (List.mem_of_getElem? (i := 27) rfl))) (mvT hZ (hw _ (List.mem_of_getElem? (i := 28) rfl))) (by decide) (backOf (W := 0) (rm5 l Z a0 hw [] mm (own_spent mm mm) p4 (own_spent mm p4) hC) hZ (hw _ (List.mem_of_getElem? (i := 28) rfl)) (hw _ (List.mem_of_getElem? (i := 27) rfl)) (by decide) (by decide)) (g := (mkF m 103 #[.val (.int p1), .val (.int p2), .val (.int p3), .val (.int p4), .val (.int p5), .val (.int mm), .val (.int mb), .val (.int mc), .val (.ref b), .val (.int (own_spent mm mm)), .val (.int (own_spent mm (mm - (1 : Int32)))), .val (.int (own_spent mm p4)), .val (.int (own_spent mm p5))] [(.int (own_spent mm p4)), (.int p4), (.int (own_spent mm mm)), (.int mm)])) rfl (by rw [hml]; rfl) (argsL := [(.int mm), (.int (own_spent mm mm)), (.int p4), (.int (own_spent mm p4))]) (rest := []) (lenOf pd_IZIZ_Z rfl) rfl (by show 2 * 0 + _ ≤ _; exact Nat.le_of_eq rfl) (hb hby at_103) (fun _ _ => ⟨rfl, e14, (by decide : 1 + 0 ≤ _), (by decide : 3 + 0 ≤ _)⟩)
  dsimp only [Pt.U, Pt.locs, Pt.cells, Pt.slots] at X15 l15 y15 z15 st15 hQ15
  subst l15 y15 z15
  obtain ⟨rfl, rfl, e15⟩ := hQ15
  replace X15 : Stand p l e room_1 s m #[(.int p1), (.int p2), (.int p3), (.int p4), (.int p5)] below meth c T15 L10 1 3 := by rw [List.append_nil] at X15; exact X15
  refine own_via (Y' := (T15.setTop (mkF m 106 #[.val (.int p1), .val (.int p2), .val (.int p3), .val (.int p4), .val (.int p5), .val (.int mm), .val (.int mb), .val (.int mc), .val (.ref b), .val (.int (own_spent mm mm)), .val (.int (own_spent mm (mm - (1 : Int32)))), .val (.int (own_spent mm p4)), .val (.int (own_spent mm p5))] [(.int (own_mono mm (own_spent mm mm) p4 (own_spent mm p4)))]))) (fun t kt => st15 _ kt) ?_
  refine own_via (Y' := (T15.setTop (mkF m 118 #[.val (.int p1), .val (.int p2), .val (.int p3), .val (.int p4), .val (.int p5), .val (.int mm), .val (.int mb), .val (.int mc), .val (.ref b), .val (.int (own_spent mm mm)), .val (.int (own_spent mm (mm - (1 : Int32)))), .val (.int (own_spent mm p4)), .val (.int (own_spent mm p5))] [(.int (own_spent mm (mm - (1 : Int32)))), (.int (mm - (1 : Int32))), (.int (own_spent mm p4)), (.int p4)]))) (fun t kt => ?_) ?_
  · show Steps p.tables e below (T15.setTop (mkF m 106 #[.val (.int p1), .val (.int p2), .val (.int p3), .val (.int p4), .val (.int p5), .val (.int mm), .val (.int mb), .val (.int mc), .val (.ref b), .val (.int (own_spent mm mm)), .val (.int (own_spent mm (mm - (1 : Int32)))), .val (.int (own_spent mm p4)), .val (.int (own_spent mm p5))] [(.int (own_mono mm (own_spent mm mm) p4 (own_spent mm p4)))])) _
    refine XS.ifNo X15.here hx rfl (hb hby at_106) rfl (XT.i0_eq_f (own_up mm _ _)) ?_
    show Steps p.tables e below (T15.setTop (mkF m 109 #[.val (.int p1), .val (.int p2), .val (.int p3), .val (.int p4), .val (.int p5), .val (.int mm), .val (.int mb), .val (.int mc), .val (.ref b), .val (.int (own_spent mm mm)), .val (.int (own_spent mm (mm - (1 : Int32)))), .val (.int (own_spent mm p4)), .val (.int (own_spent mm p5))] [])) _
    refine XS.iloadN X15.here hx rfl (hb hby at_109) rfl ?_
    show Steps p.tables e below (T15.setTop (mkF m 110 #[.val (.int p1), .val (.int p2), .val (.int p3), .val (.int p4), .val (.int p5), .val (.int mm), .val (.int mb), .val (.int mc), .val (.ref b), .val (.int (own_spent mm mm)), .val (.int (own_spent mm (mm - (1 : Int32)))), .val (.int (own_spent mm p4)), .val (.int (own_spent mm p5))] [(.int p4)])) _
    refine XS.iload X15.here hx rfl (hb hby at_110) rfl ?_
    show Steps p.tables e below (T15.setTop (mkF m 112 #[.val (.int p1), .val (.int p2), .val (.int p3), .val (.int p4), .val (.int p5), .val (.int mm), .val (.int mb), .val (.int mc), .val (.ref b), .val (.int (own_spent mm mm)), .val (.int (own_spent mm (mm - (1 : Int32)))), .val (.int (own_spent mm p4)), .val (.int (own_spent mm p5))] [(.int (own_spent mm p4)), (.int p4)])) _
    refine XS.iload X15.here hx rfl (hb hby at_112) rfl ?_
    show Steps p.tables e below (T15.setTop (mkF m 114 #[.val (.int p1), .val (.int p2), .val (.int p3), .val (.int p4), .val (.int p5), .val (.int mm), .val (.int mb), .val (.int mc), .val (.ref b), .val (.int (own_spent mm mm)), .val (.int (own_spent mm (mm - (1 : Int32)))), .val (.int (own_spent mm p4)), .val (.int (own_spent mm p5))] [(.int mm), (.int (own_spent mm p4)), (.int p4)])) _
    refine XT.iconstV X15.here hx rfl (1 : Int32) (hb hby at_114) (by decide) ?_
    show Steps p.tables e below (T15.setTop (mkF m 115 #[.val (.int p1), .val (.int p2), .val (.int p3), .val (.int p4), .val (.int p5), .val (.int mm), .val (.int mb), .val (.int mc), .val (.ref b), .val (.int (own_spent mm mm)), .val (.int (own_spent mm (mm - (1 : Int32)))), .val (.int (own_spent mm p4)), .val (.int (own_spent mm p5))] [(.int (1 : Int32)), (.int mm), (.int (own_spent mm p4)), (.int p4)])) _
    refine XS.isub X15.here hx rfl (hb hby at_115) rfl ?_
    show Steps p.tables e below (T15.setTop (mkF m 116 #[.val (.int p1), .val (.int p2), .val (.int p3), .val (.int p4), .val (.int p5), .val (.int mm), .val (.int mb), .val (.int mc), .val (.ref b), .val (.int (own_spent mm mm)), .val (.int (own_spent mm (mm - (1 : Int32)))), .val (.int (own_spent mm p4)), .val (.int (own_spent mm p5))] [(.int (mm - (1 : Int32))), (.int (own_spent mm p4)), (.int p4)])) _
    refine XS.iload X15.here hx rfl (hb hby at_116) rfl ?_
    exact kt
  obtain ⟨_, _, ⟨T16, L16, k16, n16⟩, -, X16, ⟨Lc16, hQ16, l16, y16, z16⟩, st16⟩ := Jvm.LawKit.callS X15 hx (y := (⟨"com/example/hoopoe/hoopoe/RetryPolicySpentPinLaw", "mono", "(IZIZ)Z"⟩ : MethodName)) hown (mvT hZ (hw _ (List.mem_of_getElem? (i := 25) rfl))) (mvT hZ (hw _ (List.mem_of_getElem? (i := 26) rfl))) (mvT hZ (hw _ (List.mem_of_getElem? (i := 27) rfl))) (mvT hZ (hw _ (List.mem_of_getElem? (i := 28) rfl))) (by decide) (backOf (W := 0) (rm5 l Z a0 hw [] p4 (own_spent mm p4) (mm - (1 : Int32)) (own_spent mm (mm - (1 : Int32))) hC) hZ (hw _ (List.mem_of_getElem? (i := 28) rfl)) (hw _ (List.mem_of_getElem? (i := 27) rfl)) (by decide) (by decide)) (g := (mkF m 118 #[.val (.int p1), .val (.int p2), .val (.int p3), .val (.int p4), .val (.int p5), .val (.int mm), .val (.int mb), .val (.int mc), .val (.ref b), .val (.int (own_spent mm mm)), .val (.int (own_spent mm (mm - (1 : Int32)))), .val (.int (own_spent mm p4)), .val (.int (own_spent mm p5))] [(.int (own_spent mm (mm - (1 : Int32)))), (.int (mm - (1 : Int32))), (.int (own_spent mm p4)), (.int p4)])) rfl (by rw [hml]; rfl) (argsL := [(.int p4), (.int (own_spent mm p4)), (.int (mm - (1 : Int32))), (.int (own_spent mm (mm - (1 : Int32))))]) (rest := []) (lenOf pd_IZIZ_Z rfl) rfl (by show 2 * 0 + _ ≤ _; exact Nat.le_of_eq rfl) (hb hby at_118) (fun _ _ => ⟨rfl, e15, (by decide : 1 + 0 ≤ _), (by decide : 3 + 0 ≤ _)⟩)
  dsimp only [Pt.U, Pt.locs, Pt.cells, Pt.slots] at X16 l16 y16 z16 st16 hQ16
  subst l16 y16 z16
  obtain ⟨rfl, rfl, e16⟩ := hQ16
  replace X16 : Stand p l e room_1 s m #[(.int p1), (.int p2), (.int p3), (.int p4), (.int p5)] below meth c T16 L10 1 3 := by rw [List.append_nil] at X16; exact X16
  refine own_via (Y' := (T16.setTop (mkF m 121 #[.val (.int p1), .val (.int p2), .val (.int p3), .val (.int p4), .val (.int p5), .val (.int mm), .val (.int mb), .val (.int mc), .val (.ref b), .val (.int (own_spent mm mm)), .val (.int (own_spent mm (mm - (1 : Int32)))), .val (.int (own_spent mm p4)), .val (.int (own_spent mm p5))] [(.int (own_mono p4 (own_spent mm p4) (mm - (1 : Int32)) (own_spent mm (mm - (1 : Int32)))))]))) (fun t kt => st16 _ kt) ?_
  refine own_via (Y' := (T16.setTop (mkF m 131 #[.val (.int p1), .val (.int p2), .val (.int p3), .val (.int p4), .val (.int p5), .val (.int mm), .val (.int mb), .val (.int mc), .val (.ref b), .val (.int (own_spent mm mm)), .val (.int (own_spent mm (mm - (1 : Int32)))), .val (.int (own_spent mm p4)), .val (.int (own_spent mm p5))] [(.int (own_spent mm p5)), (.int p5), (.int (own_spent mm p4)), (.int p4)]))) (fun t kt => ?_) ?_
  · show Steps p.tables e below (T16.setTop (mkF m 121 #[.val (.int p1), .val (.int p2), .val (.int p3), .val (.int p4), .val (.int p5), .val (.int mm), .val (.int mb), .val (.int mc), .val (.ref b), .val (.int (own_spent mm mm)), .val (.int (own_spent mm (mm - (1 : Int32)))), .val (.int (own_spent mm p4)), .val (.int (own_spent mm p5))] [(.int (own_mono p4 (own_spent mm p4) (mm - (1 : Int32)) (own_spent mm (mm - (1 : Int32)))))])) _
    refine XS.ifNo X16.here hx rfl (hb hby at_121) rfl (XT.i0_eq_f (own_up mm _ _)) ?_
    show Steps p.tables e below (T16.setTop (mkF m 124 #[.val (.int p1), .val (.int p2), .val (.int p3), .val (.int p4), .val (.int p5), .val (.int mm), .val (.int mb), .val (.int mc), .val (.ref b), .val (.int (own_spent mm mm)), .val (.int (own_spent mm (mm - (1 : Int32)))), .val (.int (own_spent mm p4)), .val (.int (own_spent mm p5))] [])) _
    refine XS.iloadN X16.here hx rfl (hb hby at_124) rfl ?_
    show Steps p.tables e below (T16.setTop (mkF m 125 #[.val (.int p1), .val (.int p2), .val (.int p3), .val (.int p4), .val (.int p5), .val (.int mm), .val (.int mb), .val (.int mc), .val (.ref b), .val (.int (own_spent mm mm)), .val (.int (own_spent mm (mm - (1 : Int32)))), .val (.int (own_spent mm p4)), .val (.int (own_spent mm p5))] [(.int p4)])) _
    refine XS.iload X16.here hx rfl (hb hby at_125) rfl ?_
    show Steps p.tables e below (T16.setTop (mkF m 127 #[.val (.int p1), .val (.int p2), .val (.int p3), .val (.int p4), .val (.int p5), .val (.int mm), .val (.int mb), .val (.int mc), .val (.ref b), .val (.int (own_spent mm mm)), .val (.int (own_spent mm (mm - (1 : Int32)))), .val (.int (own_spent mm p4)), .val (.int (own_spent mm p5))] [(.int (own_spent mm p4)), (.int p4)])) _
    refine XS.iload X16.here hx rfl (hb hby at_127) rfl ?_
    show Steps p.tables e below (T16.setTop (mkF m 129 #[.val (.int p1), .val (.int p2), .val (.int p3), .val (.int p4), .val (.int p5), .val (.int mm), .val (.int mb), .val (.int mc), .val (.ref b), .val (.int (own_spent mm mm)), .val (.int (own_spent mm (mm - (1 : Int32)))), .val (.int (own_spent mm p4)), .val (.int (own_spent mm p5))] [(.int p5), (.int (own_spent mm p4)), (.int p4)])) _
    refine XS.iload X16.here hx rfl (hb hby at_129) rfl ?_
    exact kt
  obtain ⟨_, _, ⟨T17, L17, k17, n17⟩, -, X17, ⟨Lc17, hQ17, l17, y17, z17⟩, st17⟩ := Jvm.LawKit.callS X16 hx (y := (⟨"com/example/hoopoe/hoopoe/RetryPolicySpentPinLaw", "mono", "(IZIZ)Z"⟩ : MethodName)) hown (mvT hZ (hw _ (List.mem_of_getElem? (i := 25) rfl))) (mvT hZ (hw _ (List.mem_of_getElem? (i := 26) rfl))) (mvT hZ (hw _ (List.mem_of_getElem? (i := 27) rfl))) (mvT hZ (hw _ (List.mem_of_getElem? (i := 28) rfl))) (by decide) (backOf (W := 0) (rm5 l Z a0 hw [] p4 (own_spent mm p4) p5 (own_spent mm p5) hC) hZ (hw _ (List.mem_of_getElem? (i := 28) rfl)) (hw _ (List.mem_of_getElem? (i := 27) rfl)) (by decide) (by decide)) (g := (mkF m 131 #[.val (.int p1), .val (.int p2), .val (.int p3), .val (.int p4), .val (.int p5), .val (.int mm), .val (.int mb), .val (.int mc), .val (.ref b), .val (.int (own_spent mm mm)), .val (.int (own_spent mm (mm - (1 : Int32)))), .val (.int (own_spent mm p4)), .val (.int (own_spent mm p5))] [(.int (own_spent mm p5)), (.int p5), (.int (own_spent mm p4)), (.int p4)])) rfl (by rw [hml]; rfl) (argsL := [(.int p4), (.int (own_spent mm p4)), (.int p5), (.int (own_spent mm p5))]) (rest := []) (lenOf pd_IZIZ_Z rfl) rfl (by show 2 * 0 + _ ≤ _; exact Nat.le_of_eq rfl) (hb hby at_131) (fun _ _ => ⟨rfl, e16, (by decide : 1 + 0 ≤ _), (by decide : 3 + 0 ≤ _)⟩)
  dsimp only [Pt.U, Pt.locs, Pt.cells, Pt.slots] at X17 l17 y17 z17 st17 hQ17
  subst l17 y17 z17
  obtain ⟨rfl, rfl, e17⟩ := hQ17
  replace X17 : Stand p l e room_1 s m #[(.int p1), (.int p2), (.int p3), (.int p4), (.int p5)] below meth c T17 L10 1 3 := by rw [List.append_nil] at X17; exact X17
  refine own_via (Y' := (T17.setTop (mkF m 134 #[.val (.int p1), .val (.int p2), .val (.int p3), .val (.int p4), .val (.int p5), .val (.int mm), .val (.int mb), .val (.int mc), .val (.ref b), .val (.int (own_spent mm mm)), .val (.int (own_spent mm (mm - (1 : Int32)))), .val (.int (own_spent mm p4)), .val (.int (own_spent mm p5))] [(.int (own_mono p4 (own_spent mm p4) p5 (own_spent mm p5)))]))) (fun t kt => st17 _ kt) ?_
  refine own_via (Y' := (T17.setTop (mkF m 144 #[.val (.int p1), .val (.int p2), .val (.int p3), .val (.int p4), .val (.int p5), .val (.int mm), .val (.int mb), .val (.int mc), .val (.ref b), .val (.int (own_spent mm mm)), .val (.int (own_spent mm (mm - (1 : Int32)))), .val (.int (own_spent mm p4)), .val (.int (own_spent mm p5))] [(.int (own_spent mm p4)), (.int p4), (.int (own_spent mm p5)), (.int p5)]))) (fun t kt => ?_) ?_
  · show Steps p.tables e below (T17.setTop (mkF m 134 #[.val (.int p1), .val (.int p2), .val (.int p3), .val (.int p4), .val (.int p5), .val (.int mm), .val (.int mb), .val (.int mc), .val (.ref b), .val (.int (own_spent mm mm)), .val (.int (own_spent mm (mm - (1 : Int32)))), .val (.int (own_spent mm p4)), .val (.int (own_spent mm p5))] [(.int (own_mono p4 (own_spent mm p4) p5 (own_spent mm p5)))])) _
    refine XS.ifNo X17.here hx rfl (hb hby at_134) rfl (XT.i0_eq_f (own_up mm _ _)) ?_
    show Steps p.tables e below (T17.setTop (mkF m 137 #[.val (.int p1), .val (.int p2), .val (.int p3), .val (.int p4), .val (.int p5), .val (.int mm), .val (.int mb), .val (.int mc), .val (.ref b), .val (.int (own_spent mm mm)), .val (.int (own_spent mm (mm - (1 : Int32)))), .val (.int (own_spent mm p4)), .val (.int (own_spent mm p5))] [])) _
    refine XS.iload X17.here hx rfl (hb hby at_137) rfl ?_
    show Steps p.tables e below (T17.setTop (mkF m 139 #[.val (.int p1), .val (.int p2), .val (.int p3), .val (.int p4), .val (.int p5), .val (.int mm), .val (.int mb), .val (.int mc), .val (.ref b), .val (.int (own_spent mm mm)), .val (.int (own_spent mm (mm - (1 : Int32)))), .val (.int (own_spent mm p4)), .val (.int (own_spent mm p5))] [(.int p5)])) _
    refine XS.iload X17.here hx rfl (hb hby at_139) rfl ?_
    show Steps p.tables e below (T17.setTop (mkF m 141 #[.val (.int p1), .val (.int p2), .val (.int p3), .val (.int p4), .val (.int p5), .val (.int mm), .val (.int mb), .val (.int mc), .val (.ref b), .val (.int (own_spent mm mm)), .val (.int (own_spent mm (mm - (1 : Int32)))), .val (.int (own_spent mm p4)), .val (.int (own_spent mm p5))] [(.int (own_spent mm p5)), (.int p5)])) _
    refine XS.iloadN X17.here hx rfl (hb hby at_141) rfl ?_
    show Steps p.tables e below (T17.setTop (mkF m 142 #[.val (.int p1), .val (.int p2), .val (.int p3), .val (.int p4), .val (.int p5), .val (.int mm), .val (.int mb), .val (.int mc), .val (.ref b), .val (.int (own_spent mm mm)), .val (.int (own_spent mm (mm - (1 : Int32)))), .val (.int (own_spent mm p4)), .val (.int (own_spent mm p5))] [(.int p4), (.int (own_spent mm p5)), (.int p5)])) _
    refine XS.iload X17.here hx rfl (hb hby at_142) rfl ?_
    exact kt
  obtain ⟨_, _, ⟨T18, L18, k18, n18⟩, -, X18, ⟨Lc18, hQ18, l18, y18, z18⟩, st18⟩ := Jvm.LawKit.callS X17 hx (y := (⟨"com/example/hoopoe/hoopoe/RetryPolicySpentPinLaw", "mono", "(IZIZ)Z"⟩ : MethodName)) hown (mvT hZ (hw _ (List.mem_of_getElem? (i := 25) rfl))) (mvT hZ (hw _ (List.mem_of_getElem? (i := 26) rfl))) (mvT hZ (hw _ (List.mem_of_getElem? (i := 27) rfl))) (mvT hZ (hw _ (List.mem_of_getElem? (i := 28) rfl))) (by decide) (backOf (W := 0) (rm5 l Z a0 hw [] p5 (own_spent mm p5) p4 (own_spent mm p4) hC) hZ (hw _ (List.mem_of_getElem? (i := 28) rfl)) (hw _ (List.mem_of_getElem? (i := 27) rfl)) (by decide) (by decide)) (g := (mkF m 144 #[.val (.int p1), .val (.int p2), .val (.int p3), .val (.int p4), .val (.int p5), .val (.int mm), .val (.int mb), .val (.int mc), .val (.ref b), .val (.int (own_spent mm mm)), .val (.int (own_spent mm (mm - (1 : Int32)))), .val (.int (own_spent mm p4)), .val (.int (own_spent mm p5))] [(.int (own_spent mm p4)), (.int p4), (.int (own_spent mm p5)), (.int p5)])) rfl (by rw [hml]; rfl) (argsL := [(.int p5), (.int (own_spent mm p5)), (.int p4), (.int (own_spent mm p4))]) (rest := []) (lenOf pd_IZIZ_Z rfl) rfl (by show 2 * 0 + _ ≤ _; exact Nat.le_of_eq rfl) (hb hby at_144) (fun _ _ => ⟨rfl, e17, (by decide : 1 + 0 ≤ _), (by decide : 3 + 0 ≤ _)⟩)
  dsimp only [Pt.U, Pt.locs, Pt.cells, Pt.slots] at X18 l18 y18 z18 st18 hQ18
  subst l18 y18 z18
  obtain ⟨rfl, rfl, e18⟩ := hQ18
  replace X18 : Stand p l e room_1 s m #[(.int p1), (.int p2), (.int p3), (.int p4), (.int p5)] below meth c T18 L10 1 3 := by rw [List.append_nil] at X18; exact X18
  refine own_via (Y' := (T18.setTop (mkF m 147 #[.val (.int p1), .val (.int p2), .val (.int p3), .val (.int p4), .val (.int p5), .val (.int mm), .val (.int mb), .val (.int mc), .val (.ref b), .val (.int (own_spent mm mm)), .val (.int (own_spent mm (mm - (1 : Int32)))), .val (.int (own_spent mm p4)), .val (.int (own_spent mm p5))] [(.int (own_mono p5 (own_spent mm p5) p4 (own_spent mm p4)))]))) (fun t kt => st18 _ kt) ?_
  obtain ⟨fs, hr, hrun, hended, hW, hsame⟩ := X18.leave (v := (some (.int (1 : Int32)))) (fun h => by rw [Bd.returns] at h; cases h)
  refine ⟨_, _, ?_, hrun, hended, _, _, rfl, ?_, ⟨_, rfl⟩, hW, hsame.mono (by decide) (by decide)⟩
  · show Steps p.tables e below (T18.setTop (mkF m 147 #[.val (.int p1), .val (.int p2), .val (.int p3), .val (.int p4), .val (.int p5), .val (.int mm), .val (.int mb), .val (.int mc), .val (.ref b), .val (.int (own_spent mm mm)), .val (.int (own_spent mm (mm - (1 : Int32)))), .val (.int (own_spent mm p4)), .val (.int (own_spent mm p5))] [(.int (own_mono p5 (own_spent mm p5) p4 (own_spent mm p4)))])) _
    refine XS.ifNo X18.here hx rfl (hb hby at_147) rfl (XT.i0_eq_f (own_up mm _ _)) ?_
    show Steps p.tables e below (T18.setTop (mkF m 150 #[.val (.int p1), .val (.int p2), .val (.int p3), .val (.int p4), .val (.int p5), .val (.int mm), .val (.int mb), .val (.int mc), .val (.ref b), .val (.int (own_spent mm mm)), .val (.int (own_spent mm (mm - (1 : Int32)))), .val (.int (own_spent mm p4)), .val (.int (own_spent mm p5))] [])) _
    refine XT.iconstV X18.here hx rfl (1 : Int32) (hb hby at_150) (by decide) ?_
    show Steps p.tables e below (T18.setTop (mkF m 151 #[.val (.int p1), .val (.int p2), .val (.int p3), .val (.int p4), .val (.int p5), .val (.int mm), .val (.int mb), .val (.int mc), .val (.ref b), .val (.int (own_spent mm mm)), .val (.int (own_spent mm (mm - (1 : Int32)))), .val (.int (own_spent mm p4)), .val (.int (own_spent mm p5))] [(.int (1 : Int32))])) _
    refine XS.goto X18.here hx rfl (pc0 := 151) (pc' := 155) rfl (hb hby at_151) (by decide) (by decide) ?_
    show Steps p.tables e below (T18.setTop (mkF m 155 #[.val (.int p1), .val (.int p2), .val (.int p3), .val (.int p4), .val (.int p5), .val (.int mm), .val (.int mb), .val (.int mc), .val (.ref b), .val (.int (own_spent mm mm)), .val (.int (own_spent mm (mm - (1 : Int32)))), .val (.int (own_spent mm p4)), .val (.int (own_spent mm p5))] [(.int (1 : Int32))])) _
    exact retN X18 hx (t := .boolean) Bd.returns (by simp) (hb hby at_155) hr
  · exact ⟨rfl, NC⟩
set_option maxRecDepth 65536 in
set_option maxHeartbeats 40000000 in
theorem comes_1 {Post : Tables → Env → Array Value → State → Outcome → State → Prop} (hpost : ∀ tb e args s v u, (limb_1_1.after args s (.returned v) u = true ∧ limb_1_2.after args s (.returned v) u = true ∧ True) → FrameEnd s (.returned v) u (Jvm.fieldLocs frame_1_writes args s ++ Jvm.arrayLocs frame_1_arrays args s ++ Jvm.staticLocs frame_1_statics s) 16 128 → Post tb e args s (.returned v) u) :
    ArmFor flags0 classFile x code maxLocals ret World_1 tables_1 room_1 Calls_1 rest_1 Pre_1 Post := by
  intro l hfl _ _ p e ha hc hk s m args below hf hA hF happ hP
  obtain ⟨hcalls, hrest, hpre⟩ := hP
  obtain ⟨-, -, -, hnamed, -, -, -, hat⟩ := (Spec.applies_iff hf).mp happ
  obtain ⟨hg, hn⟩ := and_e (Cond.before_iff.mp (show (Jvm.Cond.and given_1 narrow_1).before args s = true from hpre))
  obtain ⟨gc, gr0⟩ := and_e hg
  obtain ⟨g0, gr1⟩ := and_e gr0
  obtain ⟨g1, gr2⟩ := and_e gr1
  obtain ⟨g2, gr3⟩ := and_e gr2
  obtain ⟨g3, gr4⟩ := and_e gr3
  obtain ⟨w0, w1, w2, w3, w4, rfl⟩ : ∃ w0 w1 w2 w3 w4 : Value, args = #[w0, w1, w2, w3, w4] := by
    have hs : args.size = 5 := by simpa [Cond.value, given_1] using gc
    obtain ⟨L⟩ := args
    match L, hs with
    | [w0, w1, w2, w3, w4], _ => exact ⟨w0, w1, w2, w3, w4, rfl⟩
  have hw := fun d (hd : d ∈ tables_1) => atoms_spec (ws := Jvm.Cond.code x code maxLocals ret :: tables_1) hat d (List.mem_cons_of_mem _ hd)
  obtain ⟨i0, ei0⟩ := is_v g0
  obtain rfl : w0 = (.int i0) := Option.some.inj ei0
  obtain ⟨i1, ei1⟩ := is_v g1
  obtain rfl : w1 = (.int i1) := Option.some.inj ei1
  obtain ⟨i2, ei2⟩ := is_v g2
  obtain rfl : w2 = (.int i2) := Option.some.inj ei2
  obtain ⟨i3, ei3⟩ := is_v g3
  obtain rfl : w3 = (.int i3) := Option.some.inj ei3
  obtain ⟨i4, ei4⟩ := is_v gr4
  obtain rfl : w4 = (.int i4) := Option.some.inj ei4
  obtain ⟨n, o, h1, h2, h3, _, L, rfl, ⟨rfl, N⟩, hq⟩ := rm0 l s _ hw tables_1 i0 i1 i2 i3 i4 s.heap s.heap.size (Nat.le_refl _) p e ha hc hk s m _ below hf ((Spec.applies_iff_loose hf).mp happ).1 ⟨rfl, State.Warmed39.refl s, rfl⟩ trivial
  refine ⟨n, _, h1, h2, h3, hpost _ _ _ _ _ _ ⟨Cond.after_iff.mpr rfl, Cond.after_iff.mpr (eq_i res_at (Term.int_eval (1)) rfl), trivial⟩ ⟨hq.1, hq.2.1, (hq.2.2.sift fun y hy => Or.inr (N y hy)).mono (by decide) (by decide)⟩⟩
theorem main_1_1 : Claimed_1_1 := comes_1 fun _ _ _ _ _ _ h hF => ⟨h.1, hF⟩
theorem main_1_2 : Claimed_1_2 := comes_1 fun _ _ _ _ _ _ h hF => ⟨h.2.1, hF⟩
end Jvm.Pilot.@@N@@
namespace Jvm.Pilot.@@N@@
open Jvm Jvm.ClassFile Sem Op Lib Jvm.Free Jvm.Stand Jvm.Pilot.@@N@@.Jvm.D
/-! MADE BY PROGRAM (witnessworld.py) out of the Statement's table words and the real class files: 10 classes; the members and pool entries that the words name. The judged class is class 1, her method 2. -/
namespace start1
open Jvm.ClassFile
def u (s : String) : CpInfo := .utf8 (stringToUtf16 s)
/-- a pool by its gaps: so many unusable entries, then the entry; so many at the end -/
def gap : Nat → List CpInfo → List CpInfo
  | 0, r => r
  | n + 1, r => .unusable :: gap n r
def poolList (es : List (Nat × CpInfo)) (last : Nat) : List CpInfo := es.foldr (fun e r => gap e.1 (e.2 :: r)) (gap last [])
def pool (es : List (Nat × CpInfo)) (last : Nat) : Array CpInfo := ⟨poolList es last⟩
def fileOf (pool : Array CpInfo) (this : Nat) (attrs : Array Attribute := #[]) (ms : Array MethodInfo := #[]) (fl : Nat := 33) (sup : Nat := 0) (ifs : Array Nat := #[]) (fds : Array FieldInfo := #[]) : ClassFile where
  minorVersion := 0
  majorVersion := 65
  constantPool := pool
  accessFlags := fl
  thisClass := this
  superClass := sup
  interfaces := ifs
  fields := fds
  methods := ms
  attributes := attrs
def plain (name : String) (sup : Option ClassId) : Class where
  name := name
  kind := .ordinary
  loader := none
  accessFlags := 33
  super := sup
  interfaces := #[]
  cf := none
  fields := #[]
  methods := #[]
  instanceTypes := #[]
  staticTypes := #[]
  resolved := #[]
  callSites := []
  init := .initialized
  statics := none
  mirror := none

def pool0 : Array CpInfo := pool [(5, u "<init>"), (0, u "()V"), (1, .class_ 10), (1, u "java/lang/Object")] 113

def k0c0 : Code := { maxStack := 0, maxLocals := 1, code := object_method_1_code, exceptionTable := #[], attributes := #[] }
def k0m0 : Method := { name := "<init>", desc := "()V", sig := { parameters := [], returnType := none }, accessFlags := 1, code := some k0c0 }
/-- java/lang/Object -/
def k0 : Class := { plain "java/lang/Object" none with
  accessFlags := 33
  interfaces := #[]
  cf := some (fileOf pool0 8 #[] #[{ accessFlags := 1, nameIndex := 5, descriptorIndex := 6, attributes := #[] }] 33 0 #[] #[])
  fields := #[]
  methods := #[k0m0]
  instanceTypes := #[]
  staticTypes := #[]
  resolved := Array.replicate 124 none
  statics := none }

def pool1 : Array CpInfo := pool [(2, .class_ 4), (1, u "java/lang/Object"), (0, u "<init>"), (0, u "()V"), (0, .integer 2147483647), (0, .methodref 9 10), (0, .class_ 11), (0, .nameAndType 12 13), (0, u "java/lang/Math"), (0, u "max"), (0, u "(II)I"), (0, .class_ 15), (0, u "com/example/hoopoe/hoopoe/RetryPolicy"), (0, .methodref 14 17), (0, .nameAndType 5 18), (0, u "(III)V"), (0, .methodref 14 20), (0, .nameAndType 21 22), (0, u "spent"), (0, u "(I)Z"), (0, .methodref 24 25), (0, .class_ 26), (0, .nameAndType 27 28), (0, u "com/example/hoopoe/hoopoe/RetryPolicySpentPinLaw"), (0, u "mono"), (0, u "(IZIZ)Z"), (3, u "law"), (0, u "(IIIII)Z")] 2

def k1m0 : Method := { name := "<init>", desc := "()V", sig := { parameters := [], returnType := none }, accessFlags := 1, code := none }
def k1c1 : Code := { maxStack := 2, maxLocals := 4, code := method_2_code, exceptionTable := #[], attributes := #[] }
def k1m1 : Method := { name := "mono", desc := "(IZIZ)Z", sig := { parameters := [.int, .boolean, .int, .boolean], returnType := some .boolean }, accessFlags := 10, code := some k1c1 }
def k1c2 : Code := { maxStack := 5, maxLocals := 13, code := code, exceptionTable := #[], attributes := #[] }
def k1m2 : Method := { name := "law", desc := "(IIIII)Z", sig := { parameters := [.int, .int, .int, .int, .int], returnType := some .boolean }, accessFlags := 9, code := some k1c2 }
/-- com/example/hoopoe/hoopoe/RetryPolicySpentPinLaw -/
def k1 : Class := { plain "com/example/hoopoe/hoopoe/RetryPolicySpentPinLaw" (some 0) with
  accessFlags := 49
  interfaces := #[]
  cf := some (fileOf pool1 24 #[] #[{ accessFlags := 1, nameIndex := 5, descriptorIndex := 6, attributes := #[] }, { accessFlags := 10, nameIndex := 27, descriptorIndex := 28, attributes := #[] }, { accessFlags := 9, nameIndex := 32, descriptorIndex := 33, attributes := #[] }] 49 2 #[] #[])
  fields := #[]
  methods := #[k1m0, k1m1, k1m2]
  instanceTypes := #[]
  staticTypes := #[]
  resolved := Array.replicate 36 none
  statics := none }

def pool2 : Array CpInfo := pool [(1, .class_ 2), (0, u "java/lang/Math"), (1, .class_ 6), (1, u "java/lang/Object"), (0, u "<init>"), (0, u "()V"), (89, .class_ 100), (1, u "java/lang/Math$RandomNumberGeneratorHolder"), (71, u "negativeZeroFloatBits"), (0, u "J"), (2, u "negativeZeroDoubleBits"), (21, u "max"), (46, u "$assertionsDisabled"), (0, u "Z"), (88, u "(II)I"), (2, u "twoToTheDoubleScaleDown"), (0, u "D"), (4, u "twoToTheDoubleScaleUp"), (9, u "E"), (3, u "PI"), (2, u "TAU"), (2, u "DEGREES_TO_RADIANS"), (0, u "RADIANS_TO_DEGREES")] 94

def k2m0 : Method := { name := "<init>", desc := "()V", sig := { parameters := [], returnType := none }, accessFlags := 2, code := none }
def k2c1 : Code := { maxStack := 2, maxLocals := 2, code := jdk_29_method_65_code, exceptionTable := #[], attributes := #[] }
def k2m1 : Method := { name := "max", desc := "(II)I", sig := { parameters := [.int, .int], returnType := some .int }, accessFlags := 9, code := some k2c1 }
/-- java/lang/Math -/
def k2 : Class := { plain "java/lang/Math" (some 0) with
  accessFlags := 49
  interfaces := #[]
  cf := some (fileOf pool2 1 #[.nestMembers #[98]] #[{ accessFlags := 2, nameIndex := 7, descriptorIndex := 8, attributes := #[] }, { accessFlags := 9, nameIndex := 198, descriptorIndex := 335, attributes := #[] }] 49 4 #[] #[{ accessFlags := 25, nameIndex := 354, descriptorIndex := 339, attributes := #[] }, { accessFlags := 25, nameIndex := 358, descriptorIndex := 339, attributes := #[] }, { accessFlags := 25, nameIndex := 361, descriptorIndex := 339, attributes := #[] }, { accessFlags := 26, nameIndex := 364, descriptorIndex := 339, attributes := #[] }, { accessFlags := 26, nameIndex := 365, descriptorIndex := 339, attributes := #[] }, { accessFlags := 26, nameIndex := 172, descriptorIndex := 173, attributes := #[] }, { accessFlags := 26, nameIndex := 176, descriptorIndex := 173, attributes := #[] }, { accessFlags := 8, nameIndex := 344, descriptorIndex := 339, attributes := #[] }, { accessFlags := 8, nameIndex := 338, descriptorIndex := 339, attributes := #[] }, { accessFlags := 4120, nameIndex := 245, descriptorIndex := 246, attributes := #[] }])
  fields := #[{ name := "E", type := .double, accessFlags := 25, slot := 0, constantValue := 0 }, { name := "PI", type := .double, accessFlags := 25, slot := 1, constantValue := 0 }, { name := "TAU", type := .double, accessFlags := 25, slot := 2, constantValue := 0 }, { name := "DEGREES_TO_RADIANS", type := .double, accessFlags := 26, slot := 3, constantValue := 0 }, { name := "RADIANS_TO_DEGREES", type := .double, accessFlags := 26, slot := 4, constantValue := 0 }, { name := "negativeZeroFloatBits", type := .long, accessFlags := 26, slot := 5, constantValue := 0 }, { name := "negativeZeroDoubleBits", type := .long, accessFlags := 26, slot := 6, constantValue := 0 }, { name := "twoToTheDoubleScaleUp", type := .double, accessFlags := 8, slot := 7, constantValue := 0 }, { name := "twoToTheDoubleScaleDown", type := .double, accessFlags := 8, slot := 8, constantValue := 0 }, { name := "$assertionsDisabled", type := .boolean, accessFlags := 4120, slot := 9, constantValue := 0 }]
  methods := #[k2m0, k2m1]
  instanceTypes := #[]
  staticTypes := #[.double, .double, .double, .double, .double, .long, .long, .double, .double, .boolean]
  resolved := Array.replicate 460 none
  statics := none }

def pool3 : Array CpInfo := pool [(1, .methodref 2 3), (0, .class_ 4), (0, .nameAndType 5 6), (0, u "java/lang/Object"), (0, u "<init>"), (0, u "()V"), (0, .fieldref 8 9), (0, .class_ 10), (0, .nameAndType 11 12), (0, u "com/example/hoopoe/hoopoe/RetryPolicy"), (0, u "maxAttempts"), (0, u "I"), (0, .fieldref 8 14), (0, .nameAndType 15 16), (0, u "baseMillis"), (0, u "J"), (0, .fieldref 8 18), (0, .nameAndType 19 16), (0, u "capMillis"), (9, u "(III)V"), (2, u "spent"), (0, u "(I)Z")] 5

def k3c0 : Code := { maxStack := 3, maxLocals := 4, code := prog_14_method_1_code, exceptionTable := #[], attributes := #[] }
def k3m0 : Method := { name := "<init>", desc := "(III)V", sig := { parameters := [.int, .int, .int], returnType := none }, accessFlags := 0, code := some k3c0 }
def k3c1 : Code := { maxStack := 2, maxLocals := 2, code := prog_14_method_2_code, exceptionTable := #[], attributes := #[] }
def k3m1 : Method := { name := "spent", desc := "(I)Z", sig := { parameters := [.int], returnType := some .boolean }, accessFlags := 0, code := some k3c1 }
/-- com/example/hoopoe/hoopoe/RetryPolicy -/
def k3 : Class := { plain "com/example/hoopoe/hoopoe/RetryPolicy" (some 0) with
  accessFlags := 48
  interfaces := #[]
  cf := some (fileOf pool3 8 #[] #[{ accessFlags := 0, nameIndex := 5, descriptorIndex := 29, attributes := #[] }, { accessFlags := 0, nameIndex := 32, descriptorIndex := 33, attributes := #[] }] 48 2 #[] #[{ accessFlags := 18, nameIndex := 11, descriptorIndex := 12, attributes := #[] }, { accessFlags := 18, nameIndex := 15, descriptorIndex := 16, attributes := #[] }, { accessFlags := 18, nameIndex := 19, descriptorIndex := 16, attributes := #[] }])
  fields := #[{ name := "maxAttempts", type := .int, accessFlags := 18, slot := 0, constantValue := 0 }, { name := "baseMillis", type := .long, accessFlags := 18, slot := 1, constantValue := 0 }, { name := "capMillis", type := .long, accessFlags := 18, slot := 2, constantValue := 0 }]
  methods := #[k3m0, k3m1]
  instanceTypes := #[.int, .long, .long]
  staticTypes := #[]
  resolved := Array.replicate 39 none
  statics := none }

def pool4 : Array CpInfo := pool [(1, u "java/lang/Cloneable"), (0, .class_ 1), (0, u "java/lang/Object"), (0, .class_ 3)] 3

/-- java/lang/Cloneable -/
def k4 : Class := { plain "java/lang/Cloneable" (some 0) with
  accessFlags := 1537
  interfaces := #[]
  cf := some (fileOf pool4 2 #[] #[] 1537 4 #[] #[])
  fields := #[]
  methods := #[]
  instanceTypes := #[]
  staticTypes := #[]
  resolved := Array.replicate 8 none
  statics := none }

def pool5 : Array CpInfo := pool [(1, u "java/io/Serializable"), (0, .class_ 1), (0, u "java/lang/Object"), (0, .class_ 3)] 3

/-- java/io/Serializable -/
def k5 : Class := { plain "java/io/Serializable" (some 0) with
  accessFlags := 1537
  interfaces := #[]
  cf := some (fileOf pool5 2 #[] #[] 1537 4 #[] #[])
  fields := #[]
  methods := #[]
  instanceTypes := #[]
  staticTypes := #[]
  resolved := Array.replicate 8 none
  statics := none }

/-- the primitive byte -/
def k6 : Class := { plain "byte" none with kind := .primitive 'B', accessFlags := 0x411 }
/-- [B -/
def k7 : Class := { plain "[B" (some 0) with kind := .array 6 .byte, interfaces := #[4, 5], accessFlags := 1041 }

/-- the primitive int -/
def k8 : Class := { plain "int" none with kind := .primitive 'I', accessFlags := 0x411 }
/-- [I -/
def k9 : Class := { plain "[I" (some 0) with kind := .array 8 .int, interfaces := #[4, 5], accessFlags := 1041 }

def heap : Heap := #[]
def classes : Array Class := #[k0, k1, k2, k3, k4, k5, k6, k7, k8, k9]
def interned : List (Array UInt16 × Addr) := []
def slotsUsed : Nat := 0
def theMethod : MethodId := ⟨1, 2⟩
def args0 : Array Value := #[.int 5, .int 300, .int 7, .int 4, .int 6]
def aboutOver (below : List Frame) : State where
  vm := { classes := classes, interned := interned.toArray }
  heap := heap
  slotsUsed := slotsUsed
  threads := #[{ frames := .invoking theMethod args0 :: below }]
def below0 : List Frame := [.native { method := ⟨0, 0⟩, args := #[] }]
def about1 : State := aboutOver below0
def p0 : Program := .bare "" "" ""
def e0 : Env := launch0.env 0 0 0
theorem w_frames : about1.frames = Frame.invoking theMethod args0 :: below0 := rfl
set_option maxRecDepth 65536 in
theorem w_args : argsFit about1.vm theMethod args0 = true := by decide +kernel
set_option maxRecDepth 65536 in
theorem w_heap : heapFits about1 = true := by decide +kernel
set_option maxRecDepth 65536 in
theorem w_runnable : about1.curStatus? = some .runnable := by decide +kernel
set_option maxRecDepth 65536 in
theorem w_alone : about1.alone = true := by decide +kernel
set_option maxRecDepth 65536 in
theorem w_named : about1.methodNamed? x = some theMethod := by decide +kernel
set_option maxRecDepth 65536 in
theorem w_hears : about1.hears theMethod below0 = true := by decide +kernel
set_option maxRecDepth 65536 in
theorem w_ripe : about1.ripe theMethod args0 below0 = true := by decide +kernel
theorem w_running : about1.status = .running := rfl
set_option maxRecDepth 65536 in
theorem w_room : about1.hasRoom e0.platform room_1 = true :=
  launch0.hasRoom_least _ room_1 (by decide +kernel) (by decide +kernel) (by decide +kernel) (by decide +kernel) (by decide +kernel) (by decide +kernel)
theorem allAtoms_all (ts : List Jvm.Cond) (a : Array Jvm.Value) (st : Jvm.State) : (allAtoms ts).before a st = ts.all (fun c => c.before a st) := by
  induction ts with
  | nil => rfl
  | cons c t ih =>
    show (Jvm.Cond.and c (allAtoms t)).before a st = _
    rw [Jvm.Cond.before_and, ih, List.all_cons]
def words1 : List Jvm.Cond := Jvm.Cond.code x code maxLocals ret :: tables_1
/-- a 'code' word, met by the world's own term for the bytes: nothing is compared byte by byte -/
theorem code_word {y : MethodName} {bytes : ByteArray} {mx : Nat} {rt : Option FieldType} {a : Array Value} {s : State} {m : MethodId} {meth : Method} {c : Code} (h1 : s.methodNamed? y = some m) (h2 : s.vm.method? m = some meth) (h3 : meth.code = some c) (h4 : c.code = bytes)
    (h5 : (c.maxLocals == mx && c.exceptionTable.isEmpty && decide (c.maxStack ≤ mostOperands) && decide (meth.sig.returnType = rt) && !meth.locks && decide (parseMethodDescriptor y.desc = some meth.sig)) = true) : (Jvm.Cond.code y bytes mx rt).before a s = true := by
  simp only [Bool.and_eq_true, beq_iff_eq, Bool.not_eq_true', decide_eq_true_eq] at h5
  obtain ⟨⟨⟨⟨⟨g1, g2⟩, g3⟩, g4⟩, g5⟩, g6⟩ := h5
  simp [Cond.before, Cond.holds, Cond.value, h1, h2, h3, h4, g1, g2, g3, g4, g5, g6]
def isCode : Jvm.Cond → Bool
  | .code _ _ _ _ => true
  | _ => false
theorem all_split {L : List Jvm.Cond} {P : Jvm.Cond → Bool} (h1 : L.all (fun c => isCode c || P c) = true) (h2 : ∀ c ∈ L.filter isCode, P c = true) : L.all P = true := by
  refine List.all_eq_true.mpr fun c hc => ?_
  have h := List.all_eq_true.mp h1 c hc
  rcases Bool.eq_false_or_eq_true (isCode c) with hi | hi
  · exact h2 c (List.mem_filter.mpr ⟨hc, hi⟩)
  · simpa [hi] using h
set_option maxRecDepth 65536 in
theorem w_c0 : (Jvm.Cond.code x code maxLocals ret).before args0 about1 = true := code_word (m := ⟨1, 2⟩) (meth := k1m2) (c := k1c2) (by decide +kernel) rfl rfl rfl (by decide +kernel)
set_option maxRecDepth 65536 in
theorem w_c1 : (Jvm.Cond.code ({ cls := "java/lang/Math", name := "max", desc := "(II)I" } : Jvm.MethodName) jdk_29_method_65_code (2 : Nat) (Option.some Jvm.ClassFile.FieldType.int)).before args0 about1 = true := code_word (m := ⟨2, 1⟩) (meth := k2m1) (c := k2c1) (by decide +kernel) rfl rfl rfl (by decide +kernel)
set_option maxRecDepth 65536 in
theorem w_c2 : (Jvm.Cond.code ({ cls := "com/example/hoopoe/hoopoe/RetryPolicy", name := "<init>", desc := "(III)V" } : Jvm.MethodName) prog_14_method_1_code (4 : Nat) (Option.none : Option Jvm.ClassFile.FieldType)).before args0 about1 = true := code_word (m := ⟨3, 0⟩) (meth := k3m0) (c := k3c0) (by decide +kernel) rfl rfl rfl (by decide +kernel)
set_option maxRecDepth 65536 in
theorem w_c3 : (Jvm.Cond.code ({ cls := "java/lang/Object", name := "<init>", desc := "()V" } : Jvm.MethodName) object_method_1_code (1 : Nat) (Option.none : Option Jvm.ClassFile.FieldType)).before args0 about1 = true := code_word (m := ⟨0, 0⟩) (meth := k0m0) (c := k0c0) (by decide +kernel) rfl rfl rfl (by decide +kernel)
set_option maxRecDepth 65536 in
theorem w_c4 : (Jvm.Cond.code ({ cls := "com/example/hoopoe/hoopoe/RetryPolicy", name := "spent", desc := "(I)Z" } : Jvm.MethodName) prog_14_method_2_code (2 : Nat) (Option.some Jvm.ClassFile.FieldType.boolean)).before args0 about1 = true := code_word (m := ⟨3, 1⟩) (meth := k3m1) (c := k3c1) (by decide +kernel) rfl rfl rfl (by decide +kernel)
set_option maxRecDepth 65536 in
theorem w_c5 : (Jvm.Cond.code ({ cls := "com/example/hoopoe/hoopoe/RetryPolicySpentPinLaw", name := "mono", desc := "(IZIZ)Z" } : Jvm.MethodName) method_2_code (4 : Nat) (Option.some Jvm.ClassFile.FieldType.boolean)).before args0 about1 = true := code_word (m := ⟨1, 1⟩) (meth := k1m1) (c := k1c1) (by decide +kernel) rfl rfl rfl (by decide +kernel)
def codes1 : List Jvm.Cond := [Jvm.Cond.code x code maxLocals ret, Jvm.Cond.code ({ cls := "java/lang/Math", name := "max", desc := "(II)I" } : Jvm.MethodName) jdk_29_method_65_code (2 : Nat) (Option.some Jvm.ClassFile.FieldType.int), Jvm.Cond.code ({ cls := "com/example/hoopoe/hoopoe/RetryPolicy", name := "<init>", desc := "(III)V" } : Jvm.MethodName) prog_14_method_1_code (4 : Nat) (Option.none : Option Jvm.ClassFile.FieldType), Jvm.Cond.code ({ cls := "java/lang/Object", name := "<init>", desc := "()V" } : Jvm.MethodName) object_method_1_code (1 : Nat) (Option.none : Option Jvm.ClassFile.FieldType), Jvm.Cond.code ({ cls := "com/example/hoopoe/hoopoe/RetryPolicy", name := "spent", desc := "(I)Z" } : Jvm.MethodName) prog_14_method_2_code (2 : Nat) (Option.some Jvm.ClassFile.FieldType.boolean), Jvm.Cond.code ({ cls := "com/example/hoopoe/hoopoe/RetryPolicySpentPinLaw", name := "mono", desc := "(IZIZ)Z" } : Jvm.MethodName) method_2_code (4 : Nat) (Option.some Jvm.ClassFile.FieldType.boolean)]
set_option maxRecDepth 65536 in
theorem codes_eq : words1.filter isCode = codes1 := rfl
theorem w_codes : ∀ c ∈ words1.filter isCode, c.before args0 about1 = true := by
  rw [codes_eq]
  intro c hc
  simp only [codes1, List.mem_cons, List.not_mem_nil, or_false] at hc
  rcases hc with rfl | rfl | rfl | rfl | rfl | rfl
  · exact w_c0
  · exact w_c1
  · exact w_c2
  · exact w_c3
  · exact w_c4
  · exact w_c5
set_option maxRecDepth 65536 in
theorem w_t1 : (words1.take 24).all (fun c => isCode c || c.before args0 about1) = true := by decide +kernel
set_option maxRecDepth 65536 in
theorem w_t2 : (words1.drop 24).all (fun c => isCode c || c.before args0 about1) = true := by decide +kernel
theorem w_tables : (allAtoms (Jvm.Cond.code x code maxLocals ret :: tables_1)).before args0 about1 = true := by
  rw [allAtoms_all]
  show words1.all (fun c => c.before args0 about1) = true
  refine all_split ?_ w_codes
  rw [← List.take_append_drop 24 words1, List.all_append, w_t1, w_t2]
  rfl
set_option maxRecDepth 65536 in
theorem w_case : (Jvm.Cond.and given_1 narrow_1).before args0 about1 = true := by decide +kernel
theorem w_applies : (headSpec (Jvm.Cond.code x code maxLocals ret :: tables_1) room_1).applies x e0.platform about1 = true :=
  (Spec.applies_iff w_frames).mpr ⟨w_running, w_runnable, w_alone, w_named, w_hears, w_ripe, w_room, w_tables⟩
theorem atStart : AtStart classFile x code maxLocals ret World_1 tables_1 room_1 Calls_1 rest_1 Pre_1 launch0 p0 e0 about1 theMethod args0 below0 :=
  ⟨lists_1, trivial, launch0.admits_env _ _ _, launch0.least_env, fairChoices_fair.cas, fairChoices_fair.clock, w_frames, w_args, w_heap, w_applies, trivial, trivial, w_case⟩
end start1
theorem witness_1 : WitnessClaimed_1 := ⟨start1.p0, start1.e0, start1.about1, start1.theMethod, start1.args0, start1.below0, start1.atStart⟩
end Jvm.Pilot.@@N@@
