import JvmDerived
import JvmDerived.Pilot.@@N@@Statement
import JvmDerived.Pilot.@@N@@Code
set_option linter.unusedVariables false
set_option linter.unusedSimpArgs false
@@BLOCK:NumsL.lean.txt@@
namespace Jvm.RoadKit
open Sem ClassFile Op Lib Jvm.Stand Jvm.Free Jvm.LawKit
section New
variable {p : Program} {l : Launch} {e : Env} {R : Room} {s : State} {m : MethodId} {args : Array Value} {below : List Frame} {meth : Method} {c : Code} {T : State} {locs : List Loc} {cells slots : Nat}
theorem retI (X : Stand p l e R s m args below meth c T locs cells slots) (hx : p.tables.exec = Jvm.exec) {pc : Nat} {Ls : Array Slot} {z : Int32} {rest : List Value} (hret : meth.sig.returnType = some .int) (hd : decode c.code pc = .ok (.ireturn, 1)) {fs : List Frame}
    (hl : ∀ (f : JFrame) (acts : List Action), f.method = m → f.locked = none → f.entered = [] → (doReturn e (T.setTop f) acts (some (.int z))).1 = T.setFrames fs) : Steps p.tables e below (T.setTop (mkF m pc Ls (.int z :: rest))) (T.setFrames fs) := by
  have hm' : T.vm.method? m = some meth := X.method'
  have hn : narrow .int (.int z) = .int z := rfl
  show Steps p.tables e below (T.setTop { method := m, pc := pc, locals := Ls, stack := _ :: rest, locked := none }) _
  jvm_step X.here [X.here.top, hx, hd, hm', hret, hn]
  first | (intro acts; rw [hl _ acts rfl rfl rfl]) | rw [hl _ _ rfl rfl rfl]
  exact Steps.refl _
end New
end Jvm.RoadKit
namespace Jvm.Pilot.@@N@@
open Jvm Jvm.ClassFile Sem Op Lib Jvm.Free Jvm.Stand Jvm.LawKit Jvm.RoadKit Bundle Jvm.Pilot.@@N@@.Jvm.D
/-- the goal of a walk, carried from one point to the next -/
theorem own_via {tb : Tables} {e : Env} {below : List Frame} {Y Y' : State} {P : State → Outcome → Prop} (h : ∀ t, Steps tb e below Y' t → Steps tb e below Y t) (g : ∃ s₂ o, Steps tb e below Y' s₂ ∧ P s₂ o) : ∃ s₂ o, Steps tb e below Y s₂ ∧ P s₂ o := by
  obtain ⟨s₂, o, h1, h2⟩ := g
  exact ⟨s₂, o, h _ h1, h2⟩
/-- the same where the goal is a join: 'from here the run comes to F x for some x with A x' -/
theorem own_via2 {tb : Tables} {e : Env} {below : List Frame} {Y Y' : State} {α : Type} {A : α → Prop} {F : α → State} (h : ∀ t, Steps tb e below Y' t → Steps tb e below Y t) (g : ∃ x, A x ∧ ∀ t, Steps tb e below (F x) t → Steps tb e below Y' t) : ∃ x, A x ∧ ∀ t, Steps tb e below (F x) t → Steps tb e below Y t := by
  obtain ⟨x, h1, h2⟩ := g
  exact ⟨x, h1, fun t kt => h _ (h2 _ kt)⟩
/-- what a callee leaves that writes nothing: its answer, no place written, the heap as it was -/
def own_Q (r : Option Value) (h0 : Heap) (v : Option Value) (h : Heap) (L : List Loc) : Prop := v = r ∧ L = [] ∧ h = h0
theorem pd_I_Z : parseMethodDescriptor "(I)Z" = some ⟨[.int], some .boolean⟩ := by decide +kernel
theorem d1_0 : decode prog_5_method_2_code 0 = .ok (.iload_n 0, 1) := by decide +kernel
theorem d1_1 : decode prog_5_method_2_code 1 = .ok (.ldc 9, 2) := by decide +kernel
theorem d1_3 : decode prog_5_method_2_code 3 = .ok (.if_icmp .lt 13, 3) := by decide +kernel
theorem d1_6 : decode prog_5_method_2_code 6 = .ok (.iload_n 0, 1) := by decide +kernel
theorem d1_7 : decode prog_5_method_2_code 7 = .ok (.ldc 10, 2) := by decide +kernel
theorem d1_9 : decode prog_5_method_2_code 9 = .ok (.if_icmp .gt 7, 3) := by decide +kernel
theorem d1_12 : decode prog_5_method_2_code 12 = .ok (.iconst 1, 1) := by decide +kernel
theorem d1_13 : decode prog_5_method_2_code 13 = .ok (.goto 4, 3) := by decide +kernel
theorem d1_16 : decode prog_5_method_2_code 16 = .ok (.iconst 0, 1) := by decide +kernel
theorem d1_17 : decode prog_5_method_2_code 17 = .ok (.ireturn, 1) := by decide +kernel
theorem pn_Unencodable : plainName "com/example/ordo/ordo/cli/Unencodable" = true := by first | (simp [plainName, overriddenIn]; done) | decide +kernel
theorem d2_0 : decode method_2_code 0 = .ok (.iload_n 0, 1) := by decide +kernel
theorem d2_1 : decode method_2_code 1 = .ok (.bipush 11, 2) := by decide +kernel
theorem d2_3 : decode method_2_code 3 = .ok (.iushr, 1) := by decide +kernel
theorem d2_4 : decode method_2_code 4 = .ok (.bipush 27, 2) := by decide +kernel
theorem d2_6 : decode method_2_code 6 = .ok (.if_icmp .ne 7, 3) := by decide +kernel
theorem d2_9 : decode method_2_code 9 = .ok (.iconst 1, 1) := by decide +kernel
theorem d2_10 : decode method_2_code 10 = .ok (.goto 4, 3) := by decide +kernel
theorem d2_13 : decode method_2_code 13 = .ok (.iconst 0, 1) := by decide +kernel
theorem d2_14 : decode method_2_code 14 = .ok (.ireturn, 1) := by decide +kernel
theorem pn_UnencodableIsPinLaw : plainName "com/example/ordo/ordo/cli/UnencodableIsPinLaw" = true := by first | (simp [plainName, overriddenIn]; done) | decide +kernel
/-- Unencodable.is, plainly -/
def own_is (x : Int32) : Int32 := if x < 55296 then 0 else if 57343 < x then 0 else 1
/-- the law's own reference, plainly -/
def own_ref (x : Int32) : Int32 := if XT.ushr x 11 = 27 then 1 else 0
theorem own_ushr (x : Int32) : XT.ushr x 11 = 27 ↔ x.toUInt32.toNat / 2048 = 27 := by
  have e : (((11 : Int32) &&& 31).toUInt32) = 11 := by decide
  unfold XT.ushr
  rw [e]
  constructor
  · intro h
    have h1 := congrArg (fun z : Int32 => z.toUInt32.toNat) h
    have e27 : (Int32.toUInt32 27).toNat = 27 := by decide
    simpa [Nat.shiftRight_eq_div_pow, e27] using h1
  · intro h
    have h1 : x.toUInt32 >>> 11 = 27 := by
      apply UInt32.toNat_inj.mp
      simpa [Nat.shiftRight_eq_div_pow] using h
    rw [h1]
    decide
theorem own_nat (x : Int32) : x.toInt = if x.toUInt32.toNat < 2147483648 then (x.toUInt32.toNat : Int) else (x.toUInt32.toNat : Int) - 4294967296 := by
  have h : x.toInt = x.toBitVec.toInt := rfl
  have h2 : x.toUInt32.toNat = x.toBitVec.toNat := rfl
  rw [h, h2, BitVec.toInt_eq_toNat_cond]
  have := x.toBitVec.isLt
  split <;> split <;> omega
theorem own_same (x : Int32) : own_is x = own_ref x := by
  have hb := x.toUInt32.toNat_lt
  have e := own_nat x
  have e1 : (55296 : Int32).toInt = 55296 := by decide
  have e2 : (57343 : Int32).toInt = 57343 := by decide
  simp only [own_is, own_ref, own_ushr, Int32.lt_iff_toInt_lt, e1, e2]
  split at e <;> (repeat' split) <;> first | rfl | omega
theorem ef_1 (m : MethodId) (p1 : Int32) : entryFrame m #[(.int p1)] 1 = mkF m 0 #[.val (.int p1)] [] := by first | (simp [entryFrame, mkF, argsToLocals, Value.category]; done) | rfl
set_option maxRecDepth 65536 in
set_option maxHeartbeats 40000000 in
theorem rm1 (l : Launch) (Z : State) (a0 : Array Value) (hw : ∀ d ∈ tables_1, d.before a0 Z = true) (ws : List Jvm.Cond) (p1 : Int32) (h0 : Heap) :
    MetFree l (⟨"com/example/ordo/ordo/cli/Unencodable", "is", "(I)Z"⟩ : MethodName) (head1 (Jvm.Cond.code (⟨"com/example/ordo/ordo/cli/Unencodable", "is", "(I)Z"⟩ : MethodName) prog_5_method_2_code 1 (some .boolean) :: ws) ({ frames := 0, cells := 0, slots := 0, locals := 0 } : Room)) (fun a U => a = #[(.int p1)] ∧ Z.Warmed39 U.vm ∧ U.heap = h0) (fun _ _ _ _ _ => True) (fun _ U o U' => ∃ v L, o = .returned v ∧ own_Q (some (.int (own_is p1))) h0 v U'.heap L ∧ FrameEnd U o U' L ({ frames := 0, cells := 0, slots := 0, locals := 0 } : Room).cells ({ frames := 0, cells := 0, slots := 0, locals := 0 } : Room).slots) := by
  refine MetFree.of_bodySF (plainFor_of_name pn_Unencodable) hisR ?_
  intro p e s m args below meth c s₁ Bd hml0 hP hK
  obtain ⟨rfl, hZ, hh⟩ := hP
  have hx := Bd.exec
  have hby := Bd.bytes
  have hml : c.maxLocals = 1 := hml0
  have hown : s.vm.findClass "com/example/ordo/ordo/cli/Unencodable" = some m.cls := findClass_of_methodNamed Bd.named
  have hnm := (name_of_methodNamed Bd.named Bd.method).1
  have X0 : Stand p l e ({ frames := 0, cells := 0, slots := 0, locals := 0 } : Room) s m #[(.int p1)] below meth c s₁ [] 0 0 := Stand.of_body Bd
  have e0 : s₁.heap = h0 := by rw [← hh, Bd.state]; rfl
  refine own_via (Y' := (s₁.setTop (mkF m 0 #[.val (.int p1)] []))) (fun t kt => castTop (ef_1 m p1) kt) ?_
  refine own_via (Y' := (s₁.setTop (mkF m 3 #[.val (.int p1)] [(.int (55296 : Int32)), (.int p1)]))) (fun t kt => ?_) ?_
  · show Steps p.tables e below (s₁.setTop (mkF m 0 #[.val (.int p1)] [])) _
    refine XS.iloadN X0.here hx rfl (hb hby d1_0) rfl ?_
    show Steps p.tables e below (s₁.setTop (mkF m 1 #[.val (.int p1)] [(.int p1)])) _
    refine X0.ldcI hx hown (mvT hZ (hw _ (List.mem_of_getElem? (i := 7) rfl))) (g := (mkF m 1 #[.val (.int p1)] [(.int p1)])) rfl (hb hby d1_1) ?_
    exact kt
  by_cases h1 : p1 < (55296 : Int32)
  · obtain ⟨fs, hr, hrun, hended, hW, hsame⟩ := X0.leave (v := (some (.int (0 : Int32)))) (fun h => by rw [Bd.returns] at h; cases h)
    refine ⟨_, _, ?_, hrun, hended, _, _, rfl, ?_, ⟨_, rfl⟩, hW, hsame.mono (by decide) (by decide)⟩
    · show Steps p.tables e below (s₁.setTop (mkF m 3 #[.val (.int p1)] [(.int (55296 : Int32)), (.int p1)])) _
      refine XS.icmpYes X0.here hx rfl (pc0 := 3) (pc' := 16) rfl (hb hby d1_3) rfl (XT.ii_lt_t h1) (by decide) (by decide) ?_
      show Steps p.tables e below (s₁.setTop (mkF m 16 #[.val (.int p1)] [])) _
      refine XT.iconstV X0.here hx rfl (0 : Int32) (hb hby d1_16) (by decide) ?_
      show Steps p.tables e below (s₁.setTop (mkF m 17 #[.val (.int p1)] [(.int (0 : Int32))])) _
      exact retN X0 hx (t := .boolean) Bd.returns (by simp) (hb hby d1_17) hr
    · exact ⟨by simp only [own_is, if_pos h1], rfl, e0⟩
  · refine own_via (Y' := (s₁.setTop (mkF m 9 #[.val (.int p1)] [(.int (57343 : Int32)), (.int p1)]))) (fun t kt => ?_) ?_
    · show Steps p.tables e below (s₁.setTop (mkF m 3 #[.val (.int p1)] [(.int (55296 : Int32)), (.int p1)])) _
      refine XS.icmpNo X0.here hx rfl (hb hby d1_3) rfl (XT.ii_lt_f h1) ?_
      show Steps p.tables e below (s₁.setTop (mkF m 6 #[.val (.int p1)] [])) _
      refine XS.iloadN X0.here hx rfl (hb hby d1_6) rfl ?_
      show Steps p.tables e below (s₁.setTop (mkF m 7 #[.val (.int p1)] [(.int p1)])) _
      refine X0.ldcI hx hown (mvT hZ (hw _ (List.mem_of_getElem? (i := 12) rfl))) (g := (mkF m 7 #[.val (.int p1)] [(.int p1)])) rfl (hb hby d1_7) ?_
      exact kt
    by_cases h2 : (57343 : Int32) < p1
    · obtain ⟨fs, hr, hrun, hended, hW, hsame⟩ := X0.leave (v := (some (.int (0 : Int32)))) (fun h => by rw [Bd.returns] at h; cases h)
      refine ⟨_, _, ?_, hrun, hended, _, _, rfl, ?_, ⟨_, rfl⟩, hW, hsame.mono (by decide) (by decide)⟩
      · show Steps p.tables e below (s₁.setTop (mkF m 9 #[.val (.int p1)] [(.int (57343 : Int32)), (.int p1)])) _
        refine XS.icmpYes X0.here hx rfl (pc0 := 9) (pc' := 16) rfl (hb hby d1_9) rfl (XT.ii_gt_t h2) (by decide) (by decide) ?_
        show Steps p.tables e below (s₁.setTop (mkF m 16 #[.val (.int p1)] [])) _
        refine XT.iconstV X0.here hx rfl (0 : Int32) (hb hby d1_16) (by decide) ?_
        show Steps p.tables e below (s₁.setTop (mkF m 17 #[.val (.int p1)] [(.int (0 : Int32))])) _
        exact retN X0 hx (t := .boolean) Bd.returns (by simp) (hb hby d1_17) hr
      · exact ⟨by simp only [own_is, if_neg h1, if_pos h2], rfl, e0⟩
    · obtain ⟨fs, hr, hrun, hended, hW, hsame⟩ := X0.leave (v := (some (.int (1 : Int32)))) (fun h => by rw [Bd.returns] at h; cases h)
      refine ⟨_, _, ?_, hrun, hended, _, _, rfl, ?_, ⟨_, rfl⟩, hW, hsame.mono (by decide) (by decide)⟩
      · show Steps p.tables e below (s₁.setTop (mkF m 9 #[.val (.int p1)] [(.int (57343 : Int32)), (.int p1)])) _
        refine XS.icmpNo X0.here hx rfl (hb hby d1_9) rfl (XT.ii_gt_f h2) ?_
        show Steps p.tables e below (s₁.setTop (mkF m 12 #[.val (.int p1)] [])) _
        refine XT.iconstV X0.here hx rfl (1 : Int32) (hb hby d1_12) (by decide) ?_
        show Steps p.tables e below (s₁.setTop (mkF m 13 #[.val (.int p1)] [(.int (1 : Int32))])) _
        refine XS.goto X0.here hx rfl (pc0 := 13) (pc' := 17) rfl (hb hby d1_13) (by decide) (by decide) ?_
        show Steps p.tables e below (s₁.setTop (mkF m 17 #[.val (.int p1)] [(.int (1 : Int32))])) _
        exact retN X0 hx (t := .boolean) Bd.returns (by simp) (hb hby d1_17) hr
      · exact ⟨by simp only [own_is, if_neg h1, if_neg h2], rfl, e0⟩
theorem ef_2 (m : MethodId) (p1 : Int32) : entryFrame m #[(.int p1)] 1 = mkF m 0 #[.val (.int p1)] [] := by first | (simp [entryFrame, mkF, argsToLocals, Value.category]; done) | rfl
set_option maxRecDepth 65536 in
set_option maxHeartbeats 40000000 in
theorem rm2 (l : Launch) (Z : State) (a0 : Array Value) (hw : ∀ d ∈ tables_1, d.before a0 Z = true) (ws : List Jvm.Cond) (p1 : Int32) (h0 : Heap) :
    MetFree l (⟨"com/example/ordo/ordo/cli/UnencodableIsPinLaw", "reference", "(I)Z"⟩ : MethodName) (head1 (Jvm.Cond.code (⟨"com/example/ordo/ordo/cli/UnencodableIsPinLaw", "reference", "(I)Z"⟩ : MethodName) method_2_code 1 (some .boolean) :: ws) ({ frames := 0, cells := 0, slots := 0, locals := 0 } : Room)) (fun a U => a = #[(.int p1)] ∧ Z.Warmed39 U.vm ∧ U.heap = h0) (fun _ _ _ _ _ => True) (fun _ U o U' => ∃ v L, o = .returned v ∧ own_Q (some (.int (own_ref p1))) h0 v U'.heap L ∧ FrameEnd U o U' L ({ frames := 0, cells := 0, slots := 0, locals := 0 } : Room).cells ({ frames := 0, cells := 0, slots := 0, locals := 0 } : Room).slots) := by
  refine MetFree.of_bodySF (plainFor_of_name pn_UnencodableIsPinLaw) hisR ?_
  intro p e s m args below meth c s₁ Bd hml0 hP hK
  obtain ⟨rfl, hZ, hh⟩ := hP
  have hx := Bd.exec
  have hby := Bd.bytes
  have hml : c.maxLocals = 1 := hml0
  have hown : s.vm.findClass "com/example/ordo/ordo/cli/UnencodableIsPinLaw" = some m.cls := findClass_of_methodNamed Bd.named
  have hnm := (name_of_methodNamed Bd.named Bd.method).1
  have X0 : Stand p l e ({ frames := 0, cells := 0, slots := 0, locals := 0 } : Room) s m #[(.int p1)] below meth c s₁ [] 0 0 := Stand.of_body Bd
  have e0 : s₁.heap = h0 := by rw [← hh, Bd.state]; rfl
  refine own_via (Y' := (s₁.setTop (mkF m 0 #[.val (.int p1)] []))) (fun t kt => castTop (ef_2 m p1) kt) ?_
  refine own_via (Y' := (s₁.setTop (mkF m 6 #[.val (.int p1)] [(.int (27 : Int32)), (.int (XT.ushr p1 (11 : Int32)))]))) (fun t kt => ?_) ?_
  · show Steps p.tables e below (s₁.setTop (mkF m 0 #[.val (.int p1)] [])) _
    refine XS.iloadN X0.here hx rfl (hb hby d2_0) rfl ?_
    show Steps p.tables e below (s₁.setTop (mkF m 1 #[.val (.int p1)] [(.int p1)])) _
    refine XT.bipushV X0.here hx rfl (11 : Int32) (hb hby d2_1) (by decide) ?_
    show Steps p.tables e below (s₁.setTop (mkF m 3 #[.val (.int p1)] [(.int (11 : Int32)), (.int p1)])) _
    refine XT.iushr X0.here hx rfl (hb hby d2_3) rfl ?_
    show Steps p.tables e below (s₁.setTop (mkF m 4 #[.val (.int p1)] [(.int (XT.ushr p1 (11 : Int32)))])) _
    refine XT.bipushV X0.here hx rfl (27 : Int32) (hb hby d2_4) (by decide) ?_
    exact kt
  by_cases h1 : (XT.ushr p1 (11 : Int32)) = (27 : Int32)
  · obtain ⟨fs, hr, hrun, hended, hW, hsame⟩ := X0.leave (v := (some (.int (1 : Int32)))) (fun h => by rw [Bd.returns] at h; cases h)
    refine ⟨_, _, ?_, hrun, hended, _, _, rfl, ?_, ⟨_, rfl⟩, hW, hsame.mono (by decide) (by decide)⟩
    · show Steps p.tables e below (s₁.setTop (mkF m 6 #[.val (.int p1)] [(.int (27 : Int32)), (.int (XT.ushr p1 (11 : Int32)))])) _
      refine XS.icmpNo X0.here hx rfl (hb hby d2_6) rfl (XT.ii_ne_f h1) ?_
      show Steps p.tables e below (s₁.setTop (mkF m 9 #[.val (.int p1)] [])) _
      refine XT.iconstV X0.here hx rfl (1 : Int32) (hb hby d2_9) (by decide) ?_
      show Steps p.tables e below (s₁.setTop (mkF m 10 #[.val (.int p1)] [(.int (1 : Int32))])) _
      refine XS.goto X0.here hx rfl (pc0 := 10) (pc' := 14) rfl (hb hby d2_10) (by decide) (by decide) ?_
      show Steps p.tables e below (s₁.setTop (mkF m 14 #[.val (.int p1)] [(.int (1 : Int32))])) _
      exact retN X0 hx (t := .boolean) Bd.returns (by simp) (hb hby d2_14) hr
    · exact ⟨by simp only [own_ref, if_pos h1], rfl, e0⟩
  · obtain ⟨fs, hr, hrun, hended, hW, hsame⟩ := X0.leave (v := (some (.int (0 : Int32)))) (fun h => by rw [Bd.returns] at h; cases h)
    refine ⟨_, _, ?_, hrun, hended, _, _, rfl, ?_, ⟨_, rfl⟩, hW, hsame.mono (by decide) (by decide)⟩
    · show Steps p.tables e below (s₁.setTop (mkF m 6 #[.val (.int p1)] [(.int (27 : Int32)), (.int (XT.ushr p1 (11 : Int32)))])) _
      refine XS.icmpYes X0.here hx rfl (pc0 := 6) (pc' := 13) rfl (hb hby d2_6) rfl (XT.ii_ne_t h1) (by decide) (by decide) ?_
      show Steps p.tables e below (s₁.setTop (mkF m 13 #[.val (.int p1)] [])) _
      refine XT.iconstV X0.here hx rfl (0 : Int32) (hb hby d2_13) (by decide) ?_
      show Steps p.tables e below (s₁.setTop (mkF m 14 #[.val (.int p1)] [(.int (0 : Int32))])) _
      exact retN X0 hx (t := .boolean) Bd.returns (by simp) (hb hby d2_14) hr
    · exact ⟨by simp only [own_ref, if_neg h1], rfl, e0⟩
/-- what the law leaves: it returns 1; whatever was written lies in new cells -/
def own_Q0 (n0 : Nat) (v : Option Value) (h : Heap) (L : List Loc) : Prop := v = some (.int (1 : Int32)) ∧ Fr n0 L
theorem ef_0 (m : MethodId) (p1 : Int32) (p2 : Int32) : entryFrame m #[(.int p1), (.int p2)] maxLocals = mkF m 0 #[.val (.int p1), .val (.int p2), .unset, .unset, .unset, .unset, .unset, .unset, .unset] [] := by first | (simp [entryFrame, mkF, argsToLocals, Value.category, maxLocals]; done) | rfl
set_option maxRecDepth 65536 in
set_option maxHeartbeats 40000000 in
theorem rm0 (l : Launch) (Z : State) (a0 : Array Value) (hw : ∀ d ∈ tables_1, d.before a0 Z = true) (ws : List Jvm.Cond) (p1 : Int32) (p2 : Int32) (h0 : Heap) (n0 : Nat) :
    MetFree l x (head1 (Jvm.Cond.code x code maxLocals ret :: ws) room_1) (fun a U => a = #[(.int p1), (.int p2)] ∧ Z.Warmed39 U.vm ∧ U.heap = h0) (fun _ _ _ _ _ => True) (fun _ U o U' => ∃ v L, o = .returned v ∧ own_Q0 n0 v U'.heap L ∧ FrameEnd U o U' L room_1.cells room_1.slots) := by
  refine MetFree.of_bodySF (plainFor_of_name pn_UnencodableIsPinLaw) hisR ?_
  intro p e s m args below meth c s₁ Bd hml0 hP hK
  obtain ⟨rfl, hZ, hh⟩ := hP
  have hx := Bd.exec
  have hby := Bd.bytes
  have hml : c.maxLocals = 9 := hml0
  have hown : s.vm.findClass "com/example/ordo/ordo/cli/UnencodableIsPinLaw" = some m.cls := findClass_of_methodNamed Bd.named
  have hnm := (name_of_methodNamed Bd.named Bd.method).1
  have X0 : Stand p l e room_1 s m #[(.int p1), (.int p2)] below meth c s₁ [] 0 0 := Stand.of_body Bd
  have e0 : s₁.heap = h0 := by rw [← hh, Bd.state]; rfl
  refine own_via (Y' := (s₁.setTop (mkF m 0 #[.val (.int p1), .val (.int p2), .unset, .unset, .unset, .unset, .unset, .unset, .unset] []))) (fun t kt => castTop (ef_0 m p1 p2) kt) ?_
  refine own_via (Y' := (s₁.setTop (mkF m 37 #[.val (.int p1), .val (.int p2), .val (.int ((55296 : Int32) + ((p2 &&& (7 : Int32)) - (4 : Int32)))), .val (.int ((57343 : Int32) + (((XT.ushr p2 (3 : Int32)) &&& (7 : Int32)) - (4 : Int32)))), .val (.int ((56320 : Int32) + (((XT.ushr p2 (6 : Int32)) &&& (7 : Int32)) - (4 : Int32)))), .unset, .unset, .unset, .unset] [(.int p1)]))) (fun t kt => ?_) ?_
  · show Steps p.tables e below (s₁.setTop (mkF m 0 #[.val (.int p1), .val (.int p2), .unset, .unset, .unset, .unset, .unset, .unset, .unset] [])) _
    refine X0.ldcI hx hown (mvT hZ (hw _ (List.mem_of_getElem? (i := 0) rfl))) (g := (mkF m 0 #[.val (.int p1), .val (.int p2), .unset, .unset, .unset, .unset, .unset, .unset, .unset] [])) rfl (hb hby at_0) ?_
    show Steps p.tables e below (s₁.setTop (mkF m 2 #[.val (.int p1), .val (.int p2), .unset, .unset, .unset, .unset, .unset, .unset, .unset] [(.int (55296 : Int32))])) _
    refine XS.iloadN X0.here hx rfl (hb hby at_2) rfl ?_
    show Steps p.tables e below (s₁.setTop (mkF m 3 #[.val (.int p1), .val (.int p2), .unset, .unset, .unset, .unset, .unset, .unset, .unset] [(.int p2), (.int (55296 : Int32))])) _
    refine XT.bipushV X0.here hx rfl (7 : Int32) (hb hby at_3) (by decide) ?_
    show Steps p.tables e below (s₁.setTop (mkF m 5 #[.val (.int p1), .val (.int p2), .unset, .unset, .unset, .unset, .unset, .unset, .unset] [(.int (7 : Int32)), (.int p2), (.int (55296 : Int32))])) _
    refine XS.iand X0.here hx rfl (hb hby at_5) rfl ?_
    show Steps p.tables e below (s₁.setTop (mkF m 6 #[.val (.int p1), .val (.int p2), .unset, .unset, .unset, .unset, .unset, .unset, .unset] [(.int (p2 &&& (7 : Int32))), (.int (55296 : Int32))])) _
    refine XT.iconstV X0.here hx rfl (4 : Int32) (hb hby at_6) (by decide) ?_
    show Steps p.tables e below (s₁.setTop (mkF m 7 #[.val (.int p1), .val (.int p2), .unset, .unset, .unset, .unset, .unset, .unset, .unset] [(.int (4 : Int32)), (.int (p2 &&& (7 : Int32))), (.int (55296 : Int32))])) _
    refine XS.isub X0.here hx rfl (hb hby at_7) rfl ?_
    show Steps p.tables e below (s₁.setTop (mkF m 8 #[.val (.int p1), .val (.int p2), .unset, .unset, .unset, .unset, .unset, .unset, .unset] [(.int ((p2 &&& (7 : Int32)) - (4 : Int32))), (.int (55296 : Int32))])) _
    refine XS.iadd X0.here hx rfl (hb hby at_8) rfl ?_
    show Steps p.tables e below (s₁.setTop (mkF m 9 #[.val (.int p1), .val (.int p2), .unset, .unset, .unset, .unset, .unset, .unset, .unset] [(.int ((55296 : Int32) + ((p2 &&& (7 : Int32)) - (4 : Int32))))])) _
    refine XS.istoreN X0.here hx rfl (hb hby at_9) rfl (l' := #[.val (.int p1), .val (.int p2), .val (.int ((55296 : Int32) + ((p2 &&& (7 : Int32)) - (4 : Int32)))), .unset, .unset, .unset, .unset, .unset, .unset]) rfl ?_
    show Steps p.tables e below (s₁.setTop (mkF m 10 #[.val (.int p1), .val (.int p2), .val (.int ((55296 : Int32) + ((p2 &&& (7 : Int32)) - (4 : Int32)))), .unset, .unset, .unset, .unset, .unset, .unset] [])) _
    refine X0.ldcI hx hown (mvT hZ (hw _ (List.mem_of_getElem? (i := 1) rfl))) (g := (mkF m 10 #[.val (.int p1), .val (.int p2), .val (.int ((55296 : Int32) + ((p2 &&& (7 : Int32)) - (4 : Int32)))), .unset, .unset, .unset, .unset, .unset, .unset] [])) rfl (hb hby at_10) ?_
    show Steps p.tables e below (s₁.setTop (mkF m 12 #[.val (.int p1), .val (.int p2), .val (.int ((55296 : Int32) + ((p2 &&& (7 : Int32)) - (4 : Int32)))), .unset, .unset, .unset, .unset, .unset, .unset] [(.int (57343 : Int32))])) _
    refine XS.iloadN X0.here hx rfl (hb hby at_12) rfl ?_
    show Steps p.tables e below (s₁.setTop (mkF m 13 #[.val (.int p1), .val (.int p2), .val (.int ((55296 : Int32) + ((p2 &&& (7 : Int32)) - (4 : Int32)))), .unset, .unset, .unset, .unset, .unset, .unset] [(.int p2), (.int (57343 : Int32))])) _
    refine XT.iconstV X0.here hx rfl (3 : Int32) (hb hby at_13) (by decide) ?_
    show Steps p.tables e below (s₁.setTop (mkF m 14 #[.val (.int p1), .val (.int p2), .val (.int ((55296 : Int32) + ((p2 &&& (7 : Int32)) - (4 : Int32)))), .unset, .unset, .unset, .unset, .unset, .unset] [(.int (3 : Int32)), (.int p2), (.int (57343 : Int32))])) _
    refine XT.iushr X0.here hx rfl (hb hby at_14) rfl ?_
    show Steps p.tables e below (s₁.setTop (mkF m 15 #[.val (.int p1), .val (.int p2), .val (.int ((55296 : Int32) + ((p2 &&& (7 : Int32)) - (4 : Int32)))), .unset, .unset, .unset, .unset, .unset, .unset] [(.int (XT.ushr p2 (3 : Int32))), (.int (57343 : Int32))])) _
    refine XT.bipushV X0.here hx rfl (7 : Int32) (hb hby at_15) (by decide) ?_
    show Steps p.tables e below (s₁.setTop (mkF m 17 #[.val (.int p1), .val (.int p2), .val (.int ((55296 : Int32) + ((p2 &&& (7 : Int32)) - (4 : Int32)))), .unset, .unset, .unset, .unset, .unset, .unset] [(.int (7 : Int32)), (.int (XT.ushr p2 (3 : Int32))), (.int (57343 : Int32))])) _
    refine XS.iand X0.here hx rfl (hb hby at_17) rfl ?_
    show Steps p.tables e below (s₁.setTop (mkF m 18 #[.val (.int p1), .val (.int p2), .val (.int ((55296 : Int32) + ((p2 &&& (7 : Int32)) - (4 : Int32)))), .unset, .unset, .unset, .unset, .unset, .unset] [(.int ((XT.ushr p2 (3 : Int32)) &&& (7 : Int32))), (.int (57343 : Int32))])) _
    refine XT.iconstV X0.here hx rfl (4 : Int32) (hb hby at_18) (by decide) ?_
    show Steps p.tables e below (s₁.setTop (mkF m 19 #[.val (.int p1), .val (.int p2), .val (.int ((55296 : Int32) + ((p2 &&& (7 : Int32)) - (4 : Int32)))), .unset, .unset, .unset, .unset, .unset, .unset] [(.int (4 : Int32)), (.int ((XT.ushr p2 (3 : Int32)) &&& (7 : Int32))), (.int (57343 : Int32))])) _
    refine XS.isub X0.here hx rfl (hb hby at_19) rfl ?_
    show Steps p.tables e below (s₁.setTop (mkF m 20 #[.val (.int p1), .val (.int p2), .val (.int ((55296 : Int32) + ((p2 &&& (7 : Int32)) - (4 : Int32)))), .unset, .unset, .unset, .unset, .unset, .unset] [(.int (((XT.ushr p2 (3 : Int32)) &&& (7 : Int32)) - (4 : Int32))), (.int (57343 : Int32))])) _
    refine XS.iadd X0.here hx rfl (hb hby at_20) rfl ?_
    show Steps p.tables e below (s₁.setTop (mkF m 21 #[.val (.int p1), .val (.int p2), .val (.int ((55296 : Int32) + ((p2 &&& (7 : Int32)) - (4 : Int32)))), .unset, .unset, .unset, .unset, .unset, .unset] [(.int ((57343 : Int32) + (((XT.ushr p2 (3 : Int32)) &&& (7 : Int32)) - (4 : Int32))))])) _
    refine XS.istoreN X0.here hx rfl (hb hby at_21) rfl (l' := #[.val (.int p1), .val (.int p2), .val (.int ((55296 : Int32) + ((p2 &&& (7 : Int32)) - (4 : Int32)))), .val (.int ((57343 : Int32) + (((XT.ushr p2 (3 : Int32)) &&& (7 : Int32)) - (4 : Int32)))), .unset, .unset, .unset, .unset, .unset]) rfl ?_
    show Steps p.tables e below (s₁.setTop (mkF m 22 #[.val (.int p1), .val (.int p2), .val (.int ((55296 : Int32) + ((p2 &&& (7 : Int32)) - (4 : Int32)))), .val (.int ((57343 : Int32) + (((XT.ushr p2 (3 : Int32)) &&& (7 : Int32)) - (4 : Int32)))), .unset, .unset, .unset, .unset, .unset] [])) _
    refine X0.ldcI hx hown (mvT hZ (hw _ (List.mem_of_getElem? (i := 2) rfl))) (g := (mkF m 22 #[.val (.int p1), .val (.int p2), .val (.int ((55296 : Int32) + ((p2 &&& (7 : Int32)) - (4 : Int32)))), .val (.int ((57343 : Int32) + (((XT.ushr p2 (3 : Int32)) &&& (7 : Int32)) - (4 : Int32)))), .unset, .unset, .unset, .unset, .unset] [])) rfl (hb hby at_22) ?_
    show Steps p.tables e below (s₁.setTop (mkF m 24 #[.val (.int p1), .val (.int p2), .val (.int ((55296 : Int32) + ((p2 &&& (7 : Int32)) - (4 : Int32)))), .val (.int ((57343 : Int32) + (((XT.ushr p2 (3 : Int32)) &&& (7 : Int32)) - (4 : Int32)))), .unset, .unset, .unset, .unset, .unset] [(.int (56320 : Int32))])) _
    refine XS.iloadN X0.here hx rfl (hb hby at_24) rfl ?_
    show Steps p.tables e below (s₁.setTop (mkF m 25 #[.val (.int p1), .val (.int p2), .val (.int ((55296 : Int32) + ((p2 &&& (7 : Int32)) - (4 : Int32)))), .val (.int ((57343 : Int32) + (((XT.ushr p2 (3 : Int32)) &&& (7 : Int32)) - (4 : Int32)))), .unset, .unset, .unset, .unset, .unset] [(.int p2), (.int (56320 : Int32))])) _
    refine XT.bipushV X0.here hx rfl (6 : Int32) (hb hby at_25) (by decide) ?_
    show Steps p.tables e below (s₁.setTop (mkF m 27 #[.val (.int p1), .val (.int p2), .val (.int ((55296 : Int32) + ((p2 &&& (7 : Int32)) - (4 : Int32)))), .val (.int ((57343 : Int32) + (((XT.ushr p2 (3 : Int32)) &&& (7 : Int32)) - (4 : Int32)))), .unset, .unset, .unset, .unset, .unset] [(.int (6 : Int32)), (.int p2), (.int (56320 : Int32))])) _
    refine XT.iushr X0.here hx rfl (hb hby at_27) rfl ?_
    show Steps p.tables e below (s₁.setTop (mkF m 28 #[.val (.int p1), .val (.int p2), .val (.int ((55296 : Int32) + ((p2 &&& (7 : Int32)) - (4 : Int32)))), .val (.int ((57343 : Int32) + (((XT.ushr p2 (3 : Int32)) &&& (7 : Int32)) - (4 : Int32)))), .unset, .unset, .unset, .unset, .unset] [(.int (XT.ushr p2 (6 : Int32))), (.int (56320 : Int32))])) _
    refine XT.bipushV X0.here hx rfl (7 : Int32) (hb hby at_28) (by decide) ?_
    show Steps p.tables e below (s₁.setTop (mkF m 30 #[.val (.int p1), .val (.int p2), .val (.int ((55296 : Int32) + ((p2 &&& (7 : Int32)) - (4 : Int32)))), .val (.int ((57343 : Int32) + (((XT.ushr p2 (3 : Int32)) &&& (7 : Int32)) - (4 : Int32)))), .unset, .unset, .unset, .unset, .unset] [(.int (7 : Int32)), (.int (XT.ushr p2 (6 : Int32))), (.int (56320 : Int32))])) _
    refine XS.iand X0.here hx rfl (hb hby at_30) rfl ?_
    show Steps p.tables e below (s₁.setTop (mkF m 31 #[.val (.int p1), .val (.int p2), .val (.int ((55296 : Int32) + ((p2 &&& (7 : Int32)) - (4 : Int32)))), .val (.int ((57343 : Int32) + (((XT.ushr p2 (3 : Int32)) &&& (7 : Int32)) - (4 : Int32)))), .unset, .unset, .unset, .unset, .unset] [(.int ((XT.ushr p2 (6 : Int32)) &&& (7 : Int32))), (.int (56320 : Int32))])) _
    refine XT.iconstV X0.here hx rfl (4 : Int32) (hb hby at_31) (by decide) ?_
    show Steps p.tables e below (s₁.setTop (mkF m 32 #[.val (.int p1), .val (.int p2), .val (.int ((55296 : Int32) + ((p2 &&& (7 : Int32)) - (4 : Int32)))), .val (.int ((57343 : Int32) + (((XT.ushr p2 (3 : Int32)) &&& (7 : Int32)) - (4 : Int32)))), .unset, .unset, .unset, .unset, .unset] [(.int (4 : Int32)), (.int ((XT.ushr p2 (6 : Int32)) &&& (7 : Int32))), (.int (56320 : Int32))])) _
    refine XS.isub X0.here hx rfl (hb hby at_32) rfl ?_
    show Steps p.tables e below (s₁.setTop (mkF m 33 #[.val (.int p1), .val (.int p2), .val (.int ((55296 : Int32) + ((p2 &&& (7 : Int32)) - (4 : Int32)))), .val (.int ((57343 : Int32) + (((XT.ushr p2 (3 : Int32)) &&& (7 : Int32)) - (4 : Int32)))), .unset, .unset, .unset, .unset, .unset] [(.int (((XT.ushr p2 (6 : Int32)) &&& (7 : Int32)) - (4 : Int32))), (.int (56320 : Int32))])) _
    refine XS.iadd X0.here hx rfl (hb hby at_33) rfl ?_
    show Steps p.tables e below (s₁.setTop (mkF m 34 #[.val (.int p1), .val (.int p2), .val (.int ((55296 : Int32) + ((p2 &&& (7 : Int32)) - (4 : Int32)))), .val (.int ((57343 : Int32) + (((XT.ushr p2 (3 : Int32)) &&& (7 : Int32)) - (4 : Int32)))), .unset, .unset, .unset, .unset, .unset] [(.int ((56320 : Int32) + (((XT.ushr p2 (6 : Int32)) &&& (7 : Int32)) - (4 : Int32))))])) _
    refine XS.istore X0.here hx rfl (hb hby at_34) rfl (l' := #[.val (.int p1), .val (.int p2), .val (.int ((55296 : Int32) + ((p2 &&& (7 : Int32)) - (4 : Int32)))), .val (.int ((57343 : Int32) + (((XT.ushr p2 (3 : Int32)) &&& (7 : Int32)) - (4 : Int32)))), .val (.int ((56320 : Int32) + (((XT.ushr p2 (6 : Int32)) &&& (7 : Int32)) - (4 : Int32)))), .unset, .unset, .unset, .unset]) rfl ?_
    show Steps p.tables e below (s₁.setTop (mkF m 36 #[.val (.int p1), .val (.int p2), .val (.int ((55296 : Int32) + ((p2 &&& (7 : Int32)) - (4 : Int32)))), .val (.int ((57343 : Int32) + (((XT.ushr p2 (3 : Int32)) &&& (7 : Int32)) - (4 : Int32)))), .val (.int ((56320 : Int32) + (((XT.ushr p2 (6 : Int32)) &&& (7 : Int32)) - (4 : Int32)))), .unset, .unset, .unset, .unset] [])) _
    refine XS.iloadN X0.here hx rfl (hb hby at_36) rfl ?_
    exact kt
  obtain ⟨_, _, ⟨T1, L1, k1, n1⟩, -, X1, ⟨Lc1, hQ1, l1, y1, z1⟩, st1⟩ := Jvm.LawKit.callS X0 hx (y := (⟨"com/example/ordo/ordo/cli/Unencodable", "is", "(I)Z"⟩ : MethodName)) hown (mvT hZ (hw _ (List.mem_of_getElem? (i := 3) rfl))) (mvT hZ (hw _ (List.mem_of_getElem? (i := 4) rfl))) (mvT hZ (hw _ (List.mem_of_getElem? (i := 5) rfl))) (mvT hZ (hw _ (List.mem_of_getElem? (i := 6) rfl))) (by decide) (backOf (W := 0) (rm1 l Z a0 hw [] p1 h0) hZ (hw _ (List.mem_of_getElem? (i := 6) rfl)) (hw _ (List.mem_of_getElem? (i := 5) rfl)) (by decide) (by decide)) (g := (mkF m 37 #[.val (.int p1), .val (.int p2), .val (.int ((55296 : Int32) + ((p2 &&& (7 : Int32)) - (4 : Int32)))), .val (.int ((57343 : Int32) + (((XT.ushr p2 (3 : Int32)) &&& (7 : Int32)) - (4 : Int32)))), .val (.int ((56320 : Int32) + (((XT.ushr p2 (6 : Int32)) &&& (7 : Int32)) - (4 : Int32)))), .unset, .unset, .unset, .unset] [(.int p1)])) rfl (by rw [hml]; rfl) (argsL := [(.int p1)]) (rest := []) (lenOf pd_I_Z rfl) rfl (by show 2 * 0 + _ ≤ _; exact Nat.le_of_eq rfl) (hb hby at_37) (fun _ _ => ⟨rfl, e0, (by decide : 0 + 0 ≤ _), (by decide : 0 + 0 ≤ _)⟩)
  dsimp only [Pt.U, Pt.locs, Pt.cells, Pt.slots] at X1 l1 y1 z1 st1 hQ1
  subst l1 y1 z1
  obtain ⟨rfl, rfl, e1⟩ := hQ1
  replace X1 : Stand p l e room_1 s m #[(.int p1), (.int p2)] below meth c T1 [] 0 0 := X1
  refine own_via (Y' := (T1.setTop (mkF m 40 #[.val (.int p1), .val (.int p2), .val (.int ((55296 : Int32) + ((p2 &&& (7 : Int32)) - (4 : Int32)))), .val (.int ((57343 : Int32) + (((XT.ushr p2 (3 : Int32)) &&& (7 : Int32)) - (4 : Int32)))), .val (.int ((56320 : Int32) + (((XT.ushr p2 (6 : Int32)) &&& (7 : Int32)) - (4 : Int32)))), .unset, .unset, .unset, .unset] [(.int (own_is p1))]))) (fun t kt => st1 _ kt) ?_
  refine own_via (Y' := (T1.setTop (mkF m 41 #[.val (.int p1), .val (.int p2), .val (.int ((55296 : Int32) + ((p2 &&& (7 : Int32)) - (4 : Int32)))), .val (.int ((57343 : Int32) + (((XT.ushr p2 (3 : Int32)) &&& (7 : Int32)) - (4 : Int32)))), .val (.int ((56320 : Int32) + (((XT.ushr p2 (6 : Int32)) &&& (7 : Int32)) - (4 : Int32)))), .unset, .unset, .unset, .unset] [(.int p1), (.int (own_is p1))]))) (fun t kt => ?_) ?_
  · show Steps p.tables e below (T1.setTop (mkF m 40 #[.val (.int p1), .val (.int p2), .val (.int ((55296 : Int32) + ((p2 &&& (7 : Int32)) - (4 : Int32)))), .val (.int ((57343 : Int32) + (((XT.ushr p2 (3 : Int32)) &&& (7 : Int32)) - (4 : Int32)))), .val (.int ((56320 : Int32) + (((XT.ushr p2 (6 : Int32)) &&& (7 : Int32)) - (4 : Int32)))), .unset, .unset, .unset, .unset] [(.int (own_is p1))])) _
    refine XS.iloadN X1.here hx rfl (hb hby at_40) rfl ?_
    exact kt
  obtain ⟨_, _, ⟨T2, L2, k2, n2⟩, -, X2, ⟨Lc2, hQ2, l2, y2, z2⟩, st2⟩ := Jvm.LawKit.callS X1 hx (y := (⟨"com/example/ordo/ordo/cli/UnencodableIsPinLaw", "reference", "(I)Z"⟩ : MethodName)) hown (mvT hZ (hw _ (List.mem_of_getElem? (i := 8) rfl))) (mvT hZ (hw _ (List.mem_of_getElem? (i := 9) rfl))) (mvT hZ (hw _ (List.mem_of_getElem? (i := 10) rfl))) (mvT hZ (hw _ (List.mem_of_getElem? (i := 11) rfl))) (by decide) (backOf (W := 1) (rm2 l Z a0 hw [] p1 h0) hZ (hw _ (List.mem_of_getElem? (i := 11) rfl)) (hw _ (List.mem_of_getElem? (i := 10) rfl)) (by decide) (by decide)) (g := (mkF m 41 #[.val (.int p1), .val (.int p2), .val (.int ((55296 : Int32) + ((p2 &&& (7 : Int32)) - (4 : Int32)))), .val (.int ((57343 : Int32) + (((XT.ushr p2 (3 : Int32)) &&& (7 : Int32)) - (4 : Int32)))), .val (.int ((56320 : Int32) + (((XT.ushr p2 (6 : Int32)) &&& (7 : Int32)) - (4 : Int32)))), .unset, .unset, .unset, .unset] [(.int p1), (.int (own_is p1))])) rfl (by rw [hml]; rfl) (argsL := [(.int p1)]) (rest := [(.int (own_is p1))]) (lenOf pd_I_Z rfl) rfl (by show 2 * 0 + _ ≤ _; exact Nat.le_of_eq rfl) (hb hby at_41) (fun _ _ => ⟨rfl, e1, (by decide : 0 + 0 ≤ _), (by decide : 0 + 0 ≤ _)⟩)
  dsimp only [Pt.U, Pt.locs, Pt.cells, Pt.slots] at X2 l2 y2 z2 st2 hQ2
  subst l2 y2 z2
  obtain ⟨rfl, rfl, e2⟩ := hQ2
  replace X2 : Stand p l e room_1 s m #[(.int p1), (.int p2)] below meth c T2 [] 0 0 := X2
  refine own_via (Y' := (T2.setTop (mkF m 44 #[.val (.int p1), .val (.int p2), .val (.int ((55296 : Int32) + ((p2 &&& (7 : Int32)) - (4 : Int32)))), .val (.int ((57343 : Int32) + (((XT.ushr p2 (3 : Int32)) &&& (7 : Int32)) - (4 : Int32)))), .val (.int ((56320 : Int32) + (((XT.ushr p2 (6 : Int32)) &&& (7 : Int32)) - (4 : Int32)))), .unset, .unset, .unset, .unset] [(.int (own_ref p1)), (.int (own_is p1))]))) (fun t kt => st2 _ kt) ?_
  refine own_via (Y' := (T2.setTop (mkF m 55 #[.val (.int p1), .val (.int p2), .val (.int ((55296 : Int32) + ((p2 &&& (7 : Int32)) - (4 : Int32)))), .val (.int ((57343 : Int32) + (((XT.ushr p2 (3 : Int32)) &&& (7 : Int32)) - (4 : Int32)))), .val (.int ((56320 : Int32) + (((XT.ushr p2 (6 : Int32)) &&& (7 : Int32)) - (4 : Int32)))), .val (.int (1 : Int32)), .unset, .unset, .unset] [(.int ((55296 : Int32) + ((p2 &&& (7 : Int32)) - (4 : Int32))))]))) (fun t kt => ?_) ?_
  · show Steps p.tables e below (T2.setTop (mkF m 44 #[.val (.int p1), .val (.int p2), .val (.int ((55296 : Int32) + ((p2 &&& (7 : Int32)) - (4 : Int32)))), .val (.int ((57343 : Int32) + (((XT.ushr p2 (3 : Int32)) &&& (7 : Int32)) - (4 : Int32)))), .val (.int ((56320 : Int32) + (((XT.ushr p2 (6 : Int32)) &&& (7 : Int32)) - (4 : Int32)))), .unset, .unset, .unset, .unset] [(.int (own_ref p1)), (.int (own_is p1))])) _
    refine XS.icmpNo X2.here hx rfl (hb hby at_44) rfl (XT.ii_ne_f (own_same _)) ?_
    show Steps p.tables e below (T2.setTop (mkF m 47 #[.val (.int p1), .val (.int p2), .val (.int ((55296 : Int32) + ((p2 &&& (7 : Int32)) - (4 : Int32)))), .val (.int ((57343 : Int32) + (((XT.ushr p2 (3 : Int32)) &&& (7 : Int32)) - (4 : Int32)))), .val (.int ((56320 : Int32) + (((XT.ushr p2 (6 : Int32)) &&& (7 : Int32)) - (4 : Int32)))), .unset, .unset, .unset, .unset] [])) _
    refine XT.iconstV X2.here hx rfl (1 : Int32) (hb hby at_47) (by decide) ?_
    show Steps p.tables e below (T2.setTop (mkF m 48 #[.val (.int p1), .val (.int p2), .val (.int ((55296 : Int32) + ((p2 &&& (7 : Int32)) - (4 : Int32)))), .val (.int ((57343 : Int32) + (((XT.ushr p2 (3 : Int32)) &&& (7 : Int32)) - (4 : Int32)))), .val (.int ((56320 : Int32) + (((XT.ushr p2 (6 : Int32)) &&& (7 : Int32)) - (4 : Int32)))), .unset, .unset, .unset, .unset] [(.int (1 : Int32))])) _
    refine XS.goto X2.here hx rfl (pc0 := 48) (pc' := 52) rfl (hb hby at_48) (by decide) (by decide) ?_
    show Steps p.tables e below (T2.setTop (mkF m 52 #[.val (.int p1), .val (.int p2), .val (.int ((55296 : Int32) + ((p2 &&& (7 : Int32)) - (4 : Int32)))), .val (.int ((57343 : Int32) + (((XT.ushr p2 (3 : Int32)) &&& (7 : Int32)) - (4 : Int32)))), .val (.int ((56320 : Int32) + (((XT.ushr p2 (6 : Int32)) &&& (7 : Int32)) - (4 : Int32)))), .unset, .unset, .unset, .unset] [(.int (1 : Int32))])) _
    refine XS.istore X2.here hx rfl (hb hby at_52) rfl (l' := #[.val (.int p1), .val (.int p2), .val (.int ((55296 : Int32) + ((p2 &&& (7 : Int32)) - (4 : Int32)))), .val (.int ((57343 : Int32) + (((XT.ushr p2 (3 : Int32)) &&& (7 : Int32)) - (4 : Int32)))), .val (.int ((56320 : Int32) + (((XT.ushr p2 (6 : Int32)) &&& (7 : Int32)) - (4 : Int32)))), .val (.int (1 : Int32)), .unset, .unset, .unset]) rfl ?_
    show Steps p.tables e below (T2.setTop (mkF m 54 #[.val (.int p1), .val (.int p2), .val (.int ((55296 : Int32) + ((p2 &&& (7 : Int32)) - (4 : Int32)))), .val (.int ((57343 : Int32) + (((XT.ushr p2 (3 : Int32)) &&& (7 : Int32)) - (4 : Int32)))), .val (.int ((56320 : Int32) + (((XT.ushr p2 (6 : Int32)) &&& (7 : Int32)) - (4 : Int32)))), .val (.int (1 : Int32)), .unset, .unset, .unset] [])) _
    refine XS.iloadN X2.here hx rfl (hb hby at_54) rfl ?_
    exact kt
  obtain ⟨_, _, ⟨T3, L3, k3, n3⟩, -, X3, ⟨Lc3, hQ3, l3, y3, z3⟩, st3⟩ := Jvm.LawKit.callS X2 hx (y := (⟨"com/example/ordo/ordo/cli/Unencodable", "is", "(I)Z"⟩ : MethodName)) hown (mvT hZ (hw _ (List.mem_of_getElem? (i := 3) rfl))) (mvT hZ (hw _ (List.mem_of_getElem? (i := 4) rfl))) (mvT hZ (hw _ (List.mem_of_getElem? (i := 5) rfl))) (mvT hZ (hw _ (List.mem_of_getElem? (i := 6) rfl))) (by decide) (backOf (W := 0) (rm1 l Z a0 hw [] ((55296 : Int32) + ((p2 &&& (7 : Int32)) - (4 : Int32))) h0) hZ (hw _ (List.mem_of_getElem? (i := 6) rfl)) (hw _ (List.mem_of_getElem? (i := 5) rfl)) (by decide) (by decide)) (g := (mkF m 55 #[.val (.int p1), .val (.int p2), .val (.int ((55296 : Int32) + ((p2 &&& (7 : Int32)) - (4 : Int32)))), .val (.int ((57343 : Int32) + (((XT.ushr p2 (3 : Int32)) &&& (7 : Int32)) - (4 : Int32)))), .val (.int ((56320 : Int32) + (((XT.ushr p2 (6 : Int32)) &&& (7 : Int32)) - (4 : Int32)))), .val (.int (1 : Int32)), .unset, .unset, .unset] [(.int ((55296 : Int32) + ((p2 &&& (7 : Int32)) - (4 : Int32))))])) rfl (by rw [hml]; rfl) (argsL := [(.int ((55296 : Int32) + ((p2 &&& (7 : Int32)) - (4 : Int32))))]) (rest := []) (lenOf pd_I_Z rfl) rfl (by show 2 * 0 + _ ≤ _; exact Nat.le_of_eq rfl) (hb hby at_55) (fun _ _ => ⟨rfl, e2, (by decide : 0 + 0 ≤ _), (by decide : 0 + 0 ≤ _)⟩)
  dsimp only [Pt.U, Pt.locs, Pt.cells, Pt.slots] at X3 l3 y3 z3 st3 hQ3
  subst l3 y3 z3
  obtain ⟨rfl, rfl, e3⟩ := hQ3
  replace X3 : Stand p l e room_1 s m #[(.int p1), (.int p2)] below meth c T3 [] 0 0 := X3
  refine own_via (Y' := (T3.setTop (mkF m 58 #[.val (.int p1), .val (.int p2), .val (.int ((55296 : Int32) + ((p2 &&& (7 : Int32)) - (4 : Int32)))), .val (.int ((57343 : Int32) + (((XT.ushr p2 (3 : Int32)) &&& (7 : Int32)) - (4 : Int32)))), .val (.int ((56320 : Int32) + (((XT.ushr p2 (6 : Int32)) &&& (7 : Int32)) - (4 : Int32)))), .val (.int (1 : Int32)), .unset, .unset, .unset] [(.int (own_is ((55296 : Int32) + ((p2 &&& (7 : Int32)) - (4 : Int32)))))]))) (fun t kt => st3 _ kt) ?_
  refine own_via (Y' := (T3.setTop (mkF m 59 #[.val (.int p1), .val (.int p2), .val (.int ((55296 : Int32) + ((p2 &&& (7 : Int32)) - (4 : Int32)))), .val (.int ((57343 : Int32) + (((XT.ushr p2 (3 : Int32)) &&& (7 : Int32)) - (4 : Int32)))), .val (.int ((56320 : Int32) + (((XT.ushr p2 (6 : Int32)) &&& (7 : Int32)) - (4 : Int32)))), .val (.int (1 : Int32)), .unset, .unset, .unset] [(.int ((55296 : Int32) + ((p2 &&& (7 : Int32)) - (4 : Int32)))), (.int (own_is ((55296 : Int32) + ((p2 &&& (7 : Int32)) - (4 : Int32)))))]))) (fun t kt => ?_) ?_
  · show Steps p.tables e below (T3.setTop (mkF m 58 #[.val (.int p1), .val (.int p2), .val (.int ((55296 : Int32) + ((p2 &&& (7 : Int32)) - (4 : Int32)))), .val (.int ((57343 : Int32) + (((XT.ushr p2 (3 : Int32)) &&& (7 : Int32)) - (4 : Int32)))), .val (.int ((56320 : Int32) + (((XT.ushr p2 (6 : Int32)) &&& (7 : Int32)) - (4 : Int32)))), .val (.int (1 : Int32)), .unset, .unset, .unset] [(.int (own_is ((55296 : Int32) + ((p2 &&& (7 : Int32)) - (4 : Int32)))))])) _
    refine XS.iloadN X3.here hx rfl (hb hby at_58) rfl ?_
    exact kt
  obtain ⟨_, _, ⟨T4, L4, k4, n4⟩, -, X4, ⟨Lc4, hQ4, l4, y4, z4⟩, st4⟩ := Jvm.LawKit.callS X3 hx (y := (⟨"com/example/ordo/ordo/cli/UnencodableIsPinLaw", "reference", "(I)Z"⟩ : MethodName)) hown (mvT hZ (hw _ (List.mem_of_getElem? (i := 8) rfl))) (mvT hZ (hw _ (List.mem_of_getElem? (i := 9) rfl))) (mvT hZ (hw _ (List.mem_of_getElem? (i := 10) rfl))) (mvT hZ (hw _ (List.mem_of_getElem? (i := 11) rfl))) (by decide) (backOf (W := 1) (rm2 l Z a0 hw [] ((55296 : Int32) + ((p2 &&& (7 : Int32)) - (4 : Int32))) h0) hZ (hw _ (List.mem_of_getElem? (i := 11) rfl)) (hw _ (List.mem_of_getElem? (i := 10) rfl)) (by decide) (by decide)) (g := (mkF m 59 #[.val (.int p1), .val (.int p2), .val (.int ((55296 : Int32) + ((p2 &&& (7 : Int32)) - (4 : Int32)))), .val (.int ((57343 : Int32) + (((XT.ushr p2 (3 : Int32)) &&& (7 : Int32)) - (4 : Int32)))), .val (.int ((56320 : Int32) + (((XT.ushr p2 (6 : Int32)) &&& (7 : Int32)) - (4 : Int32)))), .val (.int (1 : Int32)), .unset, .unset, .unset] [(.int ((55296 : Int32) + ((p2 &&& (7 : Int32)) - (4 : Int32)))), (.int (own_is ((55296 : Int32) + ((p2 &&& (7 : Int32)) - (4 : Int32)))))])) rfl (by rw [hml]; rfl) (argsL := [(.int ((55296 : Int32) + ((p2 &&& (7 : Int32)) - (4 : Int32))))]) (rest := [(.int (own_is ((55296 : Int32) + ((p2 &&& (7 : Int32)) - (4 : Int32)))))]) (lenOf pd_I_Z rfl) rfl (by show 2 * 0 + _ ≤ _; exact Nat.le_of_eq rfl) (hb hby at_59) (fun _ _ => ⟨rfl, e3, (by decide : 0 + 0 ≤ _), (by decide : 0 + 0 ≤ _)⟩)
  dsimp only [Pt.U, Pt.locs, Pt.cells, Pt.slots] at X4 l4 y4 z4 st4 hQ4
  subst l4 y4 z4
  obtain ⟨rfl, rfl, e4⟩ := hQ4
  replace X4 : Stand p l e room_1 s m #[(.int p1), (.int p2)] below meth c T4 [] 0 0 := X4
  refine own_via (Y' := (T4.setTop (mkF m 62 #[.val (.int p1), .val (.int p2), .val (.int ((55296 : Int32) + ((p2 &&& (7 : Int32)) - (4 : Int32)))), .val (.int ((57343 : Int32) + (((XT.ushr p2 (3 : Int32)) &&& (7 : Int32)) - (4 : Int32)))), .val (.int ((56320 : Int32) + (((XT.ushr p2 (6 : Int32)) &&& (7 : Int32)) - (4 : Int32)))), .val (.int (1 : Int32)), .unset, .unset, .unset] [(.int (own_ref ((55296 : Int32) + ((p2 &&& (7 : Int32)) - (4 : Int32))))), (.int (own_is ((55296 : Int32) + ((p2 &&& (7 : Int32)) - (4 : Int32)))))]))) (fun t kt => st4 _ kt) ?_
  refine own_via (Y' := (T4.setTop (mkF m 73 #[.val (.int p1), .val (.int p2), .val (.int ((55296 : Int32) + ((p2 &&& (7 : Int32)) - (4 : Int32)))), .val (.int ((57343 : Int32) + (((XT.ushr p2 (3 : Int32)) &&& (7 : Int32)) - (4 : Int32)))), .val (.int ((56320 : Int32) + (((XT.ushr p2 (6 : Int32)) &&& (7 : Int32)) - (4 : Int32)))), .val (.int (1 : Int32)), .val (.int (1 : Int32)), .unset, .unset] [(.int ((57343 : Int32) + (((XT.ushr p2 (3 : Int32)) &&& (7 : Int32)) - (4 : Int32))))]))) (fun t kt => ?_) ?_
  · show Steps p.tables e below (T4.setTop (mkF m 62 #[.val (.int p1), .val (.int p2), .val (.int ((55296 : Int32) + ((p2 &&& (7 : Int32)) - (4 : Int32)))), .val (.int ((57343 : Int32) + (((XT.ushr p2 (3 : Int32)) &&& (7 : Int32)) - (4 : Int32)))), .val (.int ((56320 : Int32) + (((XT.ushr p2 (6 : Int32)) &&& (7 : Int32)) - (4 : Int32)))), .val (.int (1 : Int32)), .unset, .unset, .unset] [(.int (own_ref ((55296 : Int32) + ((p2 &&& (7 : Int32)) - (4 : Int32))))), (.int (own_is ((55296 : Int32) + ((p2 &&& (7 : Int32)) - (4 : Int32)))))])) _
    refine XS.icmpNo X4.here hx rfl (hb hby at_62) rfl (XT.ii_ne_f (own_same _)) ?_
    show Steps p.tables e below (T4.setTop (mkF m 65 #[.val (.int p1), .val (.int p2), .val (.int ((55296 : Int32) + ((p2 &&& (7 : Int32)) - (4 : Int32)))), .val (.int ((57343 : Int32) + (((XT.ushr p2 (3 : Int32)) &&& (7 : Int32)) - (4 : Int32)))), .val (.int ((56320 : Int32) + (((XT.ushr p2 (6 : Int32)) &&& (7 : Int32)) - (4 : Int32)))), .val (.int (1 : Int32)), .unset, .unset, .unset] [])) _
    refine XT.iconstV X4.here hx rfl (1 : Int32) (hb hby at_65) (by decide) ?_
    show Steps p.tables e below (T4.setTop (mkF m 66 #[.val (.int p1), .val (.int p2), .val (.int ((55296 : Int32) + ((p2 &&& (7 : Int32)) - (4 : Int32)))), .val (.int ((57343 : Int32) + (((XT.ushr p2 (3 : Int32)) &&& (7 : Int32)) - (4 : Int32)))), .val (.int ((56320 : Int32) + (((XT.ushr p2 (6 : Int32)) &&& (7 : Int32)) - (4 : Int32)))), .val (.int (1 : Int32)), .unset, .unset, .unset] [(.int (1 : Int32))])) _
    refine XS.goto X4.here hx rfl (pc0 := 66) (pc' := 70) rfl (hb hby at_66) (by decide) (by decide) ?_
    show Steps p.tables e below (T4.setTop (mkF m 70 #[.val (.int p1), .val (.int p2), .val (.int ((55296 : Int32) + ((p2 &&& (7 : Int32)) - (4 : Int32)))), .val (.int ((57343 : Int32) + (((XT.ushr p2 (3 : Int32)) &&& (7 : Int32)) - (4 : Int32)))), .val (.int ((56320 : Int32) + (((XT.ushr p2 (6 : Int32)) &&& (7 : Int32)) - (4 : Int32)))), .val (.int (1 : Int32)), .unset, .unset, .unset] [(.int (1 : Int32))])) _
    refine XS.istore X4.here hx rfl (hb hby at_70) rfl (l' := #[.val (.int p1), .val (.int p2), .val (.int ((55296 : Int32) + ((p2 &&& (7 : Int32)) - (4 : Int32)))), .val (.int ((57343 : Int32) + (((XT.ushr p2 (3 : Int32)) &&& (7 : Int32)) - (4 : Int32)))), .val (.int ((56320 : Int32) + (((XT.ushr p2 (6 : Int32)) &&& (7 : Int32)) - (4 : Int32)))), .val (.int (1 : Int32)), .val (.int (1 : Int32)), .unset, .unset]) rfl ?_
    show Steps p.tables e below (T4.setTop (mkF m 72 #[.val (.int p1), .val (.int p2), .val (.int ((55296 : Int32) + ((p2 &&& (7 : Int32)) - (4 : Int32)))), .val (.int ((57343 : Int32) + (((XT.ushr p2 (3 : Int32)) &&& (7 : Int32)) - (4 : Int32)))), .val (.int ((56320 : Int32) + (((XT.ushr p2 (6 : Int32)) &&& (7 : Int32)) - (4 : Int32)))), .val (.int (1 : Int32)), .val (.int (1 : Int32)), .unset, .unset] [])) _
    refine XS.iloadN X4.here hx rfl (hb hby at_72) rfl ?_
    exact kt
  obtain ⟨_, _, ⟨T5, L5, k5, n5⟩, -, X5, ⟨Lc5, hQ5, l5, y5, z5⟩, st5⟩ := Jvm.LawKit.callS X4 hx (y := (⟨"com/example/ordo/ordo/cli/Unencodable", "is", "(I)Z"⟩ : MethodName)) hown (mvT hZ (hw _ (List.mem_of_getElem? (i := 3) rfl))) (mvT hZ (hw _ (List.mem_of_getElem? (i := 4) rfl))) (mvT hZ (hw _ (List.mem_of_getElem? (i := 5) rfl))) (mvT hZ (hw _ (List.mem_of_getElem? (i := 6) rfl))) (by decide) (backOf (W := 0) (rm1 l Z a0 hw [] ((57343 : Int32) + (((XT.ushr p2 (3 : Int32)) &&& (7 : Int32)) - (4 : Int32))) h0) hZ (hw _ (List.mem_of_getElem? (i := 6) rfl)) (hw _ (List.mem_of_getElem? (i := 5) rfl)) (by decide) (by decide)) (g := (mkF m 73 #[.val (.int p1), .val (.int p2), .val (.int ((55296 : Int32) + ((p2 &&& (7 : Int32)) - (4 : Int32)))), .val (.int ((57343 : Int32) + (((XT.ushr p2 (3 : Int32)) &&& (7 : Int32)) - (4 : Int32)))), .val (.int ((56320 : Int32) + (((XT.ushr p2 (6 : Int32)) &&& (7 : Int32)) - (4 : Int32)))), .val (.int (1 : Int32)), .val (.int (1 : Int32)), .unset, .unset] [(.int ((57343 : Int32) + (((XT.ushr p2 (3 : Int32)) &&& (7 : Int32)) - (4 : Int32))))])) rfl (by rw [hml]; rfl) (argsL := [(.int ((57343 : Int32) + (((XT.ushr p2 (3 : Int32)) &&& (7 : Int32)) - (4 : Int32))))]) (rest := []) (lenOf pd_I_Z rfl) rfl (by show 2 * 0 + _ ≤ _; exact Nat.le_of_eq rfl) (hb hby at_73) (fun _ _ => ⟨rfl, e4, (by decide : 0 + 0 ≤ _), (by decide : 0 + 0 ≤ _)⟩)
  dsimp only [Pt.U, Pt.locs, Pt.cells, Pt.slots] at X5 l5 y5 z5 st5 hQ5
  subst l5 y5 z5
  obtain ⟨rfl, rfl, e5⟩ := hQ5
  replace X5 : Stand p l e room_1 s m #[(.int p1), (.int p2)] below meth c T5 [] 0 0 := X5
  refine own_via (Y' := (T5.setTop (mkF m 76 #[.val (.int p1), .val (.int p2), .val (.int ((55296 : Int32) + ((p2 &&& (7 : Int32)) - (4 : Int32)))), .val (.int ((57343 : Int32) + (((XT.ushr p2 (3 : Int32)) &&& (7 : Int32)) - (4 : Int32)))), .val (.int ((56320 : Int32) + (((XT.ushr p2 (6 : Int32)) &&& (7 : Int32)) - (4 : Int32)))), .val (.int (1 : Int32)), .val (.int (1 : Int32)), .unset, .unset] [(.int (own_is ((57343 : Int32) + (((XT.ushr p2 (3 : Int32)) &&& (7 : Int32)) - (4 : Int32)))))]))) (fun t kt => st5 _ kt) ?_
  refine own_via (Y' := (T5.setTop (mkF m 77 #[.val (.int p1), .val (.int p2), .val (.int ((55296 : Int32) + ((p2 &&& (7 : Int32)) - (4 : Int32)))), .val (.int ((57343 : Int32) + (((XT.ushr p2 (3 : Int32)) &&& (7 : Int32)) - (4 : Int32)))), .val (.int ((56320 : Int32) + (((XT.ushr p2 (6 : Int32)) &&& (7 : Int32)) - (4 : Int32)))), .val (.int (1 : Int32)), .val (.int (1 : Int32)), .unset, .unset] [(.int ((57343 : Int32) + (((XT.ushr p2 (3 : Int32)) &&& (7 : Int32)) - (4 : Int32)))), (.int (own_is ((57343 : Int32) + (((XT.ushr p2 (3 : Int32)) &&& (7 : Int32)) - (4 : Int32)))))]))) (fun t kt => ?_) ?_
  · show Steps p.tables e below (T5.setTop (mkF m 76 #[.val (.int p1), .val (.int p2), .val (.int ((55296 : Int32) + ((p2 &&& (7 : Int32)) - (4 : Int32)))), .val (.int ((57343 : Int32) + (((XT.ushr p2 (3 : Int32)) &&& (7 : Int32)) - (4 : Int32)))), .val (.int ((56320 : Int32) + (((XT.ushr p2 (6 : Int32)) &&& (7 : Int32)) - (4 : Int32)))), .val (.int (1 : Int32)), .val (.int (1 : Int32)), .unset, .unset] [(.int (own_is ((57343 : Int32) + (((XT.ushr p2 (3 : Int32)) &&& (7 : Int32)) - (4 : Int32)))))])) _
    refine XS.iloadN X5.here hx rfl (hb hby at_76) rfl ?_
    exact kt
  obtain ⟨_, _, ⟨T6, L6, k6, n6⟩, -, X6, ⟨Lc6, hQ6, l6, y6, z6⟩, st6⟩ := Jvm.LawKit.callS X5 hx (y := (⟨"com/example/ordo/ordo/cli/UnencodableIsPinLaw", "reference", "(I)Z"⟩ : MethodName)) hown (mvT hZ (hw _ (List.mem_of_getElem? (i := 8) rfl))) (mvT hZ (hw _ (List.mem_of_getElem? (i := 9) rfl))) (mvT hZ (hw _ (List.mem_of_getElem? (i := 10) rfl))) (mvT hZ (hw _ (List.mem_of_getElem? (i := 11) rfl))) (by decide) (backOf (W := 1) (rm2 l Z a0 hw [] ((57343 : Int32) + (((XT.ushr p2 (3 : Int32)) &&& (7 : Int32)) - (4 : Int32))) h0) hZ (hw _ (List.mem_of_getElem? (i := 11) rfl)) (hw _ (List.mem_of_getElem? (i := 10) rfl)) (by decide) (by decide)) (g := (mkF m 77 #[.val (.int p1), .val (.int p2), .val (.int ((55296 : Int32) + ((p2 &&& (7 : Int32)) - (4 : Int32)))), .val (.int ((57343 : Int32) + (((XT.ushr p2 (3 : Int32)) &&& (7 : Int32)) - (4 : Int32)))), .val (.int ((56320 : Int32) + (((XT.ushr p2 (6 : Int32)) &&& (7 : Int32)) - (4 : Int32)))), .val (.int (1 : Int32)), .val (.int (1 : Int32)), .unset, .unset] [(.int ((57343 : Int32) + (((XT.ushr p2 (3 : Int32)) &&& (7 : Int32)) - (4 : Int32)))), (.int (own_is ((57343 : Int32) + (((XT.ushr p2 (3 : Int32)) &&& (7 : Int32)) - (4 : Int32)))))])) rfl (by rw [hml]; rfl) (argsL := [(.int ((57343 : Int32) + (((XT.ushr p2 (3 : Int32)) &&& (7 : Int32)) - (4 : Int32))))]) (rest := [(.int (own_is ((57343 : Int32) + (((XT.ushr p2 (3 : Int32)) &&& (7 : Int32)) - (4 : Int32)))))]) (lenOf pd_I_Z rfl) rfl (by show 2 * 0 + _ ≤ _; exact Nat.le_of_eq rfl) (hb hby at_77) (fun _ _ => ⟨rfl, e5, (by decide : 0 + 0 ≤ _), (by decide : 0 + 0 ≤ _)⟩)
  dsimp only [Pt.U, Pt.locs, Pt.cells, Pt.slots] at X6 l6 y6 z6 st6 hQ6
  subst l6 y6 z6
  obtain ⟨rfl, rfl, e6⟩ := hQ6
  replace X6 : Stand p l e room_1 s m #[(.int p1), (.int p2)] below meth c T6 [] 0 0 := X6
  refine own_via (Y' := (T6.setTop (mkF m 80 #[.val (.int p1), .val (.int p2), .val (.int ((55296 : Int32) + ((p2 &&& (7 : Int32)) - (4 : Int32)))), .val (.int ((57343 : Int32) + (((XT.ushr p2 (3 : Int32)) &&& (7 : Int32)) - (4 : Int32)))), .val (.int ((56320 : Int32) + (((XT.ushr p2 (6 : Int32)) &&& (7 : Int32)) - (4 : Int32)))), .val (.int (1 : Int32)), .val (.int (1 : Int32)), .unset, .unset] [(.int (own_ref ((57343 : Int32) + (((XT.ushr p2 (3 : Int32)) &&& (7 : Int32)) - (4 : Int32))))), (.int (own_is ((57343 : Int32) + (((XT.ushr p2 (3 : Int32)) &&& (7 : Int32)) - (4 : Int32)))))]))) (fun t kt => st6 _ kt) ?_
  refine own_via (Y' := (T6.setTop (mkF m 92 #[.val (.int p1), .val (.int p2), .val (.int ((55296 : Int32) + ((p2 &&& (7 : Int32)) - (4 : Int32)))), .val (.int ((57343 : Int32) + (((XT.ushr p2 (3 : Int32)) &&& (7 : Int32)) - (4 : Int32)))), .val (.int ((56320 : Int32) + (((XT.ushr p2 (6 : Int32)) &&& (7 : Int32)) - (4 : Int32)))), .val (.int (1 : Int32)), .val (.int (1 : Int32)), .val (.int (1 : Int32)), .unset] [(.int ((56320 : Int32) + (((XT.ushr p2 (6 : Int32)) &&& (7 : Int32)) - (4 : Int32))))]))) (fun t kt => ?_) ?_
  · show Steps p.tables e below (T6.setTop (mkF m 80 #[.val (.int p1), .val (.int p2), .val (.int ((55296 : Int32) + ((p2 &&& (7 : Int32)) - (4 : Int32)))), .val (.int ((57343 : Int32) + (((XT.ushr p2 (3 : Int32)) &&& (7 : Int32)) - (4 : Int32)))), .val (.int ((56320 : Int32) + (((XT.ushr p2 (6 : Int32)) &&& (7 : Int32)) - (4 : Int32)))), .val (.int (1 : Int32)), .val (.int (1 : Int32)), .unset, .unset] [(.int (own_ref ((57343 : Int32) + (((XT.ushr p2 (3 : Int32)) &&& (7 : Int32)) - (4 : Int32))))), (.int (own_is ((57343 : Int32) + (((XT.ushr p2 (3 : Int32)) &&& (7 : Int32)) - (4 : Int32)))))])) _
    refine XS.icmpNo X6.here hx rfl (hb hby at_80) rfl (XT.ii_ne_f (own_same _)) ?_
    show Steps p.tables e below (T6.setTop (mkF m 83 #[.val (.int p1), .val (.int p2), .val (.int ((55296 : Int32) + ((p2 &&& (7 : Int32)) - (4 : Int32)))), .val (.int ((57343 : Int32) + (((XT.ushr p2 (3 : Int32)) &&& (7 : Int32)) - (4 : Int32)))), .val (.int ((56320 : Int32) + (((XT.ushr p2 (6 : Int32)) &&& (7 : Int32)) - (4 : Int32)))), .val (.int (1 : Int32)), .val (.int (1 : Int32)), .unset, .unset] [])) _
    refine XT.iconstV X6.here hx rfl (1 : Int32) (hb hby at_83) (by decide) ?_
    show Steps p.tables e below (T6.setTop (mkF m 84 #[.val (.int p1), .val (.int p2), .val (.int ((55296 : Int32) + ((p2 &&& (7 : Int32)) - (4 : Int32)))), .val (.int ((57343 : Int32) + (((XT.ushr p2 (3 : Int32)) &&& (7 : Int32)) - (4 : Int32)))), .val (.int ((56320 : Int32) + (((XT.ushr p2 (6 : Int32)) &&& (7 : Int32)) - (4 : Int32)))), .val (.int (1 : Int32)), .val (.int (1 : Int32)), .unset, .unset] [(.int (1 : Int32))])) _
    refine XS.goto X6.here hx rfl (pc0 := 84) (pc' := 88) rfl (hb hby at_84) (by decide) (by decide) ?_
    show Steps p.tables e below (T6.setTop (mkF m 88 #[.val (.int p1), .val (.int p2), .val (.int ((55296 : Int32) + ((p2 &&& (7 : Int32)) - (4 : Int32)))), .val (.int ((57343 : Int32) + (((XT.ushr p2 (3 : Int32)) &&& (7 : Int32)) - (4 : Int32)))), .val (.int ((56320 : Int32) + (((XT.ushr p2 (6 : Int32)) &&& (7 : Int32)) - (4 : Int32)))), .val (.int (1 : Int32)), .val (.int (1 : Int32)), .unset, .unset] [(.int (1 : Int32))])) _
    refine XS.istore X6.here hx rfl (hb hby at_88) rfl (l' := #[.val (.int p1), .val (.int p2), .val (.int ((55296 : Int32) + ((p2 &&& (7 : Int32)) - (4 : Int32)))), .val (.int ((57343 : Int32) + (((XT.ushr p2 (3 : Int32)) &&& (7 : Int32)) - (4 : Int32)))), .val (.int ((56320 : Int32) + (((XT.ushr p2 (6 : Int32)) &&& (7 : Int32)) - (4 : Int32)))), .val (.int (1 : Int32)), .val (.int (1 : Int32)), .val (.int (1 : Int32)), .unset]) rfl ?_
    show Steps p.tables e below (T6.setTop (mkF m 90 #[.val (.int p1), .val (.int p2), .val (.int ((55296 : Int32) + ((p2 &&& (7 : Int32)) - (4 : Int32)))), .val (.int ((57343 : Int32) + (((XT.ushr p2 (3 : Int32)) &&& (7 : Int32)) - (4 : Int32)))), .val (.int ((56320 : Int32) + (((XT.ushr p2 (6 : Int32)) &&& (7 : Int32)) - (4 : Int32)))), .val (.int (1 : Int32)), .val (.int (1 : Int32)), .val (.int (1 : Int32)), .unset] [])) _
    refine XS.iload X6.here hx rfl (hb hby at_90) rfl ?_
    exact kt
  obtain ⟨_, _, ⟨T7, L7, k7, n7⟩, -, X7, ⟨Lc7, hQ7, l7, y7, z7⟩, st7⟩ := Jvm.LawKit.callS X6 hx (y := (⟨"com/example/ordo/ordo/cli/Unencodable", "is", "(I)Z"⟩ : MethodName)) hown (mvT hZ (hw _ (List.mem_of_getElem? (i := 3) rfl))) (mvT hZ (hw _ (List.mem_of_getElem? (i := 4) rfl))) (mvT hZ (hw _ (List.mem_of_getElem? (i := 5) rfl))) (mvT hZ (hw _ (List.mem_of_getElem? (i := 6) rfl))) (by decide) (backOf (W := 0) (rm1 l Z a0 hw [] ((56320 : Int32) + (((XT.ushr p2 (6 : Int32)) &&& (7 : Int32)) - (4 : Int32))) h0) hZ (hw _ (List.mem_of_getElem? (i := 6) rfl)) (hw _ (List.mem_of_getElem? (i := 5) rfl)) (by decide) (by decide)) (g := (mkF m 92 #[.val (.int p1), .val (.int p2), .val (.int ((55296 : Int32) + ((p2 &&& (7 : Int32)) - (4 : Int32)))), .val (.int ((57343 : Int32) + (((XT.ushr p2 (3 : Int32)) &&& (7 : Int32)) - (4 : Int32)))), .val (.int ((56320 : Int32) + (((XT.ushr p2 (6 : Int32)) &&& (7 : Int32)) - (4 : Int32)))), .val (.int (1 : Int32)), .val (.int (1 : Int32)), .val (.int (1 : Int32)), .unset] [(.int ((56320 : Int32) + (((XT.ushr p2 (6 : Int32)) &&& (7 : Int32)) - (4 : Int32))))])) rfl (by rw [hml]; rfl) (argsL := [(.int ((56320 : Int32) + (((XT.ushr p2 (6 : Int32)) &&& (7 : Int32)) - (4 : Int32))))]) (rest := []) (lenOf pd_I_Z rfl) rfl (by show 2 * 0 + _ ≤ _; exact Nat.le_of_eq rfl) (hb hby at_92) (fun _ _ => ⟨rfl, e6, (by decide : 0 + 0 ≤ _), (by decide : 0 + 0 ≤ _)⟩)
  dsimp only [Pt.U, Pt.locs, Pt.cells, Pt.slots] at X7 l7 y7 z7 st7 hQ7
  subst l7 y7 z7
  obtain ⟨rfl, rfl, e7⟩ := hQ7
  replace X7 : Stand p l e room_1 s m #[(.int p1), (.int p2)] below meth c T7 [] 0 0 := X7
  refine own_via (Y' := (T7.setTop (mkF m 95 #[.val (.int p1), .val (.int p2), .val (.int ((55296 : Int32) + ((p2 &&& (7 : Int32)) - (4 : Int32)))), .val (.int ((57343 : Int32) + (((XT.ushr p2 (3 : Int32)) &&& (7 : Int32)) - (4 : Int32)))), .val (.int ((56320 : Int32) + (((XT.ushr p2 (6 : Int32)) &&& (7 : Int32)) - (4 : Int32)))), .val (.int (1 : Int32)), .val (.int (1 : Int32)), .val (.int (1 : Int32)), .unset] [(.int (own_is ((56320 : Int32) + (((XT.ushr p2 (6 : Int32)) &&& (7 : Int32)) - (4 : Int32)))))]))) (fun t kt => st7 _ kt) ?_
  refine own_via (Y' := (T7.setTop (mkF m 97 #[.val (.int p1), .val (.int p2), .val (.int ((55296 : Int32) + ((p2 &&& (7 : Int32)) - (4 : Int32)))), .val (.int ((57343 : Int32) + (((XT.ushr p2 (3 : Int32)) &&& (7 : Int32)) - (4 : Int32)))), .val (.int ((56320 : Int32) + (((XT.ushr p2 (6 : Int32)) &&& (7 : Int32)) - (4 : Int32)))), .val (.int (1 : Int32)), .val (.int (1 : Int32)), .val (.int (1 : Int32)), .unset] [(.int ((56320 : Int32) + (((XT.ushr p2 (6 : Int32)) &&& (7 : Int32)) - (4 : Int32)))), (.int (own_is ((56320 : Int32) + (((XT.ushr p2 (6 : Int32)) &&& (7 : Int32)) - (4 : Int32)))))]))) (fun t kt => ?_) ?_
  · show Steps p.tables e below (T7.setTop (mkF m 95 #[.val (.int p1), .val (.int p2), .val (.int ((55296 : Int32) + ((p2 &&& (7 : Int32)) - (4 : Int32)))), .val (.int ((57343 : Int32) + (((XT.ushr p2 (3 : Int32)) &&& (7 : Int32)) - (4 : Int32)))), .val (.int ((56320 : Int32) + (((XT.ushr p2 (6 : Int32)) &&& (7 : Int32)) - (4 : Int32)))), .val (.int (1 : Int32)), .val (.int (1 : Int32)), .val (.int (1 : Int32)), .unset] [(.int (own_is ((56320 : Int32) + (((XT.ushr p2 (6 : Int32)) &&& (7 : Int32)) - (4 : Int32)))))])) _
    refine XS.iload X7.here hx rfl (hb hby at_95) rfl ?_
    exact kt
  obtain ⟨_, _, ⟨T8, L8, k8, n8⟩, -, X8, ⟨Lc8, hQ8, l8, y8, z8⟩, st8⟩ := Jvm.LawKit.callS X7 hx (y := (⟨"com/example/ordo/ordo/cli/UnencodableIsPinLaw", "reference", "(I)Z"⟩ : MethodName)) hown (mvT hZ (hw _ (List.mem_of_getElem? (i := 8) rfl))) (mvT hZ (hw _ (List.mem_of_getElem? (i := 9) rfl))) (mvT hZ (hw _ (List.mem_of_getElem? (i := 10) rfl))) (mvT hZ (hw _ (List.mem_of_getElem? (i := 11) rfl))) (by decide) (backOf (W := 1) (rm2 l Z a0 hw [] ((56320 : Int32) + (((XT.ushr p2 (6 : Int32)) &&& (7 : Int32)) - (4 : Int32))) h0) hZ (hw _ (List.mem_of_getElem? (i := 11) rfl)) (hw _ (List.mem_of_getElem? (i := 10) rfl)) (by decide) (by decide)) (g := (mkF m 97 #[.val (.int p1), .val (.int p2), .val (.int ((55296 : Int32) + ((p2 &&& (7 : Int32)) - (4 : Int32)))), .val (.int ((57343 : Int32) + (((XT.ushr p2 (3 : Int32)) &&& (7 : Int32)) - (4 : Int32)))), .val (.int ((56320 : Int32) + (((XT.ushr p2 (6 : Int32)) &&& (7 : Int32)) - (4 : Int32)))), .val (.int (1 : Int32)), .val (.int (1 : Int32)), .val (.int (1 : Int32)), .unset] [(.int ((56320 : Int32) + (((XT.ushr p2 (6 : Int32)) &&& (7 : Int32)) - (4 : Int32)))), (.int (own_is ((56320 : Int32) + (((XT.ushr p2 (6 : Int32)) &&& (7 : Int32)) - (4 : Int32)))))])) rfl (by rw [hml]; rfl) (argsL := [(.int ((56320 : Int32) + (((XT.ushr p2 (6 : Int32)) &&& (7 : Int32)) - (4 : Int32))))]) (rest := [(.int (own_is ((56320 : Int32) + (((XT.ushr p2 (6 : Int32)) &&& (7 : Int32)) - (4 : Int32)))))]) (lenOf pd_I_Z rfl) rfl (by show 2 * 0 + _ ≤ _; exact Nat.le_of_eq rfl) (hb hby at_97) (fun _ _ => ⟨rfl, e7, (by decide : 0 + 0 ≤ _), (by decide : 0 + 0 ≤ _)⟩)
  dsimp only [Pt.U, Pt.locs, Pt.cells, Pt.slots] at X8 l8 y8 z8 st8 hQ8
  subst l8 y8 z8
  obtain ⟨rfl, rfl, e8⟩ := hQ8
  replace X8 : Stand p l e room_1 s m #[(.int p1), (.int p2)] below meth c T8 [] 0 0 := X8
  refine own_via (Y' := (T8.setTop (mkF m 100 #[.val (.int p1), .val (.int p2), .val (.int ((55296 : Int32) + ((p2 &&& (7 : Int32)) - (4 : Int32)))), .val (.int ((57343 : Int32) + (((XT.ushr p2 (3 : Int32)) &&& (7 : Int32)) - (4 : Int32)))), .val (.int ((56320 : Int32) + (((XT.ushr p2 (6 : Int32)) &&& (7 : Int32)) - (4 : Int32)))), .val (.int (1 : Int32)), .val (.int (1 : Int32)), .val (.int (1 : Int32)), .unset] [(.int (own_ref ((56320 : Int32) + (((XT.ushr p2 (6 : Int32)) &&& (7 : Int32)) - (4 : Int32))))), (.int (own_is ((56320 : Int32) + (((XT.ushr p2 (6 : Int32)) &&& (7 : Int32)) - (4 : Int32)))))]))) (fun t kt => st8 _ kt) ?_
  obtain ⟨fs, hr, hrun, hended, hW, hsame⟩ := X8.leave (v := (some (.int (1 : Int32)))) (fun h => by rw [Bd.returns] at h; cases h)
  refine ⟨_, _, ?_, hrun, hended, _, _, rfl, ?_, ⟨_, rfl⟩, hW, hsame.mono (by decide) (by decide)⟩
  · show Steps p.tables e below (T8.setTop (mkF m 100 #[.val (.int p1), .val (.int p2), .val (.int ((55296 : Int32) + ((p2 &&& (7 : Int32)) - (4 : Int32)))), .val (.int ((57343 : Int32) + (((XT.ushr p2 (3 : Int32)) &&& (7 : Int32)) - (4 : Int32)))), .val (.int ((56320 : Int32) + (((XT.ushr p2 (6 : Int32)) &&& (7 : Int32)) - (4 : Int32)))), .val (.int (1 : Int32)), .val (.int (1 : Int32)), .val (.int (1 : Int32)), .unset] [(.int (own_ref ((56320 : Int32) + (((XT.ushr p2 (6 : Int32)) &&& (7 : Int32)) - (4 : Int32))))), (.int (own_is ((56320 : Int32) + (((XT.ushr p2 (6 : Int32)) &&& (7 : Int32)) - (4 : Int32)))))])) _
    refine XS.icmpNo X8.here hx rfl (hb hby at_100) rfl (XT.ii_ne_f (own_same _)) ?_
    show Steps p.tables e below (T8.setTop (mkF m 103 #[.val (.int p1), .val (.int p2), .val (.int ((55296 : Int32) + ((p2 &&& (7 : Int32)) - (4 : Int32)))), .val (.int ((57343 : Int32) + (((XT.ushr p2 (3 : Int32)) &&& (7 : Int32)) - (4 : Int32)))), .val (.int ((56320 : Int32) + (((XT.ushr p2 (6 : Int32)) &&& (7 : Int32)) - (4 : Int32)))), .val (.int (1 : Int32)), .val (.int (1 : Int32)), .val (.int (1 : Int32)), .unset] [])) _
    refine XT.iconstV X8.here hx rfl (1 : Int32) (hb hby at_103) (by decide) ?_
    show Steps p.tables e below (T8.setTop (mkF m 104 #[.val (.int p1), .val (.int p2), .val (.int ((55296 : Int32) + ((p2 &&& (7 : Int32)) - (4 : Int32)))), .val (.int ((57343 : Int32) + (((XT.ushr p2 (3 : Int32)) &&& (7 : Int32)) - (4 : Int32)))), .val (.int ((56320 : Int32) + (((XT.ushr p2 (6 : Int32)) &&& (7 : Int32)) - (4 : Int32)))), .val (.int (1 : Int32)), .val (.int (1 : Int32)), .val (.int (1 : Int32)), .unset] [(.int (1 : Int32))])) _
    refine XS.goto X8.here hx rfl (pc0 := 104) (pc' := 108) rfl (hb hby at_104) (by decide) (by decide) ?_
    show Steps p.tables e below (T8.setTop (mkF m 108 #[.val (.int p1), .val (.int p2), .val (.int ((55296 : Int32) + ((p2 &&& (7 : Int32)) - (4 : Int32)))), .val (.int ((57343 : Int32) + (((XT.ushr p2 (3 : Int32)) &&& (7 : Int32)) - (4 : Int32)))), .val (.int ((56320 : Int32) + (((XT.ushr p2 (6 : Int32)) &&& (7 : Int32)) - (4 : Int32)))), .val (.int (1 : Int32)), .val (.int (1 : Int32)), .val (.int (1 : Int32)), .unset] [(.int (1 : Int32))])) _
    refine XS.istore X8.here hx rfl (hb hby at_108) rfl (l' := #[.val (.int p1), .val (.int p2), .val (.int ((55296 : Int32) + ((p2 &&& (7 : Int32)) - (4 : Int32)))), .val (.int ((57343 : Int32) + (((XT.ushr p2 (3 : Int32)) &&& (7 : Int32)) - (4 : Int32)))), .val (.int ((56320 : Int32) + (((XT.ushr p2 (6 : Int32)) &&& (7 : Int32)) - (4 : Int32)))), .val (.int (1 : Int32)), .val (.int (1 : Int32)), .val (.int (1 : Int32)), .val (.int (1 : Int32))]) rfl ?_
    show Steps p.tables e below (T8.setTop (mkF m 110 #[.val (.int p1), .val (.int p2), .val (.int ((55296 : Int32) + ((p2 &&& (7 : Int32)) - (4 : Int32)))), .val (.int ((57343 : Int32) + (((XT.ushr p2 (3 : Int32)) &&& (7 : Int32)) - (4 : Int32)))), .val (.int ((56320 : Int32) + (((XT.ushr p2 (6 : Int32)) &&& (7 : Int32)) - (4 : Int32)))), .val (.int (1 : Int32)), .val (.int (1 : Int32)), .val (.int (1 : Int32)), .val (.int (1 : Int32))] [])) _
    refine XS.iload X8.here hx rfl (hb hby at_110) rfl ?_
    show Steps p.tables e below (T8.setTop (mkF m 112 #[.val (.int p1), .val (.int p2), .val (.int ((55296 : Int32) + ((p2 &&& (7 : Int32)) - (4 : Int32)))), .val (.int ((57343 : Int32) + (((XT.ushr p2 (3 : Int32)) &&& (7 : Int32)) - (4 : Int32)))), .val (.int ((56320 : Int32) + (((XT.ushr p2 (6 : Int32)) &&& (7 : Int32)) - (4 : Int32)))), .val (.int (1 : Int32)), .val (.int (1 : Int32)), .val (.int (1 : Int32)), .val (.int (1 : Int32))] [(.int (1 : Int32))])) _
    refine XS.ifNo X8.here hx rfl (hb hby at_112) rfl (XT.i0_eq_f (by decide)) ?_
    show Steps p.tables e below (T8.setTop (mkF m 115 #[.val (.int p1), .val (.int p2), .val (.int ((55296 : Int32) + ((p2 &&& (7 : Int32)) - (4 : Int32)))), .val (.int ((57343 : Int32) + (((XT.ushr p2 (3 : Int32)) &&& (7 : Int32)) - (4 : Int32)))), .val (.int ((56320 : Int32) + (((XT.ushr p2 (6 : Int32)) &&& (7 : Int32)) - (4 : Int32)))), .val (.int (1 : Int32)), .val (.int (1 : Int32)), .val (.int (1 : Int32)), .val (.int (1 : Int32))] [])) _
    refine XS.iload X8.here hx rfl (hb hby at_115) rfl ?_
    show Steps p.tables e below (T8.setTop (mkF m 117 #[.val (.int p1), .val (.int p2), .val (.int ((55296 : Int32) + ((p2 &&& (7 : Int32)) - (4 : Int32)))), .val (.int ((57343 : Int32) + (((XT.ushr p2 (3 : Int32)) &&& (7 : Int32)) - (4 : Int32)))), .val (.int ((56320 : Int32) + (((XT.ushr p2 (6 : Int32)) &&& (7 : Int32)) - (4 : Int32)))), .val (.int (1 : Int32)), .val (.int (1 : Int32)), .val (.int (1 : Int32)), .val (.int (1 : Int32))] [(.int (1 : Int32))])) _
    refine XS.ifNo X8.here hx rfl (hb hby at_117) rfl (XT.i0_eq_f (by decide)) ?_
    show Steps p.tables e below (T8.setTop (mkF m 120 #[.val (.int p1), .val (.int p2), .val (.int ((55296 : Int32) + ((p2 &&& (7 : Int32)) - (4 : Int32)))), .val (.int ((57343 : Int32) + (((XT.ushr p2 (3 : Int32)) &&& (7 : Int32)) - (4 : Int32)))), .val (.int ((56320 : Int32) + (((XT.ushr p2 (6 : Int32)) &&& (7 : Int32)) - (4 : Int32)))), .val (.int (1 : Int32)), .val (.int (1 : Int32)), .val (.int (1 : Int32)), .val (.int (1 : Int32))] [])) _
    refine XS.iload X8.here hx rfl (hb hby at_120) rfl ?_
    show Steps p.tables e below (T8.setTop (mkF m 122 #[.val (.int p1), .val (.int p2), .val (.int ((55296 : Int32) + ((p2 &&& (7 : Int32)) - (4 : Int32)))), .val (.int ((57343 : Int32) + (((XT.ushr p2 (3 : Int32)) &&& (7 : Int32)) - (4 : Int32)))), .val (.int ((56320 : Int32) + (((XT.ushr p2 (6 : Int32)) &&& (7 : Int32)) - (4 : Int32)))), .val (.int (1 : Int32)), .val (.int (1 : Int32)), .val (.int (1 : Int32)), .val (.int (1 : Int32))] [(.int (1 : Int32))])) _
    refine XS.ifNo X8.here hx rfl (hb hby at_122) rfl (XT.i0_eq_f (by decide)) ?_
    show Steps p.tables e below (T8.setTop (mkF m 125 #[.val (.int p1), .val (.int p2), .val (.int ((55296 : Int32) + ((p2 &&& (7 : Int32)) - (4 : Int32)))), .val (.int ((57343 : Int32) + (((XT.ushr p2 (3 : Int32)) &&& (7 : Int32)) - (4 : Int32)))), .val (.int ((56320 : Int32) + (((XT.ushr p2 (6 : Int32)) &&& (7 : Int32)) - (4 : Int32)))), .val (.int (1 : Int32)), .val (.int (1 : Int32)), .val (.int (1 : Int32)), .val (.int (1 : Int32))] [])) _
    refine XS.iload X8.here hx rfl (hb hby at_125) rfl ?_
    show Steps p.tables e below (T8.setTop (mkF m 127 #[.val (.int p1), .val (.int p2), .val (.int ((55296 : Int32) + ((p2 &&& (7 : Int32)) - (4 : Int32)))), .val (.int ((57343 : Int32) + (((XT.ushr p2 (3 : Int32)) &&& (7 : Int32)) - (4 : Int32)))), .val (.int ((56320 : Int32) + (((XT.ushr p2 (6 : Int32)) &&& (7 : Int32)) - (4 : Int32)))), .val (.int (1 : Int32)), .val (.int (1 : Int32)), .val (.int (1 : Int32)), .val (.int (1 : Int32))] [(.int (1 : Int32))])) _
    refine XS.ifNo X8.here hx rfl (hb hby at_127) rfl (XT.i0_eq_f (by decide)) ?_
    show Steps p.tables e below (T8.setTop (mkF m 130 #[.val (.int p1), .val (.int p2), .val (.int ((55296 : Int32) + ((p2 &&& (7 : Int32)) - (4 : Int32)))), .val (.int ((57343 : Int32) + (((XT.ushr p2 (3 : Int32)) &&& (7 : Int32)) - (4 : Int32)))), .val (.int ((56320 : Int32) + (((XT.ushr p2 (6 : Int32)) &&& (7 : Int32)) - (4 : Int32)))), .val (.int (1 : Int32)), .val (.int (1 : Int32)), .val (.int (1 : Int32)), .val (.int (1 : Int32))] [])) _
    refine XT.iconstV X8.here hx rfl (1 : Int32) (hb hby at_130) (by decide) ?_
    show Steps p.tables e below (T8.setTop (mkF m 131 #[.val (.int p1), .val (.int p2), .val (.int ((55296 : Int32) + ((p2 &&& (7 : Int32)) - (4 : Int32)))), .val (.int ((57343 : Int32) + (((XT.ushr p2 (3 : Int32)) &&& (7 : Int32)) - (4 : Int32)))), .val (.int ((56320 : Int32) + (((XT.ushr p2 (6 : Int32)) &&& (7 : Int32)) - (4 : Int32)))), .val (.int (1 : Int32)), .val (.int (1 : Int32)), .val (.int (1 : Int32)), .val (.int (1 : Int32))] [(.int (1 : Int32))])) _
    refine XS.goto X8.here hx rfl (pc0 := 131) (pc' := 135) rfl (hb hby at_131) (by decide) (by decide) ?_
    show Steps p.tables e below (T8.setTop (mkF m 135 #[.val (.int p1), .val (.int p2), .val (.int ((55296 : Int32) + ((p2 &&& (7 : Int32)) - (4 : Int32)))), .val (.int ((57343 : Int32) + (((XT.ushr p2 (3 : Int32)) &&& (7 : Int32)) - (4 : Int32)))), .val (.int ((56320 : Int32) + (((XT.ushr p2 (6 : Int32)) &&& (7 : Int32)) - (4 : Int32)))), .val (.int (1 : Int32)), .val (.int (1 : Int32)), .val (.int (1 : Int32)), .val (.int (1 : Int32))] [(.int (1 : Int32))])) _
    exact retN X8 hx (t := .boolean) Bd.returns (by simp) (hb hby at_135) hr
  · exact ⟨rfl, Fr.nil n0⟩
set_option maxRecDepth 65536 in
set_option maxHeartbeats 40000000 in
theorem comes_1 {Post : Tables → Env → Array Value → State → Outcome → State → Prop} (hpost : ∀ tb e args s v u, (limb_1_1.after args s (.returned v) u = true ∧ limb_1_2.after args s (.returned v) u = true ∧ True) → FrameEnd s (.returned v) u (Jvm.fieldLocs frame_1_writes args s ++ Jvm.arrayLocs frame_1_arrays args s ++ Jvm.staticLocs frame_1_statics s) 0 0 → Post tb e args s (.returned v) u) :
    ArmFor flags0 classFile x code maxLocals ret World_1 tables_1 room_1 Calls_1 rest_1 Pre_1 Post := by
  intro l hfl _ _ p e ha hc hk s m args below hf hA hF happ hP
  obtain ⟨hcalls, hrest, hpre⟩ := hP
  obtain ⟨-, -, -, hnamed, -, -, -, hat⟩ := (Spec.applies_iff hf).mp happ
  obtain ⟨hg, hn⟩ := and_e (Cond.before_iff.mp (show (Jvm.Cond.and given_1 narrow_1).before args s = true from hpre))
  obtain ⟨gc, gr0⟩ := and_e hg
  obtain ⟨g0, gr1⟩ := and_e gr0
  obtain ⟨w0, w1, rfl⟩ : ∃ w0 w1 : Value, args = #[w0, w1] := by
    have hs : args.size = 2 := by simpa [Cond.value, given_1] using gc
    obtain ⟨L⟩ := args
    match L, hs with
    | [w0, w1], _ => exact ⟨w0, w1, rfl⟩
  have hw := fun d (hd : d ∈ tables_1) => atoms_spec (ws := Jvm.Cond.code x code maxLocals ret :: tables_1) hat d (List.mem_cons_of_mem _ hd)
  obtain ⟨i0, ei0⟩ := is_v g0
  obtain rfl : w0 = (.int i0) := Option.some.inj ei0
  obtain ⟨i1, ei1⟩ := is_v gr1
  obtain rfl : w1 = (.int i1) := Option.some.inj ei1
  obtain ⟨n, o, h1, h2, h3, _, L, rfl, ⟨rfl, N⟩, hq⟩ := rm0 l s _ hw tables_1 i0 i1 s.heap s.heap.size p e ha hc hk s m _ below hf ((Spec.applies_iff_loose hf).mp happ).1 ⟨rfl, State.Warmed39.refl s, rfl⟩ trivial
  refine ⟨n, _, h1, h2, h3, hpost _ _ _ _ _ _ ⟨Cond.after_iff.mpr rfl, Cond.after_iff.mpr (eq_i res_at (Term.int_eval (1)) rfl), trivial⟩ ⟨hq.1, hq.2.1, (hq.2.2.sift fun y hy => Or.inr (N y hy)).mono (by decide) (by decide)⟩⟩
theorem main_1_1 : Claimed_1_1 := comes_1 fun _ _ _ _ _ _ h hF => ⟨h.1, hF⟩
theorem main_1_2 : Claimed_1_2 := comes_1 fun _ _ _ _ _ _ h hF => ⟨h.2.1, hF⟩
end Jvm.Pilot.@@N@@
namespace Jvm.Pilot.@@N@@
open Jvm Jvm.ClassFile Sem Op Lib Jvm.Free Jvm.Stand Jvm.Pilot.@@N@@.Jvm.D
/-! MADE BY PROGRAM (witnessworld.py) out of the Statement's table words and the real class files: 9 classes; the members and pool entries that the words name. The judged class is class 1, her method 2. -/
namespace start1
open Jvm.ClassFile
def u (s : String) : CpInfo := .utf8 (stringToUtf16 s)
/-- a pool by its gaps: so many unusable entries, then the entry; so many at the end -/
def gap : Nat → List CpInfo → List CpInfo
  | 0, r => r
  | n + 1, r => .unusable :: gap n r
def poolList (es : List (Nat × CpInfo)) (last : Nat) : List CpInfo := es.foldr (fun e r => gap e.1 (e.2 :: r)) (gap last [])
def pool (es : List (Nat × CpInfo)) (last : Nat) : Array CpInfo := ⟨poolList es last⟩
def fileOf (pool : Array CpInfo) (this : Nat) (attrs : Array Attribute := #[]) (ms : Array MethodInfo := #[]) (fl : Nat := 33) (sup : Nat := 0) (ifs : Array Nat := #[]) (fds : Array FieldInfo := #[]) : ClassFile where
  minorVersion := 0
  majorVersion := 65
  constantPool := pool
  accessFlags := fl
  thisClass := this
  superClass := sup
  interfaces := ifs
  fields := fds
  methods := ms
  attributes := attrs
def plain (name : String) (sup : Option ClassId) : Class where
  name := name
  kind := .ordinary
  loader := none
  accessFlags := 33
  super := sup
  interfaces := #[]
  cf := none
  fields := #[]
  methods := #[]
  instanceTypes := #[]
  staticTypes := #[]
  resolved := #[]
  callSites := []
  init := .initialized
  statics := none
  mirror := none

def pool0 : Array CpInfo := pool [(5, u "<init>"), (0, u "()V"), (1, .class_ 10), (1, u "java/lang/Object")] 113

def k0m0 : Method := { name := "<init>", desc := "()V", sig := { parameters := [], returnType := none }, accessFlags := 1, code := none }
/-- java/lang/Object -/
def k0 : Class := { plain "java/lang/Object" none with
  accessFlags := 33
  interfaces := #[]
  cf := some (fileOf pool0 8 #[] #[{ accessFlags := 1, nameIndex := 5, descriptorIndex := 6, attributes := #[] }] 33 0 #[] #[])
  fields := #[]
  methods := #[k0m0]
  instanceTypes := #[]
  staticTypes := #[]
  resolved := Array.replicate 124 none
  statics := none }

def pool1 : Array CpInfo := pool [(2, .class_ 4), (1, u "java/lang/Object"), (0, u "<init>"), (0, u "()V"), (0, .integer 55296), (0, .integer 57343), (0, .integer 56320), (0, .methodref 11 12), (0, .class_ 13), (0, .nameAndType 14 15), (0, u "com/example/ordo/ordo/cli/Unencodable"), (0, u "is"), (0, u "(I)Z"), (0, .methodref 17 18), (0, .class_ 19), (0, .nameAndType 20 15), (0, u "com/example/ordo/ordo/cli/UnencodableIsPinLaw"), (0, u "reference"), (3, u "law"), (0, u "(II)Z")] 2

def k1m0 : Method := { name := "<init>", desc := "()V", sig := { parameters := [], returnType := none }, accessFlags := 2, code := none }
def k1c1 : Code := { maxStack := 2, maxLocals := 1, code := method_2_code, exceptionTable := #[], attributes := #[] }
def k1m1 : Method := { name := "reference", desc := "(I)Z", sig := { parameters := [.int], returnType := some .boolean }, accessFlags := 10, code := some k1c1 }
def k1c2 : Code := { maxStack := 3, maxLocals := 9, code := code, exceptionTable := #[], attributes := #[] }
def k1m2 : Method := { name := "law", desc := "(II)Z", sig := { parameters := [.int, .int], returnType := some .boolean }, accessFlags := 9, code := some k1c2 }
/-- com/example/ordo/ordo/cli/UnencodableIsPinLaw -/
def k1 : Class := { plain "com/example/ordo/ordo/cli/UnencodableIsPinLaw" (some 0) with
  accessFlags := 49
  interfaces := #[]
  cf := some (fileOf pool1 17 #[] #[{ accessFlags := 2, nameIndex := 5, descriptorIndex := 6, attributes := #[] }, { accessFlags := 10, nameIndex := 20, descriptorIndex := 15, attributes := #[] }, { accessFlags := 9, nameIndex := 24, descriptorIndex := 25, attributes := #[] }] 49 2 #[] #[])
  fields := #[]
  methods := #[k1m0, k1m1, k1m2]
  instanceTypes := #[]
  staticTypes := #[]
  resolved := Array.replicate 28 none
  statics := none }

def pool2 : Array CpInfo := pool [(2, .class_ 4), (1, u "java/lang/Object"), (0, u "<init>"), (0, u "()V"), (2, .integer 55296), (0, .integer 57343), (7, .class_ 20), (1, u "com/example/ordo/ordo/cli/Unencodable"), (0, u "HEX"), (0, u "Ljava/util/HexFormat;"), (20, u "is"), (0, u "(I)Z")] 25

def k2m0 : Method := { name := "<init>", desc := "()V", sig := { parameters := [], returnType := none }, accessFlags := 2, code := none }
def k2c1 : Code := { maxStack := 2, maxLocals := 1, code := prog_5_method_2_code, exceptionTable := #[], attributes := #[] }
def k2m1 : Method := { name := "is", desc := "(I)Z", sig := { parameters := [.int], returnType := some .boolean }, accessFlags := 8, code := some k2c1 }
/-- com/example/ordo/ordo/cli/Unencodable -/
def k2 : Class := { plain "com/example/ordo/ordo/cli/Unencodable" (some 0) with
  accessFlags := 48
  interfaces := #[]
  cf := some (fileOf pool2 18 #[] #[{ accessFlags := 2, nameIndex := 5, descriptorIndex := 6, attributes := #[] }, { accessFlags := 8, nameIndex := 43, descriptorIndex := 44, attributes := #[] }] 48 2 #[] #[{ accessFlags := 26, nameIndex := 21, descriptorIndex := 22, attributes := #[] }])
  fields := #[{ name := "HEX", type := (.object "java/util/HexFormat"), accessFlags := 26, slot := 0, constantValue := 0 }]
  methods := #[k2m0, k2m1]
  instanceTypes := #[]
  staticTypes := #[(.object "java/util/HexFormat")]
  resolved := Array.replicate 70 none
  statics := none }

def pool3 : Array CpInfo := pool [(1, u "java/lang/Cloneable"), (0, .class_ 1), (0, u "java/lang/Object"), (0, .class_ 3)] 3

/-- java/lang/Cloneable -/
def k3 : Class := { plain "java/lang/Cloneable" (some 0) with
  accessFlags := 1537
  interfaces := #[]
  cf := some (fileOf pool3 2 #[] #[] 1537 4 #[] #[])
  fields := #[]
  methods := #[]
  instanceTypes := #[]
  staticTypes := #[]
  resolved := Array.replicate 8 none
  statics := none }

def pool4 : Array CpInfo := pool [(1, u "java/io/Serializable"), (0, .class_ 1), (0, u "java/lang/Object"), (0, .class_ 3)] 3

/-- java/io/Serializable -/
def k4 : Class := { plain "java/io/Serializable" (some 0) with
  accessFlags := 1537
  interfaces := #[]
  cf := some (fileOf pool4 2 #[] #[] 1537 4 #[] #[])
  fields := #[]
  methods := #[]
  instanceTypes := #[]
  staticTypes := #[]
  resolved := Array.replicate 8 none
  statics := none }

/-- the primitive byte -/
def k5 : Class := { plain "byte" none with kind := .primitive 'B', accessFlags := 0x411 }
/-- [B -/
def k6 : Class := { plain "[B" (some 0) with kind := .array 5 .byte, interfaces := #[3, 4], accessFlags := 1041 }

/-- the primitive int -/
def k7 : Class := { plain "int" none with kind := .primitive 'I', accessFlags := 0x411 }
/-- [I -/
def k8 : Class := { plain "[I" (some 0) with kind := .array 7 .int, interfaces := #[3, 4], accessFlags := 1041 }

def heap : Heap := #[]
def classes : Array Class := #[k0, k1, k2, k3, k4, k5, k6, k7, k8]
def interned : List (Array UInt16 × Addr) := []
def slotsUsed : Nat := 0
def theMethod : MethodId := ⟨1, 2⟩
def args0 : Array Value := #[.int 5, .int 300]
def aboutOver (below : List Frame) : State where
  vm := { classes := classes, interned := interned.toArray }
  heap := heap
  slotsUsed := slotsUsed
  threads := #[{ frames := .invoking theMethod args0 :: below }]
def below0 : List Frame := [.native { method := ⟨0, 0⟩, args := #[] }]
def about1 : State := aboutOver below0
def p0 : Program := .bare "" "" ""
def e0 : Env := launch0.env 0 0 0
theorem w_frames : about1.frames = Frame.invoking theMethod args0 :: below0 := rfl
set_option maxRecDepth 65536 in
theorem w_args : argsFit about1.vm theMethod args0 = true := by decide +kernel
set_option maxRecDepth 65536 in
theorem w_heap : heapFits about1 = true := by decide +kernel
set_option maxRecDepth 65536 in
theorem w_runnable : about1.curStatus? = some .runnable := by decide +kernel
set_option maxRecDepth 65536 in
theorem w_alone : about1.alone = true := by decide +kernel
set_option maxRecDepth 65536 in
theorem w_named : about1.methodNamed? x = some theMethod := by decide +kernel
set_option maxRecDepth 65536 in
theorem w_hears : about1.hears theMethod below0 = true := by decide +kernel
set_option maxRecDepth 65536 in
theorem w_ripe : about1.ripe theMethod args0 below0 = true := by decide +kernel
theorem w_running : about1.status = .running := rfl
set_option maxRecDepth 65536 in
theorem w_room : about1.hasRoom e0.platform room_1 = true :=
  launch0.hasRoom_least _ room_1 (by decide +kernel) (by decide +kernel) (by decide +kernel) (by decide +kernel) (by decide +kernel) (by decide +kernel)
theorem allAtoms_all (ts : List Jvm.Cond) (a : Array Jvm.Value) (st : Jvm.State) : (allAtoms ts).before a st = ts.all (fun c => c.before a st) := by
  induction ts with
  | nil => rfl
  | cons c t ih =>
    show (Jvm.Cond.and c (allAtoms t)).before a st = _
    rw [Jvm.Cond.before_and, ih, List.all_cons]
def words1 : List Jvm.Cond := Jvm.Cond.code x code maxLocals ret :: tables_1
/-- a 'code' word, met by the world's own term for the bytes: nothing is compared byte by byte -/
theorem code_word {y : MethodName} {bytes : ByteArray} {mx : Nat} {rt : Option FieldType} {a : Array Value} {s : State} {m : MethodId} {meth : Method} {c : Code} (h1 : s.methodNamed? y = some m) (h2 : s.vm.method? m = some meth) (h3 : meth.code = some c) (h4 : c.code = bytes)
    (h5 : (c.maxLocals == mx && c.exceptionTable.isEmpty && decide (c.maxStack ≤ mostOperands) && decide (meth.sig.returnType = rt) && !meth.locks && decide (parseMethodDescriptor y.desc = some meth.sig)) = true) : (Jvm.Cond.code y bytes mx rt).before a s = true := by
  simp only [Bool.and_eq_true, beq_iff_eq, Bool.not_eq_true', decide_eq_true_eq] at h5
  obtain ⟨⟨⟨⟨⟨g1, g2⟩, g3⟩, g4⟩, g5⟩, g6⟩ := h5
  simp [Cond.before, Cond.holds, Cond.value, h1, h2, h3, h4, g1, g2, g3, g4, g5, g6]
def isCode : Jvm.Cond → Bool
  | .code _ _ _ _ => true
  | _ => false
theorem all_split {L : List Jvm.Cond} {P : Jvm.Cond → Bool} (h1 : L.all (fun c => isCode c || P c) = true) (h2 : ∀ c ∈ L.filter isCode, P c = true) : L.all P = true := by
  refine List.all_eq_true.mpr fun c hc => ?_
  have h := List.all_eq_true.mp h1 c hc
  rcases Bool.eq_false_or_eq_true (isCode c) with hi | hi
  · exact h2 c (List.mem_filter.mpr ⟨hc, hi⟩)
  · simpa [hi] using h
set_option maxRecDepth 65536 in
theorem w_c0 : (Jvm.Cond.code x code maxLocals ret).before args0 about1 = true := code_word (m := ⟨1, 2⟩) (meth := k1m2) (c := k1c2) (by decide +kernel) rfl rfl rfl (by decide +kernel)
set_option maxRecDepth 65536 in
theorem w_c1 : (Jvm.Cond.code ({ cls := "com/example/ordo/ordo/cli/Unencodable", name := "is", desc := "(I)Z" } : Jvm.MethodName) prog_5_method_2_code (1 : Nat) (Option.some Jvm.ClassFile.FieldType.boolean)).before args0 about1 = true := code_word (m := ⟨2, 1⟩) (meth := k2m1) (c := k2c1) (by decide +kernel) rfl rfl rfl (by decide +kernel)
set_option maxRecDepth 65536 in
theorem w_c2 : (Jvm.Cond.code ({ cls := "com/example/ordo/ordo/cli/UnencodableIsPinLaw", name := "reference", desc := "(I)Z" } : Jvm.MethodName) method_2_code (1 : Nat) (Option.some Jvm.ClassFile.FieldType.boolean)).before args0 about1 = true := code_word (m := ⟨1, 1⟩) (meth := k1m1) (c := k1c1) (by decide +kernel) rfl rfl rfl (by decide +kernel)
def codes1 : List Jvm.Cond := [Jvm.Cond.code x code maxLocals ret, Jvm.Cond.code ({ cls := "com/example/ordo/ordo/cli/Unencodable", name := "is", desc := "(I)Z" } : Jvm.MethodName) prog_5_method_2_code (1 : Nat) (Option.some Jvm.ClassFile.FieldType.boolean), Jvm.Cond.code ({ cls := "com/example/ordo/ordo/cli/UnencodableIsPinLaw", name := "reference", desc := "(I)Z" } : Jvm.MethodName) method_2_code (1 : Nat) (Option.some Jvm.ClassFile.FieldType.boolean)]
set_option maxRecDepth 65536 in
theorem codes_eq : words1.filter isCode = codes1 := rfl
theorem w_codes : ∀ c ∈ words1.filter isCode, c.before args0 about1 = true := by
  rw [codes_eq]
  intro c hc
  simp only [codes1, List.mem_cons, List.not_mem_nil, or_false] at hc
  rcases hc with rfl | rfl | rfl
  · exact w_c0
  · exact w_c1
  · exact w_c2
set_option maxRecDepth 65536 in
theorem w_t1 : words1.all (fun c => isCode c || c.before args0 about1) = true := by decide +kernel
theorem w_tables : (allAtoms (Jvm.Cond.code x code maxLocals ret :: tables_1)).before args0 about1 = true := by
  rw [allAtoms_all]
  show words1.all (fun c => c.before args0 about1) = true
  refine all_split ?_ w_codes
  rw [w_t1]
set_option maxRecDepth 65536 in
theorem w_case : (Jvm.Cond.and given_1 narrow_1).before args0 about1 = true := by decide +kernel
theorem w_applies : (headSpec (Jvm.Cond.code x code maxLocals ret :: tables_1) room_1).applies x e0.platform about1 = true :=
  (Spec.applies_iff w_frames).mpr ⟨w_running, w_runnable, w_alone, w_named, w_hears, w_ripe, w_room, w_tables⟩
theorem atStart : AtStart classFile x code maxLocals ret World_1 tables_1 room_1 Calls_1 rest_1 Pre_1 launch0 p0 e0 about1 theMethod args0 below0 :=
  ⟨lists_1, trivial, launch0.admits_env _ _ _, launch0.least_env, fairChoices_fair.cas, fairChoices_fair.clock, w_frames, w_args, w_heap, w_applies, trivial, trivial, w_case⟩
end start1
theorem witness_1 : WitnessClaimed_1 := ⟨start1.p0, start1.e0, start1.about1, start1.theMethod, start1.args0, start1.below0, start1.atStart⟩
end Jvm.Pilot.@@N@@
