import JvmDerived
import JvmDerived.Pilot.@@N@@Statement
import JvmDerived.Pilot.@@N@@Code
set_option linter.unusedVariables false
set_option linter.unusedSimpArgs false
@@BLOCK:NumsL.lean.txt@@
namespace Jvm.RoadKit
open Sem ClassFile Op Lib Jvm.Stand Jvm.Free Jvm.LawKit
section New
variable {p : Program} {l : Launch} {e : Env} {R : Room} {s : State} {m : MethodId} {args : Array Value} {below : List Frame} {meth : Method} {c : Code} {T : State} {locs : List Loc} {cells slots : Nat}
theorem retI (X : Stand p l e R s m args below meth c T locs cells slots) (hx : p.tables.exec = Jvm.exec) {pc : Nat} {Ls : Array Slot} {z : Int32} {rest : List Value} (hret : meth.sig.returnType = some .int) (hd : decode c.code pc = .ok (.ireturn, 1)) {fs : List Frame}
    (hl : ∀ (f : JFrame) (acts : List Action), f.method = m → f.locked = none → f.entered = [] → (doReturn e (T.setTop f) acts (some (.int z))).1 = T.setFrames fs) : Steps p.tables e below (T.setTop (mkF m pc Ls (.int z :: rest))) (T.setFrames fs) := by
  have hm' : T.vm.method? m = some meth := X.method'
  have hn : narrow .int (.int z) = .int z := rfl
  show Steps p.tables e below (T.setTop { method := m, pc := pc, locals := Ls, stack := _ :: rest, locked := none }) _
  jvm_step X.here [X.here.top, hx, hd, hm', hret, hn]
  first | (intro acts; rw [hl _ acts rfl rfl rfl]) | rw [hl _ _ rfl rfl rfl]
  exact Steps.refl _
end New
end Jvm.RoadKit
namespace Jvm.Pilot.@@N@@
open Jvm Jvm.ClassFile Sem Op Lib Jvm.Free Jvm.Stand Jvm.LawKit Jvm.RoadKit Bundle Jvm.Pilot.@@N@@.Jvm.D
/-- the goal of a walk, carried from one point to the next -/
theorem own_via {tb : Tables} {e : Env} {below : List Frame} {Y Y' : State} {P : State → Outcome → Prop} (h : ∀ t, Steps tb e below Y' t → Steps tb e below Y t) (g : ∃ s₂ o, Steps tb e below Y' s₂ ∧ P s₂ o) : ∃ s₂ o, Steps tb e below Y s₂ ∧ P s₂ o := by
  obtain ⟨s₂, o, h1, h2⟩ := g
  exact ⟨s₂, o, h _ h1, h2⟩
/-- the same where the goal is a join: 'from here the run comes to F x for some x with A x' -/
theorem own_via2 {tb : Tables} {e : Env} {below : List Frame} {Y Y' : State} {α : Type} {A : α → Prop} {F : α → State} (h : ∀ t, Steps tb e below Y' t → Steps tb e below Y t) (g : ∃ x, A x ∧ ∀ t, Steps tb e below (F x) t → Steps tb e below Y' t) : ∃ x, A x ∧ ∀ t, Steps tb e below (F x) t → Steps tb e below Y t := by
  obtain ⟨x, h1, h2⟩ := g
  exact ⟨x, h1, fun t kt => h _ (h2 _ kt)⟩
/-- what a callee leaves that writes nothing: its answer, no place written, the heap as it was -/
def own_Q (r : Option Value) (h0 : Heap) (v : Option Value) (h : Heap) (L : List Loc) : Prop := v = r ∧ L = [] ∧ h = h0
theorem pd_JJ_J : parseMethodDescriptor "(JJ)J" = some ⟨[.long, .long], some .long⟩ := by decide +kernel
theorem d1_0 : decode prog_30_method_4_code 0 = .ok (.lload_n 2, 1) := by decide +kernel
theorem d1_1 : decode prog_30_method_4_code 1 = .ok (.lstore 4, 2) := by decide +kernel
theorem d1_3 : decode prog_30_method_4_code 3 = .ok (.lload_n 0, 1) := by decide +kernel
theorem d1_4 : decode prog_30_method_4_code 4 = .ok (.lload_n 2, 1) := by decide +kernel
theorem d1_5 : decode prog_30_method_4_code 5 = .ok (.lrem, 1) := by decide +kernel
theorem d1_6 : decode prog_30_method_4_code 6 = .ok (.lstore 6, 2) := by decide +kernel
theorem d1_8 : decode prog_30_method_4_code 8 = .ok (.lconst 0, 1) := by decide +kernel
theorem d1_9 : decode prog_30_method_4_code 9 = .ok (.lstore 8, 2) := by decide +kernel
theorem d1_11 : decode prog_30_method_4_code 11 = .ok (.lconst 1, 1) := by decide +kernel
theorem d1_12 : decode prog_30_method_4_code 12 = .ok (.lstore 10, 2) := by decide +kernel
theorem d1_14 : decode prog_30_method_4_code 14 = .ok (.lload 6, 2) := by decide +kernel
theorem d1_16 : decode prog_30_method_4_code 16 = .ok (.lconst 0, 1) := by decide +kernel
theorem d1_17 : decode prog_30_method_4_code 17 = .ok (.lcmp, 1) := by decide +kernel
theorem d1_18 : decode prog_30_method_4_code 18 = .ok (.ifCond .eq 49, 3) := by decide +kernel
theorem d1_21 : decode prog_30_method_4_code 21 = .ok (.lload 4, 2) := by decide +kernel
theorem d1_23 : decode prog_30_method_4_code 23 = .ok (.lload 6, 2) := by decide +kernel
theorem d1_25 : decode prog_30_method_4_code 25 = .ok (.ldiv, 1) := by decide +kernel
theorem d1_26 : decode prog_30_method_4_code 26 = .ok (.lstore 12, 2) := by decide +kernel
theorem d1_28 : decode prog_30_method_4_code 28 = .ok (.lload 4, 2) := by decide +kernel
theorem d1_30 : decode prog_30_method_4_code 30 = .ok (.lload 12, 2) := by decide +kernel
theorem d1_32 : decode prog_30_method_4_code 32 = .ok (.lload 6, 2) := by decide +kernel
theorem d1_34 : decode prog_30_method_4_code 34 = .ok (.lmul, 1) := by decide +kernel
theorem d1_35 : decode prog_30_method_4_code 35 = .ok (.lsub, 1) := by decide +kernel
theorem d1_36 : decode prog_30_method_4_code 36 = .ok (.lstore 14, 2) := by decide +kernel
theorem d1_38 : decode prog_30_method_4_code 38 = .ok (.lload 6, 2) := by decide +kernel
theorem d1_40 : decode prog_30_method_4_code 40 = .ok (.lstore 4, 2) := by decide +kernel
theorem d1_42 : decode prog_30_method_4_code 42 = .ok (.lload 14, 2) := by decide +kernel
theorem d1_44 : decode prog_30_method_4_code 44 = .ok (.lstore 6, 2) := by decide +kernel
theorem d1_46 : decode prog_30_method_4_code 46 = .ok (.lload 8, 2) := by decide +kernel
theorem d1_48 : decode prog_30_method_4_code 48 = .ok (.lload 12, 2) := by decide +kernel
theorem d1_50 : decode prog_30_method_4_code 50 = .ok (.lload 10, 2) := by decide +kernel
theorem d1_52 : decode prog_30_method_4_code 52 = .ok (.lmul, 1) := by decide +kernel
theorem d1_53 : decode prog_30_method_4_code 53 = .ok (.lsub, 1) := by decide +kernel
theorem d1_54 : decode prog_30_method_4_code 54 = .ok (.lstore 16, 2) := by decide +kernel
theorem d1_56 : decode prog_30_method_4_code 56 = .ok (.lload 10, 2) := by decide +kernel
theorem d1_58 : decode prog_30_method_4_code 58 = .ok (.lstore 8, 2) := by decide +kernel
theorem d1_60 : decode prog_30_method_4_code 60 = .ok (.lload 16, 2) := by decide +kernel
theorem d1_62 : decode prog_30_method_4_code 62 = .ok (.lstore 10, 2) := by decide +kernel
theorem d1_64 : decode prog_30_method_4_code 64 = .ok (.goto (-50), 3) := by decide +kernel
theorem d1_67 : decode prog_30_method_4_code 67 = .ok (.lload 8, 2) := by decide +kernel
theorem d1_69 : decode prog_30_method_4_code 69 = .ok (.lconst 0, 1) := by decide +kernel
theorem d1_70 : decode prog_30_method_4_code 70 = .ok (.lcmp, 1) := by decide +kernel
theorem d1_71 : decode prog_30_method_4_code 71 = .ok (.ifCond .ge 10, 3) := by decide +kernel
theorem d1_74 : decode prog_30_method_4_code 74 = .ok (.lload 8, 2) := by decide +kernel
theorem d1_76 : decode prog_30_method_4_code 76 = .ok (.lload_n 2, 1) := by decide +kernel
theorem d1_77 : decode prog_30_method_4_code 77 = .ok (.ladd, 1) := by decide +kernel
theorem d1_78 : decode prog_30_method_4_code 78 = .ok (.goto 5, 3) := by decide +kernel
theorem d1_81 : decode prog_30_method_4_code 81 = .ok (.lload 8, 2) := by decide +kernel
theorem d1_83 : decode prog_30_method_4_code 83 = .ok (.lreturn, 1) := by decide +kernel
theorem pn_Primes : plainName "com/example/planwright/planwright/Primes" = true := by first | (simp [plainName, overriddenIn]; done) | decide +kernel
theorem pn_PrimesInversePinLaw : plainName "com/example/planwright/planwright/PrimesInversePinLaw" = true := by first | (simp [plainName, overriddenIn]; done) | decide +kernel
/-! THE PLAIN LAW: extended Euclid over the integers -/
/-- what the loop keeps: M the modulus, A the number reduced; r0 r1 the remainders, t0 t1 the factors; u0 u1 the factors' sizes (their signs alternate) -/
def own_inv (M A r0 r1 t0 t1 : Int) : Prop :=
  0 ≤ r1 ∧ r1 < r0 ∧ M ∣ A * t0 - r0 ∧ M ∣ A * t1 - r1 ∧ (∀ d, d ∣ r0 → d ∣ r1 → d ∣ M ∧ d ∣ A) ∧ ∃ u0 u1 : Int, 0 ≤ u0 ∧ u0 ≤ u1 ∧ 1 ≤ u1 ∧ u0 * r1 + u1 * r0 = M ∧ ((t0 = -u0 ∧ t1 = u1) ∨ (t0 = u0 ∧ t1 = -u1))
theorem own_start (M A : Int) (h0 : 0 ≤ A) (h1 : A < M) : own_inv M A M A 0 1 := by
  refine ⟨h0, h1, ?_, ?_, fun d x y => ⟨x, y⟩, 0, 1, by omega, by omega, by omega, by omega, Or.inl ⟨by omega, by omega⟩⟩
  · rw [Int.mul_zero]; exact ⟨-1, by omega⟩
  · rw [Int.mul_one]; exact ⟨0, by omega⟩
/-- a turn's sizes -/
theorem own_sizes {M A r0 r1 t0 t1 : Int} (h : own_inv M A r0 r1 t0 t1) (hr : 0 < r1) :
    1 ≤ r0 / r1 ∧ r0 % r1 < r1 ∧ 0 ≤ r0 % r1 ∧ -M ≤ (r0 / r1) * t1 ∧ (r0 / r1) * t1 ≤ M ∧ -M ≤ t0 - (r0 / r1) * t1 ∧ t0 - (r0 / r1) * t1 ≤ M := by
  obtain ⟨a1, a2, -, -, -, u0, u1, b1, b2, b3, b4, b5⟩ := h
  have q1 : 1 ≤ r0 / r1 := Int.le_ediv_of_mul_le hr (by omega)
  have q2 := Int.emod_lt_of_pos r0 hr
  have q3 := Int.emod_nonneg r0 (Int.ne_of_gt hr)
  have q4 := Int.mul_ediv_add_emod r0 r1
  generalize r0 / r1 = q at *
  generalize r0 % r1 = r2 at *
  have q5 : 0 ≤ q * u1 := Int.mul_nonneg (by omega) (by omega)
  have q6 : u1 * r2 + (u0 + q * u1) * r1 = M := by
    rw [← b4, ← q4, Int.add_mul, Int.mul_add, Int.mul_comm q u1, Int.mul_assoc, Int.mul_comm q r1]
    omega
  have q7 : 0 ≤ u1 * r2 := Int.mul_nonneg (by omega) q3
  have q8 : (u0 + q * u1) * 1 ≤ (u0 + q * u1) * r1 := Int.mul_le_mul_of_nonneg_left (by omega) (by omega)
  refine ⟨q1, q2, q3, ?_⟩
  rcases b5 with ⟨rfl, rfl⟩ | ⟨rfl, rfl⟩
  · refine ⟨?_, ?_, ?_, ?_⟩ <;> omega
  · rw [Int.mul_neg]
    refine ⟨?_, ?_, ?_, ?_⟩ <;> omega
/-- one turn -/
theorem own_turn {M A r0 r1 t0 t1 : Int} (h : own_inv M A r0 r1 t0 t1) (hr : 0 < r1) : own_inv M A r1 (r0 % r1) t1 (t0 - (r0 / r1) * t1) := by
  obtain ⟨a1, a2, a3, a4, a5, u0, u1, b1, b2, b3, b4, b5⟩ := h
  have q1 : 1 ≤ r0 / r1 := Int.le_ediv_of_mul_le hr (by omega)
  have q2 := Int.emod_lt_of_pos r0 hr
  have q3 := Int.emod_nonneg r0 (Int.ne_of_gt hr)
  have q4 := Int.mul_ediv_add_emod r0 r1
  generalize r0 / r1 = q at *
  generalize r0 % r1 = r2 at *
  have q5 : 1 * u1 ≤ q * u1 := Int.mul_le_mul_of_nonneg_right q1 (by omega)
  refine ⟨q3, q2, a4, ?_, fun d x y => ?_, u1, u0 + q * u1, by omega, by omega, by omega, ?_, ?_⟩
  · have e : A * (t0 - q * t1) - r2 = (A * t0 - r0) - q * (A * t1 - r1) := by
      rw [← q4, Int.mul_sub, Int.mul_sub, Int.mul_left_comm, Int.mul_comm q r1]
      omega
    rw [e]
    exact Int.dvd_sub a3 (Int.dvd_mul_of_dvd_right a4)
  · refine a5 d ?_ x
    rw [← q4]
    exact Int.dvd_add (Int.dvd_mul_of_dvd_left x) y
  · rw [← b4, ← q4, Int.add_mul, Int.mul_add, Int.mul_comm q u1, Int.mul_assoc, Int.mul_comm q r1]
    omega
  · rcases b5 with ⟨rfl, rfl⟩ | ⟨rfl, rfl⟩
    · exact Or.inr ⟨rfl, by omega⟩
    · refine Or.inl ⟨rfl, ?_⟩
      rw [Int.mul_neg]
      omega
/-- where the loop ends -/
theorem own_exit {M A g t t1 : Int} (hM : 2 ≤ M) (h : own_inv M A g 0 t t1) : 0 < g ∧ g ∣ M ∧ g ∣ A ∧ M ∣ A * t - g ∧ -M ≤ t ∧ t < M := by
  obtain ⟨a1, a2, a3, a4, a5, u0, u1, b1, b2, b3, b4, b5⟩ := h
  obtain ⟨c1, c2⟩ := a5 g (Int.dvd_refl g) (Int.dvd_zero g)
  have d1 : u1 * 1 ≤ u1 * g := Int.mul_le_mul_of_nonneg_left (by omega) (by omega)
  refine ⟨a2, c1, c2, a3, ?_, ?_⟩
  · rcases b5 with ⟨rfl, -⟩ | ⟨rfl, -⟩ <;> omega
  · refine Classical.byContradiction fun z => ?_
    have e1 : t = M := by rcases b5 with ⟨rfl, -⟩ | ⟨rfl, -⟩ <;> omega
    have e2 : u1 = M := by rcases b5 with ⟨h1, -⟩ | ⟨h1, -⟩ <;> omega
    have e3 : g = 1 := by
      rw [e2] at b4 d1
      have f1 : M * g = M * 1 := by omega
      exact Int.eq_of_mul_eq_mul_left (by omega) f1
    rw [e1, e3] at a3
    have e4 : M ∣ 1 := by
      have f := Int.dvd_sub (Int.dvd_mul_left A M) a3
      rwa [show A * M - (A * M - 1) = 1 from by omega] at f
    have e5 := Int.le_of_dvd (by omega) e4
    omega
/-- what Primes.inverse hands back: x within [0, n), and a common factor g of a and n with (a mod n) * x = g modulo n -/
def own_P (a n x : Int64) : Prop := 0 ≤ x.toInt ∧ x.toInt < n.toInt ∧ ∃ g : Int, 0 < g ∧ g ∣ n.toInt ∧ g ∣ a.toInt ∧ n.toInt ∣ (a.toInt % n.toInt) * x.toInt - g
theorem own_back {a n : Int} {g : Int} (h1 : g ∣ n) (h2 : g ∣ a % n) : g ∣ a := by
  have h := Int.mul_ediv_add_emod a n
  rw [← h]
  exact Int.dvd_add (Int.dvd_mul_of_dvd_left h1) h2
theorem own_zero : (0 : Int64).toInt = 0 := by decide
theorem own_unit : (1 : Int64).toInt = 1 := by decide
theorem own_ne {x : Int64} (h : ¬ x = 0) : x.toInt ≠ 0 := fun z => h (Int64.toInt_inj.mp (z.trans own_zero.symm))
theorem own_div {x y : Int64} (hx : 0 ≤ x.toInt) : (x / y).toInt = x.toInt / y.toInt := by
  rw [Jvm.Kit.i64_div (fun z => by omega), Int.tdiv_eq_ediv_of_nonneg hx]
/-- one turn, in the machine's longs -/
theorem own_long {M A : Int} {r0 r1 t0 t1 : Int64} (hM : M < 2147483648) (h : own_inv M A r0.toInt r1.toInt t0.toInt t1.toInt) (hr : ¬ r1 = 0) :
    own_inv M A r1.toInt (r0 - r0 / r1 * r1).toInt t1.toInt (t0 - r0 / r1 * t1).toInt ∧ (r0 - r0 / r1 * r1).toInt < r1.toInt := by
  have z := own_ne hr
  have p0 : 0 ≤ r1.toInt := h.1
  have p1 : r1.toInt < r0.toInt := h.2.1
  have hr' : 0 < r1.toInt := by omega
  obtain ⟨s1, s2, s3, s4, s5, s6, s7⟩ := own_sizes h hr'
  have e1 : (r0 - r0 / r1 * r1).toInt = r0.toInt % r1.toInt := Jvm.Kit.i64_rem_nonneg (by omega)
  have e2 : (r0 / r1).toInt = r0.toInt / r1.toInt := own_div (by omega)
  have e3 : (r0 / r1 * t1).toInt = r0.toInt / r1.toInt * t1.toInt := by rw [Jvm.Kit.i64_mul (by rw [e2]; omega) (by rw [e2]; omega), e2]
  have e4 : (t0 - r0 / r1 * t1).toInt = t0.toInt - r0.toInt / r1.toInt * t1.toInt := by rw [Jvm.Kit.i64_sub (by rw [e3]; omega) (by rw [e3]; omega), e3]
  rw [e1, e4]
  exact ⟨own_turn h hr', s2⟩
theorem own_start64 {a n : Int64} (ha : 0 ≤ a.toInt) (hn : 2 ≤ n.toInt) : own_inv n.toInt (a.toInt % n.toInt) n.toInt (a - a / n * n).toInt (0 : Int64).toInt (1 : Int64).toInt := by
  rw [Jvm.Kit.i64_rem_nonneg ha, own_zero, own_unit]
  exact own_start _ _ (Int.emod_nonneg _ (by omega)) (Int.emod_lt_of_pos _ (by omega))
theorem own_done {a n g z t t1 : Int64} (hn : 2 ≤ n.toInt) (hz : z = 0) (h : own_inv n.toInt (a.toInt % n.toInt) g.toInt z.toInt t.toInt t1.toInt) (ht : ¬ t < 0) : own_P a n t := by
  rw [hz, own_zero] at h
  obtain ⟨c1, c2, c3, c4, c5, c6⟩ := own_exit hn h
  rw [Int64.lt_iff_toInt_lt, own_zero] at ht
  exact ⟨by omega, c6, g.toInt, c1, c2, own_back c2 c3, c4⟩
theorem own_done' {a n g z t t1 : Int64} (hn : 2 ≤ n.toInt) (hn' : n.toInt < 2147483648) (hz : z = 0) (h : own_inv n.toInt (a.toInt % n.toInt) g.toInt z.toInt t.toInt t1.toInt) (ht : t < 0) : own_P a n (t + n) := by
  rw [hz, own_zero] at h
  obtain ⟨c1, c2, c3, c4, c5, c6⟩ := own_exit hn h
  rw [Int64.lt_iff_toInt_lt, own_zero] at ht
  have e : (t + n).toInt = t.toInt + n.toInt := Jvm.Kit.i64_add (by omega) (by omega)
  refine ⟨by omega, by omega, g.toInt, c1, c2, own_back c2 c3, ?_⟩
  rw [e, Int.mul_add, show a.toInt % n.toInt * t.toInt + a.toInt % n.toInt * n.toInt - g.toInt = (a.toInt % n.toInt * t.toInt - g.toInt) + a.toInt % n.toInt * n.toInt from by omega]
  exact Int.dvd_add c4 (Int.dvd_mul_left _ _)
/-- the law's residue -/
theorem own_res {a n x : Int64} (hn : 2 ≤ n.toInt) (h : own_P a n x) {R : Int} (hR : R = a.toInt % n.toInt * x.toInt % n.toInt) : R = 1 ∨ (R = 0 ∧ n.toInt ∣ a.toInt) ∨ (1 < R ∧ R ∣ a.toInt ∧ R ∣ n.toInt) := by
  obtain ⟨-, -, g, g0, g1, g2, g3⟩ := h
  have e : a.toInt % n.toInt * x.toInt % n.toInt = g % n.toInt := Int.emod_eq_emod_iff_emod_sub_eq_zero.mpr (Int.emod_eq_zero_of_dvd g3)
  have l := Int.le_of_dvd (by omega) g1
  rw [e] at hR
  rcases Int.lt_or_eq_of_le l with k | k
  · rw [Int.emod_eq_of_lt (by omega) k] at hR
    subst hR
    by_cases k1 : R = 1
    · exact Or.inl k1
    · exact Or.inr (Or.inr ⟨by omega, g2, g1⟩)
  · rw [k, Int.emod_self] at hR
    rw [k] at g2
    exact Or.inr (Or.inl ⟨hR, g2⟩)
theorem own_m (x : Int64) (m : Int64) (h : m = (2 : Int64) + ((x &&& (2147483647 : Int64)) - (x &&& (2147483647 : Int64)) / (2147483646 : Int64) * (2147483646 : Int64))) : 2 ≤ m.toInt ∧ m.toInt < 2147483648 := by
  have h0 : (x &&& (2147483647 : Int64)).toInt = x.toInt % 2 ^ 31 := Jvm.Kit.i64_mask x 2147483647 (k := 31) (by decide) (by decide)
  have c1 : (2147483646 : Int64).toInt = 2147483646 := by decide
  have c2 : (2 : Int64).toInt = 2 := by decide
  have h1 : ((x &&& (2147483647 : Int64)) - (x &&& (2147483647 : Int64)) / (2147483646 : Int64) * (2147483646 : Int64)).toInt = (x &&& (2147483647 : Int64)).toInt % 2147483646 := by
    rw [Jvm.Kit.i64_rem_nonneg (by rw [h0]; omega), c1]
  have h2 : m.toInt = 2 + (x &&& (2147483647 : Int64)).toInt % 2147483646 := by
    rw [h, Jvm.Kit.i64_add (by rw [h1, c2]; omega) (by rw [h1, c2]; omega), h1, c2]
  omega
theorem own_a (x : Int64) (a : Int64) (h : a = x &&& (2147483647 : Int64)) : 0 ≤ a.toInt ∧ a.toInt < 2147483648 := by
  have h0 : (x &&& (2147483647 : Int64)).toInt = x.toInt % 2 ^ 31 := Jvm.Kit.i64_mask x 2147483647 (k := 31) (by decide) (by decide)
  rw [h, h0]
  omega
theorem own_nz {m : Int64} (h : 1 < m.toInt) : m ≠ 0 := by
  intro z
  rw [z, own_zero] at h
  omega
theorem own_same {x m y : Int64} (h0 : 0 ≤ x.toInt) (h1 : x.toInt < m.toInt) (h : y = x - x / m * m) : y = x := by
  apply Int64.toInt_inj.mp
  rw [h, Jvm.Kit.i64_rem_nonneg h0, Int.emod_eq_of_lt h0 h1]
theorem own_r {a m x r : Int64} (ha : 0 ≤ a.toInt) (hm : 2 ≤ m.toInt) (hm' : m.toInt < 2147483648) (h0 : 0 ≤ x.toInt) (h1 : x.toInt < m.toInt) (h : r = ((a - a / m * m) * x) - ((a - a / m * m) * x) / m * m) : r.toInt = a.toInt % m.toInt * x.toInt % m.toInt := by
  have e1 : (a - a / m * m).toInt = a.toInt % m.toInt := Jvm.Kit.i64_rem_nonneg ha
  have b1 := Int.emod_nonneg a.toInt (show m.toInt ≠ 0 by omega)
  have b2 := Int.emod_lt_of_pos a.toInt (show 0 < m.toInt by omega)
  have b3 : 0 ≤ a.toInt % m.toInt * x.toInt := Int.mul_nonneg b1 h0
  have b4 : a.toInt % m.toInt * x.toInt ≤ 2147483648 * 2147483648 := Int.mul_le_mul (by omega) (by omega) h0 (by omega)
  have e2 : ((a - a / m * m) * x).toInt = a.toInt % m.toInt * x.toInt := by rw [Jvm.Kit.i64_mul (by rw [e1]; omega) (by rw [e1]; omega), e1]
  rw [h, Jvm.Kit.i64_rem_nonneg (by rw [e2]; exact b3), e2]
theorem own_rem0 {x g : Int64} (hx : 0 ≤ x.toInt) (h : g.toInt ∣ x.toInt) : (x - x / g * g) = (0 : Int64) := by
  apply Int64.toInt_inj.mp
  rw [Jvm.Kit.i64_rem_nonneg hx, Int.emod_eq_zero_of_dvd h, own_zero]
theorem own_gm {a m r : Int64} (hm : 2 ≤ m.toInt) (hR : r.toInt = 1 ∨ (r.toInt = 0 ∧ m.toInt ∣ a.toInt) ∨ (1 < r.toInt ∧ r.toInt ∣ a.toInt ∧ r.toInt ∣ m.toInt)) (h0 : r = 0) : 1 < m.toInt ∧ m.toInt ∣ a.toInt ∧ m.toInt ∣ m.toInt := by
  have z : r.toInt = 0 := by rw [h0]; exact own_zero
  rcases hR with k | k | k
  · omega
  · exact ⟨by omega, k.2, Int.dvd_refl _⟩
  · omega
theorem own_gr {a m r : Int64} (hR : r.toInt = 1 ∨ (r.toInt = 0 ∧ m.toInt ∣ a.toInt) ∨ (1 < r.toInt ∧ r.toInt ∣ a.toInt ∧ r.toInt ∣ m.toInt)) (h1 : ¬ r = 1) (h0 : ¬ r = 0) : 1 < r.toInt ∧ r.toInt ∣ a.toInt ∧ r.toInt ∣ m.toInt := by
  rcases hR with k | k | k
  · exact absurd (Int64.toInt_inj.mp (k.trans own_unit.symm)) h1
  · exact absurd k.1 (own_ne h0)
  · exact k
/-! THE WALK -/
set_option maxRecDepth 65536 in
set_option maxHeartbeats 40000000 in
/-- the loop of Primes.inverse: k bounds the turns left -/
theorem own_loop {p : Program} {l : Launch} {e : Env} {R : Room} {s : State} {m : MethodId} {args : Array Value} {below : List Frame} {meth : Method} {c : Code} {T0 : State} {locs : List Loc} {cells slots : Nat} (X0 : Stand p l e R s m args below meth c T0 locs cells slots) (hx : p.tables.exec = Jvm.exec) (hby : c.code = prog_30_method_4_code) (a n : Int64) (M A : Int) (hM : M < 2147483648) (k : Nat) :
    ∀ (r0 r1 t0 t1 q r2 t2 : Int64), own_inv M A r0.toInt r1.toInt t0.toInt t1.toInt → r1.toInt < (k : Int) →
      ∃ g z t y1 y2 y3 y4 : Int64, z = 0 ∧ own_inv M A g.toInt z.toInt t.toInt y1.toInt ∧ ∀ target, Steps p.tables e below (T0.setTop (mkF m 67 #[.val (.long a), .second, .val (.long n), .second, .val (.long g), .second, .val (.long z), .second, .val (.long t), .second, .val (.long y1), .second, .val (.long y2), .second, .val (.long y3), .second, .val (.long y4), .second] [])) target → Steps p.tables e below (T0.setTop (mkF m 14 #[.val (.long a), .second, .val (.long n), .second, .val (.long r0), .second, .val (.long r1), .second, .val (.long t0), .second, .val (.long t1), .second, .val (.long q), .second, .val (.long r2), .second, .val (.long t2), .second] [])) target := by
  induction k with
  | zero =>
    intro r0 r1 t0 t1 q r2 t2 h hk
    have := h.1
    omega
  | succ k ih =>
    intro r0 r1 t0 t1 q r2 t2 h hk
    by_cases h1 : r1 = (0 : Int64)
    · refine ⟨r0, r1, t0, t1, q, r2, t2, h1, h, fun target kt => ?_⟩
      show Steps p.tables e below (T0.setTop (mkF m 14 #[.val (.long a), .second, .val (.long n), .second, .val (.long r0), .second, .val (.long r1), .second, .val (.long t0), .second, .val (.long t1), .second, .val (.long q), .second, .val (.long r2), .second, .val (.long t2), .second] [])) _
      refine XT.lload X0.here hx rfl (hb hby d1_14) rfl ?_
      show Steps p.tables e below (T0.setTop (mkF m 16 #[.val (.long a), .second, .val (.long n), .second, .val (.long r0), .second, .val (.long r1), .second, .val (.long t0), .second, .val (.long t1), .second, .val (.long q), .second, .val (.long r2), .second, .val (.long t2), .second] [(.long r1)])) _
      refine XT.lconstV X0.here hx rfl (0 : Int64) (hb hby d1_16) (by decide) ?_
      show Steps p.tables e below (T0.setTop (mkF m 17 #[.val (.long a), .second, .val (.long n), .second, .val (.long r0), .second, .val (.long r1), .second, .val (.long t0), .second, .val (.long t1), .second, .val (.long q), .second, .val (.long r2), .second, .val (.long t2), .second] [(.long (0 : Int64)), (.long r1)])) _
      refine XT.lcmp X0.here hx rfl (hb hby d1_17) rfl ?_
      show Steps p.tables e below (T0.setTop (mkF m 18 #[.val (.long a), .second, .val (.long n), .second, .val (.long r0), .second, .val (.long r1), .second, .val (.long t0), .second, .val (.long t1), .second, .val (.long q), .second, .val (.long r2), .second, .val (.long t2), .second] [(.int (XT.cmpL r1 (0 : Int64)))])) _
      refine XS.ifYes X0.here hx rfl (pc0 := 18) (pc' := 67) rfl (hb hby d1_18) rfl (XT.ll_eq_t h1) (by decide) (by decide) ?_
      exact kt
    · obtain ⟨hv, hlt⟩ := own_long hM h h1
      obtain ⟨g, z, t, y1, y2, y3, y4, hz, hi, hf⟩ := ih r1 (r0 - ((r0 / r1) * r1)) t1 (t0 - ((r0 / r1) * t1)) (r0 / r1) (r0 - ((r0 / r1) * r1)) (t0 - ((r0 / r1) * t1)) hv (by omega)
      refine ⟨g, z, t, y1, y2, y3, y4, hz, hi, fun target kt => ?_⟩
      show Steps p.tables e below (T0.setTop (mkF m 14 #[.val (.long a), .second, .val (.long n), .second, .val (.long r0), .second, .val (.long r1), .second, .val (.long t0), .second, .val (.long t1), .second, .val (.long q), .second, .val (.long r2), .second, .val (.long t2), .second] [])) _
      refine XT.lload X0.here hx rfl (hb hby d1_14) rfl ?_
      show Steps p.tables e below (T0.setTop (mkF m 16 #[.val (.long a), .second, .val (.long n), .second, .val (.long r0), .second, .val (.long r1), .second, .val (.long t0), .second, .val (.long t1), .second, .val (.long q), .second, .val (.long r2), .second, .val (.long t2), .second] [(.long r1)])) _
      refine XT.lconstV X0.here hx rfl (0 : Int64) (hb hby d1_16) (by decide) ?_
      show Steps p.tables e below (T0.setTop (mkF m 17 #[.val (.long a), .second, .val (.long n), .second, .val (.long r0), .second, .val (.long r1), .second, .val (.long t0), .second, .val (.long t1), .second, .val (.long q), .second, .val (.long r2), .second, .val (.long t2), .second] [(.long (0 : Int64)), (.long r1)])) _
      refine XT.lcmp X0.here hx rfl (hb hby d1_17) rfl ?_
      show Steps p.tables e below (T0.setTop (mkF m 18 #[.val (.long a), .second, .val (.long n), .second, .val (.long r0), .second, .val (.long r1), .second, .val (.long t0), .second, .val (.long t1), .second, .val (.long q), .second, .val (.long r2), .second, .val (.long t2), .second] [(.int (XT.cmpL r1 (0 : Int64)))])) _
      refine XS.ifNo X0.here hx rfl (hb hby d1_18) rfl (XT.ll_eq_f h1) ?_
      show Steps p.tables e below (T0.setTop (mkF m 21 #[.val (.long a), .second, .val (.long n), .second, .val (.long r0), .second, .val (.long r1), .second, .val (.long t0), .second, .val (.long t1), .second, .val (.long q), .second, .val (.long r2), .second, .val (.long t2), .second] [])) _
      refine XT.lload X0.here hx rfl (hb hby d1_21) rfl ?_
      show Steps p.tables e below (T0.setTop (mkF m 23 #[.val (.long a), .second, .val (.long n), .second, .val (.long r0), .second, .val (.long r1), .second, .val (.long t0), .second, .val (.long t1), .second, .val (.long q), .second, .val (.long r2), .second, .val (.long t2), .second] [(.long r0)])) _
      refine XT.lload X0.here hx rfl (hb hby d1_23) rfl ?_
      show Steps p.tables e below (T0.setTop (mkF m 25 #[.val (.long a), .second, .val (.long n), .second, .val (.long r0), .second, .val (.long r1), .second, .val (.long t0), .second, .val (.long t1), .second, .val (.long q), .second, .val (.long r2), .second, .val (.long t2), .second] [(.long r1), (.long r0)])) _
      refine XT.ldiv X0.here hx rfl (hb hby d1_25) rfl h1 ?_
      show Steps p.tables e below (T0.setTop (mkF m 26 #[.val (.long a), .second, .val (.long n), .second, .val (.long r0), .second, .val (.long r1), .second, .val (.long t0), .second, .val (.long t1), .second, .val (.long q), .second, .val (.long r2), .second, .val (.long t2), .second] [(.long (r0 / r1))])) _
      refine XT.lstore X0.here hx rfl (hb hby d1_26) rfl (l' := #[.val (.long a), .second, .val (.long n), .second, .val (.long r0), .second, .val (.long r1), .second, .val (.long t0), .second, .val (.long t1), .second, .val (.long (r0 / r1)), .second, .val (.long r2), .second, .val (.long t2), .second]) rfl ?_
      show Steps p.tables e below (T0.setTop (mkF m 28 #[.val (.long a), .second, .val (.long n), .second, .val (.long r0), .second, .val (.long r1), .second, .val (.long t0), .second, .val (.long t1), .second, .val (.long (r0 / r1)), .second, .val (.long r2), .second, .val (.long t2), .second] [])) _
      refine XT.lload X0.here hx rfl (hb hby d1_28) rfl ?_
      show Steps p.tables e below (T0.setTop (mkF m 30 #[.val (.long a), .second, .val (.long n), .second, .val (.long r0), .second, .val (.long r1), .second, .val (.long t0), .second, .val (.long t1), .second, .val (.long (r0 / r1)), .second, .val (.long r2), .second, .val (.long t2), .second] [(.long r0)])) _
      refine XT.lload X0.here hx rfl (hb hby d1_30) rfl ?_
      show Steps p.tables e below (T0.setTop (mkF m 32 #[.val (.long a), .second, .val (.long n), .second, .val (.long r0), .second, .val (.long r1), .second, .val (.long t0), .second, .val (.long t1), .second, .val (.long (r0 / r1)), .second, .val (.long r2), .second, .val (.long t2), .second] [(.long (r0 / r1)), (.long r0)])) _
      refine XT.lload X0.here hx rfl (hb hby d1_32) rfl ?_
      show Steps p.tables e below (T0.setTop (mkF m 34 #[.val (.long a), .second, .val (.long n), .second, .val (.long r0), .second, .val (.long r1), .second, .val (.long t0), .second, .val (.long t1), .second, .val (.long (r0 / r1)), .second, .val (.long r2), .second, .val (.long t2), .second] [(.long r1), (.long (r0 / r1)), (.long r0)])) _
      refine XT.lmul X0.here hx rfl (hb hby d1_34) rfl ?_
      show Steps p.tables e below (T0.setTop (mkF m 35 #[.val (.long a), .second, .val (.long n), .second, .val (.long r0), .second, .val (.long r1), .second, .val (.long t0), .second, .val (.long t1), .second, .val (.long (r0 / r1)), .second, .val (.long r2), .second, .val (.long t2), .second] [(.long ((r0 / r1) * r1)), (.long r0)])) _
      refine XT.lsub X0.here hx rfl (hb hby d1_35) rfl ?_
      show Steps p.tables e below (T0.setTop (mkF m 36 #[.val (.long a), .second, .val (.long n), .second, .val (.long r0), .second, .val (.long r1), .second, .val (.long t0), .second, .val (.long t1), .second, .val (.long (r0 / r1)), .second, .val (.long r2), .second, .val (.long t2), .second] [(.long (r0 - ((r0 / r1) * r1)))])) _
      refine XT.lstore X0.here hx rfl (hb hby d1_36) rfl (l' := #[.val (.long a), .second, .val (.long n), .second, .val (.long r0), .second, .val (.long r1), .second, .val (.long t0), .second, .val (.long t1), .second, .val (.long (r0 / r1)), .second, .val (.long (r0 - ((r0 / r1) * r1))), .second, .val (.long t2), .second]) rfl ?_
      show Steps p.tables e below (T0.setTop (mkF m 38 #[.val (.long a), .second, .val (.long n), .second, .val (.long r0), .second, .val (.long r1), .second, .val (.long t0), .second, .val (.long t1), .second, .val (.long (r0 / r1)), .second, .val (.long (r0 - ((r0 / r1) * r1))), .second, .val (.long t2), .second] [])) _
      refine XT.lload X0.here hx rfl (hb hby d1_38) rfl ?_
      show Steps p.tables e below (T0.setTop (mkF m 40 #[.val (.long a), .second, .val (.long n), .second, .val (.long r0), .second, .val (.long r1), .second, .val (.long t0), .second, .val (.long t1), .second, .val (.long (r0 / r1)), .second, .val (.long (r0 - ((r0 / r1) * r1))), .second, .val (.long t2), .second] [(.long r1)])) _
      refine XT.lstore X0.here hx rfl (hb hby d1_40) rfl (l' := #[.val (.long a), .second, .val (.long n), .second, .val (.long r1), .second, .val (.long r1), .second, .val (.long t0), .second, .val (.long t1), .second, .val (.long (r0 / r1)), .second, .val (.long (r0 - ((r0 / r1) * r1))), .second, .val (.long t2), .second]) rfl ?_
      show Steps p.tables e below (T0.setTop (mkF m 42 #[.val (.long a), .second, .val (.long n), .second, .val (.long r1), .second, .val (.long r1), .second, .val (.long t0), .second, .val (.long t1), .second, .val (.long (r0 / r1)), .second, .val (.long (r0 - ((r0 / r1) * r1))), .second, .val (.long t2), .second] [])) _
      refine XT.lload X0.here hx rfl (hb hby d1_42) rfl ?_
      show Steps p.tables e below (T0.setTop (mkF m 44 #[.val (.long a), .second, .val (.long n), .second, .val (.long r1), .second, .val (.long r1), .second, .val (.long t0), .second, .val (.long t1), .second, .val (.long (r0 / r1)), .second, .val (.long (r0 - ((r0 / r1) * r1))), .second, .val (.long t2), .second] [(.long (r0 - ((r0 / r1) * r1)))])) _
      refine XT.lstore X0.here hx rfl (hb hby d1_44) rfl (l' := #[.val (.long a), .second, .val (.long n), .second, .val (.long r1), .second, .val (.long (r0 - ((r0 / r1) * r1))), .second, .val (.long t0), .second, .val (.long t1), .second, .val (.long (r0 / r1)), .second, .val (.long (r0 - ((r0 / r1) * r1))), .second, .val (.long t2), .second]) rfl ?_
      show Steps p.tables e below (T0.setTop (mkF m 46 #[.val (.long a), .second, .val (.long n), .second, .val (.long r1), .second, .val (.long (r0 - ((r0 / r1) * r1))), .second, .val (.long t0), .second, .val (.long t1), .second, .val (.long (r0 / r1)), .second, .val (.long (r0 - ((r0 / r1) * r1))), .second, .val (.long t2), .second] [])) _
      refine XT.lload X0.here hx rfl (hb hby d1_46) rfl ?_
      show Steps p.tables e below (T0.setTop (mkF m 48 #[.val (.long a), .second, .val (.long n), .second, .val (.long r1), .second, .val (.long (r0 - ((r0 / r1) * r1))), .second, .val (.long t0), .second, .val (.long t1), .second, .val (.long (r0 / r1)), .second, .val (.long (r0 - ((r0 / r1) * r1))), .second, .val (.long t2), .second] [(.long t0)])) _
      refine XT.lload X0.here hx rfl (hb hby d1_48) rfl ?_
      show Steps p.tables e below (T0.setTop (mkF m 50 #[.val (.long a), .second, .val (.long n), .second, .val (.long r1), .second, .val (.long (r0 - ((r0 / r1) * r1))), .second, .val (.long t0), .second, .val (.long t1), .second, .val (.long (r0 / r1)), .second, .val (.long (r0 - ((r0 / r1) * r1))), .second, .val (.long t2), .second] [(.long (r0 / r1)), (.long t0)])) _
      refine XT.lload X0.here hx rfl (hb hby d1_50) rfl ?_
      show Steps p.tables e below (T0.setTop (mkF m 52 #[.val (.long a), .second, .val (.long n), .second, .val (.long r1), .second, .val (.long (r0 - ((r0 / r1) * r1))), .second, .val (.long t0), .second, .val (.long t1), .second, .val (.long (r0 / r1)), .second, .val (.long (r0 - ((r0 / r1) * r1))), .second, .val (.long t2), .second] [(.long t1), (.long (r0 / r1)), (.long t0)])) _
      refine XT.lmul X0.here hx rfl (hb hby d1_52) rfl ?_
      show Steps p.tables e below (T0.setTop (mkF m 53 #[.val (.long a), .second, .val (.long n), .second, .val (.long r1), .second, .val (.long (r0 - ((r0 / r1) * r1))), .second, .val (.long t0), .second, .val (.long t1), .second, .val (.long (r0 / r1)), .second, .val (.long (r0 - ((r0 / r1) * r1))), .second, .val (.long t2), .second] [(.long ((r0 / r1) * t1)), (.long t0)])) _
      refine XT.lsub X0.here hx rfl (hb hby d1_53) rfl ?_
      show Steps p.tables e below (T0.setTop (mkF m 54 #[.val (.long a), .second, .val (.long n), .second, .val (.long r1), .second, .val (.long (r0 - ((r0 / r1) * r1))), .second, .val (.long t0), .second, .val (.long t1), .second, .val (.long (r0 / r1)), .second, .val (.long (r0 - ((r0 / r1) * r1))), .second, .val (.long t2), .second] [(.long (t0 - ((r0 / r1) * t1)))])) _
      refine XT.lstore X0.here hx rfl (hb hby d1_54) rfl (l' := #[.val (.long a), .second, .val (.long n), .second, .val (.long r1), .second, .val (.long (r0 - ((r0 / r1) * r1))), .second, .val (.long t0), .second, .val (.long t1), .second, .val (.long (r0 / r1)), .second, .val (.long (r0 - ((r0 / r1) * r1))), .second, .val (.long (t0 - ((r0 / r1) * t1))), .second]) rfl ?_
      show Steps p.tables e below (T0.setTop (mkF m 56 #[.val (.long a), .second, .val (.long n), .second, .val (.long r1), .second, .val (.long (r0 - ((r0 / r1) * r1))), .second, .val (.long t0), .second, .val (.long t1), .second, .val (.long (r0 / r1)), .second, .val (.long (r0 - ((r0 / r1) * r1))), .second, .val (.long (t0 - ((r0 / r1) * t1))), .second] [])) _
      refine XT.lload X0.here hx rfl (hb hby d1_56) rfl ?_
      show Steps p.tables e below (T0.setTop (mkF m 58 #[.val (.long a), .second, .val (.long n), .second, .val (.long r1), .second, .val (.long (r0 - ((r0 / r1) * r1))), .second, .val (.long t0), .second, .val (.long t1), .second, .val (.long (r0 / r1)), .second, .val (.long (r0 - ((r0 / r1) * r1))), .second, .val (.long (t0 - ((r0 / r1) * t1))), .second] [(.long t1)])) _
      refine XT.lstore X0.here hx rfl (hb hby d1_58) rfl (l' := #[.val (.long a), .second, .val (.long n), .second, .val (.long r1), .second, .val (.long (r0 - ((r0 / r1) * r1))), .second, .val (.long t1), .second, .val (.long t1), .second, .val (.long (r0 / r1)), .second, .val (.long (r0 - ((r0 / r1) * r1))), .second, .val (.long (t0 - ((r0 / r1) * t1))), .second]) rfl ?_
      show Steps p.tables e below (T0.setTop (mkF m 60 #[.val (.long a), .second, .val (.long n), .second, .val (.long r1), .second, .val (.long (r0 - ((r0 / r1) * r1))), .second, .val (.long t1), .second, .val (.long t1), .second, .val (.long (r0 / r1)), .second, .val (.long (r0 - ((r0 / r1) * r1))), .second, .val (.long (t0 - ((r0 / r1) * t1))), .second] [])) _
      refine XT.lload X0.here hx rfl (hb hby d1_60) rfl ?_
      show Steps p.tables e below (T0.setTop (mkF m 62 #[.val (.long a), .second, .val (.long n), .second, .val (.long r1), .second, .val (.long (r0 - ((r0 / r1) * r1))), .second, .val (.long t1), .second, .val (.long t1), .second, .val (.long (r0 / r1)), .second, .val (.long (r0 - ((r0 / r1) * r1))), .second, .val (.long (t0 - ((r0 / r1) * t1))), .second] [(.long (t0 - ((r0 / r1) * t1)))])) _
      refine XT.lstore X0.here hx rfl (hb hby d1_62) rfl (l' := #[.val (.long a), .second, .val (.long n), .second, .val (.long r1), .second, .val (.long (r0 - ((r0 / r1) * r1))), .second, .val (.long t1), .second, .val (.long (t0 - ((r0 / r1) * t1))), .second, .val (.long (r0 / r1)), .second, .val (.long (r0 - ((r0 / r1) * r1))), .second, .val (.long (t0 - ((r0 / r1) * t1))), .second]) rfl ?_
      show Steps p.tables e below (T0.setTop (mkF m 64 #[.val (.long a), .second, .val (.long n), .second, .val (.long r1), .second, .val (.long (r0 - ((r0 / r1) * r1))), .second, .val (.long t1), .second, .val (.long (t0 - ((r0 / r1) * t1))), .second, .val (.long (r0 / r1)), .second, .val (.long (r0 - ((r0 / r1) * r1))), .second, .val (.long (t0 - ((r0 / r1) * t1))), .second] [])) _
      refine XS.goto X0.here hx rfl (pc0 := 64) (pc' := 14) rfl (hb hby d1_64) (by decide) (by decide) ?_
      exact hf _ kt
/-- what the callee leaves -/
def own_QI (a n : Int64) (h0 : Heap) (v : Option Value) (h : Heap) (L : List Loc) : Prop := ∃ x : Int64, v = some (.long x) ∧ own_P a n x ∧ L = [] ∧ h = h0
theorem ef_1 (m : MethodId) (xa : Int64) (xn : Int64) : entryFrame m #[(.long xa), (.long xn)] 18 = mkF m 0 #[.val (.long xa), .second, .val (.long xn), .second, .unset, .unset, .unset, .unset, .unset, .unset, .unset, .unset, .unset, .unset, .unset, .unset, .unset, .unset] [] := by first | (simp [entryFrame, mkF, argsToLocals, Value.category]; done) | rfl
set_option maxRecDepth 65536 in
set_option maxHeartbeats 40000000 in
theorem rm1 (l : Launch) (Z : State) (a0 : Array Value) (hw : ∀ d ∈ tables_1, d.before a0 Z = true) (ws : List Jvm.Cond) (xa : Int64) (xn : Int64) (h0 : Heap) (ha : 0 ≤ xa.toInt) (hn : 2 ≤ xn.toInt) (hn' : xn.toInt < 2147483648) :
    MetFree l (⟨"com/example/planwright/planwright/Primes", "inverse", "(JJ)J"⟩ : MethodName) (head1 (Jvm.Cond.code (⟨"com/example/planwright/planwright/Primes", "inverse", "(JJ)J"⟩ : MethodName) prog_30_method_4_code 18 (some .long) :: ws) ({ frames := 0, cells := 0, slots := 0, locals := 0 } : Room)) (fun a U => a = #[(.long xa), (.long xn)] ∧ Z.Warmed39 U.vm ∧ U.heap = h0) (fun _ _ _ _ _ => True) (fun _ U o U' => ∃ v L, o = .returned v ∧ own_QI xa xn h0 v U'.heap L ∧ FrameEnd U o U' L ({ frames := 0, cells := 0, slots := 0, locals := 0 } : Room).cells ({ frames := 0, cells := 0, slots := 0, locals := 0 } : Room).slots) := by
  refine MetFree.of_bodySF (plainFor_of_name pn_Primes) hisR ?_
  intro p e s m args below meth c s₁ Bd hml0 hP hK
  obtain ⟨rfl, hZ, hh⟩ := hP
  have hx := Bd.exec
  have hby := Bd.bytes
  have hml : c.maxLocals = 18 := hml0
  have hown : s.vm.findClass "com/example/planwright/planwright/Primes" = some m.cls := findClass_of_methodNamed Bd.named
  have hnm := (name_of_methodNamed Bd.named Bd.method).1
  have X0 : Stand p l e ({ frames := 0, cells := 0, slots := 0, locals := 0 } : Room) s m #[(.long xa), (.long xn)] below meth c s₁ [] 0 0 := Stand.of_body Bd
  have e0 : s₁.heap = h0 := by rw [← hh, Bd.state]; rfl
  refine own_via (Y' := (s₁.setTop (mkF m 0 #[.val (.long xa), .second, .val (.long xn), .second, .unset, .unset, .unset, .unset, .unset, .unset, .unset, .unset, .unset, .unset, .unset, .unset, .unset, .unset] []))) (fun t kt => castTop (ef_1 m xa xn) kt) ?_
  refine own_via (Y' := (s₁.setTop (mkF m 14 #[.val (.long xa), .second, .val (.long xn), .second, .val (.long xn), .second, .val (.long (xa - xa / xn * xn)), .second, .val (.long (0 : Int64)), .second, .val (.long (1 : Int64)), .second, .unset, .unset, .unset, .unset, .unset, .unset] []))) (fun t kt => ?_) ?_
  · show Steps p.tables e below (s₁.setTop (mkF m 0 #[.val (.long xa), .second, .val (.long xn), .second, .unset, .unset, .unset, .unset, .unset, .unset, .unset, .unset, .unset, .unset, .unset, .unset, .unset, .unset] [])) _
    refine XT.lloadN X0.here hx rfl (hb hby d1_0) rfl ?_
    show Steps p.tables e below (s₁.setTop (mkF m 1 #[.val (.long xa), .second, .val (.long xn), .second, .unset, .unset, .unset, .unset, .unset, .unset, .unset, .unset, .unset, .unset, .unset, .unset, .unset, .unset] [(.long xn)])) _
    refine XT.lstore X0.here hx rfl (hb hby d1_1) rfl (l' := #[.val (.long xa), .second, .val (.long xn), .second, .val (.long xn), .second, .unset, .unset, .unset, .unset, .unset, .unset, .unset, .unset, .unset, .unset, .unset, .unset]) rfl ?_
    show Steps p.tables e below (s₁.setTop (mkF m 3 #[.val (.long xa), .second, .val (.long xn), .second, .val (.long xn), .second, .unset, .unset, .unset, .unset, .unset, .unset, .unset, .unset, .unset, .unset, .unset, .unset] [])) _
    refine XT.lloadN X0.here hx rfl (hb hby d1_3) rfl ?_
    show Steps p.tables e below (s₁.setTop (mkF m 4 #[.val (.long xa), .second, .val (.long xn), .second, .val (.long xn), .second, .unset, .unset, .unset, .unset, .unset, .unset, .unset, .unset, .unset, .unset, .unset, .unset] [(.long xa)])) _
    refine XT.lloadN X0.here hx rfl (hb hby d1_4) rfl ?_
    show Steps p.tables e below (s₁.setTop (mkF m 5 #[.val (.long xa), .second, .val (.long xn), .second, .val (.long xn), .second, .unset, .unset, .unset, .unset, .unset, .unset, .unset, .unset, .unset, .unset, .unset, .unset] [(.long xn), (.long xa)])) _
    refine XT.lrem X0.here hx rfl (hb hby d1_5) rfl (own_nz (by omega)) ?_
    show Steps p.tables e below (s₁.setTop (mkF m 6 #[.val (.long xa), .second, .val (.long xn), .second, .val (.long xn), .second, .unset, .unset, .unset, .unset, .unset, .unset, .unset, .unset, .unset, .unset, .unset, .unset] [(.long (xa - xa / xn * xn))])) _
    refine XT.lstore X0.here hx rfl (hb hby d1_6) rfl (l' := #[.val (.long xa), .second, .val (.long xn), .second, .val (.long xn), .second, .val (.long (xa - xa / xn * xn)), .second, .unset, .unset, .unset, .unset, .unset, .unset, .unset, .unset, .unset, .unset]) rfl ?_
    show Steps p.tables e below (s₁.setTop (mkF m 8 #[.val (.long xa), .second, .val (.long xn), .second, .val (.long xn), .second, .val (.long (xa - xa / xn * xn)), .second, .unset, .unset, .unset, .unset, .unset, .unset, .unset, .unset, .unset, .unset] [])) _
    refine XT.lconstV X0.here hx rfl (0 : Int64) (hb hby d1_8) (by decide) ?_
    show Steps p.tables e below (s₁.setTop (mkF m 9 #[.val (.long xa), .second, .val (.long xn), .second, .val (.long xn), .second, .val (.long (xa - xa / xn * xn)), .second, .unset, .unset, .unset, .unset, .unset, .unset, .unset, .unset, .unset, .unset] [(.long (0 : Int64))])) _
    refine XT.lstore X0.here hx rfl (hb hby d1_9) rfl (l' := #[.val (.long xa), .second, .val (.long xn), .second, .val (.long xn), .second, .val (.long (xa - xa / xn * xn)), .second, .val (.long (0 : Int64)), .second, .unset, .unset, .unset, .unset, .unset, .unset, .unset, .unset]) rfl ?_
    show Steps p.tables e below (s₁.setTop (mkF m 11 #[.val (.long xa), .second, .val (.long xn), .second, .val (.long xn), .second, .val (.long (xa - xa / xn * xn)), .second, .val (.long (0 : Int64)), .second, .unset, .unset, .unset, .unset, .unset, .unset, .unset, .unset] [])) _
    refine XT.lconstV X0.here hx rfl (1 : Int64) (hb hby d1_11) (by decide) ?_
    show Steps p.tables e below (s₁.setTop (mkF m 12 #[.val (.long xa), .second, .val (.long xn), .second, .val (.long xn), .second, .val (.long (xa - xa / xn * xn)), .second, .val (.long (0 : Int64)), .second, .unset, .unset, .unset, .unset, .unset, .unset, .unset, .unset] [(.long (1 : Int64))])) _
    refine XT.lstore X0.here hx rfl (hb hby d1_12) rfl (l' := #[.val (.long xa), .second, .val (.long xn), .second, .val (.long xn), .second, .val (.long (xa - xa / xn * xn)), .second, .val (.long (0 : Int64)), .second, .val (.long (1 : Int64)), .second, .unset, .unset, .unset, .unset, .unset, .unset]) rfl ?_
    exact kt
  obtain ⟨r, hr⟩ : ∃ z, z = (xa - xa / xn * xn) := ⟨_, rfl⟩
  rw [← hr]
  have hi0 : own_inv xn.toInt (xa.toInt % xn.toInt) xn.toInt r.toInt (0 : Int64).toInt (1 : Int64).toInt := by rw [hr]; exact own_start64 ha hn
  refine own_via (Y' := (s₁.setTop (mkF m 18 #[.val (.long xa), .second, .val (.long xn), .second, .val (.long xn), .second, .val (.long r), .second, .val (.long (0 : Int64)), .second, .val (.long (1 : Int64)), .second, .unset, .unset, .unset, .unset, .unset, .unset] [(.int (XT.cmpL r (0 : Int64)))]))) (fun t kt => ?_) ?_
  · show Steps p.tables e below (s₁.setTop (mkF m 14 #[.val (.long xa), .second, .val (.long xn), .second, .val (.long xn), .second, .val (.long r), .second, .val (.long (0 : Int64)), .second, .val (.long (1 : Int64)), .second, .unset, .unset, .unset, .unset, .unset, .unset] [])) _
    refine XT.lload X0.here hx rfl (hb hby d1_14) rfl ?_
    show Steps p.tables e below (s₁.setTop (mkF m 16 #[.val (.long xa), .second, .val (.long xn), .second, .val (.long xn), .second, .val (.long r), .second, .val (.long (0 : Int64)), .second, .val (.long (1 : Int64)), .second, .unset, .unset, .unset, .unset, .unset, .unset] [(.long r)])) _
    refine XT.lconstV X0.here hx rfl (0 : Int64) (hb hby d1_16) (by decide) ?_
    show Steps p.tables e below (s₁.setTop (mkF m 17 #[.val (.long xa), .second, .val (.long xn), .second, .val (.long xn), .second, .val (.long r), .second, .val (.long (0 : Int64)), .second, .val (.long (1 : Int64)), .second, .unset, .unset, .unset, .unset, .unset, .unset] [(.long (0 : Int64)), (.long r)])) _
    refine XT.lcmp X0.here hx rfl (hb hby d1_17) rfl ?_
    exact kt
  by_cases h1 : r = (0 : Int64)
  · obtain ⟨fs, hr, hrun, hended, hW, hsame⟩ := X0.leave (v := (some (.long (0 : Int64)))) (fun h => by rw [Bd.returns] at h; cases h)
    refine ⟨_, _, ?_, hrun, hended, _, _, rfl, ?_, ⟨_, rfl⟩, hW, hsame.mono (by decide) (by decide)⟩
    · show Steps p.tables e below (s₁.setTop (mkF m 18 #[.val (.long xa), .second, .val (.long xn), .second, .val (.long xn), .second, .val (.long r), .second, .val (.long (0 : Int64)), .second, .val (.long (1 : Int64)), .second, .unset, .unset, .unset, .unset, .unset, .unset] [(.int (XT.cmpL r (0 : Int64)))])) _
      refine XS.ifYes X0.here hx rfl (pc0 := 18) (pc' := 67) rfl (hb hby d1_18) rfl (XT.ll_eq_t h1) (by decide) (by decide) ?_
      show Steps p.tables e below (s₁.setTop (mkF m 67 #[.val (.long xa), .second, .val (.long xn), .second, .val (.long xn), .second, .val (.long r), .second, .val (.long (0 : Int64)), .second, .val (.long (1 : Int64)), .second, .unset, .unset, .unset, .unset, .unset, .unset] [])) _
      refine XT.lload X0.here hx rfl (hb hby d1_67) rfl ?_
      show Steps p.tables e below (s₁.setTop (mkF m 69 #[.val (.long xa), .second, .val (.long xn), .second, .val (.long xn), .second, .val (.long r), .second, .val (.long (0 : Int64)), .second, .val (.long (1 : Int64)), .second, .unset, .unset, .unset, .unset, .unset, .unset] [(.long (0 : Int64))])) _
      refine XT.lconstV X0.here hx rfl (0 : Int64) (hb hby d1_69) (by decide) ?_
      show Steps p.tables e below (s₁.setTop (mkF m 70 #[.val (.long xa), .second, .val (.long xn), .second, .val (.long xn), .second, .val (.long r), .second, .val (.long (0 : Int64)), .second, .val (.long (1 : Int64)), .second, .unset, .unset, .unset, .unset, .unset, .unset] [(.long (0 : Int64)), (.long (0 : Int64))])) _
      refine XT.lcmp X0.here hx rfl (hb hby d1_70) rfl ?_
      show Steps p.tables e below (s₁.setTop (mkF m 71 #[.val (.long xa), .second, .val (.long xn), .second, .val (.long xn), .second, .val (.long r), .second, .val (.long (0 : Int64)), .second, .val (.long (1 : Int64)), .second, .unset, .unset, .unset, .unset, .unset, .unset] [(.int (XT.cmpL (0 : Int64) (0 : Int64)))])) _
      refine XS.ifYes X0.here hx rfl (pc0 := 71) (pc' := 81) rfl (hb hby d1_71) rfl (XT.ll_ge_t (by decide)) (by decide) (by decide) ?_
      show Steps p.tables e below (s₁.setTop (mkF m 81 #[.val (.long xa), .second, .val (.long xn), .second, .val (.long xn), .second, .val (.long r), .second, .val (.long (0 : Int64)), .second, .val (.long (1 : Int64)), .second, .unset, .unset, .unset, .unset, .unset, .unset] [])) _
      refine XT.lload X0.here hx rfl (hb hby d1_81) rfl ?_
      show Steps p.tables e below (s₁.setTop (mkF m 83 #[.val (.long xa), .second, .val (.long xn), .second, .val (.long xn), .second, .val (.long r), .second, .val (.long (0 : Int64)), .second, .val (.long (1 : Int64)), .second, .unset, .unset, .unset, .unset, .unset, .unset] [(.long (0 : Int64))])) _
      exact X0.lreturnOut hx Bd.returns (hb hby d1_83) hr
    · exact ⟨_, rfl, own_done hn h1 hi0 (by decide), rfl, e0⟩
  · refine own_via (Y' := (s₁.setTop (mkF m 14 #[.val (.long xa), .second, .val (.long xn), .second, .val (.long r), .second, .val (.long (xn - ((xn / r) * r))), .second, .val (.long (1 : Int64)), .second, .val (.long ((0 : Int64) - ((xn / r) * (1 : Int64)))), .second, .val (.long (xn / r)), .second, .val (.long (xn - ((xn / r) * r))), .second, .val (.long ((0 : Int64) - ((xn / r) * (1 : Int64)))), .second] []))) (fun t kt => ?_) ?_
    · show Steps p.tables e below (s₁.setTop (mkF m 18 #[.val (.long xa), .second, .val (.long xn), .second, .val (.long xn), .second, .val (.long r), .second, .val (.long (0 : Int64)), .second, .val (.long (1 : Int64)), .second, .unset, .unset, .unset, .unset, .unset, .unset] [(.int (XT.cmpL r (0 : Int64)))])) _
      refine XS.ifNo X0.here hx rfl (hb hby d1_18) rfl (XT.ll_eq_f h1) ?_
      show Steps p.tables e below (s₁.setTop (mkF m 21 #[.val (.long xa), .second, .val (.long xn), .second, .val (.long xn), .second, .val (.long r), .second, .val (.long (0 : Int64)), .second, .val (.long (1 : Int64)), .second, .unset, .unset, .unset, .unset, .unset, .unset] [])) _
      refine XT.lload X0.here hx rfl (hb hby d1_21) rfl ?_
      show Steps p.tables e below (s₁.setTop (mkF m 23 #[.val (.long xa), .second, .val (.long xn), .second, .val (.long xn), .second, .val (.long r), .second, .val (.long (0 : Int64)), .second, .val (.long (1 : Int64)), .second, .unset, .unset, .unset, .unset, .unset, .unset] [(.long xn)])) _
      refine XT.lload X0.here hx rfl (hb hby d1_23) rfl ?_
      show Steps p.tables e below (s₁.setTop (mkF m 25 #[.val (.long xa), .second, .val (.long xn), .second, .val (.long xn), .second, .val (.long r), .second, .val (.long (0 : Int64)), .second, .val (.long (1 : Int64)), .second, .unset, .unset, .unset, .unset, .unset, .unset] [(.long r), (.long xn)])) _
      refine XT.ldiv X0.here hx rfl (hb hby d1_25) rfl h1 ?_
      show Steps p.tables e below (s₁.setTop (mkF m 26 #[.val (.long xa), .second, .val (.long xn), .second, .val (.long xn), .second, .val (.long r), .second, .val (.long (0 : Int64)), .second, .val (.long (1 : Int64)), .second, .unset, .unset, .unset, .unset, .unset, .unset] [(.long (xn / r))])) _
      refine XT.lstore X0.here hx rfl (hb hby d1_26) rfl (l' := #[.val (.long xa), .second, .val (.long xn), .second, .val (.long xn), .second, .val (.long r), .second, .val (.long (0 : Int64)), .second, .val (.long (1 : Int64)), .second, .val (.long (xn / r)), .second, .unset, .unset, .unset, .unset]) rfl ?_
      show Steps p.tables e below (s₁.setTop (mkF m 28 #[.val (.long xa), .second, .val (.long xn), .second, .val (.long xn), .second, .val (.long r), .second, .val (.long (0 : Int64)), .second, .val (.long (1 : Int64)), .second, .val (.long (xn / r)), .second, .unset, .unset, .unset, .unset] [])) _
      refine XT.lload X0.here hx rfl (hb hby d1_28) rfl ?_
      show Steps p.tables e below (s₁.setTop (mkF m 30 #[.val (.long xa), .second, .val (.long xn), .second, .val (.long xn), .second, .val (.long r), .second, .val (.long (0 : Int64)), .second, .val (.long (1 : Int64)), .second, .val (.long (xn / r)), .second, .unset, .unset, .unset, .unset] [(.long xn)])) _
      refine XT.lload X0.here hx rfl (hb hby d1_30) rfl ?_
      show Steps p.tables e below (s₁.setTop (mkF m 32 #[.val (.long xa), .second, .val (.long xn), .second, .val (.long xn), .second, .val (.long r), .second, .val (.long (0 : Int64)), .second, .val (.long (1 : Int64)), .second, .val (.long (xn / r)), .second, .unset, .unset, .unset, .unset] [(.long (xn / r)), (.long xn)])) _
      refine XT.lload X0.here hx rfl (hb hby d1_32) rfl ?_
      show Steps p.tables e below (s₁.setTop (mkF m 34 #[.val (.long xa), .second, .val (.long xn), .second, .val (.long xn), .second, .val (.long r), .second, .val (.long (0 : Int64)), .second, .val (.long (1 : Int64)), .second, .val (.long (xn / r)), .second, .unset, .unset, .unset, .unset] [(.long r), (.long (xn / r)), (.long xn)])) _
      refine XT.lmul X0.here hx rfl (hb hby d1_34) rfl ?_
      show Steps p.tables e below (s₁.setTop (mkF m 35 #[.val (.long xa), .second, .val (.long xn), .second, .val (.long xn), .second, .val (.long r), .second, .val (.long (0 : Int64)), .second, .val (.long (1 : Int64)), .second, .val (.long (xn / r)), .second, .unset, .unset, .unset, .unset] [(.long ((xn / r) * r)), (.long xn)])) _
      refine XT.lsub X0.here hx rfl (hb hby d1_35) rfl ?_
      show Steps p.tables e below (s₁.setTop (mkF m 36 #[.val (.long xa), .second, .val (.long xn), .second, .val (.long xn), .second, .val (.long r), .second, .val (.long (0 : Int64)), .second, .val (.long (1 : Int64)), .second, .val (.long (xn / r)), .second, .unset, .unset, .unset, .unset] [(.long (xn - ((xn / r) * r)))])) _
      refine XT.lstore X0.here hx rfl (hb hby d1_36) rfl (l' := #[.val (.long xa), .second, .val (.long xn), .second, .val (.long xn), .second, .val (.long r), .second, .val (.long (0 : Int64)), .second, .val (.long (1 : Int64)), .second, .val (.long (xn / r)), .second, .val (.long (xn - ((xn / r) * r))), .second, .unset, .unset]) rfl ?_
      show Steps p.tables e below (s₁.setTop (mkF m 38 #[.val (.long xa), .second, .val (.long xn), .second, .val (.long xn), .second, .val (.long r), .second, .val (.long (0 : Int64)), .second, .val (.long (1 : Int64)), .second, .val (.long (xn / r)), .second, .val (.long (xn - ((xn / r) * r))), .second, .unset, .unset] [])) _
      refine XT.lload X0.here hx rfl (hb hby d1_38) rfl ?_
      show Steps p.tables e below (s₁.setTop (mkF m 40 #[.val (.long xa), .second, .val (.long xn), .second, .val (.long xn), .second, .val (.long r), .second, .val (.long (0 : Int64)), .second, .val (.long (1 : Int64)), .second, .val (.long (xn / r)), .second, .val (.long (xn - ((xn / r) * r))), .second, .unset, .unset] [(.long r)])) _
      refine XT.lstore X0.here hx rfl (hb hby d1_40) rfl (l' := #[.val (.long xa), .second, .val (.long xn), .second, .val (.long r), .second, .val (.long r), .second, .val (.long (0 : Int64)), .second, .val (.long (1 : Int64)), .second, .val (.long (xn / r)), .second, .val (.long (xn - ((xn / r) * r))), .second, .unset, .unset]) rfl ?_
      show Steps p.tables e below (s₁.setTop (mkF m 42 #[.val (.long xa), .second, .val (.long xn), .second, .val (.long r), .second, .val (.long r), .second, .val (.long (0 : Int64)), .second, .val (.long (1 : Int64)), .second, .val (.long (xn / r)), .second, .val (.long (xn - ((xn / r) * r))), .second, .unset, .unset] [])) _
      refine XT.lload X0.here hx rfl (hb hby d1_42) rfl ?_
      show Steps p.tables e below (s₁.setTop (mkF m 44 #[.val (.long xa), .second, .val (.long xn), .second, .val (.long r), .second, .val (.long r), .second, .val (.long (0 : Int64)), .second, .val (.long (1 : Int64)), .second, .val (.long (xn / r)), .second, .val (.long (xn - ((xn / r) * r))), .second, .unset, .unset] [(.long (xn - ((xn / r) * r)))])) _
      refine XT.lstore X0.here hx rfl (hb hby d1_44) rfl (l' := #[.val (.long xa), .second, .val (.long xn), .second, .val (.long r), .second, .val (.long (xn - ((xn / r) * r))), .second, .val (.long (0 : Int64)), .second, .val (.long (1 : Int64)), .second, .val (.long (xn / r)), .second, .val (.long (xn - ((xn / r) * r))), .second, .unset, .unset]) rfl ?_
      show Steps p.tables e below (s₁.setTop (mkF m 46 #[.val (.long xa), .second, .val (.long xn), .second, .val (.long r), .second, .val (.long (xn - ((xn / r) * r))), .second, .val (.long (0 : Int64)), .second, .val (.long (1 : Int64)), .second, .val (.long (xn / r)), .second, .val (.long (xn - ((xn / r) * r))), .second, .unset, .unset] [])) _
      refine XT.lload X0.here hx rfl (hb hby d1_46) rfl ?_
      show Steps p.tables e below (s₁.setTop (mkF m 48 #[.val (.long xa), .second, .val (.long xn), .second, .val (.long r), .second, .val (.long (xn - ((xn / r) * r))), .second, .val (.long (0 : Int64)), .second, .val (.long (1 : Int64)), .second, .val (.long (xn / r)), .second, .val (.long (xn - ((xn / r) * r))), .second, .unset, .unset] [(.long (0 : Int64))])) _
      refine XT.lload X0.here hx rfl (hb hby d1_48) rfl ?_
      show Steps p.tables e below (s₁.setTop (mkF m 50 #[.val (.long xa), .second, .val (.long xn), .second, .val (.long r), .second, .val (.long (xn - ((xn / r) * r))), .second, .val (.long (0 : Int64)), .second, .val (.long (1 : Int64)), .second, .val (.long (xn / r)), .second, .val (.long (xn - ((xn / r) * r))), .second, .unset, .unset] [(.long (xn / r)), (.long (0 : Int64))])) _
      refine XT.lload X0.here hx rfl (hb hby d1_50) rfl ?_
      show Steps p.tables e below (s₁.setTop (mkF m 52 #[.val (.long xa), .second, .val (.long xn), .second, .val (.long r), .second, .val (.long (xn - ((xn / r) * r))), .second, .val (.long (0 : Int64)), .second, .val (.long (1 : Int64)), .second, .val (.long (xn / r)), .second, .val (.long (xn - ((xn / r) * r))), .second, .unset, .unset] [(.long (1 : Int64)), (.long (xn / r)), (.long (0 : Int64))])) _
      refine XT.lmul X0.here hx rfl (hb hby d1_52) rfl ?_
      show Steps p.tables e below (s₁.setTop (mkF m 53 #[.val (.long xa), .second, .val (.long xn), .second, .val (.long r), .second, .val (.long (xn - ((xn / r) * r))), .second, .val (.long (0 : Int64)), .second, .val (.long (1 : Int64)), .second, .val (.long (xn / r)), .second, .val (.long (xn - ((xn / r) * r))), .second, .unset, .unset] [(.long ((xn / r) * (1 : Int64))), (.long (0 : Int64))])) _
      refine XT.lsub X0.here hx rfl (hb hby d1_53) rfl ?_
      show Steps p.tables e below (s₁.setTop (mkF m 54 #[.val (.long xa), .second, .val (.long xn), .second, .val (.long r), .second, .val (.long (xn - ((xn / r) * r))), .second, .val (.long (0 : Int64)), .second, .val (.long (1 : Int64)), .second, .val (.long (xn / r)), .second, .val (.long (xn - ((xn / r) * r))), .second, .unset, .unset] [(.long ((0 : Int64) - ((xn / r) * (1 : Int64))))])) _
      refine XT.lstore X0.here hx rfl (hb hby d1_54) rfl (l' := #[.val (.long xa), .second, .val (.long xn), .second, .val (.long r), .second, .val (.long (xn - ((xn / r) * r))), .second, .val (.long (0 : Int64)), .second, .val (.long (1 : Int64)), .second, .val (.long (xn / r)), .second, .val (.long (xn - ((xn / r) * r))), .second, .val (.long ((0 : Int64) - ((xn / r) * (1 : Int64)))), .second]) rfl ?_
      show Steps p.tables e below (s₁.setTop (mkF m 56 #[.val (.long xa), .second, .val (.long xn), .second, .val (.long r), .second, .val (.long (xn - ((xn / r) * r))), .second, .val (.long (0 : Int64)), .second, .val (.long (1 : Int64)), .second, .val (.long (xn / r)), .second, .val (.long (xn - ((xn / r) * r))), .second, .val (.long ((0 : Int64) - ((xn / r) * (1 : Int64)))), .second] [])) _
      refine XT.lload X0.here hx rfl (hb hby d1_56) rfl ?_
      show Steps p.tables e below (s₁.setTop (mkF m 58 #[.val (.long xa), .second, .val (.long xn), .second, .val (.long r), .second, .val (.long (xn - ((xn / r) * r))), .second, .val (.long (0 : Int64)), .second, .val (.long (1 : Int64)), .second, .val (.long (xn / r)), .second, .val (.long (xn - ((xn / r) * r))), .second, .val (.long ((0 : Int64) - ((xn / r) * (1 : Int64)))), .second] [(.long (1 : Int64))])) _
      refine XT.lstore X0.here hx rfl (hb hby d1_58) rfl (l' := #[.val (.long xa), .second, .val (.long xn), .second, .val (.long r), .second, .val (.long (xn - ((xn / r) * r))), .second, .val (.long (1 : Int64)), .second, .val (.long (1 : Int64)), .second, .val (.long (xn / r)), .second, .val (.long (xn - ((xn / r) * r))), .second, .val (.long ((0 : Int64) - ((xn / r) * (1 : Int64)))), .second]) rfl ?_
      show Steps p.tables e below (s₁.setTop (mkF m 60 #[.val (.long xa), .second, .val (.long xn), .second, .val (.long r), .second, .val (.long (xn - ((xn / r) * r))), .second, .val (.long (1 : Int64)), .second, .val (.long (1 : Int64)), .second, .val (.long (xn / r)), .second, .val (.long (xn - ((xn / r) * r))), .second, .val (.long ((0 : Int64) - ((xn / r) * (1 : Int64)))), .second] [])) _
      refine XT.lload X0.here hx rfl (hb hby d1_60) rfl ?_
      show Steps p.tables e below (s₁.setTop (mkF m 62 #[.val (.long xa), .second, .val (.long xn), .second, .val (.long r), .second, .val (.long (xn - ((xn / r) * r))), .second, .val (.long (1 : Int64)), .second, .val (.long (1 : Int64)), .second, .val (.long (xn / r)), .second, .val (.long (xn - ((xn / r) * r))), .second, .val (.long ((0 : Int64) - ((xn / r) * (1 : Int64)))), .second] [(.long ((0 : Int64) - ((xn / r) * (1 : Int64))))])) _
      refine XT.lstore X0.here hx rfl (hb hby d1_62) rfl (l' := #[.val (.long xa), .second, .val (.long xn), .second, .val (.long r), .second, .val (.long (xn - ((xn / r) * r))), .second, .val (.long (1 : Int64)), .second, .val (.long ((0 : Int64) - ((xn / r) * (1 : Int64)))), .second, .val (.long (xn / r)), .second, .val (.long (xn - ((xn / r) * r))), .second, .val (.long ((0 : Int64) - ((xn / r) * (1 : Int64)))), .second]) rfl ?_
      show Steps p.tables e below (s₁.setTop (mkF m 64 #[.val (.long xa), .second, .val (.long xn), .second, .val (.long r), .second, .val (.long (xn - ((xn / r) * r))), .second, .val (.long (1 : Int64)), .second, .val (.long ((0 : Int64) - ((xn / r) * (1 : Int64)))), .second, .val (.long (xn / r)), .second, .val (.long (xn - ((xn / r) * r))), .second, .val (.long ((0 : Int64) - ((xn / r) * (1 : Int64)))), .second] [])) _
      refine XS.goto X0.here hx rfl (pc0 := 64) (pc' := 14) rfl (hb hby d1_64) (by decide) (by decide) ?_
      exact kt
    obtain ⟨hv, hlt⟩ := own_long hn' hi0 h1
    obtain ⟨g, z, tt, y1, y2, y3, y4, hz, hi, hf⟩ := own_loop X0 hx hby xa xn xn.toInt (xa.toInt % xn.toInt) hn' (((xn - ((xn / r) * r))).toInt.toNat + 1) r (xn - ((xn / r) * r)) (1 : Int64) ((0 : Int64) - ((xn / r) * (1 : Int64))) (xn / r) (xn - ((xn / r) * r)) ((0 : Int64) - ((xn / r) * (1 : Int64))) hv (by omega)
    refine own_via (Y' := (s₁.setTop (mkF m 67 #[.val (.long xa), .second, .val (.long xn), .second, .val (.long g), .second, .val (.long z), .second, .val (.long tt), .second, .val (.long y1), .second, .val (.long y2), .second, .val (.long y3), .second, .val (.long y4), .second] []))) (fun t kt => hf t kt) ?_
    refine own_via (Y' := (s₁.setTop (mkF m 71 #[.val (.long xa), .second, .val (.long xn), .second, .val (.long g), .second, .val (.long z), .second, .val (.long tt), .second, .val (.long y1), .second, .val (.long y2), .second, .val (.long y3), .second, .val (.long y4), .second] [(.int (XT.cmpL tt (0 : Int64)))]))) (fun t kt => ?_) ?_
    · show Steps p.tables e below (s₁.setTop (mkF m 67 #[.val (.long xa), .second, .val (.long xn), .second, .val (.long g), .second, .val (.long z), .second, .val (.long tt), .second, .val (.long y1), .second, .val (.long y2), .second, .val (.long y3), .second, .val (.long y4), .second] [])) _
      refine XT.lload X0.here hx rfl (hb hby d1_67) rfl ?_
      show Steps p.tables e below (s₁.setTop (mkF m 69 #[.val (.long xa), .second, .val (.long xn), .second, .val (.long g), .second, .val (.long z), .second, .val (.long tt), .second, .val (.long y1), .second, .val (.long y2), .second, .val (.long y3), .second, .val (.long y4), .second] [(.long tt)])) _
      refine XT.lconstV X0.here hx rfl (0 : Int64) (hb hby d1_69) (by decide) ?_
      show Steps p.tables e below (s₁.setTop (mkF m 70 #[.val (.long xa), .second, .val (.long xn), .second, .val (.long g), .second, .val (.long z), .second, .val (.long tt), .second, .val (.long y1), .second, .val (.long y2), .second, .val (.long y3), .second, .val (.long y4), .second] [(.long (0 : Int64)), (.long tt)])) _
      refine XT.lcmp X0.here hx rfl (hb hby d1_70) rfl ?_
      exact kt
    by_cases h2 : tt < (0 : Int64)
    · obtain ⟨fs, hr, hrun, hended, hW, hsame⟩ := X0.leave (v := (some (.long (tt + xn)))) (fun h => by rw [Bd.returns] at h; cases h)
      refine ⟨_, _, ?_, hrun, hended, _, _, rfl, ?_, ⟨_, rfl⟩, hW, hsame.mono (by decide) (by decide)⟩
      · show Steps p.tables e below (s₁.setTop (mkF m 71 #[.val (.long xa), .second, .val (.long xn), .second, .val (.long g), .second, .val (.long z), .second, .val (.long tt), .second, .val (.long y1), .second, .val (.long y2), .second, .val (.long y3), .second, .val (.long y4), .second] [(.int (XT.cmpL tt (0 : Int64)))])) _
        refine XS.ifNo X0.here hx rfl (hb hby d1_71) rfl (XT.ll_ge_f h2) ?_
        show Steps p.tables e below (s₁.setTop (mkF m 74 #[.val (.long xa), .second, .val (.long xn), .second, .val (.long g), .second, .val (.long z), .second, .val (.long tt), .second, .val (.long y1), .second, .val (.long y2), .second, .val (.long y3), .second, .val (.long y4), .second] [])) _
        refine XT.lload X0.here hx rfl (hb hby d1_74) rfl ?_
        show Steps p.tables e below (s₁.setTop (mkF m 76 #[.val (.long xa), .second, .val (.long xn), .second, .val (.long g), .second, .val (.long z), .second, .val (.long tt), .second, .val (.long y1), .second, .val (.long y2), .second, .val (.long y3), .second, .val (.long y4), .second] [(.long tt)])) _
        refine XT.lloadN X0.here hx rfl (hb hby d1_76) rfl ?_
        show Steps p.tables e below (s₁.setTop (mkF m 77 #[.val (.long xa), .second, .val (.long xn), .second, .val (.long g), .second, .val (.long z), .second, .val (.long tt), .second, .val (.long y1), .second, .val (.long y2), .second, .val (.long y3), .second, .val (.long y4), .second] [(.long xn), (.long tt)])) _
        refine XT.ladd X0.here hx rfl (hb hby d1_77) rfl ?_
        show Steps p.tables e below (s₁.setTop (mkF m 78 #[.val (.long xa), .second, .val (.long xn), .second, .val (.long g), .second, .val (.long z), .second, .val (.long tt), .second, .val (.long y1), .second, .val (.long y2), .second, .val (.long y3), .second, .val (.long y4), .second] [(.long (tt + xn))])) _
        refine XS.goto X0.here hx rfl (pc0 := 78) (pc' := 83) rfl (hb hby d1_78) (by decide) (by decide) ?_
        show Steps p.tables e below (s₁.setTop (mkF m 83 #[.val (.long xa), .second, .val (.long xn), .second, .val (.long g), .second, .val (.long z), .second, .val (.long tt), .second, .val (.long y1), .second, .val (.long y2), .second, .val (.long y3), .second, .val (.long y4), .second] [(.long (tt + xn))])) _
        exact X0.lreturnOut hx Bd.returns (hb hby d1_83) hr
      · exact ⟨_, rfl, own_done' hn hn' hz hi h2, rfl, e0⟩
    · obtain ⟨fs, hr, hrun, hended, hW, hsame⟩ := X0.leave (v := (some (.long tt))) (fun h => by rw [Bd.returns] at h; cases h)
      refine ⟨_, _, ?_, hrun, hended, _, _, rfl, ?_, ⟨_, rfl⟩, hW, hsame.mono (by decide) (by decide)⟩
      · show Steps p.tables e below (s₁.setTop (mkF m 71 #[.val (.long xa), .second, .val (.long xn), .second, .val (.long g), .second, .val (.long z), .second, .val (.long tt), .second, .val (.long y1), .second, .val (.long y2), .second, .val (.long y3), .second, .val (.long y4), .second] [(.int (XT.cmpL tt (0 : Int64)))])) _
        refine XS.ifYes X0.here hx rfl (pc0 := 71) (pc' := 81) rfl (hb hby d1_71) rfl (XT.ll_ge_t h2) (by decide) (by decide) ?_
        show Steps p.tables e below (s₁.setTop (mkF m 81 #[.val (.long xa), .second, .val (.long xn), .second, .val (.long g), .second, .val (.long z), .second, .val (.long tt), .second, .val (.long y1), .second, .val (.long y2), .second, .val (.long y3), .second, .val (.long y4), .second] [])) _
        refine XT.lload X0.here hx rfl (hb hby d1_81) rfl ?_
        show Steps p.tables e below (s₁.setTop (mkF m 83 #[.val (.long xa), .second, .val (.long xn), .second, .val (.long g), .second, .val (.long z), .second, .val (.long tt), .second, .val (.long y1), .second, .val (.long y2), .second, .val (.long y3), .second, .val (.long y4), .second] [(.long tt)])) _
        exact X0.lreturnOut hx Bd.returns (hb hby d1_83) hr
      · exact ⟨_, rfl, own_done hn hz hi h2, rfl, e0⟩
/-- what the law leaves: it returns 1; whatever was written lies in new cells -/
def own_Q0 (n0 : Nat) (v : Option Value) (h : Heap) (L : List Loc) : Prop := v = some (.int (1 : Int32)) ∧ Fr n0 L
theorem ef_0 (m : MethodId) (p1 : Int64) (p2 : Int64) : entryFrame m #[(.long p1), (.long p2)] maxLocals = mkF m 0 #[.val (.long p1), .second, .val (.long p2), .second, .unset, .unset, .unset, .unset, .unset, .unset, .unset, .unset, .unset, .unset, .unset, .unset] [] := by first | (simp [entryFrame, mkF, argsToLocals, Value.category, maxLocals]; done) | rfl
set_option maxRecDepth 65536 in
set_option maxHeartbeats 40000000 in
theorem rm0 (l : Launch) (Z : State) (a0 : Array Value) (hw : ∀ d ∈ tables_1, d.before a0 Z = true) (ws : List Jvm.Cond) (p1 : Int64) (p2 : Int64) (h0 : Heap) (n0 : Nat) :
    MetFree l x (head1 (Jvm.Cond.code x code maxLocals ret :: ws) room_1) (fun a U => a = #[(.long p1), (.long p2)] ∧ Z.Warmed39 U.vm ∧ U.heap = h0) (fun _ _ _ _ _ => True) (fun _ U o U' => ∃ v L, o = .returned v ∧ own_Q0 n0 v U'.heap L ∧ FrameEnd U o U' L room_1.cells room_1.slots) := by
  refine MetFree.of_bodySF (plainFor_of_name pn_PrimesInversePinLaw) hisR ?_
  intro p e s m args below meth c s₁ Bd hml0 hP hK
  obtain ⟨rfl, hZ, hh⟩ := hP
  have hx := Bd.exec
  have hby := Bd.bytes
  have hml : c.maxLocals = 16 := hml0
  have hown : s.vm.findClass "com/example/planwright/planwright/PrimesInversePinLaw" = some m.cls := findClass_of_methodNamed Bd.named
  have hnm := (name_of_methodNamed Bd.named Bd.method).1
  have X0 : Stand p l e room_1 s m #[(.long p1), (.long p2)] below meth c s₁ [] 0 0 := Stand.of_body Bd
  have e0 : s₁.heap = h0 := by rw [← hh, Bd.state]; rfl
  refine own_via (Y' := (s₁.setTop (mkF m 0 #[.val (.long p1), .second, .val (.long p2), .second, .unset, .unset, .unset, .unset, .unset, .unset, .unset, .unset, .unset, .unset, .unset, .unset] []))) (fun t kt => castTop (ef_0 m p1 p2) kt) ?_
  refine own_via (Y' := (s₁.setTop (mkF m 13 #[.val (.long p1), .second, .val (.long p2), .second, .unset, .unset, .unset, .unset, .unset, .unset, .unset, .unset, .unset, .unset, .unset, .unset] [(.long ((2 : Int64) + ((p2 &&& (2147483647 : Int64)) - (p2 &&& (2147483647 : Int64)) / (2147483646 : Int64) * (2147483646 : Int64))))]))) (fun t kt => ?_) ?_
  · show Steps p.tables e below (s₁.setTop (mkF m 0 #[.val (.long p1), .second, .val (.long p2), .second, .unset, .unset, .unset, .unset, .unset, .unset, .unset, .unset, .unset, .unset, .unset, .unset] [])) _
    refine X0.ldc2J hx hown (mvT hZ (hw _ (List.mem_of_getElem? (i := 0) rfl))) (g := (mkF m 0 #[.val (.long p1), .second, .val (.long p2), .second, .unset, .unset, .unset, .unset, .unset, .unset, .unset, .unset, .unset, .unset, .unset, .unset] [])) rfl (hb hby at_0) ?_
    show Steps p.tables e below (s₁.setTop (mkF m 3 #[.val (.long p1), .second, .val (.long p2), .second, .unset, .unset, .unset, .unset, .unset, .unset, .unset, .unset, .unset, .unset, .unset, .unset] [(.long (2 : Int64))])) _
    refine XT.lloadN X0.here hx rfl (hb hby at_3) rfl ?_
    show Steps p.tables e below (s₁.setTop (mkF m 4 #[.val (.long p1), .second, .val (.long p2), .second, .unset, .unset, .unset, .unset, .unset, .unset, .unset, .unset, .unset, .unset, .unset, .unset] [(.long p2), (.long (2 : Int64))])) _
    refine X0.ldc2J hx hown (mvT hZ (hw _ (List.mem_of_getElem? (i := 1) rfl))) (g := (mkF m 4 #[.val (.long p1), .second, .val (.long p2), .second, .unset, .unset, .unset, .unset, .unset, .unset, .unset, .unset, .unset, .unset, .unset, .unset] [(.long p2), (.long (2 : Int64))])) rfl (hb hby at_4) ?_
    show Steps p.tables e below (s₁.setTop (mkF m 7 #[.val (.long p1), .second, .val (.long p2), .second, .unset, .unset, .unset, .unset, .unset, .unset, .unset, .unset, .unset, .unset, .unset, .unset] [(.long (2147483647 : Int64)), (.long p2), (.long (2 : Int64))])) _
    refine XT.land X0.here hx rfl (hb hby at_7) rfl ?_
    show Steps p.tables e below (s₁.setTop (mkF m 8 #[.val (.long p1), .second, .val (.long p2), .second, .unset, .unset, .unset, .unset, .unset, .unset, .unset, .unset, .unset, .unset, .unset, .unset] [(.long (p2 &&& (2147483647 : Int64))), (.long (2 : Int64))])) _
    refine X0.ldc2J hx hown (mvT hZ (hw _ (List.mem_of_getElem? (i := 2) rfl))) (g := (mkF m 8 #[.val (.long p1), .second, .val (.long p2), .second, .unset, .unset, .unset, .unset, .unset, .unset, .unset, .unset, .unset, .unset, .unset, .unset] [(.long (p2 &&& (2147483647 : Int64))), (.long (2 : Int64))])) rfl (hb hby at_8) ?_
    show Steps p.tables e below (s₁.setTop (mkF m 11 #[.val (.long p1), .second, .val (.long p2), .second, .unset, .unset, .unset, .unset, .unset, .unset, .unset, .unset, .unset, .unset, .unset, .unset] [(.long (2147483646 : Int64)), (.long (p2 &&& (2147483647 : Int64))), (.long (2 : Int64))])) _
    refine XT.lrem X0.here hx rfl (hb hby at_11) rfl (by decide) ?_
    show Steps p.tables e below (s₁.setTop (mkF m 12 #[.val (.long p1), .second, .val (.long p2), .second, .unset, .unset, .unset, .unset, .unset, .unset, .unset, .unset, .unset, .unset, .unset, .unset] [(.long ((p2 &&& (2147483647 : Int64)) - (p2 &&& (2147483647 : Int64)) / (2147483646 : Int64) * (2147483646 : Int64))), (.long (2 : Int64))])) _
    refine XT.ladd X0.here hx rfl (hb hby at_12) rfl ?_
    exact kt
  obtain ⟨mm, hmm⟩ : ∃ z, z = ((2 : Int64) + ((p2 &&& (2147483647 : Int64)) - (p2 &&& (2147483647 : Int64)) / (2147483646 : Int64) * (2147483646 : Int64))) := ⟨_, rfl⟩
  rw [← hmm]
  obtain ⟨hm2, hm3⟩ := own_m p2 mm hmm
  refine own_via (Y' := (s₁.setTop (mkF m 20 #[.val (.long p1), .second, .val (.long p2), .second, .val (.long mm), .second, .unset, .unset, .unset, .unset, .unset, .unset, .unset, .unset, .unset, .unset] [(.long (p1 &&& (2147483647 : Int64)))]))) (fun t kt => ?_) ?_
  · show Steps p.tables e below (s₁.setTop (mkF m 13 #[.val (.long p1), .second, .val (.long p2), .second, .unset, .unset, .unset, .unset, .unset, .unset, .unset, .unset, .unset, .unset, .unset, .unset] [(.long mm)])) _
    refine XT.lstore X0.here hx rfl (hb hby at_13) rfl (l' := #[.val (.long p1), .second, .val (.long p2), .second, .val (.long mm), .second, .unset, .unset, .unset, .unset, .unset, .unset, .unset, .unset, .unset, .unset]) rfl ?_
    show Steps p.tables e below (s₁.setTop (mkF m 15 #[.val (.long p1), .second, .val (.long p2), .second, .val (.long mm), .second, .unset, .unset, .unset, .unset, .unset, .unset, .unset, .unset, .unset, .unset] [])) _
    refine XT.lloadN X0.here hx rfl (hb hby at_15) rfl ?_
    show Steps p.tables e below (s₁.setTop (mkF m 16 #[.val (.long p1), .second, .val (.long p2), .second, .val (.long mm), .second, .unset, .unset, .unset, .unset, .unset, .unset, .unset, .unset, .unset, .unset] [(.long p1)])) _
    refine X0.ldc2J hx hown (mvT hZ (hw _ (List.mem_of_getElem? (i := 1) rfl))) (g := (mkF m 16 #[.val (.long p1), .second, .val (.long p2), .second, .val (.long mm), .second, .unset, .unset, .unset, .unset, .unset, .unset, .unset, .unset, .unset, .unset] [(.long p1)])) rfl (hb hby at_16) ?_
    show Steps p.tables e below (s₁.setTop (mkF m 19 #[.val (.long p1), .second, .val (.long p2), .second, .val (.long mm), .second, .unset, .unset, .unset, .unset, .unset, .unset, .unset, .unset, .unset, .unset] [(.long (2147483647 : Int64)), (.long p1)])) _
    refine XT.land X0.here hx rfl (hb hby at_19) rfl ?_
    exact kt
  obtain ⟨aa, haa⟩ : ∃ z, z = (p1 &&& (2147483647 : Int64)) := ⟨_, rfl⟩
  rw [← haa]
  obtain ⟨ha1, ha2⟩ := own_a p1 aa haa
  refine own_via (Y' := (s₁.setTop (mkF m 26 #[.val (.long p1), .second, .val (.long p2), .second, .val (.long mm), .second, .val (.long aa), .second, .unset, .unset, .unset, .unset, .unset, .unset, .unset, .unset] [(.long mm), (.long aa)]))) (fun t kt => ?_) ?_
  · show Steps p.tables e below (s₁.setTop (mkF m 20 #[.val (.long p1), .second, .val (.long p2), .second, .val (.long mm), .second, .unset, .unset, .unset, .unset, .unset, .unset, .unset, .unset, .unset, .unset] [(.long aa)])) _
    refine XT.lstore X0.here hx rfl (hb hby at_20) rfl (l' := #[.val (.long p1), .second, .val (.long p2), .second, .val (.long mm), .second, .val (.long aa), .second, .unset, .unset, .unset, .unset, .unset, .unset, .unset, .unset]) rfl ?_
    show Steps p.tables e below (s₁.setTop (mkF m 22 #[.val (.long p1), .second, .val (.long p2), .second, .val (.long mm), .second, .val (.long aa), .second, .unset, .unset, .unset, .unset, .unset, .unset, .unset, .unset] [])) _
    refine XT.lload X0.here hx rfl (hb hby at_22) rfl ?_
    show Steps p.tables e below (s₁.setTop (mkF m 24 #[.val (.long p1), .second, .val (.long p2), .second, .val (.long mm), .second, .val (.long aa), .second, .unset, .unset, .unset, .unset, .unset, .unset, .unset, .unset] [(.long aa)])) _
    refine XT.lload X0.here hx rfl (hb hby at_24) rfl ?_
    exact kt
  obtain ⟨_, _, ⟨T1, L1, k1, n1⟩, -, X1, ⟨Lc1, hQ1, l1, y1, z1⟩, st1⟩ := Jvm.LawKit.callS X0 hx (y := (⟨"com/example/planwright/planwright/Primes", "inverse", "(JJ)J"⟩ : MethodName)) hown (mvT hZ (hw _ (List.mem_of_getElem? (i := 3) rfl))) (mvT hZ (hw _ (List.mem_of_getElem? (i := 4) rfl))) (mvT hZ (hw _ (List.mem_of_getElem? (i := 5) rfl))) (mvT hZ (hw _ (List.mem_of_getElem? (i := 6) rfl))) (by decide) (backOf (W := 0) (rm1 l Z a0 hw [] aa mm h0 ha1 hm2 hm3) hZ (hw _ (List.mem_of_getElem? (i := 6) rfl)) (hw _ (List.mem_of_getElem? (i := 5) rfl)) (by decide) (by decide)) (g := (mkF m 26 #[.val (.long p1), .second, .val (.long p2), .second, .val (.long mm), .second, .val (.long aa), .second, .unset, .unset, .unset, .unset, .unset, .unset, .unset, .unset] [(.long mm), (.long aa)])) rfl (by rw [hml]; rfl) (argsL := [(.long aa), (.long mm)]) (rest := []) (lenOf pd_JJ_J rfl) rfl (by show 2 * 0 + _ ≤ _; exact Nat.le_of_eq rfl) (hb hby at_26) (fun _ _ => ⟨rfl, e0, (by decide : 0 + 0 ≤ _), (by decide : 0 + 0 ≤ _)⟩)
  dsimp only [Pt.U, Pt.locs, Pt.cells, Pt.slots] at X1 l1 y1 z1 st1 hQ1
  subst l1 y1 z1
  obtain ⟨xx, rfl, hP, rfl, e1⟩ := hQ1
  replace X1 : Stand p l e room_1 s m #[(.long p1), (.long p2)] below meth c T1 [] 0 0 := X1
  refine own_via (Y' := (T1.setTop (mkF m 29 #[.val (.long p1), .second, .val (.long p2), .second, .val (.long mm), .second, .val (.long aa), .second, .unset, .unset, .unset, .unset, .unset, .unset, .unset, .unset] [(.long xx)]))) (fun t kt => st1 _ kt) ?_
  have hx0 := hP.1
  have hx1 := hP.2.1
  refine own_via (Y' := (T1.setTop (mkF m 36 #[.val (.long p1), .second, .val (.long p2), .second, .val (.long mm), .second, .val (.long aa), .second, .val (.long xx), .second, .unset, .unset, .unset, .unset, .unset, .unset] [(.long (xx - xx / mm * mm))]))) (fun t kt => ?_) ?_
  · show Steps p.tables e below (T1.setTop (mkF m 29 #[.val (.long p1), .second, .val (.long p2), .second, .val (.long mm), .second, .val (.long aa), .second, .unset, .unset, .unset, .unset, .unset, .unset, .unset, .unset] [(.long xx)])) _
    refine XT.lstore X1.here hx rfl (hb hby at_29) rfl (l' := #[.val (.long p1), .second, .val (.long p2), .second, .val (.long mm), .second, .val (.long aa), .second, .val (.long xx), .second, .unset, .unset, .unset, .unset, .unset, .unset]) rfl ?_
    show Steps p.tables e below (T1.setTop (mkF m 31 #[.val (.long p1), .second, .val (.long p2), .second, .val (.long mm), .second, .val (.long aa), .second, .val (.long xx), .second, .unset, .unset, .unset, .unset, .unset, .unset] [])) _
    refine XT.lload X1.here hx rfl (hb hby at_31) rfl ?_
    show Steps p.tables e below (T1.setTop (mkF m 33 #[.val (.long p1), .second, .val (.long p2), .second, .val (.long mm), .second, .val (.long aa), .second, .val (.long xx), .second, .unset, .unset, .unset, .unset, .unset, .unset] [(.long xx)])) _
    refine XT.lload X1.here hx rfl (hb hby at_33) rfl ?_
    show Steps p.tables e below (T1.setTop (mkF m 35 #[.val (.long p1), .second, .val (.long p2), .second, .val (.long mm), .second, .val (.long aa), .second, .val (.long xx), .second, .unset, .unset, .unset, .unset, .unset, .unset] [(.long mm), (.long xx)])) _
    refine XT.lrem X1.here hx rfl (hb hby at_35) rfl (own_nz (by omega)) ?_
    exact kt
  rw [show (xx - xx / mm * mm) = xx from own_same hx0 hx1 rfl]
  have hxn : ¬ xx < 0 := by rw [Int64.lt_iff_toInt_lt, own_zero]; omega
  refine own_via (Y' := (T1.setTop (mkF m 63 #[.val (.long p1), .second, .val (.long p2), .second, .val (.long mm), .second, .val (.long aa), .second, .val (.long xx), .second, .val (.long xx), .second, .unset, .unset, .unset, .unset] [(.long (((aa - aa / mm * mm) * xx) - ((aa - aa / mm * mm) * xx) / mm * mm))]))) (fun t kt => ?_) ?_
  · show Steps p.tables e below (T1.setTop (mkF m 36 #[.val (.long p1), .second, .val (.long p2), .second, .val (.long mm), .second, .val (.long aa), .second, .val (.long xx), .second, .unset, .unset, .unset, .unset, .unset, .unset] [(.long xx)])) _
    refine XT.lstore X1.here hx rfl (hb hby at_36) rfl (l' := #[.val (.long p1), .second, .val (.long p2), .second, .val (.long mm), .second, .val (.long aa), .second, .val (.long xx), .second, .val (.long xx), .second, .unset, .unset, .unset, .unset]) rfl ?_
    show Steps p.tables e below (T1.setTop (mkF m 38 #[.val (.long p1), .second, .val (.long p2), .second, .val (.long mm), .second, .val (.long aa), .second, .val (.long xx), .second, .val (.long xx), .second, .unset, .unset, .unset, .unset] [])) _
    refine XT.lload X1.here hx rfl (hb hby at_38) rfl ?_
    show Steps p.tables e below (T1.setTop (mkF m 40 #[.val (.long p1), .second, .val (.long p2), .second, .val (.long mm), .second, .val (.long aa), .second, .val (.long xx), .second, .val (.long xx), .second, .unset, .unset, .unset, .unset] [(.long xx)])) _
    refine XT.lconstV X1.here hx rfl (0 : Int64) (hb hby at_40) (by decide) ?_
    show Steps p.tables e below (T1.setTop (mkF m 41 #[.val (.long p1), .second, .val (.long p2), .second, .val (.long mm), .second, .val (.long aa), .second, .val (.long xx), .second, .val (.long xx), .second, .unset, .unset, .unset, .unset] [(.long (0 : Int64)), (.long xx)])) _
    refine XT.lcmp X1.here hx rfl (hb hby at_41) rfl ?_
    show Steps p.tables e below (T1.setTop (mkF m 42 #[.val (.long p1), .second, .val (.long p2), .second, .val (.long mm), .second, .val (.long aa), .second, .val (.long xx), .second, .val (.long xx), .second, .unset, .unset, .unset, .unset] [(.int (XT.cmpL xx (0 : Int64)))])) _
    refine XS.ifYes X1.here hx rfl (pc0 := 42) (pc' := 52) rfl (hb hby at_42) rfl (XT.ll_ge_t hxn) (by decide) (by decide) ?_
    show Steps p.tables e below (T1.setTop (mkF m 52 #[.val (.long p1), .second, .val (.long p2), .second, .val (.long mm), .second, .val (.long aa), .second, .val (.long xx), .second, .val (.long xx), .second, .unset, .unset, .unset, .unset] [])) _
    refine XT.lload X1.here hx rfl (hb hby at_52) rfl ?_
    show Steps p.tables e below (T1.setTop (mkF m 54 #[.val (.long p1), .second, .val (.long p2), .second, .val (.long mm), .second, .val (.long aa), .second, .val (.long xx), .second, .val (.long xx), .second, .unset, .unset, .unset, .unset] [(.long aa)])) _
    refine XT.lload X1.here hx rfl (hb hby at_54) rfl ?_
    show Steps p.tables e below (T1.setTop (mkF m 56 #[.val (.long p1), .second, .val (.long p2), .second, .val (.long mm), .second, .val (.long aa), .second, .val (.long xx), .second, .val (.long xx), .second, .unset, .unset, .unset, .unset] [(.long mm), (.long aa)])) _
    refine XT.lrem X1.here hx rfl (hb hby at_56) rfl (own_nz (by omega)) ?_
    show Steps p.tables e below (T1.setTop (mkF m 57 #[.val (.long p1), .second, .val (.long p2), .second, .val (.long mm), .second, .val (.long aa), .second, .val (.long xx), .second, .val (.long xx), .second, .unset, .unset, .unset, .unset] [(.long (aa - aa / mm * mm))])) _
    refine XT.lload X1.here hx rfl (hb hby at_57) rfl ?_
    show Steps p.tables e below (T1.setTop (mkF m 59 #[.val (.long p1), .second, .val (.long p2), .second, .val (.long mm), .second, .val (.long aa), .second, .val (.long xx), .second, .val (.long xx), .second, .unset, .unset, .unset, .unset] [(.long xx), (.long (aa - aa / mm * mm))])) _
    refine XT.lmul X1.here hx rfl (hb hby at_59) rfl ?_
    show Steps p.tables e below (T1.setTop (mkF m 60 #[.val (.long p1), .second, .val (.long p2), .second, .val (.long mm), .second, .val (.long aa), .second, .val (.long xx), .second, .val (.long xx), .second, .unset, .unset, .unset, .unset] [(.long ((aa - aa / mm * mm) * xx))])) _
    refine XT.lload X1.here hx rfl (hb hby at_60) rfl ?_
    show Steps p.tables e below (T1.setTop (mkF m 62 #[.val (.long p1), .second, .val (.long p2), .second, .val (.long mm), .second, .val (.long aa), .second, .val (.long xx), .second, .val (.long xx), .second, .unset, .unset, .unset, .unset] [(.long mm), (.long ((aa - aa / mm * mm) * xx))])) _
    refine XT.lrem X1.here hx rfl (hb hby at_62) rfl (own_nz (by omega)) ?_
    exact kt
  obtain ⟨rr, hrr⟩ : ∃ z, z = (((aa - aa / mm * mm) * xx) - ((aa - aa / mm * mm) * xx) / mm * mm) := ⟨_, rfl⟩
  rw [← hrr]
  have hR := own_res hm2 hP (own_r ha1 hm2 hm3 hx0 hx1 hrr)
  refine own_via (Y' := (T1.setTop (mkF m 69 #[.val (.long p1), .second, .val (.long p2), .second, .val (.long mm), .second, .val (.long aa), .second, .val (.long xx), .second, .val (.long xx), .second, .val (.long rr), .second, .unset, .unset] [(.int (XT.cmpL rr (1 : Int64)))]))) (fun t kt => ?_) ?_
  · show Steps p.tables e below (T1.setTop (mkF m 63 #[.val (.long p1), .second, .val (.long p2), .second, .val (.long mm), .second, .val (.long aa), .second, .val (.long xx), .second, .val (.long xx), .second, .unset, .unset, .unset, .unset] [(.long rr)])) _
    refine XT.lstore X1.here hx rfl (hb hby at_63) rfl (l' := #[.val (.long p1), .second, .val (.long p2), .second, .val (.long mm), .second, .val (.long aa), .second, .val (.long xx), .second, .val (.long xx), .second, .val (.long rr), .second, .unset, .unset]) rfl ?_
    show Steps p.tables e below (T1.setTop (mkF m 65 #[.val (.long p1), .second, .val (.long p2), .second, .val (.long mm), .second, .val (.long aa), .second, .val (.long xx), .second, .val (.long xx), .second, .val (.long rr), .second, .unset, .unset] [])) _
    refine XT.lload X1.here hx rfl (hb hby at_65) rfl ?_
    show Steps p.tables e below (T1.setTop (mkF m 67 #[.val (.long p1), .second, .val (.long p2), .second, .val (.long mm), .second, .val (.long aa), .second, .val (.long xx), .second, .val (.long xx), .second, .val (.long rr), .second, .unset, .unset] [(.long rr)])) _
    refine XT.lconstV X1.here hx rfl (1 : Int64) (hb hby at_67) (by decide) ?_
    show Steps p.tables e below (T1.setTop (mkF m 68 #[.val (.long p1), .second, .val (.long p2), .second, .val (.long mm), .second, .val (.long aa), .second, .val (.long xx), .second, .val (.long xx), .second, .val (.long rr), .second, .unset, .unset] [(.long (1 : Int64)), (.long rr)])) _
    refine XT.lcmp X1.here hx rfl (hb hby at_68) rfl ?_
    exact kt
  by_cases h1 : rr = (1 : Int64)
  · obtain ⟨fs, hr, hrun, hended, hW, hsame⟩ := X1.leave (v := (some (.int (1 : Int32)))) (fun h => by rw [Bd.returns] at h; cases h)
    refine ⟨_, _, ?_, hrun, hended, _, _, rfl, ?_, ⟨_, rfl⟩, hW, hsame.mono (by decide) (by decide)⟩
    · show Steps p.tables e below (T1.setTop (mkF m 69 #[.val (.long p1), .second, .val (.long p2), .second, .val (.long mm), .second, .val (.long aa), .second, .val (.long xx), .second, .val (.long xx), .second, .val (.long rr), .second, .unset, .unset] [(.int (XT.cmpL rr (1 : Int64)))])) _
      refine XS.ifNo X1.here hx rfl (hb hby at_69) rfl (XT.ll_ne_f h1) ?_
      show Steps p.tables e below (T1.setTop (mkF m 72 #[.val (.long p1), .second, .val (.long p2), .second, .val (.long mm), .second, .val (.long aa), .second, .val (.long xx), .second, .val (.long xx), .second, .val (.long rr), .second, .unset, .unset] [])) _
      refine XT.lload X1.here hx rfl (hb hby at_72) rfl ?_
      show Steps p.tables e below (T1.setTop (mkF m 74 #[.val (.long p1), .second, .val (.long p2), .second, .val (.long mm), .second, .val (.long aa), .second, .val (.long xx), .second, .val (.long xx), .second, .val (.long rr), .second, .unset, .unset] [(.long xx)])) _
      refine XT.lconstV X1.here hx rfl (0 : Int64) (hb hby at_74) (by decide) ?_
      show Steps p.tables e below (T1.setTop (mkF m 75 #[.val (.long p1), .second, .val (.long p2), .second, .val (.long mm), .second, .val (.long aa), .second, .val (.long xx), .second, .val (.long xx), .second, .val (.long rr), .second, .unset, .unset] [(.long (0 : Int64)), (.long xx)])) _
      refine XT.lcmp X1.here hx rfl (hb hby at_75) rfl ?_
      show Steps p.tables e below (T1.setTop (mkF m 76 #[.val (.long p1), .second, .val (.long p2), .second, .val (.long mm), .second, .val (.long aa), .second, .val (.long xx), .second, .val (.long xx), .second, .val (.long rr), .second, .unset, .unset] [(.int (XT.cmpL xx (0 : Int64)))])) _
      refine XS.ifNo X1.here hx rfl (hb hby at_76) rfl (XT.ll_lt_f hxn) ?_
      show Steps p.tables e below (T1.setTop (mkF m 79 #[.val (.long p1), .second, .val (.long p2), .second, .val (.long mm), .second, .val (.long aa), .second, .val (.long xx), .second, .val (.long xx), .second, .val (.long rr), .second, .unset, .unset] [])) _
      refine XT.lload X1.here hx rfl (hb hby at_79) rfl ?_
      show Steps p.tables e below (T1.setTop (mkF m 81 #[.val (.long p1), .second, .val (.long p2), .second, .val (.long mm), .second, .val (.long aa), .second, .val (.long xx), .second, .val (.long xx), .second, .val (.long rr), .second, .unset, .unset] [(.long xx)])) _
      refine XT.lload X1.here hx rfl (hb hby at_81) rfl ?_
      show Steps p.tables e below (T1.setTop (mkF m 83 #[.val (.long p1), .second, .val (.long p2), .second, .val (.long mm), .second, .val (.long aa), .second, .val (.long xx), .second, .val (.long xx), .second, .val (.long rr), .second, .unset, .unset] [(.long mm), (.long xx)])) _
      refine XT.lcmp X1.here hx rfl (hb hby at_83) rfl ?_
      show Steps p.tables e below (T1.setTop (mkF m 84 #[.val (.long p1), .second, .val (.long p2), .second, .val (.long mm), .second, .val (.long aa), .second, .val (.long xx), .second, .val (.long xx), .second, .val (.long rr), .second, .unset, .unset] [(.int (XT.cmpL xx mm))])) _
      refine XS.ifNo X1.here hx rfl (hb hby at_84) rfl (XT.ll_ge_f (Int64.lt_iff_toInt_lt.mpr hx1)) ?_
      show Steps p.tables e below (T1.setTop (mkF m 87 #[.val (.long p1), .second, .val (.long p2), .second, .val (.long mm), .second, .val (.long aa), .second, .val (.long xx), .second, .val (.long xx), .second, .val (.long rr), .second, .unset, .unset] [])) _
      refine XT.iconstV X1.here hx rfl (1 : Int32) (hb hby at_87) (by decide) ?_
      show Steps p.tables e below (T1.setTop (mkF m 88 #[.val (.long p1), .second, .val (.long p2), .second, .val (.long mm), .second, .val (.long aa), .second, .val (.long xx), .second, .val (.long xx), .second, .val (.long rr), .second, .unset, .unset] [(.int (1 : Int32))])) _
      refine XS.goto X1.here hx rfl (pc0 := 88) (pc' := 92) rfl (hb hby at_88) (by decide) (by decide) ?_
      show Steps p.tables e below (T1.setTop (mkF m 92 #[.val (.long p1), .second, .val (.long p2), .second, .val (.long mm), .second, .val (.long aa), .second, .val (.long xx), .second, .val (.long xx), .second, .val (.long rr), .second, .unset, .unset] [(.int (1 : Int32))])) _
      exact retN X1 hx (t := .boolean) Bd.returns (by simp) (hb hby at_92) hr
    · exact ⟨rfl, Fr.nil n0⟩
  · refine own_via (Y' := (T1.setTop (mkF m 97 #[.val (.long p1), .second, .val (.long p2), .second, .val (.long mm), .second, .val (.long aa), .second, .val (.long xx), .second, .val (.long xx), .second, .val (.long rr), .second, .unset, .unset] [(.int (XT.cmpL rr (0 : Int64)))]))) (fun t kt => ?_) ?_
    · show Steps p.tables e below (T1.setTop (mkF m 69 #[.val (.long p1), .second, .val (.long p2), .second, .val (.long mm), .second, .val (.long aa), .second, .val (.long xx), .second, .val (.long xx), .second, .val (.long rr), .second, .unset, .unset] [(.int (XT.cmpL rr (1 : Int64)))])) _
      refine XS.ifYes X1.here hx rfl (pc0 := 69) (pc' := 93) rfl (hb hby at_69) rfl (XT.ll_ne_t h1) (by decide) (by decide) ?_
      show Steps p.tables e below (T1.setTop (mkF m 93 #[.val (.long p1), .second, .val (.long p2), .second, .val (.long mm), .second, .val (.long aa), .second, .val (.long xx), .second, .val (.long xx), .second, .val (.long rr), .second, .unset, .unset] [])) _
      refine XT.lload X1.here hx rfl (hb hby at_93) rfl ?_
      show Steps p.tables e below (T1.setTop (mkF m 95 #[.val (.long p1), .second, .val (.long p2), .second, .val (.long mm), .second, .val (.long aa), .second, .val (.long xx), .second, .val (.long xx), .second, .val (.long rr), .second, .unset, .unset] [(.long rr)])) _
      refine XT.lconstV X1.here hx rfl (0 : Int64) (hb hby at_95) (by decide) ?_
      show Steps p.tables e below (T1.setTop (mkF m 96 #[.val (.long p1), .second, .val (.long p2), .second, .val (.long mm), .second, .val (.long aa), .second, .val (.long xx), .second, .val (.long xx), .second, .val (.long rr), .second, .unset, .unset] [(.long (0 : Int64)), (.long rr)])) _
      refine XT.lcmp X1.here hx rfl (hb hby at_96) rfl ?_
      exact kt
    obtain ⟨gg, hgg, r2⟩ : ∃ gg : Int64, (1 < gg.toInt ∧ gg.toInt ∣ aa.toInt ∧ gg.toInt ∣ mm.toInt) ∧ ∀ t, Steps p.tables e below (T1.setTop (mkF m 107 #[.val (.long p1), .second, .val (.long p2), .second, .val (.long mm), .second, .val (.long aa), .second, .val (.long xx), .second, .val (.long xx), .second, .val (.long rr), .second, .unset, .unset] [(.long gg)])) t → Steps p.tables e below (T1.setTop (mkF m 97 #[.val (.long p1), .second, .val (.long p2), .second, .val (.long mm), .second, .val (.long aa), .second, .val (.long xx), .second, .val (.long xx), .second, .val (.long rr), .second, .unset, .unset] [(.int (XT.cmpL rr (0 : Int64)))])) t := by
      by_cases h2 : rr = (0 : Int64)
      · refine own_via2 (Y' := (T1.setTop (mkF m 107 #[.val (.long p1), .second, .val (.long p2), .second, .val (.long mm), .second, .val (.long aa), .second, .val (.long xx), .second, .val (.long xx), .second, .val (.long rr), .second, .unset, .unset] [(.long mm)]))) (fun t kt => ?_) ?_
        · show Steps p.tables e below (T1.setTop (mkF m 97 #[.val (.long p1), .second, .val (.long p2), .second, .val (.long mm), .second, .val (.long aa), .second, .val (.long xx), .second, .val (.long xx), .second, .val (.long rr), .second, .unset, .unset] [(.int (XT.cmpL rr (0 : Int64)))])) _
          refine XS.ifNo X1.here hx rfl (hb hby at_97) rfl (XT.ll_ne_f h2) ?_
          show Steps p.tables e below (T1.setTop (mkF m 100 #[.val (.long p1), .second, .val (.long p2), .second, .val (.long mm), .second, .val (.long aa), .second, .val (.long xx), .second, .val (.long xx), .second, .val (.long rr), .second, .unset, .unset] [])) _
          refine XT.lload X1.here hx rfl (hb hby at_100) rfl ?_
          show Steps p.tables e below (T1.setTop (mkF m 102 #[.val (.long p1), .second, .val (.long p2), .second, .val (.long mm), .second, .val (.long aa), .second, .val (.long xx), .second, .val (.long xx), .second, .val (.long rr), .second, .unset, .unset] [(.long mm)])) _
          refine XS.goto X1.here hx rfl (pc0 := 102) (pc' := 107) rfl (hb hby at_102) (by decide) (by decide) ?_
          exact kt
        exact ⟨mm, own_gm hm2 hR h2, fun t kt => kt⟩
      · refine own_via2 (Y' := (T1.setTop (mkF m 107 #[.val (.long p1), .second, .val (.long p2), .second, .val (.long mm), .second, .val (.long aa), .second, .val (.long xx), .second, .val (.long xx), .second, .val (.long rr), .second, .unset, .unset] [(.long rr)]))) (fun t kt => ?_) ?_
        · show Steps p.tables e below (T1.setTop (mkF m 97 #[.val (.long p1), .second, .val (.long p2), .second, .val (.long mm), .second, .val (.long aa), .second, .val (.long xx), .second, .val (.long xx), .second, .val (.long rr), .second, .unset, .unset] [(.int (XT.cmpL rr (0 : Int64)))])) _
          refine XS.ifYes X1.here hx rfl (pc0 := 97) (pc' := 105) rfl (hb hby at_97) rfl (XT.ll_ne_t h2) (by decide) (by decide) ?_
          show Steps p.tables e below (T1.setTop (mkF m 105 #[.val (.long p1), .second, .val (.long p2), .second, .val (.long mm), .second, .val (.long aa), .second, .val (.long xx), .second, .val (.long xx), .second, .val (.long rr), .second, .unset, .unset] [])) _
          refine XT.lload X1.here hx rfl (hb hby at_105) rfl ?_
          exact kt
        exact ⟨rr, own_gr hR h1 h2, fun t kt => kt⟩
    refine own_via (Y' := (T1.setTop (mkF m 107 #[.val (.long p1), .second, .val (.long p2), .second, .val (.long mm), .second, .val (.long aa), .second, .val (.long xx), .second, .val (.long xx), .second, .val (.long rr), .second, .unset, .unset] [(.long gg)]))) (fun t kt => r2 t kt) ?_
    obtain ⟨fs, hr, hrun, hended, hW, hsame⟩ := X1.leave (v := (some (.int (1 : Int32)))) (fun h => by rw [Bd.returns] at h; cases h)
    refine ⟨_, _, ?_, hrun, hended, _, _, rfl, ?_, ⟨_, rfl⟩, hW, hsame.mono (by decide) (by decide)⟩
    · show Steps p.tables e below (T1.setTop (mkF m 107 #[.val (.long p1), .second, .val (.long p2), .second, .val (.long mm), .second, .val (.long aa), .second, .val (.long xx), .second, .val (.long xx), .second, .val (.long rr), .second, .unset, .unset] [(.long gg)])) _
      refine XT.lstore X1.here hx rfl (hb hby at_107) rfl (l' := #[.val (.long p1), .second, .val (.long p2), .second, .val (.long mm), .second, .val (.long aa), .second, .val (.long xx), .second, .val (.long xx), .second, .val (.long rr), .second, .val (.long gg), .second]) rfl ?_
      show Steps p.tables e below (T1.setTop (mkF m 109 #[.val (.long p1), .second, .val (.long p2), .second, .val (.long mm), .second, .val (.long aa), .second, .val (.long xx), .second, .val (.long xx), .second, .val (.long rr), .second, .val (.long gg), .second] [])) _
      refine XT.lload X1.here hx rfl (hb hby at_109) rfl ?_
      show Steps p.tables e below (T1.setTop (mkF m 111 #[.val (.long p1), .second, .val (.long p2), .second, .val (.long mm), .second, .val (.long aa), .second, .val (.long xx), .second, .val (.long xx), .second, .val (.long rr), .second, .val (.long gg), .second] [(.long gg)])) _
      refine XT.lconstV X1.here hx rfl (1 : Int64) (hb hby at_111) (by decide) ?_
      show Steps p.tables e below (T1.setTop (mkF m 112 #[.val (.long p1), .second, .val (.long p2), .second, .val (.long mm), .second, .val (.long aa), .second, .val (.long xx), .second, .val (.long xx), .second, .val (.long rr), .second, .val (.long gg), .second] [(.long (1 : Int64)), (.long gg)])) _
      refine XT.lcmp X1.here hx rfl (hb hby at_112) rfl ?_
      show Steps p.tables e below (T1.setTop (mkF m 113 #[.val (.long p1), .second, .val (.long p2), .second, .val (.long mm), .second, .val (.long aa), .second, .val (.long xx), .second, .val (.long xx), .second, .val (.long rr), .second, .val (.long gg), .second] [(.int (XT.cmpL gg (1 : Int64)))])) _
      refine XS.ifNo X1.here hx rfl (hb hby at_113) rfl (XT.ll_le_f (by rw [Int64.lt_iff_toInt_lt, own_unit]; exact hgg.1)) ?_
      show Steps p.tables e below (T1.setTop (mkF m 116 #[.val (.long p1), .second, .val (.long p2), .second, .val (.long mm), .second, .val (.long aa), .second, .val (.long xx), .second, .val (.long xx), .second, .val (.long rr), .second, .val (.long gg), .second] [])) _
      refine XT.lload X1.here hx rfl (hb hby at_116) rfl ?_
      show Steps p.tables e below (T1.setTop (mkF m 118 #[.val (.long p1), .second, .val (.long p2), .second, .val (.long mm), .second, .val (.long aa), .second, .val (.long xx), .second, .val (.long xx), .second, .val (.long rr), .second, .val (.long gg), .second] [(.long aa)])) _
      refine XT.lload X1.here hx rfl (hb hby at_118) rfl ?_
      show Steps p.tables e below (T1.setTop (mkF m 120 #[.val (.long p1), .second, .val (.long p2), .second, .val (.long mm), .second, .val (.long aa), .second, .val (.long xx), .second, .val (.long xx), .second, .val (.long rr), .second, .val (.long gg), .second] [(.long gg), (.long aa)])) _
      refine XT.lrem X1.here hx rfl (hb hby at_120) rfl (own_nz hgg.1) ?_
      show Steps p.tables e below (T1.setTop (mkF m 121 #[.val (.long p1), .second, .val (.long p2), .second, .val (.long mm), .second, .val (.long aa), .second, .val (.long xx), .second, .val (.long xx), .second, .val (.long rr), .second, .val (.long gg), .second] [(.long (aa - aa / gg * gg))])) _
      refine XT.lconstV X1.here hx rfl (0 : Int64) (hb hby at_121) (by decide) ?_
      show Steps p.tables e below (T1.setTop (mkF m 122 #[.val (.long p1), .second, .val (.long p2), .second, .val (.long mm), .second, .val (.long aa), .second, .val (.long xx), .second, .val (.long xx), .second, .val (.long rr), .second, .val (.long gg), .second] [(.long (0 : Int64)), (.long (aa - aa / gg * gg))])) _
      refine XT.lcmp X1.here hx rfl (hb hby at_122) rfl ?_
      show Steps p.tables e below (T1.setTop (mkF m 123 #[.val (.long p1), .second, .val (.long p2), .second, .val (.long mm), .second, .val (.long aa), .second, .val (.long xx), .second, .val (.long xx), .second, .val (.long rr), .second, .val (.long gg), .second] [(.int (XT.cmpL (aa - aa / gg * gg) (0 : Int64)))])) _
      refine XS.ifNo X1.here hx rfl (hb hby at_123) rfl (XT.ll_ne_f (own_rem0 ha1 hgg.2.1)) ?_
      show Steps p.tables e below (T1.setTop (mkF m 126 #[.val (.long p1), .second, .val (.long p2), .second, .val (.long mm), .second, .val (.long aa), .second, .val (.long xx), .second, .val (.long xx), .second, .val (.long rr), .second, .val (.long gg), .second] [])) _
      refine XT.lload X1.here hx rfl (hb hby at_126) rfl ?_
      show Steps p.tables e below (T1.setTop (mkF m 128 #[.val (.long p1), .second, .val (.long p2), .second, .val (.long mm), .second, .val (.long aa), .second, .val (.long xx), .second, .val (.long xx), .second, .val (.long rr), .second, .val (.long gg), .second] [(.long mm)])) _
      refine XT.lload X1.here hx rfl (hb hby at_128) rfl ?_
      show Steps p.tables e below (T1.setTop (mkF m 130 #[.val (.long p1), .second, .val (.long p2), .second, .val (.long mm), .second, .val (.long aa), .second, .val (.long xx), .second, .val (.long xx), .second, .val (.long rr), .second, .val (.long gg), .second] [(.long gg), (.long mm)])) _
      refine XT.lrem X1.here hx rfl (hb hby at_130) rfl (own_nz hgg.1) ?_
      show Steps p.tables e below (T1.setTop (mkF m 131 #[.val (.long p1), .second, .val (.long p2), .second, .val (.long mm), .second, .val (.long aa), .second, .val (.long xx), .second, .val (.long xx), .second, .val (.long rr), .second, .val (.long gg), .second] [(.long (mm - mm / gg * gg))])) _
      refine XT.lconstV X1.here hx rfl (0 : Int64) (hb hby at_131) (by decide) ?_
      show Steps p.tables e below (T1.setTop (mkF m 132 #[.val (.long p1), .second, .val (.long p2), .second, .val (.long mm), .second, .val (.long aa), .second, .val (.long xx), .second, .val (.long xx), .second, .val (.long rr), .second, .val (.long gg), .second] [(.long (0 : Int64)), (.long (mm - mm / gg * gg))])) _
      refine XT.lcmp X1.here hx rfl (hb hby at_132) rfl ?_
      show Steps p.tables e below (T1.setTop (mkF m 133 #[.val (.long p1), .second, .val (.long p2), .second, .val (.long mm), .second, .val (.long aa), .second, .val (.long xx), .second, .val (.long xx), .second, .val (.long rr), .second, .val (.long gg), .second] [(.int (XT.cmpL (mm - mm / gg * gg) (0 : Int64)))])) _
      refine XS.ifNo X1.here hx rfl (hb hby at_133) rfl (XT.ll_ne_f (own_rem0 (by omega) hgg.2.2)) ?_
      show Steps p.tables e below (T1.setTop (mkF m 136 #[.val (.long p1), .second, .val (.long p2), .second, .val (.long mm), .second, .val (.long aa), .second, .val (.long xx), .second, .val (.long xx), .second, .val (.long rr), .second, .val (.long gg), .second] [])) _
      refine XT.iconstV X1.here hx rfl (1 : Int32) (hb hby at_136) (by decide) ?_
      show Steps p.tables e below (T1.setTop (mkF m 137 #[.val (.long p1), .second, .val (.long p2), .second, .val (.long mm), .second, .val (.long aa), .second, .val (.long xx), .second, .val (.long xx), .second, .val (.long rr), .second, .val (.long gg), .second] [(.int (1 : Int32))])) _
      refine XS.goto X1.here hx rfl (pc0 := 137) (pc' := 141) rfl (hb hby at_137) (by decide) (by decide) ?_
      show Steps p.tables e below (T1.setTop (mkF m 141 #[.val (.long p1), .second, .val (.long p2), .second, .val (.long mm), .second, .val (.long aa), .second, .val (.long xx), .second, .val (.long xx), .second, .val (.long rr), .second, .val (.long gg), .second] [(.int (1 : Int32))])) _
      exact retN X1 hx (t := .boolean) Bd.returns (by simp) (hb hby at_141) hr
    · exact ⟨rfl, Fr.nil n0⟩
set_option maxRecDepth 65536 in
set_option maxHeartbeats 40000000 in
theorem comes_1 {Post : Tables → Env → Array Value → State → Outcome → State → Prop} (hpost : ∀ tb e args s v u, (limb_1_1.after args s (.returned v) u = true ∧ limb_1_2.after args s (.returned v) u = true ∧ True) → FrameEnd s (.returned v) u (Jvm.fieldLocs frame_1_writes args s ++ Jvm.arrayLocs frame_1_arrays args s ++ Jvm.staticLocs frame_1_statics s) 0 0 → Post tb e args s (.returned v) u) :
    ArmFor flags0 classFile x code maxLocals ret World_1 tables_1 room_1 Calls_1 rest_1 Pre_1 Post := by
  intro l hfl _ _ p e ha hc hk s m args below hf hA hF happ hP
  obtain ⟨hcalls, hrest, hpre⟩ := hP
  obtain ⟨-, -, -, hnamed, -, -, -, hat⟩ := (Spec.applies_iff hf).mp happ
  obtain ⟨hg, hn⟩ := and_e (Cond.before_iff.mp (show (Jvm.Cond.and given_1 narrow_1).before args s = true from hpre))
  obtain ⟨gc, gr0⟩ := and_e hg
  obtain ⟨g0, gr1⟩ := and_e gr0
  obtain ⟨w0, w1, rfl⟩ : ∃ w0 w1 : Value, args = #[w0, w1] := by
    have hs : args.size = 2 := by simpa [Cond.value, given_1] using gc
    obtain ⟨L⟩ := args
    match L, hs with
    | [w0, w1], _ => exact ⟨w0, w1, rfl⟩
  have hw := fun d (hd : d ∈ tables_1) => atoms_spec (ws := Jvm.Cond.code x code maxLocals ret :: tables_1) hat d (List.mem_cons_of_mem _ hd)
  obtain ⟨i0, ei0⟩ := isL_v g0
  obtain rfl : w0 = (.long i0) := Option.some.inj ei0
  obtain ⟨i1, ei1⟩ := isL_v gr1
  obtain rfl : w1 = (.long i1) := Option.some.inj ei1
  obtain ⟨n, o, h1, h2, h3, _, L, rfl, ⟨rfl, N⟩, hq⟩ := rm0 l s _ hw tables_1 i0 i1 s.heap s.heap.size p e ha hc hk s m _ below hf ((Spec.applies_iff_loose hf).mp happ).1 ⟨rfl, State.Warmed39.refl s, rfl⟩ trivial
  refine ⟨n, _, h1, h2, h3, hpost _ _ _ _ _ _ ⟨Cond.after_iff.mpr rfl, Cond.after_iff.mpr (eq_i res_at (Term.int_eval (1)) rfl), trivial⟩ ⟨hq.1, hq.2.1, (hq.2.2.sift fun y hy => Or.inr (N y hy)).mono (by decide) (by decide)⟩⟩
theorem main_1_1 : Claimed_1_1 := comes_1 fun _ _ _ _ _ _ h hF => ⟨h.1, hF⟩
theorem main_1_2 : Claimed_1_2 := comes_1 fun _ _ _ _ _ _ h hF => ⟨h.2.1, hF⟩
end Jvm.Pilot.@@N@@
namespace Jvm.Pilot.@@N@@
open Jvm Jvm.ClassFile Sem Op Lib Jvm.Free Jvm.Stand Jvm.Pilot.@@N@@.Jvm.D
/-! MADE BY PROGRAM (witnessworld.py) out of the Statement's table words and the real class files: 9 classes; the members and pool entries that the words name. The judged class is class 1, her method 1. -/
namespace start1
open Jvm.ClassFile
def u (s : String) : CpInfo := .utf8 (stringToUtf16 s)
/-- a pool by its gaps: so many unusable entries, then the entry; so many at the end -/
def gap : Nat → List CpInfo → List CpInfo
  | 0, r => r
  | n + 1, r => .unusable :: gap n r
def poolList (es : List (Nat × CpInfo)) (last : Nat) : List CpInfo := es.foldr (fun e r => gap e.1 (e.2 :: r)) (gap last [])
def pool (es : List (Nat × CpInfo)) (last : Nat) : Array CpInfo := ⟨poolList es last⟩
def fileOf (pool : Array CpInfo) (this : Nat) (attrs : Array Attribute := #[]) (ms : Array MethodInfo := #[]) (fl : Nat := 33) (sup : Nat := 0) (ifs : Array Nat := #[]) (fds : Array FieldInfo := #[]) : ClassFile where
  minorVersion := 0
  majorVersion := 65
  constantPool := pool
  accessFlags := fl
  thisClass := this
  superClass := sup
  interfaces := ifs
  fields := fds
  methods := ms
  attributes := attrs
def plain (name : String) (sup : Option ClassId) : Class where
  name := name
  kind := .ordinary
  loader := none
  accessFlags := 33
  super := sup
  interfaces := #[]
  cf := none
  fields := #[]
  methods := #[]
  instanceTypes := #[]
  staticTypes := #[]
  resolved := #[]
  callSites := []
  init := .initialized
  statics := none
  mirror := none

def pool0 : Array CpInfo := pool [(5, u "<init>"), (0, u "()V"), (1, .class_ 10), (1, u "java/lang/Object")] 113

def k0m0 : Method := { name := "<init>", desc := "()V", sig := { parameters := [], returnType := none }, accessFlags := 1, code := none }
/-- java/lang/Object -/
def k0 : Class := { plain "java/lang/Object" none with
  accessFlags := 33
  interfaces := #[]
  cf := some (fileOf pool0 8 #[] #[{ accessFlags := 1, nameIndex := 5, descriptorIndex := 6, attributes := #[] }] 33 0 #[] #[])
  fields := #[]
  methods := #[k0m0]
  instanceTypes := #[]
  staticTypes := #[]
  resolved := Array.replicate 124 none
  statics := none }

def pool1 : Array CpInfo := pool [(2, .class_ 4), (1, u "java/lang/Object"), (0, u "<init>"), (0, u "()V"), (0, .long 2), (1, .long 2147483647), (1, .long 2147483646), (1, .methodref 14 15), (0, .class_ 16), (0, .nameAndType 17 18), (0, u "com/example/planwright/planwright/Primes"), (0, u "inverse"), (0, u "(JJ)J"), (0, .class_ 20), (0, u "com/example/planwright/planwright/PrimesInversePinLaw"), (2, u "law"), (0, u "(JJ)Z")] 3

def k1m0 : Method := { name := "<init>", desc := "()V", sig := { parameters := [], returnType := none }, accessFlags := 2, code := none }
def k1c1 : Code := { maxStack := 6, maxLocals := 16, code := code, exceptionTable := #[], attributes := #[] }
def k1m1 : Method := { name := "law", desc := "(JJ)Z", sig := { parameters := [.long, .long], returnType := some .boolean }, accessFlags := 9, code := some k1c1 }
/-- com/example/planwright/planwright/PrimesInversePinLaw -/
def k1 : Class := { plain "com/example/planwright/planwright/PrimesInversePinLaw" (some 0) with
  accessFlags := 49
  interfaces := #[]
  cf := some (fileOf pool1 19 #[] #[{ accessFlags := 2, nameIndex := 5, descriptorIndex := 6, attributes := #[] }, { accessFlags := 9, nameIndex := 23, descriptorIndex := 24, attributes := #[] }] 49 2 #[] #[])
  fields := #[]
  methods := #[k1m0, k1m1]
  instanceTypes := #[]
  staticTypes := #[]
  resolved := Array.replicate 28 none
  statics := none }

def pool2 : Array CpInfo := pool [(2, .class_ 4), (1, u "java/lang/Object"), (0, u "<init>"), (0, u "()V"), (3, .class_ 12), (1, u "com/example/planwright/planwright/Primes"), (0, u "SMALL"), (0, u "[I"), (29, u "WITNESSES"), (17, u "(JJ)J"), (7, u "BATCH"), (0, u "I"), (2, u "CHANCES"), (7, u "inverse")] 3

def k2m0 : Method := { name := "<init>", desc := "()V", sig := { parameters := [], returnType := none }, accessFlags := 2, code := none }
def k2c1 : Code := { maxStack := 6, maxLocals := 18, code := prog_30_method_4_code, exceptionTable := #[], attributes := #[] }
def k2m1 : Method := { name := "inverse", desc := "(JJ)J", sig := { parameters := [.long, .long], returnType := some .long }, accessFlags := 8, code := some k2c1 }
/-- com/example/planwright/planwright/Primes -/
def k2 : Class := { plain "com/example/planwright/planwright/Primes" (some 0) with
  accessFlags := 48
  interfaces := #[]
  cf := some (fileOf pool2 10 #[] #[{ accessFlags := 2, nameIndex := 5, descriptorIndex := 6, attributes := #[] }, { accessFlags := 8, nameIndex := 82, descriptorIndex := 62, attributes := #[] }] 48 2 #[] #[{ accessFlags := 26, nameIndex := 13, descriptorIndex := 14, attributes := #[] }, { accessFlags := 26, nameIndex := 44, descriptorIndex := 14, attributes := #[] }, { accessFlags := 26, nameIndex := 70, descriptorIndex := 71, attributes := #[] }, { accessFlags := 26, nameIndex := 74, descriptorIndex := 71, attributes := #[] }])
  fields := #[{ name := "SMALL", type := (.array .int), accessFlags := 26, slot := 0, constantValue := 0 }, { name := "WITNESSES", type := (.array .int), accessFlags := 26, slot := 1, constantValue := 0 }, { name := "BATCH", type := .int, accessFlags := 26, slot := 2, constantValue := 0 }, { name := "CHANCES", type := .int, accessFlags := 26, slot := 3, constantValue := 0 }]
  methods := #[k2m0, k2m1]
  instanceTypes := #[]
  staticTypes := #[(.array .int), (.array .int), .int, .int]
  resolved := Array.replicate 86 none
  statics := none }

def pool3 : Array CpInfo := pool [(1, u "java/lang/Cloneable"), (0, .class_ 1), (0, u "java/lang/Object"), (0, .class_ 3)] 3

/-- java/lang/Cloneable -/
def k3 : Class := { plain "java/lang/Cloneable" (some 0) with
  accessFlags := 1537
  interfaces := #[]
  cf := some (fileOf pool3 2 #[] #[] 1537 4 #[] #[])
  fields := #[]
  methods := #[]
  instanceTypes := #[]
  staticTypes := #[]
  resolved := Array.replicate 8 none
  statics := none }

def pool4 : Array CpInfo := pool [(1, u "java/io/Serializable"), (0, .class_ 1), (0, u "java/lang/Object"), (0, .class_ 3)] 3

/-- java/io/Serializable -/
def k4 : Class := { plain "java/io/Serializable" (some 0) with
  accessFlags := 1537
  interfaces := #[]
  cf := some (fileOf pool4 2 #[] #[] 1537 4 #[] #[])
  fields := #[]
  methods := #[]
  instanceTypes := #[]
  staticTypes := #[]
  resolved := Array.replicate 8 none
  statics := none }

/-- the primitive byte -/
def k5 : Class := { plain "byte" none with kind := .primitive 'B', accessFlags := 0x411 }
/-- [B -/
def k6 : Class := { plain "[B" (some 0) with kind := .array 5 .byte, interfaces := #[3, 4], accessFlags := 1041 }

/-- the primitive int -/
def k7 : Class := { plain "int" none with kind := .primitive 'I', accessFlags := 0x411 }
/-- [I -/
def k8 : Class := { plain "[I" (some 0) with kind := .array 7 .int, interfaces := #[3, 4], accessFlags := 1041 }

def heap : Heap := #[]
def classes : Array Class := #[k0, k1, k2, k3, k4, k5, k6, k7, k8]
def interned : List (Array UInt16 × Addr) := []
def slotsUsed : Nat := 0
def theMethod : MethodId := ⟨1, 1⟩
def args0 : Array Value := #[.long 5, .long 12]
def aboutOver (below : List Frame) : State where
  vm := { classes := classes, interned := interned.toArray }
  heap := heap
  slotsUsed := slotsUsed
  threads := #[{ frames := .invoking theMethod args0 :: below }]
def below0 : List Frame := [.native { method := ⟨0, 0⟩, args := #[] }]
def about1 : State := aboutOver below0
def p0 : Program := .bare "" "" ""
def e0 : Env := launch0.env 0 0 0
theorem w_frames : about1.frames = Frame.invoking theMethod args0 :: below0 := rfl
set_option maxRecDepth 65536 in
theorem w_args : argsFit about1.vm theMethod args0 = true := by decide +kernel
set_option maxRecDepth 65536 in
theorem w_heap : heapFits about1 = true := by decide +kernel
set_option maxRecDepth 65536 in
theorem w_runnable : about1.curStatus? = some .runnable := by decide +kernel
set_option maxRecDepth 65536 in
theorem w_alone : about1.alone = true := by decide +kernel
set_option maxRecDepth 65536 in
theorem w_named : about1.methodNamed? x = some theMethod := by decide +kernel
set_option maxRecDepth 65536 in
theorem w_hears : about1.hears theMethod below0 = true := by decide +kernel
set_option maxRecDepth 65536 in
theorem w_ripe : about1.ripe theMethod args0 below0 = true := by decide +kernel
theorem w_running : about1.status = .running := rfl
set_option maxRecDepth 65536 in
theorem w_room : about1.hasRoom e0.platform room_1 = true :=
  launch0.hasRoom_least _ room_1 (by decide +kernel) (by decide +kernel) (by decide +kernel) (by decide +kernel) (by decide +kernel) (by decide +kernel)
theorem allAtoms_all (ts : List Jvm.Cond) (a : Array Jvm.Value) (st : Jvm.State) : (allAtoms ts).before a st = ts.all (fun c => c.before a st) := by
  induction ts with
  | nil => rfl
  | cons c t ih =>
    show (Jvm.Cond.and c (allAtoms t)).before a st = _
    rw [Jvm.Cond.before_and, ih, List.all_cons]
def words1 : List Jvm.Cond := Jvm.Cond.code x code maxLocals ret :: tables_1
/-- a 'code' word, met by the world's own term for the bytes: nothing is compared byte by byte -/
theorem code_word {y : MethodName} {bytes : ByteArray} {mx : Nat} {rt : Option FieldType} {a : Array Value} {s : State} {m : MethodId} {meth : Method} {c : Code} (h1 : s.methodNamed? y = some m) (h2 : s.vm.method? m = some meth) (h3 : meth.code = some c) (h4 : c.code = bytes)
    (h5 : (c.maxLocals == mx && c.exceptionTable.isEmpty && decide (c.maxStack ≤ mostOperands) && decide (meth.sig.returnType = rt) && !meth.locks && decide (parseMethodDescriptor y.desc = some meth.sig)) = true) : (Jvm.Cond.code y bytes mx rt).before a s = true := by
  simp only [Bool.and_eq_true, beq_iff_eq, Bool.not_eq_true', decide_eq_true_eq] at h5
  obtain ⟨⟨⟨⟨⟨g1, g2⟩, g3⟩, g4⟩, g5⟩, g6⟩ := h5
  simp [Cond.before, Cond.holds, Cond.value, h1, h2, h3, h4, g1, g2, g3, g4, g5, g6]
def isCode : Jvm.Cond → Bool
  | .code _ _ _ _ => true
  | _ => false
theorem all_split {L : List Jvm.Cond} {P : Jvm.Cond → Bool} (h1 : L.all (fun c => isCode c || P c) = true) (h2 : ∀ c ∈ L.filter isCode, P c = true) : L.all P = true := by
  refine List.all_eq_true.mpr fun c hc => ?_
  have h := List.all_eq_true.mp h1 c hc
  rcases Bool.eq_false_or_eq_true (isCode c) with hi | hi
  · exact h2 c (List.mem_filter.mpr ⟨hc, hi⟩)
  · simpa [hi] using h
set_option maxRecDepth 65536 in
theorem w_c0 : (Jvm.Cond.code x code maxLocals ret).before args0 about1 = true := code_word (m := ⟨1, 1⟩) (meth := k1m1) (c := k1c1) (by decide +kernel) rfl rfl rfl (by decide +kernel)
set_option maxRecDepth 65536 in
theorem w_c1 : (Jvm.Cond.code ({ cls := "com/example/planwright/planwright/Primes", name := "inverse", desc := "(JJ)J" } : Jvm.MethodName) prog_30_method_4_code (18 : Nat) (Option.some Jvm.ClassFile.FieldType.long)).before args0 about1 = true := code_word (m := ⟨2, 1⟩) (meth := k2m1) (c := k2c1) (by decide +kernel) rfl rfl rfl (by decide +kernel)
def codes1 : List Jvm.Cond := [Jvm.Cond.code x code maxLocals ret, Jvm.Cond.code ({ cls := "com/example/planwright/planwright/Primes", name := "inverse", desc := "(JJ)J" } : Jvm.MethodName) prog_30_method_4_code (18 : Nat) (Option.some Jvm.ClassFile.FieldType.long)]
set_option maxRecDepth 65536 in
theorem codes_eq : words1.filter isCode = codes1 := rfl
theorem w_codes : ∀ c ∈ words1.filter isCode, c.before args0 about1 = true := by
  rw [codes_eq]
  intro c hc
  simp only [codes1, List.mem_cons, List.not_mem_nil, or_false] at hc
  rcases hc with rfl | rfl
  · exact w_c0
  · exact w_c1
set_option maxRecDepth 65536 in
theorem w_t1 : words1.all (fun c => isCode c || c.before args0 about1) = true := by decide +kernel
theorem w_tables : (allAtoms (Jvm.Cond.code x code maxLocals ret :: tables_1)).before args0 about1 = true := by
  rw [allAtoms_all]
  show words1.all (fun c => c.before args0 about1) = true
  refine all_split ?_ w_codes
  rw [w_t1]
set_option maxRecDepth 65536 in
theorem w_case : (Jvm.Cond.and given_1 narrow_1).before args0 about1 = true := by decide +kernel
theorem w_applies : (headSpec (Jvm.Cond.code x code maxLocals ret :: tables_1) room_1).applies x e0.platform about1 = true :=
  (Spec.applies_iff w_frames).mpr ⟨w_running, w_runnable, w_alone, w_named, w_hears, w_ripe, w_room, w_tables⟩
theorem atStart : AtStart classFile x code maxLocals ret World_1 tables_1 room_1 Calls_1 rest_1 Pre_1 launch0 p0 e0 about1 theMethod args0 below0 :=
  ⟨lists_1, trivial, launch0.admits_env _ _ _, launch0.least_env, fairChoices_fair.cas, fairChoices_fair.clock, w_frames, w_args, w_heap, w_applies, trivial, trivial, w_case⟩
end start1
theorem witness_1 : WitnessClaimed_1 := ⟨start1.p0, start1.e0, start1.about1, start1.theMethod, start1.args0, start1.below0, start1.atStart⟩
end Jvm.Pilot.@@N@@
