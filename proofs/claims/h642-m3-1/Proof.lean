import JvmDerived
import JvmDerived.Pilot.@@N@@Statement
import JvmDerived.Pilot.@@N@@Code
set_option linter.unusedVariables false
set_option linter.unusedSimpArgs false
@@BLOCK:NumsL.lean.txt@@
namespace Jvm.Pilot.@@N@@
open Jvm Jvm.ClassFile Sem Op Lib Jvm.Free Jvm.Stand Jvm.LawKit Jvm.RoadKit Bundle Jvm.Pilot.@@N@@.Jvm.D
/-! the goal of a body's walk, closed under steps that lead to where it holds -/
def Gl (p : Program) (e : Env) (below : List Frame) (s : State) (Q : Option Value → Heap → List Loc → Prop) (k n : Nat) (S0 : State) : Prop :=
  ∃ s₂ o, Steps p.tables e below S0 s₂ ∧ s₂.status = .running ∧ Ended s₂ below o ∧ ∃ v L, o = .returned v ∧ Q v s₂.heap L ∧ FrameEnd s o s₂ L k n
theorem Gl.back {p : Program} {e : Env} {below : List Frame} {s : State} {Q : Option Value → Heap → List Loc → Prop} {k n : Nat} {S0 S1 : State} (h : ∀ t, Steps p.tables e below S1 t → Steps p.tables e below S0 t) (g : Gl p e below s Q k n S1) : Gl p e below s Q k n S0 := by
  obtain ⟨s₂, o, h1, r⟩ := g; exact ⟨s₂, o, h _ h1, r⟩
theorem Gl.ret {p : Program} {l : Launch} {e : Env} {R : Room} {s : State} {m : MethodId} {args : Array Value} {below : List Frame} {meth : Method} {c : Code} {T : State} {locs : List Loc} {cells slots : Nat} (X : Stand p l e R s m args below meth c T locs cells slots) {h : Heap} (eT : T.heap = h)
    {v : Option Value} (hv : meth.sig.returnType = none → v = none) (hlocks : meth.locks = false) {S0 : State} (st : ∀ fs, (∀ (f : JFrame) (acts : List Action), f.method = m → f.locked = none → f.entered = [] → (doReturn e (T.setTop f) acts v).1 = T.setFrames fs) → Steps p.tables e below S0 (T.setFrames fs))
    {Q : Option Value → Heap → List Loc → Prop} {k n : Nat} (hQ : Q v h locs) (hk : cells ≤ k) (hn : slots ≤ n) : Gl p e below s Q k n S0 := by
  obtain ⟨fs, hr, hrun, hended, hW, hsame⟩ := X.leave (v := v) hv hlocks
  exact ⟨_, _, st fs hr, hrun, hended, v, locs, rfl, eT ▸ hQ, ⟨_, rfl⟩, hW, hsame.mono hk hn⟩
def GlW (p : Program) (e : Env) (below : List Frame) (s : State) (Q : Option Value → Heap → List Loc → Prop) (k n : Nat) (S0 : State) : Prop :=
  ∃ s₂ o, Steps p.tables e below S0 s₂ ∧ s₂.status = .running ∧ Ended s₂ below o ∧ ∃ v L, o = .returned v ∧ Q v s₂.heap L ∧ ReturnedEndW s o s₂ L k n
theorem GlW.back {p : Program} {e : Env} {below : List Frame} {s : State} {Q : Option Value → Heap → List Loc → Prop} {k n : Nat} {S0 S1 : State} (h : ∀ t, Steps p.tables e below S1 t → Steps p.tables e below S0 t) (g : GlW p e below s Q k n S1) : GlW p e below s Q k n S0 := by
  obtain ⟨s₂, o, h1, r⟩ := g; exact ⟨s₂, o, h _ h1, r⟩
theorem GlW.ret {p : Program} {l : Launch} {e : Env} {R : Room} {s : State} {vm0 : Vm} {m : MethodId} {args : Array Value} {below : List Frame} {meth : Method} {c : Code} {T : State} {locs : List Loc} {cells slots : Nat} (X : Stand p l e R (s.setVm vm0) m args below meth c T locs cells slots) {h : Heap} (eT : T.heap = h)
    {k0 : Nat} (hS : s.Since vm0 k0) (hk0 : k0 ≤ h.size) {v : Option Value} (hv : meth.sig.returnType = none → v = none) (hlocks : meth.locks = false) {S0 : State} (st : ∀ fs, (∀ (f : JFrame) (acts : List Action), f.method = m → f.locked = none → f.entered = [] → (doReturn e (T.setTop f) acts v).1 = T.setFrames fs) → Steps p.tables e below S0 (T.setFrames fs))
    {Q : Option Value → Heap → List Loc → Prop} {k n : Nat} (hQ : Q v h locs) (hk : cells ≤ k) (hn : slots ≤ n) : GlW p e below s Q k n S0 := by
  obtain ⟨fs, hr, hrun, hended, hE⟩ := X.leaveW hS (by rw [eT]; exact hk0) (v := v) hv hlocks
  exact ⟨_, _, st fs hr, hrun, hended, v, locs, rfl, eT ▸ hQ, hE.1, hE.2.1, hE.2.2.1, hE.2.2.2.mono hk hn⟩
theorem own_lcL {x y : Int64} (h : x < y) : lcmpW x y < 0 := by rw [lcW]; exact (lc_lt x y).mpr h
theorem own_lcLn {x y : Int64} (h : ¬ x < y) : ¬ lcmpW x y < 0 := by rw [lcW]; exact fun q => h ((lc_lt x y).mp q)
theorem own_lcG {x y : Int64} (h : y < x) : 0 < lcmpW x y := by rw [lcW]; exact (lc_gt x y).mpr h
theorem own_lcGn {x y : Int64} (h : ¬ y < x) : ¬ 0 < lcmpW x y := by rw [lcW]; exact fun q => h ((lc_gt x y).mp q)
theorem own_lcE {x y : Int64} (h : x = y) : lcmpW x y = 0 := by rw [lcW]; exact (lc_eq x y).mpr h
theorem own_lcEn {x y : Int64} (h : ¬ x = y) : ¬ lcmpW x y = 0 := by rw [lcW]; exact fun q => h ((lc_eq x y).mp q)
theorem own_16 {x : Int32} (h : 0 ≤ x.toInt ∧ x.toInt < 16) : x = 0 ∨ x = 1 ∨ x = 2 ∨ x = 3 ∨ x = 4 ∨ x = 5 ∨ x = 6 ∨ x = 7 ∨ x = 8 ∨ x = 9 ∨ x = 10 ∨ x = 11 ∨ x = 12 ∨ x = 13 ∨ x = 14 ∨ x = 15 := by
  have e : ∀ y : Int32, x.toInt = y.toInt → x = y := fun y => Int32.toInt_inj.mp
  obtain ⟨h1, h2⟩ := h
  have hx : x.toInt = 0 ∨ x.toInt = 1 ∨ x.toInt = 2 ∨ x.toInt = 3 ∨ x.toInt = 4 ∨ x.toInt = 5 ∨ x.toInt = 6 ∨ x.toInt = 7 ∨ x.toInt = 8 ∨ x.toInt = 9 ∨ x.toInt = 10 ∨ x.toInt = 11 ∨ x.toInt = 12 ∨ x.toInt = 13 ∨ x.toInt = 14 ∨ x.toInt = 15 := by omega
  rcases hx with q | q | q | q | q | q | q | q | q | q | q | q | q | q | q | q
  · exact Or.inl (e 0 q)
  · exact Or.inr (Or.inl (e 1 q))
  · exact Or.inr (Or.inr (Or.inl (e 2 q)))
  · exact Or.inr (Or.inr (Or.inr (Or.inl (e 3 q))))
  · exact Or.inr (Or.inr (Or.inr (Or.inr (Or.inl (e 4 q)))))
  · exact Or.inr (Or.inr (Or.inr (Or.inr (Or.inr (Or.inl (e 5 q))))))
  · exact Or.inr (Or.inr (Or.inr (Or.inr (Or.inr (Or.inr (Or.inl (e 6 q)))))))
  · exact Or.inr (Or.inr (Or.inr (Or.inr (Or.inr (Or.inr (Or.inr (Or.inl (e 7 q))))))))
  · exact Or.inr (Or.inr (Or.inr (Or.inr (Or.inr (Or.inr (Or.inr (Or.inr (Or.inl (e 8 q)))))))))
  · exact Or.inr (Or.inr (Or.inr (Or.inr (Or.inr (Or.inr (Or.inr (Or.inr (Or.inr (Or.inl (e 9 q))))))))))
  · exact Or.inr (Or.inr (Or.inr (Or.inr (Or.inr (Or.inr (Or.inr (Or.inr (Or.inr (Or.inr (Or.inl (e 10 q)))))))))))
  · exact Or.inr (Or.inr (Or.inr (Or.inr (Or.inr (Or.inr (Or.inr (Or.inr (Or.inr (Or.inr (Or.inr (Or.inl (e 11 q))))))))))))
  · exact Or.inr (Or.inr (Or.inr (Or.inr (Or.inr (Or.inr (Or.inr (Or.inr (Or.inr (Or.inr (Or.inr (Or.inr (Or.inl (e 12 q)))))))))))))
  · exact Or.inr (Or.inr (Or.inr (Or.inr (Or.inr (Or.inr (Or.inr (Or.inr (Or.inr (Or.inr (Or.inr (Or.inr (Or.inr (Or.inl (e 13 q))))))))))))))
  · exact Or.inr (Or.inr (Or.inr (Or.inr (Or.inr (Or.inr (Or.inr (Or.inr (Or.inr (Or.inr (Or.inr (Or.inr (Or.inr (Or.inr (Or.inl (e 14 q)))))))))))))))
  · exact Or.inr (Or.inr (Or.inr (Or.inr (Or.inr (Or.inr (Or.inr (Or.inr (Or.inr (Or.inr (Or.inr (Or.inr (Or.inr (Or.inr (Or.inr (e 15 q)))))))))))))))
theorem own_and15 (x : Int32) : 0 ≤ (x &&& (15 : Int32)).toInt ∧ (x &&& (15 : Int32)).toInt < 16 := by
  have h := Jvm.Kit.i32_mask x 15 (k := 4) (by decide) (by decide)
  omega
theorem own_rem16 (x : Int32) : 0 ≤ ((x &&& (2147483647 : Int32)) % (16 : Int32)).toInt ∧ ((x &&& (2147483647 : Int32)) % (16 : Int32)).toInt < 16 := by
  have h := Jvm.Kit.i32_mask x 2147483647 (k := 31) (by decide) (by decide)
  have h0 : 0 ≤ (x &&& (2147483647 : Int32)).toInt := by omega
  have h2 := Jvm.Kit.i32_rem_nonneg (y := (16 : Int32)) h0
  have h3 : (16 : Int32).toInt = 16 := by decide
  rw [h3] at h2
  omega
/-! exact doubles: m * 2^k, m below 2^53 -/
def own_U (c : Nat) (q : Int) : Nat := c * 2 ^ (q + 1074).toNat
theorem own_congr {s : Bool} {A A' : Nat} {e e' : Int} (h1 : -1074 ≤ e) (h2 : -1074 ≤ e') (h : own_U A e = own_U A' e') : FP.Core.roundRatio FP.Core.b64 s A 1 e = FP.Core.roundRatio FP.Core.b64 s A' 1 e' := by
  apply FP.Core.roundRatio_congr (by decide) (by decide)
  simp only [Nat.mul_one]
  unfold own_U at h
  rcases Int.le_total e e' with q | q
  · have a1 : (e - e').toNat = 0 := by omega
    obtain ⟨k, hk⟩ : ∃ k : Nat, (e' - e).toNat = k := ⟨_, rfl⟩
    have a2 : (e' + 1074).toNat = (e + 1074).toNat + k := by omega
    rw [a2, Nat.pow_add] at h
    rw [a1, hk, Nat.pow_zero, Nat.mul_one]
    apply Nat.eq_of_mul_eq_mul_right (Nat.two_pow_pos (e + 1074).toNat)
    rw [h, Nat.mul_assoc, Nat.mul_comm (2 ^ k)]
  · have a1 : (e' - e).toNat = 0 := by omega
    obtain ⟨k, hk⟩ : ∃ k : Nat, (e - e').toNat = k := ⟨_, rfl⟩
    have a2 : (e + 1074).toNat = (e' + 1074).toNat + k := by omega
    rw [a2, Nat.pow_add] at h
    rw [a1, hk, Nat.pow_zero, Nat.mul_one]
    apply Nat.eq_of_mul_eq_mul_right (Nat.two_pow_pos (e' + 1074).toNat)
    rw [← h, Nat.mul_assoc, Nat.mul_comm (2 ^ k)]
theorem own_qmin : FP.Core.b64.qmin = -1074 := by decide
theorem own_qmax : FP.Core.b64.qmax = 971 := by decide
theorem own_tails : FP.Core.b64.tails = 2 ^ 52 := by decide
theorem own_p : FP.Core.b64.p = 53 := by decide
def own_can (m : Nat) (k : Int) : FP.Core.Datum := FP.Core.roundRatio FP.Core.b64 false m 1 k
theorem own_exact {m : Nat} {k : Int} (hm : m < 2 ^ 53) (h1 : -1000 ≤ k) (h2 : k ≤ 900) : ∃ c q, own_can m k = .fin false c q ∧ own_U c q = own_U m k ∧ -1074 ≤ q := by
  by_cases h0 : m = 0
  · subst h0
    refine ⟨0, -1074, ?_, ?_, by decide⟩
    · unfold own_can FP.Core.roundRatio; rw [if_pos rfl, own_qmin]
    · unfold own_U; simp
  · have hl : m.log2 < 53 := (Nat.log2_lt h0).mpr hm
    obtain ⟨j, hj⟩ : ∃ j : Nat, m.log2 + j = 52 := ⟨52 - m.log2, by omega⟩
    have u1 : m < 2 ^ (m.log2 + 1) := Nat.lt_log2_self
    have u2 : 2 ^ m.log2 ≤ m := Nat.log2_self_le h0
    have c1 : m * 2 ^ j < 2 ^ 53 := by
      have t : m * 2 ^ j < 2 ^ (m.log2 + 1) * 2 ^ j := Nat.mul_lt_mul_of_pos_right u1 (Nat.two_pow_pos _)
      rw [← Nat.pow_add, show m.log2 + 1 + j = 53 by omega] at t; exact t
    have c2 : 2 ^ 52 ≤ m * 2 ^ j := by
      have t : 2 ^ m.log2 * 2 ^ j ≤ m * 2 ^ j := Nat.mul_le_mul_right _ u2
      rw [← Nat.pow_add, hj] at t; exact t
    have hf : FP.Core.fits FP.Core.b64 (.fin false (m * 2 ^ j) (k - j)) := by
      refine ⟨by rw [own_p]; exact c1, by rw [own_qmin]; omega, by rw [own_qmax]; omega, Or.inr (by rw [own_tails]; exact c2)⟩
    refine ⟨m * 2 ^ j, k - j, FP.Core.roundRatio_exact FP.Core.good_b64 (by decide) hf ?_, ?_, by omega⟩
    · rw [show (k - (k - (j : Int))).toNat = j by omega, show ((k - (j : Int)) - k).toNat = 0 by omega]; simp
    · unfold own_U; rw [Nat.mul_assoc, ← Nat.pow_add, show j + (k - j + 1074).toNat = (k + 1074).toNat by omega]
theorem own_split {c : Nat} {q e : Int} (h1 : -1074 ≤ e) (h2 : e ≤ q) : c * 2 ^ (q - e).toNat * 2 ^ (e + 1074).toNat = own_U c q := by
  unfold own_U; rw [Nat.mul_assoc, ← Nat.pow_add, show (q - e).toNat + (e + 1074).toNat = (q + 1074).toNat by omega]
theorem own_add {x y : UInt64} {m n : Nat} {k : Int} (hx : FP.Core.val64 x = own_can m k) (hy : FP.Core.val64 y = own_can n k) (hm : m < 2 ^ 53) (hn : n < 2 ^ 53) (h1 : -1000 ≤ k) (h2 : k ≤ 900) : FP.Core.val64 (FP.Core.dadd x y) = own_can (m + n) k := by
  obtain ⟨c, q, e1, u1, g1⟩ := own_exact hm h1 h2
  obtain ⟨d, r, e2, u2, g2⟩ := own_exact hn h1 h2
  rw [FP.Core.val64_dadd, hx, hy, e1, e2]
  obtain ⟨e, he⟩ : ∃ e, e = min q r := ⟨_, rfl⟩
  have hs : FP.Core.exactSum (.fin false c q) (.fin false d r) = .fin false (c * 2 ^ (q - e).toNat + d * 2 ^ (r - e).toNat) e := by
    simp only [FP.Core.exactSum, FP.Core.sumUnits, FP.Core.inUnits, FP.Core.signed, ← he]
    have t : ((c * 2 ^ (q - e).toNat : Nat) : Int) + ((d * 2 ^ (r - e).toNat : Nat) : Int) = ((c * 2 ^ (q - e).toNat + d * 2 ^ (r - e).toNat : Nat) : Int) := by omega
    simp only [Bool.false_eq_true, if_false]
    rw [t, Int.natAbs_natCast]
    have t2 : FP.Core.sumSign false false ((c * 2 ^ (q - e).toNat + d * 2 ^ (r - e).toNat : Nat) : Int) = false := by
      unfold FP.Core.sumSign; split
      · rfl
      · exact decide_eq_false (Int.not_lt.mpr (Int.natCast_nonneg _))
    rw [t2]
  rw [hs]
  show FP.Core.roundRatio FP.Core.b64 false _ 1 e = FP.Core.roundRatio FP.Core.b64 false (m + n) 1 k
  have ge : -1074 ≤ e := by omega
  refine own_congr ge (by omega) ?_
  have s1 := own_split (c := c) ge (show e ≤ q by omega)
  have s2 := own_split (c := d) ge (show e ≤ r by omega)
  unfold own_U at *
  rw [Nat.add_mul, Nat.add_mul, s1, s2, u1, u2]
theorem own_sub {x y : UInt64} {m n : Nat} {k : Int} (hx : FP.Core.val64 x = own_can m k) (hy : FP.Core.val64 y = own_can n k) (hm : m < 2 ^ 53) (hle : n ≤ m) (h1 : -1000 ≤ k) (h2 : k ≤ 900) : FP.Core.val64 (FP.Core.dsub x y) = own_can (m - n) k := by
  obtain ⟨c, q, e1, u1, g1⟩ := own_exact hm h1 h2
  obtain ⟨d, r, e2, u2, g2⟩ := own_exact (m := n) (by omega) h1 h2
  rw [FP.Core.val64_dsub, hx, hy, e1, e2]
  obtain ⟨e, he⟩ : ∃ e, e = min q r := ⟨_, rfl⟩
  have ge : -1074 ≤ e := by omega
  have s1 := own_split (c := c) ge (show e ≤ q by omega)
  have s2 := own_split (c := d) ge (show e ≤ r by omega)
  have hP := Nat.two_pow_pos (e + 1074).toNat
  have hU : own_U n k ≤ own_U m k := by unfold own_U; exact Nat.mul_le_mul_right _ hle
  have hle' : d * 2 ^ (r - e).toNat ≤ c * 2 ^ (q - e).toNat := by
    apply Nat.le_of_mul_le_mul_right _ hP
    rw [s1, s2, u1, u2]; exact hU
  have hs : FP.Core.exactSum (.fin false c q) (FP.Core.negate (.fin false d r)) = .fin false (c * 2 ^ (q - e).toNat - d * 2 ^ (r - e).toNat) e := by
    simp only [FP.Core.negate, FP.Core.exactSum, FP.Core.sumUnits, FP.Core.inUnits, FP.Core.signed, ← he, Bool.not_false]
    simp only [Bool.false_eq_true, if_false, if_true]
    have t : ((c * 2 ^ (q - e).toNat : Nat) : Int) + -((d * 2 ^ (r - e).toNat : Nat) : Int) = ((c * 2 ^ (q - e).toNat - d * 2 ^ (r - e).toNat : Nat) : Int) := by omega
    rw [t, Int.natAbs_natCast]
    have t2 : FP.Core.sumSign false true ((c * 2 ^ (q - e).toNat - d * 2 ^ (r - e).toNat : Nat) : Int) = false := by
      unfold FP.Core.sumSign; split
      · rfl
      · exact decide_eq_false (Int.not_lt.mpr (Int.natCast_nonneg _))
    rw [t2]
  rw [hs]
  show FP.Core.roundRatio FP.Core.b64 false _ 1 e = FP.Core.roundRatio FP.Core.b64 false (m - n) 1 k
  refine own_congr ge (by omega) ?_
  unfold own_U at *
  rw [Nat.sub_mul, Nat.sub_mul, s1, s2, u1, u2]
/-- by a power of two, in the one way in which a double writes it -/
theorem own_div {x y : UInt64} {m : Nat} {k j : Int} (hx : FP.Core.val64 x = own_can m k) (hy : FP.Core.val64 y = .fin false (2 ^ 52) (j - 52)) (hm : m < 2 ^ 53) (h1 : -1000 ≤ k) (h2 : k ≤ 900) : FP.Core.val64 (FP.Core.ddiv x y) = own_can m (k - j) := by
  obtain ⟨c, q, e1, u1, g1⟩ := own_exact hm h1 h2
  rw [FP.Core.val64_ddiv, hx, hy, e1]
  have hq : FP.Core.quotient FP.Core.b64 (.fin false c q) (.fin false (2 ^ 52) (j - 52)) = FP.Core.roundRatio FP.Core.b64 false c (2 ^ 52) (q - (j - 52)) := by
    simp [FP.Core.quotient]
  rw [hq]
  refine FP.Core.roundRatio_congr (by decide) (by decide) ?_
  rw [Nat.mul_one]
  unfold own_U at u1
  rcases Int.le_total 0 (q - k + 52) with a | a
  · obtain ⟨z, hz⟩ : ∃ z : Nat, (q - (j - 52) - (k - j)).toNat = z := ⟨_, rfl⟩
    have hz' : (k - j - (q - (j - 52))).toNat = 0 := by omega
    rw [hz, hz', Nat.pow_zero, Nat.mul_one]
    apply Nat.eq_of_mul_eq_mul_right (Nat.two_pow_pos (k + 1074).toNat)
    rw [Nat.mul_assoc, ← Nat.pow_add, show z + (k + 1074).toNat = (q + 1074).toNat + 52 by omega, Nat.pow_add, ← Nat.mul_assoc, u1, Nat.mul_assoc, Nat.mul_assoc, Nat.mul_comm (2 ^ (k + 1074).toNat)]
  · obtain ⟨z, hz⟩ : ∃ z : Nat, (k - j - (q - (j - 52))).toNat = z := ⟨_, rfl⟩
    have hz' : (q - (j - 52) - (k - j)).toNat = 0 := by omega
    rw [hz, hz', Nat.pow_zero, Nat.mul_one]
    apply Nat.eq_of_mul_eq_mul_right (Nat.two_pow_pos (q + 1074).toNat)
    rw [u1, Nat.mul_assoc, Nat.mul_assoc, ← Nat.pow_add, ← Nat.pow_add, show 52 + (z + (q + 1074).toNat) = (k + 1074).toNat by omega]
theorem own_shift {m : Nat} {k : Int} (h1 : -1000 ≤ k) : own_can m (k + 1) = own_can (2 * m) k := by
  unfold own_can
  refine own_congr (by omega) (by omega) ?_
  unfold own_U
  rw [show (k + 1 + 1074).toNat = (k + 1074).toNat + 1 by omega, Nat.pow_succ, Nat.mul_comm 2 m, Nat.mul_assoc, Nat.mul_comm 2]
theorem own_notnan {m : Nat} {k : Int} (hm : m < 2 ^ 53) (h1 : -1000 ≤ k) (h2 : k ≤ 900) : own_can m k ≠ .nan := by
  obtain ⟨c, q, e1, -, -⟩ := own_exact hm h1 h2; rw [e1]; exact fun h => nomatch h
theorem own_l2d {a : Int64} {m : Nat} (h : a.toInt = (m : Int)) : FP.Core.val64 (FP.Core.l2d a) = own_can m 0 := by
  rw [FP.Core.val64_l2d, h]
  unfold FP.Core.ofInt
  have : decide ((m : Int) < 0) = false := by simp
  rw [this, Int.natAbs_natCast]; rfl
theorem own_ord {x y : UInt64} {m n : Nat} {k : Int} (hx : FP.Core.val64 x = own_can m k) (hy : FP.Core.val64 y = own_can n k) (hm : m < 2 ^ 53) (hn : n < 2 ^ 53) (hle : m ≤ n) (h1 : -1000 ≤ k) (h2 : k ≤ 900) : FP.Core.dcmp x y = some .lt ∨ FP.Core.dcmp x y = some .eq := by
  obtain ⟨c, q, e1, u1, g1⟩ := own_exact hm h1 h2
  obtain ⟨d, r, e2, u2, g2⟩ := own_exact hn h1 h2
  have hd : FP.Core.dcmp x y = FP.Core.order (FP.Core.val64 x) (FP.Core.val64 y) := rfl
  rw [hd, hx, hy, e1, e2]
  obtain ⟨e, he⟩ : ∃ e, e = min q r := ⟨_, rfl⟩
  have ge : -1074 ≤ e := by omega
  have s1 := own_split (c := c) ge (show e ≤ q by omega)
  have s2 := own_split (c := d) ge (show e ≤ r by omega)
  have hU : own_U m k ≤ own_U n k := by unfold own_U; exact Nat.mul_le_mul_right _ hle
  have hle' : c * 2 ^ (q - e).toNat ≤ d * 2 ^ (r - e).toNat := by
    apply Nat.le_of_mul_le_mul_right _ (Nat.two_pow_pos (e + 1074).toNat)
    rw [s1, s2, u1, u2]; exact hU
  simp only [FP.Core.order, FP.Core.inUnits, FP.Core.signed, ← he, Bool.false_eq_true, if_false]
  generalize c * 2 ^ (q - e).toNat = A at *
  generalize d * 2 ^ (r - e).toNat = B at *
  have t : ((A : Nat) : Int) ≤ B := by omega
  rcases Int.lt_or_eq_of_le t with t | t
  · left; rw [Int.compare_eq_lt.mpr t]
  · right; rw [t]; simp
theorem own_min1 {x y : Int64} (h : y < x) : y.toInt = min x.toInt y.toInt := by rw [Int64.lt_iff_toInt_lt] at h; omega
theorem own_min0 {x y : Int64} (h : ¬ y < x) : x.toInt = min x.toInt y.toInt := by rw [Int64.lt_iff_toInt_lt] at h; omega
theorem own_max1 {x y : Int64} (h : x < y) : y.toInt = max x.toInt y.toInt := by rw [Int64.lt_iff_toInt_lt] at h; omega
theorem own_max0 {x y : Int64} (h : ¬ x < y) : x.toInt = max x.toInt y.toInt := by rw [Int64.lt_iff_toInt_lt] at h; omega
theorem own_lohi (x0 x1 : Int32) {a b : Int64} (ha : a.toInt = min (x0.toInt64 &&& (2147483647 : Int64)).toInt (x1.toInt64 &&& (2147483647 : Int64)).toInt) (hb : b.toInt = max (x0.toInt64 &&& (2147483647 : Int64)).toInt (x1.toInt64 &&& (2147483647 : Int64)).toInt) : ∃ mlo mhi : Nat, a.toInt = (mlo : Int) ∧ b.toInt = (mhi : Int) ∧ mlo ≤ mhi ∧ mhi < 2 ^ 31 := by
  have h0 := Jvm.Kit.i64_mask x0.toInt64 2147483647 (k := 31) (by decide) (by decide)
  have h1 := Jvm.Kit.i64_mask x1.toInt64 2147483647 (k := 31) (by decide) (by decide)
  exact ⟨a.toInt.toNat, b.toInt.toNat, by omega, by omega, by omega, by omega⟩
def own_sc (y : Int32) : UInt64 := FP.Core.l2d ((1 : Int64) <<< (y &&& 0x3f).toInt64)
theorem own_scale (x2 : Int32) : ∃ j : Nat, j ≤ 15 ∧ FP.Core.val64 (FP.l2d ((1 : Int64) <<< ((x2 &&& (15 : Int32)) &&& 0x3f).toInt64)) = .fin false (2 ^ 52) ((j : Int) - 52) ∧ FP.Core.val64 (FP.dmul (4611686018427387904 : UInt64) (FP.l2d ((1 : Int64) <<< ((x2 &&& (15 : Int32)) &&& 0x3f).toInt64))) = .fin false (2 ^ 52) (((j : Int) + 1) - 52) := by
  rcases own_16 (own_and15 x2) with h | h | h | h | h | h | h | h | h | h | h | h | h | h | h | h <;> rw [h]
  · exact ⟨0, by decide, by decide +kernel, by decide +kernel⟩
  · exact ⟨1, by decide, by decide +kernel, by decide +kernel⟩
  · exact ⟨2, by decide, by decide +kernel, by decide +kernel⟩
  · exact ⟨3, by decide, by decide +kernel, by decide +kernel⟩
  · exact ⟨4, by decide, by decide +kernel, by decide +kernel⟩
  · exact ⟨5, by decide, by decide +kernel, by decide +kernel⟩
  · exact ⟨6, by decide, by decide +kernel, by decide +kernel⟩
  · exact ⟨7, by decide, by decide +kernel, by decide +kernel⟩
  · exact ⟨8, by decide, by decide +kernel, by decide +kernel⟩
  · exact ⟨9, by decide, by decide +kernel, by decide +kernel⟩
  · exact ⟨10, by decide, by decide +kernel, by decide +kernel⟩
  · exact ⟨11, by decide, by decide +kernel, by decide +kernel⟩
  · exact ⟨12, by decide, by decide +kernel, by decide +kernel⟩
  · exact ⟨13, by decide, by decide +kernel, by decide +kernel⟩
  · exact ⟨14, by decide, by decide +kernel, by decide +kernel⟩
  · exact ⟨15, by decide, by decide +kernel, by decide +kernel⟩
theorem own_nn {x : UInt64} {d : FP.Core.Datum} (h : FP.Core.val64 x = d) (hd : d ≠ .nan) : Jvm.Free.Fl.NoNaN64 x := Jvm.Free.Fl.noNaN64_no.mpr ((FP.Core.notNaN_iff x).mpr (h ▸ hd))
theorem own_same {x y : UInt64} {d : FP.Core.Datum} (hx : FP.Core.val64 x = d) (hy : FP.Core.val64 y = d) (hd : d ≠ .nan) : x = y := FP.Core.val64_inj (hx ▸ hd) (hx.trans hy.symm)
theorem own_sum {a b : Int64} {m n : Nat} (ha : a.toInt = (m : Int)) (hb : b.toInt = (n : Int)) (hle : m ≤ n) (hbd : n < 2 ^ 31) : (a + b).toInt = ((m + n : Nat) : Int) := by
  rw [Jvm.Kit.i64_add (by omega) (by omega)]; omega
theorem own_mid {lw up : UInt64} {m n j : Nat} (hl : FP.Core.val64 lw = own_can m (0 - (j : Int))) (hu : FP.Core.val64 up = own_can n (0 - (j : Int))) (hle : m ≤ n) (hbd : n < 2 ^ 31) (hj : j ≤ 15) :
    Jvm.Free.Fl.NoNaN64 (FP.dsub up lw) ∧ Jvm.Free.Fl.NoNaN64 (FP.ddiv (FP.dsub up lw) (4611686018427387904 : UInt64)) ∧ Jvm.Free.Fl.NoNaN64 (FP.dadd lw (FP.ddiv (FP.dsub up lw) (4611686018427387904 : UInt64))) ∧
      FP.Core.val64 (FP.Core.dadd lw (FP.Core.ddiv (FP.Core.dsub up lw) (4611686018427387904 : UInt64))) = own_can (m + n) (0 - ((j : Int) + 1)) := by
  have h1 := own_sub hu hl (by omega) hle (by omega) (by omega)
  have h2 : FP.Core.val64 (4611686018427387904 : UInt64) = .fin false (2 ^ 52) ((1 : Int) - 52) := by decide +kernel
  have h3 := own_div h1 h2 (by omega) (by omega) (by omega)
  have h4 : FP.Core.val64 lw = own_can (2 * m) (0 - (j : Int) - 1) := by
    rw [hl, ← own_shift (by omega), show (0 - (j : Int) - 1 + 1) = 0 - (j : Int) by omega]
  have h5 := own_add h4 h3 (by omega) (by omega) (by omega) (by omega)
  rw [show 2 * m + (n - m) = m + n by omega, show (0 - (j : Int) - 1) = 0 - ((j : Int) + 1) by omega] at h5
  exact ⟨own_nn h1 (own_notnan (by omega) (by omega) (by omega)), own_nn h3 (own_notnan (by omega) (by omega) (by omega)), own_nn h5 (own_notnan (by omega) (by omega) (by omega)), h5⟩
theorem own_vinf : FP.Core.val64 (9218868437227405312 : UInt64) = .inf false := by decide +kernel
theorem own_midinf {lw : UInt64} {m : Nat} {k : Int} (hl : FP.Core.val64 lw = own_can m k) (hm : m < 2 ^ 53) (h1 : -1000 ≤ k) (h2 : k ≤ 900) :
    Jvm.Free.Fl.NoNaN64 (FP.dsub (9218868437227405312 : UInt64) lw) ∧ Jvm.Free.Fl.NoNaN64 (FP.ddiv (FP.dsub (9218868437227405312 : UInt64) lw) (4611686018427387904 : UInt64)) ∧ Jvm.Free.Fl.NoNaN64 (FP.dadd lw (FP.ddiv (FP.dsub (9218868437227405312 : UInt64) lw) (4611686018427387904 : UInt64))) ∧
      FP.dadd lw (FP.ddiv (FP.dsub (9218868437227405312 : UInt64) lw) (4611686018427387904 : UInt64)) = (9218868437227405312 : UInt64) := by
  obtain ⟨c, q, e1, -, -⟩ := own_exact hm h1 h2
  rw [e1] at hl
  have s1 : FP.Core.val64 (FP.Core.dsub (9218868437227405312 : UInt64) lw) = .inf false := by rw [FP.Core.val64_dsub, own_vinf, hl]; rfl
  have s2 : FP.Core.val64 (4611686018427387904 : UInt64) = .fin false (2 ^ 52) ((1 : Int) - 52) := by decide +kernel
  have s3 : FP.Core.val64 (FP.Core.ddiv (FP.Core.dsub (9218868437227405312 : UInt64) lw) (4611686018427387904 : UInt64)) = .inf false := by rw [FP.Core.val64_ddiv, s1, s2]; rfl
  have s4 : FP.Core.val64 (FP.Core.dadd lw (FP.Core.ddiv (FP.Core.dsub (9218868437227405312 : UInt64) lw) (4611686018427387904 : UInt64))) = .inf false := by rw [FP.Core.val64_dadd, hl, s3]; rfl
  have hn : (FP.Core.Datum.inf false) ≠ .nan := fun z => nomatch z
  exact ⟨own_nn s1 hn, own_nn s3 hn, own_nn s4 hn, own_same s4 own_vinf hn⟩
theorem own_notgt {r : Option Ordering} (h : r = some .lt ∨ r = some .eq) : ¬ 0 < cmpValue r .g := by rcases h with rfl | rfl <;> decide
theorem own_le {x y : UInt64} {m n : Nat} {k : Int} (hx : FP.Core.val64 x = own_can m k) (hy : FP.Core.val64 y = own_can n k) (hm : m < 2 ^ 53) (hn : n < 2 ^ 53) (hle : m ≤ n) (h1 : -1000 ≤ k) (h2 : k ≤ 900) : ¬ 0 < cmpValue (FP.dcmp x y) .g := own_notgt (own_ord hx hy hm hn hle h1 h2)
theorem own_leinf {x : UInt64} {m : Nat} {k : Int} (hx : FP.Core.val64 x = own_can m k) (hm : m < 2 ^ 53) (h1 : -1000 ≤ k) (h2 : k ≤ 900) : ¬ 0 < cmpValue (FP.dcmp x (9218868437227405312 : UInt64)) .g := by
  obtain ⟨c, q, e1, -, -⟩ := own_exact hm h1 h2
  rw [e1] at hx
  refine own_notgt (Or.inl ?_)
  show FP.Core.order (FP.Core.val64 x) (FP.Core.val64 (9218868437227405312 : UInt64)) = _
  rw [hx, own_vinf]; rfl
theorem own_ge0 {x : UInt64} {m : Nat} {k : Int} (hx : FP.Core.val64 x = own_can m k) (hm : m < 2 ^ 53) (h1 : -1000 ≤ k) (h2 : k ≤ 900) : ¬ cmpValue (FP.dcmp x FP.dconst0) .l < 0 := by
  have hz : FP.Core.val64 FP.Core.dconst0 = own_can 0 k := by
    rw [FP.Core.val64_dconst0]; unfold own_can FP.Core.roundRatio; rw [if_pos rfl]
  have h := own_ord hz hx (by decide) hm (Nat.zero_le _) h1 h2
  have hs := FP.Core.dcmp_swap FP.Core.dconst0 x
  have e : FP.dcmp x FP.dconst0 = (FP.Core.dcmp FP.Core.dconst0 x).map Ordering.swap := hs
  rw [e]
  rcases h with h | h <;> rw [h] <;> decide
theorem own_fin {x : UInt64} {m : Nat} {k : Int} (hx : FP.Core.val64 x = own_can m k) (hm : m < 2 ^ 53) (h1 : -1000 ≤ k) (h2 : k ≤ 900) : ¬ 0 < cmpValue (FP.dcmp (x &&& 0x7fffffffffffffff) (9218868437227405311 : UInt64)) .g := by
  obtain ⟨c, q, e1, -, -⟩ := own_exact hm h1 h2
  rw [e1] at hx
  have hN : Jvm.Free.Fl.NoNaN64 x := own_nn hx (fun z => nomatch z)
  have hF : Jvm.Free.Fl.Fin64 x := Jvm.Free.Fl.fin64_core.mpr ⟨_, _, _, hx⟩
  have h := (Jvm.Free.Fl.le_max_iff hN).mpr hF
  have h' : Jvm.Free.Fl.relLe (FP.dcmp (x &&& 0x7fffffffffffffff) (9218868437227405311 : UInt64)) = true := h
  cases hd : FP.dcmp (x &&& 0x7fffffffffffffff) (9218868437227405311 : UInt64) with
  | none => rw [hd] at h'; exact absurd h' (by decide)
  | some o => cases o <;> rw [hd] at h' <;> first | (exact absurd h' (by decide)) | decide
theorem d1_0 : decode jdk_29_method_70_code 0 = .ok (.lload_n 0, 1) := by decide +kernel
theorem d1_1 : decode jdk_29_method_70_code 1 = .ok (.lload_n 2, 1) := by decide +kernel
theorem d1_2 : decode jdk_29_method_70_code 2 = .ok (.lcmp, 1) := by decide +kernel
theorem d1_3 : decode jdk_29_method_70_code 3 = .ok (.ifCond .gt 7, 3) := by decide +kernel
theorem d1_10 : decode jdk_29_method_70_code 10 = .ok (.lload_n 2, 1) := by decide +kernel
theorem d1_11 : decode jdk_29_method_70_code 11 = .ok (.lreturn, 1) := by decide +kernel
theorem d1_6 : decode jdk_29_method_70_code 6 = .ok (.lload_n 0, 1) := by decide +kernel
theorem d1_7 : decode jdk_29_method_70_code 7 = .ok (.goto 4, 3) := by decide +kernel
theorem ef_1 (m : MethodId) (x0 : Int64) (x1 : Int64) : entryFrame m #[(.long x0), (.long x1)] 4 = mkF m 0 #[.val (.long x0), .second, .val (.long x1), .second] [] := by first | (simp [entryFrame, mkF, argsToLocals, Value.category]; done) | rfl
def Q1 (Z : State) (x : Int64) (y : Int64) (h0 : Heap) (n0 : Nat) (v : Option Value) (h : Heap) (L : List Loc) : Prop := Fr n0 L ∧ (∃ r : Int64, v = some (.long r) ∧ r.toInt = min x.toInt y.toInt ∧ h = h0)
set_option maxRecDepth 65536 in
set_option maxHeartbeats 40000000 in
theorem rm1 (l : Launch) (Z : State) (a0 : Array Value) (hw : ∀ d ∈ tables_1, d.before a0 Z = true) (ws : List Jvm.Cond) (x : Int64) (y : Int64) (h0 : Heap) (n0 : Nat) (Z0 : n0 ≤ h0.size) :
    MetFree l (⟨"java/lang/Math", "min", "(JJ)J"⟩ : MethodName) (head1 (Jvm.Cond.code (⟨"java/lang/Math", "min", "(JJ)J"⟩ : MethodName) jdk_29_method_70_code 4 (some .long) :: ws) ({ frames := 0, cells := 0, slots := 0, locals := 0 } : Room)) (fun as0 U => as0 = #[(.long x), (.long y)] ∧ Z.Warmed39 U.vm ∧ U.heap = h0) (fun _ _ _ _ _ => True) (fun _ U oc0 U' => ∃ v L, oc0 = .returned v ∧ Q1 Z x y h0 n0 v U'.heap L ∧ FrameEnd U oc0 U' L ({ frames := 0, cells := 0, slots := 0, locals := 0 } : Room).cells ({ frames := 0, cells := 0, slots := 0, locals := 0 } : Room).slots) := by
  refine MetFree.of_bodySF (Jvm.Free.JP.mathPlain rfl (by decide +kernel)) hisR ?_
  intro p e s m args below meth c s₁ Bd hml0 hP hK
  obtain ⟨rfl, hZ, hh⟩ := hP
  have hx := Bd.exec
  have hby := Bd.bytes
  have hml : c.maxLocals = 4 := hml0
  have hown : s.vm.findClass "java/lang/Math" = some m.cls := findClass_of_methodNamed Bd.named
  have hnm := (name_of_methodNamed Bd.named Bd.method).1
  have X0 : Stand p l e ({ frames := 0, cells := 0, slots := 0, locals := 0 } : Room) s m #[(.long x), (.long y)] below meth c s₁ [] 0 0 := Stand.of_body Bd
  have e0 : s₁.heap = h0 := by rw [← hh, Bd.state]; rfl
  have N0 := Fr.nil n0
  show Gl p e below s (Q1 Z x y h0 n0) ({ frames := 0, cells := 0, slots := 0, locals := 0 } : Room).cells ({ frames := 0, cells := 0, slots := 0, locals := 0 } : Room).slots (s₁.setTop (entryFrame m #[(.long x), (.long y)] 4))
  refine Gl.back (fun _ k => castTop (ef_1 m x y) k) ?_
  show Gl _ _ _ _ _ _ _ (s₁.setTop (mkF m 0 #[.val (.long x), .second, .val (.long y), .second] []))
  refine Gl.back (fun _ k => XS.lloadN X0.here hx rfl (hb hby d1_0) rfl k) ?_
  show Gl _ _ _ _ _ _ _ (s₁.setTop (mkF m 1 #[.val (.long x), .second, .val (.long y), .second] [(.long x)]))
  refine Gl.back (fun _ k => XS.lloadN X0.here hx rfl (hb hby d1_1) rfl k) ?_
  show Gl _ _ _ _ _ _ _ (s₁.setTop (mkF m 2 #[.val (.long x), .second, .val (.long y), .second] [(.long y), (.long x)]))
  refine Gl.back (fun _ k => XS.lcmp X0.here hx rfl (hb hby d1_2) rfl k) ?_
  show Gl _ _ _ _ _ _ _ (s₁.setTop (mkF m 3 #[.val (.long x), .second, .val (.long y), .second] [(.int (lcmpW x y))]))
  by_cases hc3_1 : y < x
  · refine Gl.back (fun _ k => XS.ifYes X0.here hx rfl (pc0 := 3) (pc' := 10) rfl (hb hby d1_3) rfl ((if0 _ _).trans (tlt (own_lcG hc3_1)).2.2.1) (by decide) (by decide) k) ?_
    show Gl _ _ _ _ _ _ _ (s₁.setTop (mkF m 10 #[.val (.long x), .second, .val (.long y), .second] []))
    refine Gl.back (fun _ k => XS.lloadN X0.here hx rfl (hb hby d1_10) rfl k) ?_
    show Gl _ _ _ _ _ _ _ (s₁.setTop (mkF m 11 #[.val (.long x), .second, .val (.long y), .second] [(.long y)]))
    exact Gl.ret X0 e0 (v := (some (.long y))) (fun h => by rw [Bd.returns] at h; cases h) Bd.notSynchronized (fun fs hr => retOut X0 hx (w := (.long y)) Bd.returns rfl (Or.inr (Or.inl ⟨rfl, rfl, _, rfl⟩)) (hb hby d1_11) hr) ⟨N0, _, rfl, own_min1 hc3_1, rfl⟩ (by decide) (by decide)
  · refine Gl.back (fun _ k => XS.ifNo X0.here hx rfl (hb hby d1_3) rfl ((if0 _ _).trans (flt (own_lcGn hc3_1)).2.2.1) k) ?_
    show Gl _ _ _ _ _ _ _ (s₁.setTop (mkF m 6 #[.val (.long x), .second, .val (.long y), .second] []))
    refine Gl.back (fun _ k => XS.lloadN X0.here hx rfl (hb hby d1_6) rfl k) ?_
    show Gl _ _ _ _ _ _ _ (s₁.setTop (mkF m 7 #[.val (.long x), .second, .val (.long y), .second] [(.long x)]))
    refine Gl.back (fun _ k => XS.goto X0.here hx rfl (pc0 := 7) (pc' := 11) rfl (hb hby d1_7) (by decide) (by decide) k) ?_
    show Gl _ _ _ _ _ _ _ (s₁.setTop (mkF m 11 #[.val (.long x), .second, .val (.long y), .second] [(.long x)]))
    exact Gl.ret X0 e0 (v := (some (.long x))) (fun h => by rw [Bd.returns] at h; cases h) Bd.notSynchronized (fun fs hr => retOut X0 hx (w := (.long x)) Bd.returns rfl (Or.inr (Or.inl ⟨rfl, rfl, _, rfl⟩)) (hb hby d1_11) hr) ⟨N0, _, rfl, own_min0 hc3_1, rfl⟩ (by decide) (by decide)
theorem d2_0 : decode jdk_29_method_66_code 0 = .ok (.lload_n 0, 1) := by decide +kernel
theorem d2_1 : decode jdk_29_method_66_code 1 = .ok (.lload_n 2, 1) := by decide +kernel
theorem d2_2 : decode jdk_29_method_66_code 2 = .ok (.lcmp, 1) := by decide +kernel
theorem d2_3 : decode jdk_29_method_66_code 3 = .ok (.ifCond .lt 7, 3) := by decide +kernel
theorem d2_10 : decode jdk_29_method_66_code 10 = .ok (.lload_n 2, 1) := by decide +kernel
theorem d2_11 : decode jdk_29_method_66_code 11 = .ok (.lreturn, 1) := by decide +kernel
theorem d2_6 : decode jdk_29_method_66_code 6 = .ok (.lload_n 0, 1) := by decide +kernel
theorem d2_7 : decode jdk_29_method_66_code 7 = .ok (.goto 4, 3) := by decide +kernel
theorem ef_2 (m : MethodId) (x0 : Int64) (x1 : Int64) : entryFrame m #[(.long x0), (.long x1)] 4 = mkF m 0 #[.val (.long x0), .second, .val (.long x1), .second] [] := by first | (simp [entryFrame, mkF, argsToLocals, Value.category]; done) | rfl
def Q2 (Z : State) (x : Int64) (y : Int64) (h0 : Heap) (n0 : Nat) (v : Option Value) (h : Heap) (L : List Loc) : Prop := Fr n0 L ∧ (∃ r : Int64, v = some (.long r) ∧ r.toInt = max x.toInt y.toInt ∧ h = h0)
set_option maxRecDepth 65536 in
set_option maxHeartbeats 40000000 in
theorem rm2 (l : Launch) (Z : State) (a0 : Array Value) (hw : ∀ d ∈ tables_1, d.before a0 Z = true) (ws : List Jvm.Cond) (x : Int64) (y : Int64) (h0 : Heap) (n0 : Nat) (Z0 : n0 ≤ h0.size) :
    MetFree l (⟨"java/lang/Math", "max", "(JJ)J"⟩ : MethodName) (head1 (Jvm.Cond.code (⟨"java/lang/Math", "max", "(JJ)J"⟩ : MethodName) jdk_29_method_66_code 4 (some .long) :: ws) ({ frames := 0, cells := 0, slots := 0, locals := 0 } : Room)) (fun as0 U => as0 = #[(.long x), (.long y)] ∧ Z.Warmed39 U.vm ∧ U.heap = h0) (fun _ _ _ _ _ => True) (fun _ U oc0 U' => ∃ v L, oc0 = .returned v ∧ Q2 Z x y h0 n0 v U'.heap L ∧ FrameEnd U oc0 U' L ({ frames := 0, cells := 0, slots := 0, locals := 0 } : Room).cells ({ frames := 0, cells := 0, slots := 0, locals := 0 } : Room).slots) := by
  refine MetFree.of_bodySF (Jvm.Free.JP.mathPlain rfl (by decide +kernel)) hisR ?_
  intro p e s m args below meth c s₁ Bd hml0 hP hK
  obtain ⟨rfl, hZ, hh⟩ := hP
  have hx := Bd.exec
  have hby := Bd.bytes
  have hml : c.maxLocals = 4 := hml0
  have hown : s.vm.findClass "java/lang/Math" = some m.cls := findClass_of_methodNamed Bd.named
  have hnm := (name_of_methodNamed Bd.named Bd.method).1
  have X0 : Stand p l e ({ frames := 0, cells := 0, slots := 0, locals := 0 } : Room) s m #[(.long x), (.long y)] below meth c s₁ [] 0 0 := Stand.of_body Bd
  have e0 : s₁.heap = h0 := by rw [← hh, Bd.state]; rfl
  have N0 := Fr.nil n0
  show Gl p e below s (Q2 Z x y h0 n0) ({ frames := 0, cells := 0, slots := 0, locals := 0 } : Room).cells ({ frames := 0, cells := 0, slots := 0, locals := 0 } : Room).slots (s₁.setTop (entryFrame m #[(.long x), (.long y)] 4))
  refine Gl.back (fun _ k => castTop (ef_2 m x y) k) ?_
  show Gl _ _ _ _ _ _ _ (s₁.setTop (mkF m 0 #[.val (.long x), .second, .val (.long y), .second] []))
  refine Gl.back (fun _ k => XS.lloadN X0.here hx rfl (hb hby d2_0) rfl k) ?_
  show Gl _ _ _ _ _ _ _ (s₁.setTop (mkF m 1 #[.val (.long x), .second, .val (.long y), .second] [(.long x)]))
  refine Gl.back (fun _ k => XS.lloadN X0.here hx rfl (hb hby d2_1) rfl k) ?_
  show Gl _ _ _ _ _ _ _ (s₁.setTop (mkF m 2 #[.val (.long x), .second, .val (.long y), .second] [(.long y), (.long x)]))
  refine Gl.back (fun _ k => XS.lcmp X0.here hx rfl (hb hby d2_2) rfl k) ?_
  show Gl _ _ _ _ _ _ _ (s₁.setTop (mkF m 3 #[.val (.long x), .second, .val (.long y), .second] [(.int (lcmpW x y))]))
  by_cases hc3_2 : x < y
  · refine Gl.back (fun _ k => XS.ifYes X0.here hx rfl (pc0 := 3) (pc' := 10) rfl (hb hby d2_3) rfl ((if0 _ _).trans (tlt (own_lcL hc3_2)).1) (by decide) (by decide) k) ?_
    show Gl _ _ _ _ _ _ _ (s₁.setTop (mkF m 10 #[.val (.long x), .second, .val (.long y), .second] []))
    refine Gl.back (fun _ k => XS.lloadN X0.here hx rfl (hb hby d2_10) rfl k) ?_
    show Gl _ _ _ _ _ _ _ (s₁.setTop (mkF m 11 #[.val (.long x), .second, .val (.long y), .second] [(.long y)]))
    exact Gl.ret X0 e0 (v := (some (.long y))) (fun h => by rw [Bd.returns] at h; cases h) Bd.notSynchronized (fun fs hr => retOut X0 hx (w := (.long y)) Bd.returns rfl (Or.inr (Or.inl ⟨rfl, rfl, _, rfl⟩)) (hb hby d2_11) hr) ⟨N0, _, rfl, own_max1 hc3_2, rfl⟩ (by decide) (by decide)
  · refine Gl.back (fun _ k => XS.ifNo X0.here hx rfl (hb hby d2_3) rfl ((if0 _ _).trans (flt (own_lcLn hc3_2)).1) k) ?_
    show Gl _ _ _ _ _ _ _ (s₁.setTop (mkF m 6 #[.val (.long x), .second, .val (.long y), .second] []))
    refine Gl.back (fun _ k => XS.lloadN X0.here hx rfl (hb hby d2_6) rfl k) ?_
    show Gl _ _ _ _ _ _ _ (s₁.setTop (mkF m 7 #[.val (.long x), .second, .val (.long y), .second] [(.long x)]))
    refine Gl.back (fun _ k => XS.goto X0.here hx rfl (pc0 := 7) (pc' := 11) rfl (hb hby d2_7) (by decide) (by decide) k) ?_
    show Gl _ _ _ _ _ _ _ (s₁.setTop (mkF m 11 #[.val (.long x), .second, .val (.long y), .second] [(.long x)]))
    exact Gl.ret X0 e0 (v := (some (.long x))) (fun h => by rw [Bd.returns] at h; cases h) Bd.notSynchronized (fun fs hr => retOut X0 hx (w := (.long x)) Bd.returns rfl (Or.inr (Or.inl ⟨rfl, rfl, _, rfl⟩)) (hb hby d2_11) hr) ⟨N0, _, rfl, own_max0 hc3_2, rfl⟩ (by decide) (by decide)
theorem d5_0 : decode jdk_117_method_8_code 0 = .ok (.dload_n 0, 1) := by decide +kernel
theorem d5_1 : decode jdk_117_method_8_code 1 = .ok (.invokestatic 38, 3) := by decide +kernel
theorem pd__D_D : parseMethodDescriptor "(D)D" = some ⟨[.double], some .double⟩ := by decide +kernel
theorem d5_4 : decode jdk_117_method_8_code 4 = .ok (.ldc2_w 111, 3) := by decide +kernel
theorem d5_7 : decode jdk_117_method_8_code 7 = .ok (.dcmp .g, 1) := by decide +kernel
theorem d5_8 : decode jdk_117_method_8_code 8 = .ok (.ifCond .gt 7, 3) := by decide +kernel
theorem d5_11 : decode jdk_117_method_8_code 11 = .ok (.iconst 1, 1) := by decide +kernel
theorem d5_12 : decode jdk_117_method_8_code 12 = .ok (.goto 4, 3) := by decide +kernel
theorem d5_16 : decode jdk_117_method_8_code 16 = .ok (.ireturn, 1) := by decide +kernel
theorem pn_java_lang_Double : plainName "java/lang/Double" = true := by first | (simp [plainName, overriddenIn]; done) | decide +kernel
theorem ef_5 (m : MethodId) (x0 : UInt64) : entryFrame m #[(.double x0)] 2 = mkF m 0 #[.val (.double x0), .second] [] := by first | (simp [entryFrame, mkF, argsToLocals, Value.category]; done) | rfl
def Q5 (Z : State) (g : UInt64) (h0 : Heap) (n0 : Nat) (v : Option Value) (h : Heap) (L : List Loc) : Prop := Fr n0 L ∧ (v = some (.int 1) ∧ h = h0)
set_option maxRecDepth 65536 in
set_option maxHeartbeats 40000000 in
theorem rm5 (l : Launch) (Z : State) (a0 : Array Value) (hw : ∀ d ∈ tables_1, d.before a0 Z = true) (ws : List Jvm.Cond) (g : UInt64) (h0 : Heap) (n0 : Nat) (Z0 : n0 ≤ h0.size) (hN : Jvm.Free.Fl.NoNaN64 g) (hC : ¬ 0 < cmpValue (FP.dcmp (g &&& 0x7fffffffffffffff) (9218868437227405311 : UInt64)) .g) :
    MetFree l (⟨"java/lang/Double", "isFinite", "(D)Z"⟩ : MethodName) (head1 (Jvm.Cond.code (⟨"java/lang/Double", "isFinite", "(D)Z"⟩ : MethodName) jdk_117_method_8_code 2 (some .boolean) :: ws) ({ frames := 1, cells := 0, slots := 0, locals := 13 } : Room)) (fun as0 U => as0 = #[(.double g)] ∧ Z.Warmed39 U.vm ∧ U.heap = h0) (fun _ _ _ _ _ => True) (fun _ U oc0 U' => ∃ v L, oc0 = .returned v ∧ Q5 Z g h0 n0 v U'.heap L ∧ FrameEnd U oc0 U' L ({ frames := 1, cells := 0, slots := 0, locals := 13 } : Room).cells ({ frames := 1, cells := 0, slots := 0, locals := 13 } : Room).slots) := by
  refine MetFree.of_bodySF (plainFor_of_name pn_java_lang_Double) hisR ?_
  intro p e s m args below meth c s₁ Bd hml0 hP hK
  obtain ⟨rfl, hZ, hh⟩ := hP
  have hx := Bd.exec
  have hby := Bd.bytes
  have hml : c.maxLocals = 2 := hml0
  have hown : s.vm.findClass "java/lang/Double" = some m.cls := findClass_of_methodNamed Bd.named
  have hnm := (name_of_methodNamed Bd.named Bd.method).1
  have X0 : Stand p l e ({ frames := 1, cells := 0, slots := 0, locals := 13 } : Room) s m #[(.double g)] below meth c s₁ [] 0 0 := Stand.of_body Bd
  have e0 : s₁.heap = h0 := by rw [← hh, Bd.state]; rfl
  have N0 := Fr.nil n0
  show Gl p e below s (Q5 Z g h0 n0) ({ frames := 1, cells := 0, slots := 0, locals := 13 } : Room).cells ({ frames := 1, cells := 0, slots := 0, locals := 13 } : Room).slots (s₁.setTop (entryFrame m #[(.double g)] 2))
  refine Gl.back (fun _ k => castTop (ef_5 m g) k) ?_
  show Gl _ _ _ _ _ _ _ (s₁.setTop (mkF m 0 #[.val (.double g), .second] []))
  refine Gl.back (fun _ k => XS.dloadN X0.here hx rfl (hb hby d5_0) rfl k) ?_
  show Gl _ _ _ _ _ _ _ (s₁.setTop (mkF m 1 #[.val (.double g), .second] [(.double g)]))
  obtain ⟨T3, X3, e3, st3⟩ := natS X0 hx hZ hown (y := (⟨"java/lang/Math", "abs", "(D)D"⟩ : MethodName)) (hw _ (List.mem_of_getElem? (i := 22) rfl)) (hw _ (List.mem_of_getElem? (i := 23) rfl)) (hw _ (List.mem_of_getElem? (i := 3) rfl)) (hw _ (List.mem_of_getElem? (i := 24) rfl)) (by decide) e0 (W := 0) (val' := (.double (g &&& 0x7fffffffffffffff))) (fun hc => Jvm.Free.Fl.Abs.absD_pays g hc (by decide) (by decide)) (g := (mkF m 1 #[.val (.double g), .second] [(.double g)])) rfl (by rw [hml]; rfl) (argsL := [(.double g)]) (rest := []) (lenOf pd__D_D rfl) rfl (by show 2 * 0 + _ ≤ _; exact Nat.le_of_eq rfl) (hb hby d5_1) (by decide) (by decide) ⟨rfl, hN⟩ rfl
  refine Gl.back (fun _ k => st3 _ k) ?_
  show Gl _ _ _ _ _ _ _ (T3.setTop (mkF m 4 #[.val (.double g), .second] [(.double (g &&& 0x7fffffffffffffff))]))
  refine Gl.back (fun _ k => X3.ldc2DoubleC hx hown (mvT hZ (hw _ (List.mem_of_getElem? (i := 25) rfl))) (g := (mkF m 4 #[.val (.double g), .second] [(.double (g &&& 0x7fffffffffffffff))])) rfl (hb hby d5_4) _ k) ?_
  show Gl _ _ _ _ _ _ _ (T3.setTop (mkF m 7 #[.val (.double g), .second] [(.double (9218868437227405311 : UInt64)), (.double (g &&& 0x7fffffffffffffff))]))
  refine Gl.back (fun _ k => XS.dcmpS X3.here hx rfl (hb hby d5_7) rfl rfl k) ?_
  show Gl _ _ _ _ _ _ _ (T3.setTop (mkF m 8 #[.val (.double g), .second] [(.int (cmpValue (FP.dcmp (g &&& 0x7fffffffffffffff) (9218868437227405311 : UInt64)) .g))]))
  refine Gl.back (fun _ k => XS.ifNo X3.here hx rfl (hb hby d5_8) rfl ((if0 _ _).trans (flt (hC : ¬ (0 : Int32) < (cmpValue (FP.dcmp (g &&& 0x7fffffffffffffff) (9218868437227405311 : UInt64)) .g))).2.2.1) k) ?_
  show Gl _ _ _ _ _ _ _ (T3.setTop (mkF m 11 #[.val (.double g), .second] []))
  refine Gl.back (fun _ k => XS.iconst X3.here hx rfl (hb hby d5_11) k) ?_
  show Gl _ _ _ _ _ _ _ (T3.setTop (mkF m 12 #[.val (.double g), .second] [(.int (1 : Int32))]))
  refine Gl.back (fun _ k => XS.goto X3.here hx rfl (pc0 := 12) (pc' := 16) rfl (hb hby d5_12) (by decide) (by decide) k) ?_
  show Gl _ _ _ _ _ _ _ (T3.setTop (mkF m 16 #[.val (.double g), .second] [(.int (1 : Int32))]))
  exact Gl.ret X3 e3 (v := (some (.int (1 : Int32)))) (fun h => by rw [Bd.returns] at h; cases h) Bd.notSynchronized (fun fs hr => retN X3 hx (t := .boolean) (z := (1 : Int32)) Bd.returns (by simp) (hb hby d5_16) hr) ⟨N0, rfl, rfl⟩ (by decide) (by decide)
theorem d3_0 : decode prog_1_method_1_code 0 = .ok (.aload_n 0, 1) := by decide +kernel
theorem d3_1 : decode prog_1_method_1_code 1 = .ok (.invokespecial 1, 3) := by decide +kernel
theorem d3_4 : decode prog_1_method_1_code 4 = .ok (.dload_n 1, 1) := by decide +kernel
theorem d3_5 : decode prog_1_method_1_code 5 = .ok (.dconst 0, 1) := by decide +kernel
theorem d3_6 : decode prog_1_method_1_code 6 = .ok (.dcmp .l, 1) := by decide +kernel
theorem d3_7 : decode prog_1_method_1_code 7 = .ok (.ifCond .lt 16, 3) := by decide +kernel
theorem d3_10 : decode prog_1_method_1_code 10 = .ok (.dload_n 1, 1) := by decide +kernel
theorem d3_11 : decode prog_1_method_1_code 11 = .ok (.invokestatic 7, 3) := by decide +kernel
theorem pd__D_Z : parseMethodDescriptor "(D)Z" = some ⟨[.double], some .boolean⟩ := by decide +kernel
theorem d3_14 : decode prog_1_method_1_code 14 = .ok (.ifCond .eq 9, 3) := by decide +kernel
theorem d3_17 : decode prog_1_method_1_code 17 = .ok (.dload_n 1, 1) := by decide +kernel
theorem d3_18 : decode prog_1_method_1_code 18 = .ok (.dload_n 3, 1) := by decide +kernel
theorem d3_19 : decode prog_1_method_1_code 19 = .ok (.dcmp .g, 1) := by decide +kernel
theorem d3_20 : decode prog_1_method_1_code 20 = .ok (.ifCond .le 18, 3) := by decide +kernel
theorem d3_38 : decode prog_1_method_1_code 38 = .ok (.aload_n 0, 1) := by decide +kernel
theorem d3_39 : decode prog_1_method_1_code 39 = .ok (.dload_n 1, 1) := by decide +kernel
theorem d3_40 : decode prog_1_method_1_code 40 = .ok (.putfield 22, 3) := by decide +kernel
theorem d3_43 : decode prog_1_method_1_code 43 = .ok (.aload_n 0, 1) := by decide +kernel
theorem d3_44 : decode prog_1_method_1_code 44 = .ok (.dload_n 3, 1) := by decide +kernel
theorem d3_45 : decode prog_1_method_1_code 45 = .ok (.putfield 28, 3) := by decide +kernel
theorem d3_48 : decode prog_1_method_1_code 48 = .ok (.return_, 1) := by decide +kernel
theorem pn_com_example_uncovert_uncovert_analysis_capacity_CapacityBounds : plainName "com/example/uncovert/uncovert/analysis/capacity/CapacityBounds" = true := by first | (simp [plainName, overriddenIn]; done) | decide +kernel
theorem ef_3 (m : MethodId) (x0 : Addr) (x1 : UInt64) (x2 : UInt64) : entryFrame m #[(.ref x0), (.double x1), (.double x2)] 5 = mkF m 0 #[.val (.ref x0), .val (.double x1), .second, .val (.double x2), .second] [] := by first | (simp [entryFrame, mkF, argsToLocals, Value.category]; done) | rfl
def Q3 (Z : State) (a : Addr) (lw : UInt64) (up : UInt64) (h0 : Heap) (n0 : Nat) (v : Option Value) (h : Heap) (L : List Loc) : Prop := Fr n0 L ∧ (v = none ∧ Keep h0 h [a] ∧ Fld Z h a "com/example/uncovert/uncovert/analysis/capacity/CapacityBounds" "lower" "D" (.double lw) ∧ Fld Z h a "com/example/uncovert/uncovert/analysis/capacity/CapacityBounds" "upper" "D" (.double up))
set_option maxRecDepth 65536 in
set_option maxHeartbeats 40000000 in
theorem rm3 (l : Launch) (Z : State) (a0 : Array Value) (hw : ∀ d ∈ tables_1, d.before a0 Z = true) (ws : List Jvm.Cond) (a : Addr) (lw : UInt64) (up : UInt64) (h0 : Heap) (n0 : Nat) (Z0 : n0 ≤ h0.size) (g_a : n0 ≤ a) (E_a : Exa Z h0 a "com/example/uncovert/uncovert/analysis/capacity/CapacityBounds") (F_l : Fld Z h0 a "com/example/uncovert/uncovert/analysis/capacity/CapacityBounds" "lower" "D" (.double (0 : UInt64))) (F_u : Fld Z h0 a "com/example/uncovert/uncovert/analysis/capacity/CapacityBounds" "upper" "D" (.double (0 : UInt64))) (hN : Jvm.Free.Fl.NoNaN64 lw) (hC : ¬ 0 < cmpValue (FP.dcmp (lw &&& 0x7fffffffffffffff) (9218868437227405311 : UInt64)) .g) (hc1 : ¬ cmpValue (FP.dcmp lw FP.dconst0) .l < 0) (hc3 : ¬ 0 < cmpValue (FP.dcmp lw up) .g) :
    MetFree l (⟨"com/example/uncovert/uncovert/analysis/capacity/CapacityBounds", "<init>", "(DD)V"⟩ : MethodName) (head1 (Jvm.Cond.code (⟨"com/example/uncovert/uncovert/analysis/capacity/CapacityBounds", "<init>", "(DD)V"⟩ : MethodName) prog_1_method_1_code 5 none :: ws) ({ frames := 2, cells := 0, slots := 0, locals := 26 } : Room)) (fun as0 U => as0 = #[(.ref a), (.double lw), (.double up)] ∧ Z.Warmed39 U.vm ∧ U.heap = h0) (fun _ _ _ _ _ => True) (fun _ U oc0 U' => ∃ v L, oc0 = .returned v ∧ Q3 Z a lw up h0 n0 v U'.heap L ∧ FrameEnd U oc0 U' L ({ frames := 2, cells := 0, slots := 0, locals := 26 } : Room).cells ({ frames := 2, cells := 0, slots := 0, locals := 26 } : Room).slots) := by
  refine MetFree.of_bodySF (plainFor_of_name pn_com_example_uncovert_uncovert_analysis_capacity_CapacityBounds) hisR ?_
  intro p e s m args below meth c s₁ Bd hml0 hP hK
  obtain ⟨rfl, hZ, hh⟩ := hP
  have hx := Bd.exec
  have hby := Bd.bytes
  have hml : c.maxLocals = 5 := hml0
  have hown : s.vm.findClass "com/example/uncovert/uncovert/analysis/capacity/CapacityBounds" = some m.cls := findClass_of_methodNamed Bd.named
  have hnm := (name_of_methodNamed Bd.named Bd.method).1
  have X0 : Stand p l e ({ frames := 2, cells := 0, slots := 0, locals := 26 } : Room) s m #[(.ref a), (.double lw), (.double up)] below meth c s₁ [] 0 0 := Stand.of_body Bd
  have e0 : s₁.heap = h0 := by rw [← hh, Bd.state]; rfl
  have N0 := Fr.nil n0
  show Gl p e below s (Q3 Z a lw up h0 n0) ({ frames := 2, cells := 0, slots := 0, locals := 26 } : Room).cells ({ frames := 2, cells := 0, slots := 0, locals := 26 } : Room).slots (s₁.setTop (entryFrame m #[(.ref a), (.double lw), (.double up)] 5))
  refine Gl.back (fun _ k => castTop (ef_3 m a lw up) k) ?_
  show Gl _ _ _ _ _ _ _ (s₁.setTop (mkF m 0 #[.val (.ref a), .val (.double lw), .second, .val (.double up), .second] []))
  refine Gl.back (fun _ k => XS.aloadN X0.here hx rfl (hb hby d3_0) rfl rfl k) ?_
  show Gl _ _ _ _ _ _ _ (s₁.setTop (mkF m 1 #[.val (.ref a), .val (.double lw), .second, .val (.double up), .second] [(.ref a)]))
  obtain ⟨T4, X4, e4, st4⟩ := initO X0 hx hZ hown (hw _ (List.mem_of_getElem? (i := 15) rfl)) (hw _ (List.mem_of_getElem? (i := 16) rfl)) (hw _ (List.mem_of_getElem? (i := 17) rfl)) e0 (g := (mkF m 1 #[.val (.ref a), .val (.double lw), .second, .val (.double up), .second] [(.ref a)])) rfl (by rw [hml]; rfl) rfl (hb hby d3_1) (by decide) (W := 0) (by show 2 * 0 + _ ≤ _; exact Nat.le_of_eq rfl) (by decide)
  refine Gl.back (fun _ k => st4 _ k) ?_
  show Gl _ _ _ _ _ _ _ (T4.setTop (mkF m 4 #[.val (.ref a), .val (.double lw), .second, .val (.double up), .second] []))
  refine Gl.back (fun _ k => XS.dloadN X4.here hx rfl (hb hby d3_4) rfl k) ?_
  show Gl _ _ _ _ _ _ _ (T4.setTop (mkF m 5 #[.val (.ref a), .val (.double lw), .second, .val (.double up), .second] [(.double lw)]))
  refine Gl.back (fun _ k => XS.dconst0 X4.here hx rfl (hb hby d3_5) rfl k) ?_
  show Gl _ _ _ _ _ _ _ (T4.setTop (mkF m 6 #[.val (.ref a), .val (.double lw), .second, .val (.double up), .second] [(.double FP.dconst0), (.double lw)]))
  refine Gl.back (fun _ k => XS.dcmpS X4.here hx rfl (hb hby d3_6) rfl rfl k) ?_
  show Gl _ _ _ _ _ _ _ (T4.setTop (mkF m 7 #[.val (.ref a), .val (.double lw), .second, .val (.double up), .second] [(.int (cmpValue (FP.dcmp lw FP.dconst0) .l))]))
  refine Gl.back (fun _ k => XS.ifNo X4.here hx rfl (hb hby d3_7) rfl ((if0 _ _).trans (flt (hc1 : ¬ (cmpValue (FP.dcmp lw FP.dconst0) .l) < (0 : Int32))).1) k) ?_
  show Gl _ _ _ _ _ _ _ (T4.setTop (mkF m 10 #[.val (.ref a), .val (.double lw), .second, .val (.double up), .second] []))
  refine Gl.back (fun _ k => XS.dloadN X4.here hx rfl (hb hby d3_10) rfl k) ?_
  show Gl _ _ _ _ _ _ _ (T4.setTop (mkF m 11 #[.val (.ref a), .val (.double lw), .second, .val (.double up), .second] [(.double lw)]))
  obtain ⟨_, _, ⟨T5, L5, k5, n5⟩, -, X5, ⟨Lc5, hQ5, l5, y5, z5⟩, st5⟩ := Jvm.LawKit.callS X4 hx (y := (⟨"java/lang/Double", "isFinite", "(D)Z"⟩ : MethodName)) hown (mvT hZ (hw _ (List.mem_of_getElem? (i := 18) rfl))) (mvT hZ (hw _ (List.mem_of_getElem? (i := 19) rfl))) (mvT hZ (hw _ (List.mem_of_getElem? (i := 20) rfl))) (mvT hZ (hw _ (List.mem_of_getElem? (i := 21) rfl))) (by decide) (backOf (W := 0) (rm5 l Z a0 hw [] lw  h0 n0 Z0 hN hC) hZ (hw _ (List.mem_of_getElem? (i := 21) rfl)) (hw _ (List.mem_of_getElem? (i := 20) rfl)) (by decide) (by decide)) (g := (mkF m 11 #[.val (.ref a), .val (.double lw), .second, .val (.double up), .second] [(.double lw)])) rfl (by rw [hml]; rfl) (argsL := [(.double lw)]) (rest := []) (lenOf pd__D_Z rfl) rfl (by show 2 * 0 + _ ≤ _; exact Nat.le_of_eq rfl) (hb hby d3_11) (fun _ _ => ⟨rfl, e4, (by decide : 0 + 0 ≤ _), (by decide : 0 + 0 ≤ _)⟩)
  dsimp only [Pt.U, Pt.locs, Pt.cells, Pt.slots] at X5 l5 y5 z5 st5 hQ5
  subst l5 y5 z5
  obtain ⟨Nq5, rfl, eh5⟩ := hQ5
  have N5 := Fr.app N0 Nq5
  refine Gl.back (fun _ k => st5 _ k) ?_
  show Gl _ _ _ _ _ _ _ (T5.setTop (mkF m 14 #[.val (.ref a), .val (.double lw), .second, .val (.double up), .second] [(.int (1 : Int32))]))
  refine Gl.back (fun _ k => XS.ifNo X5.here hx rfl (hb hby d3_14) rfl ((if0 _ _).trans (feq (by decide : ¬ (1 : Int32) = (0 : Int32))).1) k) ?_
  show Gl _ _ _ _ _ _ _ (T5.setTop (mkF m 17 #[.val (.ref a), .val (.double lw), .second, .val (.double up), .second] []))
  refine Gl.back (fun _ k => XS.dloadN X5.here hx rfl (hb hby d3_17) rfl k) ?_
  show Gl _ _ _ _ _ _ _ (T5.setTop (mkF m 18 #[.val (.ref a), .val (.double lw), .second, .val (.double up), .second] [(.double lw)]))
  refine Gl.back (fun _ k => XS.dloadN X5.here hx rfl (hb hby d3_18) rfl k) ?_
  show Gl _ _ _ _ _ _ _ (T5.setTop (mkF m 19 #[.val (.ref a), .val (.double lw), .second, .val (.double up), .second] [(.double up), (.double lw)]))
  refine Gl.back (fun _ k => XS.dcmpS X5.here hx rfl (hb hby d3_19) rfl rfl k) ?_
  show Gl _ _ _ _ _ _ _ (T5.setTop (mkF m 20 #[.val (.ref a), .val (.double lw), .second, .val (.double up), .second] [(.int (cmpValue (FP.dcmp lw up) .g))]))
  refine Gl.back (fun _ k => XS.ifYes X5.here hx rfl (pc0 := 20) (pc' := 38) rfl (hb hby d3_20) rfl ((if0 _ _).trans (flt (hc3 : ¬ (0 : Int32) < (cmpValue (FP.dcmp lw up) .g))).2.2.2) (by decide) (by decide) k) ?_
  show Gl _ _ _ _ _ _ _ (T5.setTop (mkF m 38 #[.val (.ref a), .val (.double lw), .second, .val (.double up), .second] []))
  refine Gl.back (fun _ k => XS.aloadN X5.here hx rfl (hb hby d3_38) rfl rfl k) ?_
  show Gl _ _ _ _ _ _ _ (T5.setTop (mkF m 39 #[.val (.ref a), .val (.double lw), .second, .val (.double up), .second] [(.ref a)]))
  refine Gl.back (fun _ k => XS.dloadN X5.here hx rfl (hb hby d3_39) rfl k) ?_
  show Gl _ _ _ _ _ _ _ (T5.setTop (mkF m 40 #[.val (.ref a), .val (.double lw), .second, .val (.double up), .second] [(.double lw), (.ref a)]))
  obtain ⟨T6, h6, X6, e6, W6, st6⟩ := putF X5 hx hZ hown (host := "") (Or.inl (hw _ (List.mem_of_getElem? (i := 26) rfl))) Via.refl eh5 F_l E_a (Or.inr ⟨(hw _ (List.mem_of_getElem? (i := 27) rfl)), rfl, hnm⟩) (hw _ (List.mem_of_getElem? (i := 10) rfl)) (ty := .double) (by decide) rfl rfl (g := (mkF m 40 #[.val (.ref a), .val (.double lw), .second, .val (.double up), .second] [(.double lw), (.ref a)])) rfl rfl (hb hby d3_40)
  have Fw6 := F_l.same W6
  have K6 := Keep.wr (Keep.refl h0 [a]) W6 (Or.inl (List.mem_of_getElem? (i := 0) rfl))
  have Z6 : n0 ≤ h6.size := Nat.le_trans Z0 (Keep.of_wr W6).1
  have N6 := Fr.snoc X6 N5 g_a
  refine Gl.back (fun _ k => st6 _ k) ?_
  show Gl _ _ _ _ _ _ _ (T6.setTop (mkF m 43 #[.val (.ref a), .val (.double lw), .second, .val (.double up), .second] []))
  refine Gl.back (fun _ k => XS.aloadN X6.here hx rfl (hb hby d3_43) rfl rfl k) ?_
  show Gl _ _ _ _ _ _ _ (T6.setTop (mkF m 44 #[.val (.ref a), .val (.double lw), .second, .val (.double up), .second] [(.ref a)]))
  refine Gl.back (fun _ k => XS.dloadN X6.here hx rfl (hb hby d3_44) rfl k) ?_
  show Gl _ _ _ _ _ _ _ (T6.setTop (mkF m 45 #[.val (.ref a), .val (.double lw), .second, .val (.double up), .second] [(.double up), (.ref a)]))
  have f7 := (E_a.wr W6)
  have f8 := (F_u.other W6 (Or.inr (slot_ne (Or.inr (hw _ (List.mem_of_getElem? (i := 29) rfl))) (Or.inr (hw _ (List.mem_of_getElem? (i := 27) rfl))) (by decide) (t := .double) (t' := .double) (by decide) (by decide))))
  obtain ⟨T9, h9, X9, e9, W9, st9⟩ := putF X6 hx hZ hown (host := "") (Or.inl (hw _ (List.mem_of_getElem? (i := 28) rfl))) Via.refl e6 f8 f7 (Or.inr ⟨(hw _ (List.mem_of_getElem? (i := 29) rfl)), rfl, hnm⟩) (hw _ (List.mem_of_getElem? (i := 10) rfl)) (ty := .double) (by decide) rfl rfl (g := (mkF m 45 #[.val (.ref a), .val (.double lw), .second, .val (.double up), .second] [(.double up), (.ref a)])) rfl rfl (hb hby d3_45)
  have Fw9 := f8.same W9
  have K9 := Keep.wr K6 W9 (Or.inl (List.mem_of_getElem? (i := 0) rfl))
  have Z9 : n0 ≤ h9.size := Nat.le_trans Z6 (Keep.of_wr W9).1
  have N9 := Fr.snoc X9 N6 g_a
  refine Gl.back (fun _ k => st9 _ k) ?_
  show Gl _ _ _ _ _ _ _ (T9.setTop (mkF m 48 #[.val (.ref a), .val (.double lw), .second, .val (.double up), .second] []))
  have f10 := (Fw6.other W9 (Or.inr (slot_ne (Or.inr (hw _ (List.mem_of_getElem? (i := 27) rfl))) (Or.inr (hw _ (List.mem_of_getElem? (i := 29) rfl))) (by decide) (t := .double) (t' := .double) (by decide) (by decide))))
  exact Gl.ret X9 e9 (v := none) (fun _ => rfl) Bd.notSynchronized (fun fs hr => X9.returnOut hx Bd.returns (hb hby d3_48) hr) ⟨N9, rfl, K9, f10, Fw9⟩ (by decide) (by decide)
theorem d7_0 : decode prog_1_method_4_code 0 = .ok (.aload_n 0, 1) := by decide +kernel
theorem d7_1 : decode prog_1_method_4_code 1 = .ok (.getfield 22, 3) := by decide +kernel
theorem d7_4 : decode prog_1_method_4_code 4 = .ok (.aload_n 0, 1) := by decide +kernel
theorem d7_5 : decode prog_1_method_4_code 5 = .ok (.getfield 28, 3) := by decide +kernel
theorem d7_8 : decode prog_1_method_4_code 8 = .ok (.aload_n 0, 1) := by decide +kernel
theorem d7_9 : decode prog_1_method_4_code 9 = .ok (.getfield 22, 3) := by decide +kernel
theorem d7_12 : decode prog_1_method_4_code 12 = .ok (.dsub, 1) := by decide +kernel
theorem d7_13 : decode prog_1_method_4_code 13 = .ok (.ldc2_w 31, 3) := by decide +kernel
theorem d7_16 : decode prog_1_method_4_code 16 = .ok (.ddiv, 1) := by decide +kernel
theorem d7_17 : decode prog_1_method_4_code 17 = .ok (.dadd, 1) := by decide +kernel
theorem d7_18 : decode prog_1_method_4_code 18 = .ok (.dreturn, 1) := by decide +kernel
theorem ef_7 (m : MethodId) (x0 : Addr) : entryFrame m #[(.ref x0)] 1 = mkF m 0 #[.val (.ref x0)] [] := by first | (simp [entryFrame, mkF, argsToLocals, Value.category]; done) | rfl
def Q7 (Z : State) (a : Addr) (lw up : UInt64) (h0 : Heap) (n0 : Nat) (v : Option Value) (h : Heap) (L : List Loc) : Prop := Fr n0 L ∧ (v = some (.double (FP.dadd lw (FP.ddiv (FP.dsub up lw) (4611686018427387904 : UInt64)))) ∧ h = h0)
set_option maxRecDepth 65536 in
set_option maxHeartbeats 40000000 in
theorem rm7 (l : Launch) (Z : State) (a0 : Array Value) (hw : ∀ d ∈ tables_1, d.before a0 Z = true) (ws : List Jvm.Cond) (a : Addr) (lw up : UInt64) (h0 : Heap) (n0 : Nat) (Z0 : n0 ≤ h0.size) (F_l : Fld Z h0 a "com/example/uncovert/uncovert/analysis/capacity/CapacityBounds" "lower" "D" (.double lw)) (F_u : Fld Z h0 a "com/example/uncovert/uncovert/analysis/capacity/CapacityBounds" "upper" "D" (.double up)) (h1 : Jvm.Free.Fl.NoNaN64 (FP.dsub up lw)) (h2 : Jvm.Free.Fl.NoNaN64 (FP.ddiv (FP.dsub up lw) (4611686018427387904 : UInt64))) (h3 : Jvm.Free.Fl.NoNaN64 (FP.dadd lw (FP.ddiv (FP.dsub up lw) (4611686018427387904 : UInt64)))) :
    MetFree l (⟨"com/example/uncovert/uncovert/analysis/capacity/CapacityBounds", "getMidpoint", "()D"⟩ : MethodName) (head1 (Jvm.Cond.code (⟨"com/example/uncovert/uncovert/analysis/capacity/CapacityBounds", "getMidpoint", "()D"⟩ : MethodName) prog_1_method_4_code 1 (some .double) :: ws) ({ frames := 0, cells := 0, slots := 0, locals := 0 } : Room)) (fun as0 U => as0 = #[(.ref a)] ∧ Z.Warmed39 U.vm ∧ U.heap = h0) (fun _ _ _ _ _ => True) (fun _ U oc0 U' => ∃ v L, oc0 = .returned v ∧ Q7 Z a lw up h0 n0 v U'.heap L ∧ FrameEnd U oc0 U' L ({ frames := 0, cells := 0, slots := 0, locals := 0 } : Room).cells ({ frames := 0, cells := 0, slots := 0, locals := 0 } : Room).slots) := by
  refine MetFree.of_bodySF (plainFor_of_name pn_com_example_uncovert_uncovert_analysis_capacity_CapacityBounds) hisR ?_
  intro p e s m args below meth c s₁ Bd hml0 hP hK
  obtain ⟨rfl, hZ, hh⟩ := hP
  have hx := Bd.exec
  have hby := Bd.bytes
  have hml : c.maxLocals = 1 := hml0
  have hown : s.vm.findClass "com/example/uncovert/uncovert/analysis/capacity/CapacityBounds" = some m.cls := findClass_of_methodNamed Bd.named
  have hnm := (name_of_methodNamed Bd.named Bd.method).1
  have X0 : Stand p l e ({ frames := 0, cells := 0, slots := 0, locals := 0 } : Room) s m #[(.ref a)] below meth c s₁ [] 0 0 := Stand.of_body Bd
  have e0 : s₁.heap = h0 := by rw [← hh, Bd.state]; rfl
  have N0 := Fr.nil n0
  show Gl p e below s (Q7 Z a lw up h0 n0) ({ frames := 0, cells := 0, slots := 0, locals := 0 } : Room).cells ({ frames := 0, cells := 0, slots := 0, locals := 0 } : Room).slots (s₁.setTop (entryFrame m #[(.ref a)] 1))
  refine Gl.back (fun _ k => castTop (ef_7 m a) k) ?_
  show Gl _ _ _ _ _ _ _ (s₁.setTop (mkF m 0 #[.val (.ref a)] []))
  refine Gl.back (fun _ k => XS.aloadN X0.here hx rfl (hb hby d7_0) rfl rfl k) ?_
  show Gl _ _ _ _ _ _ _ (s₁.setTop (mkF m 1 #[.val (.ref a)] [(.ref a)]))
  obtain ⟨T11, X11, e11, st11⟩ := getF X0 hx hZ hown (host := "") (Or.inl (hw _ (List.mem_of_getElem? (i := 26) rfl))) Via.refl e0 F_l (g := (mkF m 1 #[.val (.ref a)] [(.ref a)])) rfl rfl (hb hby d7_1)
  refine Gl.back (fun _ k => st11 _ k) ?_
  show Gl _ _ _ _ _ _ _ (T11.setTop (mkF m 4 #[.val (.ref a)] [(.double lw)]))
  refine Gl.back (fun _ k => XS.aloadN X11.here hx rfl (hb hby d7_4) rfl rfl k) ?_
  show Gl _ _ _ _ _ _ _ (T11.setTop (mkF m 5 #[.val (.ref a)] [(.ref a), (.double lw)]))
  obtain ⟨T12, X12, e12, st12⟩ := getF X11 hx hZ hown (host := "") (Or.inl (hw _ (List.mem_of_getElem? (i := 28) rfl))) Via.refl e11 F_u (g := (mkF m 5 #[.val (.ref a)] [(.ref a), (.double lw)])) rfl rfl (hb hby d7_5)
  refine Gl.back (fun _ k => st12 _ k) ?_
  show Gl _ _ _ _ _ _ _ (T12.setTop (mkF m 8 #[.val (.ref a)] [(.double up), (.double lw)]))
  refine Gl.back (fun _ k => XS.aloadN X12.here hx rfl (hb hby d7_8) rfl rfl k) ?_
  show Gl _ _ _ _ _ _ _ (T12.setTop (mkF m 9 #[.val (.ref a)] [(.ref a), (.double up), (.double lw)]))
  obtain ⟨T13, X13, e13, st13⟩ := getF X12 hx hZ hown (host := "") (Or.inl (hw _ (List.mem_of_getElem? (i := 26) rfl))) Via.refl e12 F_l (g := (mkF m 9 #[.val (.ref a)] [(.ref a), (.double up), (.double lw)])) rfl rfl (hb hby d7_9)
  refine Gl.back (fun _ k => st13 _ k) ?_
  show Gl _ _ _ _ _ _ _ (T13.setTop (mkF m 12 #[.val (.ref a)] [(.double lw), (.double up), (.double lw)]))
  refine Gl.back (fun _ k => XS.dsubS X13.here hx rfl (hb hby d7_12) rfl h1 rfl k) ?_
  show Gl _ _ _ _ _ _ _ (T13.setTop (mkF m 13 #[.val (.ref a)] [(.double (FP.dsub up lw)), (.double lw)]))
  refine Gl.back (fun _ k => X13.ldc2DoubleC hx hown (mvT hZ (hw _ (List.mem_of_getElem? (i := 35) rfl))) (g := (mkF m 13 #[.val (.ref a)] [(.double (FP.dsub up lw)), (.double lw)])) rfl (hb hby d7_13) _ k) ?_
  show Gl _ _ _ _ _ _ _ (T13.setTop (mkF m 16 #[.val (.ref a)] [(.double (4611686018427387904 : UInt64)), (.double (FP.dsub up lw)), (.double lw)]))
  refine Gl.back (fun _ k => XS.ddivS X13.here hx rfl (hb hby d7_16) rfl h2 rfl k) ?_
  show Gl _ _ _ _ _ _ _ (T13.setTop (mkF m 17 #[.val (.ref a)] [(.double (FP.ddiv (FP.dsub up lw) (4611686018427387904 : UInt64))), (.double lw)]))
  refine Gl.back (fun _ k => XS.daddS X13.here hx rfl (hb hby d7_17) rfl h3 rfl k) ?_
  show Gl _ _ _ _ _ _ _ (T13.setTop (mkF m 18 #[.val (.ref a)] [(.double (FP.dadd lw (FP.ddiv (FP.dsub up lw) (4611686018427387904 : UInt64))))]))
  exact Gl.ret X13 e13 (v := (some (.double (FP.dadd lw (FP.ddiv (FP.dsub up lw) (4611686018427387904 : UInt64)))))) (fun h => by rw [Bd.returns] at h; cases h) Bd.notSynchronized (fun fs hr => retOut X13 hx (w := (.double (FP.dadd lw (FP.ddiv (FP.dsub up lw) (4611686018427387904 : UInt64))))) Bd.returns rfl (Or.inr (Or.inr (Or.inl ⟨rfl, rfl, _, rfl⟩))) (hb hby d7_18) hr) ⟨N0, rfl, rfl⟩ (by decide) (by decide)
theorem pd__JJ_J : parseMethodDescriptor "(JJ)J" = some ⟨[.long, .long], some .long⟩ := by decide +kernel
theorem pd__DD_V : parseMethodDescriptor "(DD)V" = some ⟨[.double, .double], none⟩ := by decide +kernel
theorem pd___D : parseMethodDescriptor "()D" = some ⟨[], some .double⟩ := by decide +kernel
theorem pn_com_example_uncovert_uncovert_analysis_capacity_CapacityBoundsGetMidpointPinLaw : plainName "com/example/uncovert/uncovert/analysis/capacity/CapacityBoundsGetMidpointPinLaw" = true := by first | (simp [plainName, overriddenIn]; done) | decide +kernel
theorem ef_0 (m : MethodId) (x0 : Int32) (x1 : Int32) (x2 : Int32) : entryFrame m #[(.int x0), (.int x1), (.int x2)] maxLocals = mkF m 0 #[.val (.int x0), .val (.int x1), .val (.int x2), .unset, .unset, .unset, .unset, .unset, .unset, .unset, .unset, .unset, .unset, .unset, .unset, .unset, .unset, .unset, .unset, .unset, .unset, .unset, .unset, .unset, .unset, .unset] [] := by first | (simp [entryFrame, mkF, argsToLocals, Value.category, maxLocals]; done) | rfl
def Q0 (Z : State) (x0 : Int32) (x1 : Int32) (x2 : Int32) (h0 : Heap) (n0 : Nat) (v : Option Value) (h : Heap) (L : List Loc) : Prop := Fr n0 L ∧ (v = some (.int 1))
set_option maxRecDepth 65536 in
set_option maxHeartbeats 40000000 in
theorem rm0 (l : Launch) (Z : State) (a0 : Array Value) (hw : ∀ d ∈ tables_1, d.before a0 Z = true) (ws : List Jvm.Cond) (x0 : Int32) (x1 : Int32) (x2 : Int32) (h0 : Heap) (n0 : Nat) (Z0 : n0 ≤ h0.size) :
    MetFree l x (head1 (Jvm.Cond.code x code maxLocals ret :: ws) room_1) (fun as0 U => as0 = #[(.int x0), (.int x1), (.int x2)] ∧ Z.Warmed39 U.vm ∧ U.heap = h0) (fun _ _ _ _ _ => True) (fun _ U oc0 U' => ∃ v L, oc0 = .returned v ∧ Q0 Z x0 x1 x2 h0 n0 v U'.heap L ∧ FrameEnd U oc0 U' L room_1.cells room_1.slots) := by
  refine MetFree.of_bodySF (plainFor_of_name pn_com_example_uncovert_uncovert_analysis_capacity_CapacityBoundsGetMidpointPinLaw) hisR ?_
  intro p e s m args below meth c s₁ Bd hml0 hP hK
  obtain ⟨rfl, hZ, hh⟩ := hP
  have hx := Bd.exec
  have hby := Bd.bytes
  have hml : c.maxLocals = 26 := hml0
  have hown : s.vm.findClass "com/example/uncovert/uncovert/analysis/capacity/CapacityBoundsGetMidpointPinLaw" = some m.cls := findClass_of_methodNamed Bd.named
  have hnm := (name_of_methodNamed Bd.named Bd.method).1
  have X0 : Stand p l e room_1 s m #[(.int x0), (.int x1), (.int x2)] below meth c s₁ [] 0 0 := Stand.of_body Bd
  have e0 : s₁.heap = h0 := by rw [← hh, Bd.state]; rfl
  have N0 := Fr.nil n0
  show Gl p e below s (Q0 Z x0 x1 x2 h0 n0) room_1.cells room_1.slots (s₁.setTop (entryFrame m #[(.int x0), (.int x1), (.int x2)] maxLocals))
  refine Gl.back (fun _ k => castTop (ef_0 m x0 x1 x2) k) ?_
  show Gl _ _ _ _ _ _ _ (s₁.setTop (mkF m 0 #[.val (.int x0), .val (.int x1), .val (.int x2), .unset, .unset, .unset, .unset, .unset, .unset, .unset, .unset, .unset, .unset, .unset, .unset, .unset, .unset, .unset, .unset, .unset, .unset, .unset, .unset, .unset, .unset, .unset] []))
  refine Gl.back (fun _ k => XS.iloadN X0.here hx rfl (hb hby at_0) rfl k) ?_
  show Gl _ _ _ _ _ _ _ (s₁.setTop (mkF m 1 #[.val (.int x0), .val (.int x1), .val (.int x2), .unset, .unset, .unset, .unset, .unset, .unset, .unset, .unset, .unset, .unset, .unset, .unset, .unset, .unset, .unset, .unset, .unset, .unset, .unset, .unset, .unset, .unset, .unset] [(.int x0)]))
  refine Gl.back (fun _ k => XS.i2l X0.here hx rfl (hb hby at_1) rfl k) ?_
  show Gl _ _ _ _ _ _ _ (s₁.setTop (mkF m 2 #[.val (.int x0), .val (.int x1), .val (.int x2), .unset, .unset, .unset, .unset, .unset, .unset, .unset, .unset, .unset, .unset, .unset, .unset, .unset, .unset, .unset, .unset, .unset, .unset, .unset, .unset, .unset, .unset, .unset] [(.long (x0.toInt64))]))
  refine Gl.back (fun _ k => X0.ldc2Long hx hown (mvT hZ (hw _ (List.mem_of_getElem? (i := 0) rfl))) (g := (mkF m 2 #[.val (.int x0), .val (.int x1), .val (.int x2), .unset, .unset, .unset, .unset, .unset, .unset, .unset, .unset, .unset, .unset, .unset, .unset, .unset, .unset, .unset, .unset, .unset, .unset, .unset, .unset, .unset, .unset, .unset] [(.long (x0.toInt64))])) rfl (hb hby at_2) _ k) ?_
  show Gl _ _ _ _ _ _ _ (s₁.setTop (mkF m 5 #[.val (.int x0), .val (.int x1), .val (.int x2), .unset, .unset, .unset, .unset, .unset, .unset, .unset, .unset, .unset, .unset, .unset, .unset, .unset, .unset, .unset, .unset, .unset, .unset, .unset, .unset, .unset, .unset, .unset] [(.long (2147483647 : Int64)), (.long (x0.toInt64))]))
  refine Gl.back (fun _ k => XS.land X0.here hx rfl (hb hby at_5) rfl k) ?_
  show Gl _ _ _ _ _ _ _ (s₁.setTop (mkF m 6 #[.val (.int x0), .val (.int x1), .val (.int x2), .unset, .unset, .unset, .unset, .unset, .unset, .unset, .unset, .unset, .unset, .unset, .unset, .unset, .unset, .unset, .unset, .unset, .unset, .unset, .unset, .unset, .unset, .unset] [(.long ((x0.toInt64) &&& (2147483647 : Int64)))]))
  refine Gl.back (fun _ k => XS.lstoreN X0.here hx rfl (hb hby at_6) rfl (l' := #[.val (.int x0), .val (.int x1), .val (.int x2), .val (.long ((x0.toInt64) &&& (2147483647 : Int64))), .second, .unset, .unset, .unset, .unset, .unset, .unset, .unset, .unset, .unset, .unset, .unset, .unset, .unset, .unset, .unset, .unset, .unset, .unset, .unset, .unset, .unset]) rfl k) ?_
  show Gl _ _ _ _ _ _ _ (s₁.setTop (mkF m 7 #[.val (.int x0), .val (.int x1), .val (.int x2), .val (.long ((x0.toInt64) &&& (2147483647 : Int64))), .second, .unset, .unset, .unset, .unset, .unset, .unset, .unset, .unset, .unset, .unset, .unset, .unset, .unset, .unset, .unset, .unset, .unset, .unset, .unset, .unset, .unset] []))
  refine Gl.back (fun _ k => XS.iloadN X0.here hx rfl (hb hby at_7) rfl k) ?_
  show Gl _ _ _ _ _ _ _ (s₁.setTop (mkF m 8 #[.val (.int x0), .val (.int x1), .val (.int x2), .val (.long ((x0.toInt64) &&& (2147483647 : Int64))), .second, .unset, .unset, .unset, .unset, .unset, .unset, .unset, .unset, .unset, .unset, .unset, .unset, .unset, .unset, .unset, .unset, .unset, .unset, .unset, .unset, .unset] [(.int x1)]))
  refine Gl.back (fun _ k => XS.i2l X0.here hx rfl (hb hby at_8) rfl k) ?_
  show Gl _ _ _ _ _ _ _ (s₁.setTop (mkF m 9 #[.val (.int x0), .val (.int x1), .val (.int x2), .val (.long ((x0.toInt64) &&& (2147483647 : Int64))), .second, .unset, .unset, .unset, .unset, .unset, .unset, .unset, .unset, .unset, .unset, .unset, .unset, .unset, .unset, .unset, .unset, .unset, .unset, .unset, .unset, .unset] [(.long (x1.toInt64))]))
  refine Gl.back (fun _ k => X0.ldc2Long hx hown (mvT hZ (hw _ (List.mem_of_getElem? (i := 0) rfl))) (g := (mkF m 9 #[.val (.int x0), .val (.int x1), .val (.int x2), .val (.long ((x0.toInt64) &&& (2147483647 : Int64))), .second, .unset, .unset, .unset, .unset, .unset, .unset, .unset, .unset, .unset, .unset, .unset, .unset, .unset, .unset, .unset, .unset, .unset, .unset, .unset, .unset, .unset] [(.long (x1.toInt64))])) rfl (hb hby at_9) _ k) ?_
  show Gl _ _ _ _ _ _ _ (s₁.setTop (mkF m 12 #[.val (.int x0), .val (.int x1), .val (.int x2), .val (.long ((x0.toInt64) &&& (2147483647 : Int64))), .second, .unset, .unset, .unset, .unset, .unset, .unset, .unset, .unset, .unset, .unset, .unset, .unset, .unset, .unset, .unset, .unset, .unset, .unset, .unset, .unset, .unset] [(.long (2147483647 : Int64)), (.long (x1.toInt64))]))
  refine Gl.back (fun _ k => XS.land X0.here hx rfl (hb hby at_12) rfl k) ?_
  show Gl _ _ _ _ _ _ _ (s₁.setTop (mkF m 13 #[.val (.int x0), .val (.int x1), .val (.int x2), .val (.long ((x0.toInt64) &&& (2147483647 : Int64))), .second, .unset, .unset, .unset, .unset, .unset, .unset, .unset, .unset, .unset, .unset, .unset, .unset, .unset, .unset, .unset, .unset, .unset, .unset, .unset, .unset, .unset] [(.long ((x1.toInt64) &&& (2147483647 : Int64)))]))
  refine Gl.back (fun _ k => XS.lstore X0.here hx rfl (hb hby at_13) rfl (l' := #[.val (.int x0), .val (.int x1), .val (.int x2), .val (.long ((x0.toInt64) &&& (2147483647 : Int64))), .second, .val (.long ((x1.toInt64) &&& (2147483647 : Int64))), .second, .unset, .unset, .unset, .unset, .unset, .unset, .unset, .unset, .unset, .unset, .unset, .unset, .unset, .unset, .unset, .unset, .unset, .unset, .unset]) rfl k) ?_
  show Gl _ _ _ _ _ _ _ (s₁.setTop (mkF m 15 #[.val (.int x0), .val (.int x1), .val (.int x2), .val (.long ((x0.toInt64) &&& (2147483647 : Int64))), .second, .val (.long ((x1.toInt64) &&& (2147483647 : Int64))), .second, .unset, .unset, .unset, .unset, .unset, .unset, .unset, .unset, .unset, .unset, .unset, .unset, .unset, .unset, .unset, .unset, .unset, .unset, .unset] []))
  refine Gl.back (fun _ k => XS.lloadN X0.here hx rfl (hb hby at_15) rfl k) ?_
  show Gl _ _ _ _ _ _ _ (s₁.setTop (mkF m 16 #[.val (.int x0), .val (.int x1), .val (.int x2), .val (.long ((x0.toInt64) &&& (2147483647 : Int64))), .second, .val (.long ((x1.toInt64) &&& (2147483647 : Int64))), .second, .unset, .unset, .unset, .unset, .unset, .unset, .unset, .unset, .unset, .unset, .unset, .unset, .unset, .unset, .unset, .unset, .unset, .unset, .unset] [(.long ((x0.toInt64) &&& (2147483647 : Int64)))]))
  refine Gl.back (fun _ k => XS.lload X0.here hx rfl (hb hby at_16) rfl k) ?_
  show Gl _ _ _ _ _ _ _ (s₁.setTop (mkF m 18 #[.val (.int x0), .val (.int x1), .val (.int x2), .val (.long ((x0.toInt64) &&& (2147483647 : Int64))), .second, .val (.long ((x1.toInt64) &&& (2147483647 : Int64))), .second, .unset, .unset, .unset, .unset, .unset, .unset, .unset, .unset, .unset, .unset, .unset, .unset, .unset, .unset, .unset, .unset, .unset, .unset, .unset] [(.long ((x1.toInt64) &&& (2147483647 : Int64))), (.long ((x0.toInt64) &&& (2147483647 : Int64)))]))
  obtain ⟨_, _, ⟨T14, L14, k14, n14⟩, -, X14, ⟨Lc14, hQ14, l14, y14, z14⟩, st14⟩ := Jvm.LawKit.callS X0 hx (y := (⟨"java/lang/Math", "min", "(JJ)J"⟩ : MethodName)) hown (mvT hZ (hw _ (List.mem_of_getElem? (i := 1) rfl))) (mvT hZ (hw _ (List.mem_of_getElem? (i := 2) rfl))) (mvT hZ (hw _ (List.mem_of_getElem? (i := 3) rfl))) (mvT hZ (hw _ (List.mem_of_getElem? (i := 4) rfl))) (by decide) (backOf (W := 0) (rm1 l Z a0 hw [] ((x0.toInt64) &&& (2147483647 : Int64)) ((x1.toInt64) &&& (2147483647 : Int64))  h0 n0 Z0 ) hZ (hw _ (List.mem_of_getElem? (i := 4) rfl)) (hw _ (List.mem_of_getElem? (i := 3) rfl)) (by decide) (by decide)) (g := (mkF m 18 #[.val (.int x0), .val (.int x1), .val (.int x2), .val (.long ((x0.toInt64) &&& (2147483647 : Int64))), .second, .val (.long ((x1.toInt64) &&& (2147483647 : Int64))), .second, .unset, .unset, .unset, .unset, .unset, .unset, .unset, .unset, .unset, .unset, .unset, .unset, .unset, .unset, .unset, .unset, .unset, .unset, .unset] [(.long ((x1.toInt64) &&& (2147483647 : Int64))), (.long ((x0.toInt64) &&& (2147483647 : Int64)))])) rfl (by rw [hml]; rfl) (argsL := [(.long ((x0.toInt64) &&& (2147483647 : Int64))), (.long ((x1.toInt64) &&& (2147483647 : Int64)))]) (rest := []) (lenOf pd__JJ_J rfl) rfl (by show 2 * 0 + _ ≤ _; exact Nat.le_of_eq rfl) (hb hby at_18) (fun _ _ => ⟨rfl, e0, (by decide : 0 + 0 ≤ _), (by decide : 0 + 0 ≤ _)⟩)
  dsimp only [Pt.U, Pt.locs, Pt.cells, Pt.slots] at X14 l14 y14 z14 st14 hQ14
  subst l14 y14 z14
  obtain ⟨Nq14, r14, rfl, hr14, eh14⟩ := hQ14
  have N14 := Fr.app N0 Nq14
  refine Gl.back (fun _ k => st14 _ k) ?_
  show Gl _ _ _ _ _ _ _ (T14.setTop (mkF m 21 #[.val (.int x0), .val (.int x1), .val (.int x2), .val (.long ((x0.toInt64) &&& (2147483647 : Int64))), .second, .val (.long ((x1.toInt64) &&& (2147483647 : Int64))), .second, .unset, .unset, .unset, .unset, .unset, .unset, .unset, .unset, .unset, .unset, .unset, .unset, .unset, .unset, .unset, .unset, .unset, .unset, .unset] [(.long r14)]))
  refine Gl.back (fun _ k => XS.lstore X14.here hx rfl (hb hby at_21) rfl (l' := #[.val (.int x0), .val (.int x1), .val (.int x2), .val (.long ((x0.toInt64) &&& (2147483647 : Int64))), .second, .val (.long ((x1.toInt64) &&& (2147483647 : Int64))), .second, .val (.long r14), .second, .unset, .unset, .unset, .unset, .unset, .unset, .unset, .unset, .unset, .unset, .unset, .unset, .unset, .unset, .unset, .unset, .unset]) rfl k) ?_
  show Gl _ _ _ _ _ _ _ (T14.setTop (mkF m 23 #[.val (.int x0), .val (.int x1), .val (.int x2), .val (.long ((x0.toInt64) &&& (2147483647 : Int64))), .second, .val (.long ((x1.toInt64) &&& (2147483647 : Int64))), .second, .val (.long r14), .second, .unset, .unset, .unset, .unset, .unset, .unset, .unset, .unset, .unset, .unset, .unset, .unset, .unset, .unset, .unset, .unset, .unset] []))
  refine Gl.back (fun _ k => XS.lloadN X14.here hx rfl (hb hby at_23) rfl k) ?_
  show Gl _ _ _ _ _ _ _ (T14.setTop (mkF m 24 #[.val (.int x0), .val (.int x1), .val (.int x2), .val (.long ((x0.toInt64) &&& (2147483647 : Int64))), .second, .val (.long ((x1.toInt64) &&& (2147483647 : Int64))), .second, .val (.long r14), .second, .unset, .unset, .unset, .unset, .unset, .unset, .unset, .unset, .unset, .unset, .unset, .unset, .unset, .unset, .unset, .unset, .unset] [(.long ((x0.toInt64) &&& (2147483647 : Int64)))]))
  refine Gl.back (fun _ k => XS.lload X14.here hx rfl (hb hby at_24) rfl k) ?_
  show Gl _ _ _ _ _ _ _ (T14.setTop (mkF m 26 #[.val (.int x0), .val (.int x1), .val (.int x2), .val (.long ((x0.toInt64) &&& (2147483647 : Int64))), .second, .val (.long ((x1.toInt64) &&& (2147483647 : Int64))), .second, .val (.long r14), .second, .unset, .unset, .unset, .unset, .unset, .unset, .unset, .unset, .unset, .unset, .unset, .unset, .unset, .unset, .unset, .unset, .unset] [(.long ((x1.toInt64) &&& (2147483647 : Int64))), (.long ((x0.toInt64) &&& (2147483647 : Int64)))]))
  obtain ⟨_, _, ⟨T15, L15, k15, n15⟩, -, X15, ⟨Lc15, hQ15, l15, y15, z15⟩, st15⟩ := Jvm.LawKit.callS X14 hx (y := (⟨"java/lang/Math", "max", "(JJ)J"⟩ : MethodName)) hown (mvT hZ (hw _ (List.mem_of_getElem? (i := 5) rfl))) (mvT hZ (hw _ (List.mem_of_getElem? (i := 6) rfl))) (mvT hZ (hw _ (List.mem_of_getElem? (i := 3) rfl))) (mvT hZ (hw _ (List.mem_of_getElem? (i := 7) rfl))) (by decide) (backOf (W := 0) (rm2 l Z a0 hw [] ((x0.toInt64) &&& (2147483647 : Int64)) ((x1.toInt64) &&& (2147483647 : Int64))  h0 n0 Z0 ) hZ (hw _ (List.mem_of_getElem? (i := 7) rfl)) (hw _ (List.mem_of_getElem? (i := 3) rfl)) (by decide) (by decide)) (g := (mkF m 26 #[.val (.int x0), .val (.int x1), .val (.int x2), .val (.long ((x0.toInt64) &&& (2147483647 : Int64))), .second, .val (.long ((x1.toInt64) &&& (2147483647 : Int64))), .second, .val (.long r14), .second, .unset, .unset, .unset, .unset, .unset, .unset, .unset, .unset, .unset, .unset, .unset, .unset, .unset, .unset, .unset, .unset, .unset] [(.long ((x1.toInt64) &&& (2147483647 : Int64))), (.long ((x0.toInt64) &&& (2147483647 : Int64)))])) rfl (by rw [hml]; rfl) (argsL := [(.long ((x0.toInt64) &&& (2147483647 : Int64))), (.long ((x1.toInt64) &&& (2147483647 : Int64)))]) (rest := []) (lenOf pd__JJ_J rfl) rfl (by show 2 * 0 + _ ≤ _; exact Nat.le_of_eq rfl) (hb hby at_26) (fun _ _ => ⟨rfl, eh14, (by decide : 0 + 0 ≤ _), (by decide : 0 + 0 ≤ _)⟩)
  dsimp only [Pt.U, Pt.locs, Pt.cells, Pt.slots] at X15 l15 y15 z15 st15 hQ15
  subst l15 y15 z15
  obtain ⟨Nq15, r15, rfl, hr15, eh15⟩ := hQ15
  have N15 := Fr.app N14 Nq15
  refine Gl.back (fun _ k => st15 _ k) ?_
  show Gl _ _ _ _ _ _ _ (T15.setTop (mkF m 29 #[.val (.int x0), .val (.int x1), .val (.int x2), .val (.long ((x0.toInt64) &&& (2147483647 : Int64))), .second, .val (.long ((x1.toInt64) &&& (2147483647 : Int64))), .second, .val (.long r14), .second, .unset, .unset, .unset, .unset, .unset, .unset, .unset, .unset, .unset, .unset, .unset, .unset, .unset, .unset, .unset, .unset, .unset] [(.long r15)]))
  refine Gl.back (fun _ k => XS.lstore X15.here hx rfl (hb hby at_29) rfl (l' := #[.val (.int x0), .val (.int x1), .val (.int x2), .val (.long ((x0.toInt64) &&& (2147483647 : Int64))), .second, .val (.long ((x1.toInt64) &&& (2147483647 : Int64))), .second, .val (.long r14), .second, .val (.long r15), .second, .unset, .unset, .unset, .unset, .unset, .unset, .unset, .unset, .unset, .unset, .unset, .unset, .unset, .unset, .unset]) rfl k) ?_
  show Gl _ _ _ _ _ _ _ (T15.setTop (mkF m 31 #[.val (.int x0), .val (.int x1), .val (.int x2), .val (.long ((x0.toInt64) &&& (2147483647 : Int64))), .second, .val (.long ((x1.toInt64) &&& (2147483647 : Int64))), .second, .val (.long r14), .second, .val (.long r15), .second, .unset, .unset, .unset, .unset, .unset, .unset, .unset, .unset, .unset, .unset, .unset, .unset, .unset, .unset, .unset] []))
  obtain ⟨mlo, mhi, hlo, hhi, hle, hbd⟩ := own_lohi x0 x1 hr14 hr15
  refine Gl.back (fun _ k => XS.iloadN X15.here hx rfl (hb hby at_31) rfl k) ?_
  show Gl _ _ _ _ _ _ _ (T15.setTop (mkF m 32 #[.val (.int x0), .val (.int x1), .val (.int x2), .val (.long ((x0.toInt64) &&& (2147483647 : Int64))), .second, .val (.long ((x1.toInt64) &&& (2147483647 : Int64))), .second, .val (.long r14), .second, .val (.long r15), .second, .unset, .unset, .unset, .unset, .unset, .unset, .unset, .unset, .unset, .unset, .unset, .unset, .unset, .unset, .unset] [(.int x2)]))
  refine Gl.back (fun _ k => XS.bipush X15.here hx rfl (hb hby at_32) k) ?_
  show Gl _ _ _ _ _ _ _ (T15.setTop (mkF m 34 #[.val (.int x0), .val (.int x1), .val (.int x2), .val (.long ((x0.toInt64) &&& (2147483647 : Int64))), .second, .val (.long ((x1.toInt64) &&& (2147483647 : Int64))), .second, .val (.long r14), .second, .val (.long r15), .second, .unset, .unset, .unset, .unset, .unset, .unset, .unset, .unset, .unset, .unset, .unset, .unset, .unset, .unset, .unset] [(.int (15 : Int32)), (.int x2)]))
  refine Gl.back (fun _ k => XS.iand X15.here hx rfl (hb hby at_34) rfl k) ?_
  show Gl _ _ _ _ _ _ _ (T15.setTop (mkF m 35 #[.val (.int x0), .val (.int x1), .val (.int x2), .val (.long ((x0.toInt64) &&& (2147483647 : Int64))), .second, .val (.long ((x1.toInt64) &&& (2147483647 : Int64))), .second, .val (.long r14), .second, .val (.long r15), .second, .unset, .unset, .unset, .unset, .unset, .unset, .unset, .unset, .unset, .unset, .unset, .unset, .unset, .unset, .unset] [(.int (x2 &&& (15 : Int32)))]))
  refine Gl.back (fun _ k => XS.istore X15.here hx rfl (hb hby at_35) rfl (l' := #[.val (.int x0), .val (.int x1), .val (.int x2), .val (.long ((x0.toInt64) &&& (2147483647 : Int64))), .second, .val (.long ((x1.toInt64) &&& (2147483647 : Int64))), .second, .val (.long r14), .second, .val (.long r15), .second, .val (.int (x2 &&& (15 : Int32))), .unset, .unset, .unset, .unset, .unset, .unset, .unset, .unset, .unset, .unset, .unset, .unset, .unset, .unset]) rfl k) ?_
  show Gl _ _ _ _ _ _ _ (T15.setTop (mkF m 37 #[.val (.int x0), .val (.int x1), .val (.int x2), .val (.long ((x0.toInt64) &&& (2147483647 : Int64))), .second, .val (.long ((x1.toInt64) &&& (2147483647 : Int64))), .second, .val (.long r14), .second, .val (.long r15), .second, .val (.int (x2 &&& (15 : Int32))), .unset, .unset, .unset, .unset, .unset, .unset, .unset, .unset, .unset, .unset, .unset, .unset, .unset, .unset] []))
  refine Gl.back (fun _ k => XS.lconst X15.here hx rfl (hb hby at_37) k) ?_
  show Gl _ _ _ _ _ _ _ (T15.setTop (mkF m 38 #[.val (.int x0), .val (.int x1), .val (.int x2), .val (.long ((x0.toInt64) &&& (2147483647 : Int64))), .second, .val (.long ((x1.toInt64) &&& (2147483647 : Int64))), .second, .val (.long r14), .second, .val (.long r15), .second, .val (.int (x2 &&& (15 : Int32))), .unset, .unset, .unset, .unset, .unset, .unset, .unset, .unset, .unset, .unset, .unset, .unset, .unset, .unset] [(.long (1 : Int64))]))
  refine Gl.back (fun _ k => XS.iload X15.here hx rfl (hb hby at_38) rfl k) ?_
  show Gl _ _ _ _ _ _ _ (T15.setTop (mkF m 40 #[.val (.int x0), .val (.int x1), .val (.int x2), .val (.long ((x0.toInt64) &&& (2147483647 : Int64))), .second, .val (.long ((x1.toInt64) &&& (2147483647 : Int64))), .second, .val (.long r14), .second, .val (.long r15), .second, .val (.int (x2 &&& (15 : Int32))), .unset, .unset, .unset, .unset, .unset, .unset, .unset, .unset, .unset, .unset, .unset, .unset, .unset, .unset] [(.int (x2 &&& (15 : Int32))), (.long (1 : Int64))]))
  refine Gl.back (fun _ k => XS.lshl X15.here hx rfl (hb hby at_40) rfl k) ?_
  show Gl _ _ _ _ _ _ _ (T15.setTop (mkF m 41 #[.val (.int x0), .val (.int x1), .val (.int x2), .val (.long ((x0.toInt64) &&& (2147483647 : Int64))), .second, .val (.long ((x1.toInt64) &&& (2147483647 : Int64))), .second, .val (.long r14), .second, .val (.long r15), .second, .val (.int (x2 &&& (15 : Int32))), .unset, .unset, .unset, .unset, .unset, .unset, .unset, .unset, .unset, .unset, .unset, .unset, .unset, .unset] [(.long ((1 : Int64) <<< ((x2 &&& (15 : Int32)) &&& 0x3f).toInt64))]))
  refine Gl.back (fun _ k => XS.l2dS X15.here hx rfl (hb hby at_41) rfl rfl k) ?_
  show Gl _ _ _ _ _ _ _ (T15.setTop (mkF m 42 #[.val (.int x0), .val (.int x1), .val (.int x2), .val (.long ((x0.toInt64) &&& (2147483647 : Int64))), .second, .val (.long ((x1.toInt64) &&& (2147483647 : Int64))), .second, .val (.long r14), .second, .val (.long r15), .second, .val (.int (x2 &&& (15 : Int32))), .unset, .unset, .unset, .unset, .unset, .unset, .unset, .unset, .unset, .unset, .unset, .unset, .unset, .unset] [(.double (FP.l2d ((1 : Int64) <<< ((x2 &&& (15 : Int32)) &&& 0x3f).toInt64)))]))
  obtain ⟨j, hj, hsc, hsc2⟩ := own_scale x2
  generalize hse : (FP.l2d ((1 : Int64) <<< ((x2 &&& (15 : Int32)) &&& 0x3f).toInt64)) = sc at *
  show Gl _ _ _ _ _ _ _ (T15.setTop (mkF m 42 #[.val (.int x0), .val (.int x1), .val (.int x2), .val (.long ((x0.toInt64) &&& (2147483647 : Int64))), .second, .val (.long ((x1.toInt64) &&& (2147483647 : Int64))), .second, .val (.long r14), .second, .val (.long r15), .second, .val (.int (x2 &&& (15 : Int32))), .unset, .unset, .unset, .unset, .unset, .unset, .unset, .unset, .unset, .unset, .unset, .unset, .unset, .unset] [(.double sc)]))
  refine Gl.back (fun _ k => XS.dstore X15.here hx rfl (hb hby at_42) rfl (l' := #[.val (.int x0), .val (.int x1), .val (.int x2), .val (.long ((x0.toInt64) &&& (2147483647 : Int64))), .second, .val (.long ((x1.toInt64) &&& (2147483647 : Int64))), .second, .val (.long r14), .second, .val (.long r15), .second, .val (.int (x2 &&& (15 : Int32))), .val (.double sc), .second, .unset, .unset, .unset, .unset, .unset, .unset, .unset, .unset, .unset, .unset, .unset, .unset]) rfl k) ?_
  show Gl _ _ _ _ _ _ _ (T15.setTop (mkF m 44 #[.val (.int x0), .val (.int x1), .val (.int x2), .val (.long ((x0.toInt64) &&& (2147483647 : Int64))), .second, .val (.long ((x1.toInt64) &&& (2147483647 : Int64))), .second, .val (.long r14), .second, .val (.long r15), .second, .val (.int (x2 &&& (15 : Int32))), .val (.double sc), .second, .unset, .unset, .unset, .unset, .unset, .unset, .unset, .unset, .unset, .unset, .unset, .unset] []))
  refine Gl.back (fun _ k => XS.lload X15.here hx rfl (hb hby at_44) rfl k) ?_
  show Gl _ _ _ _ _ _ _ (T15.setTop (mkF m 46 #[.val (.int x0), .val (.int x1), .val (.int x2), .val (.long ((x0.toInt64) &&& (2147483647 : Int64))), .second, .val (.long ((x1.toInt64) &&& (2147483647 : Int64))), .second, .val (.long r14), .second, .val (.long r15), .second, .val (.int (x2 &&& (15 : Int32))), .val (.double sc), .second, .unset, .unset, .unset, .unset, .unset, .unset, .unset, .unset, .unset, .unset, .unset, .unset] [(.long r14)]))
  refine Gl.back (fun _ k => XS.l2dS X15.here hx rfl (hb hby at_46) rfl rfl k) ?_
  show Gl _ _ _ _ _ _ _ (T15.setTop (mkF m 47 #[.val (.int x0), .val (.int x1), .val (.int x2), .val (.long ((x0.toInt64) &&& (2147483647 : Int64))), .second, .val (.long ((x1.toInt64) &&& (2147483647 : Int64))), .second, .val (.long r14), .second, .val (.long r15), .second, .val (.int (x2 &&& (15 : Int32))), .val (.double sc), .second, .unset, .unset, .unset, .unset, .unset, .unset, .unset, .unset, .unset, .unset, .unset, .unset] [(.double (FP.l2d r14))]))
  refine Gl.back (fun _ k => XS.dload X15.here hx rfl (hb hby at_47) rfl k) ?_
  show Gl _ _ _ _ _ _ _ (T15.setTop (mkF m 49 #[.val (.int x0), .val (.int x1), .val (.int x2), .val (.long ((x0.toInt64) &&& (2147483647 : Int64))), .second, .val (.long ((x1.toInt64) &&& (2147483647 : Int64))), .second, .val (.long r14), .second, .val (.long r15), .second, .val (.int (x2 &&& (15 : Int32))), .val (.double sc), .second, .unset, .unset, .unset, .unset, .unset, .unset, .unset, .unset, .unset, .unset, .unset, .unset] [(.double sc), (.double (FP.l2d r14))]))
  refine Gl.back (fun _ k => XS.ddivS X15.here hx rfl (hb hby at_49) rfl (own_nn (own_div (own_l2d hlo) hsc (by omega) (by decide) (by decide)) (own_notnan (by omega) (by omega) (by omega))) rfl k) ?_
  show Gl _ _ _ _ _ _ _ (T15.setTop (mkF m 50 #[.val (.int x0), .val (.int x1), .val (.int x2), .val (.long ((x0.toInt64) &&& (2147483647 : Int64))), .second, .val (.long ((x1.toInt64) &&& (2147483647 : Int64))), .second, .val (.long r14), .second, .val (.long r15), .second, .val (.int (x2 &&& (15 : Int32))), .val (.double sc), .second, .unset, .unset, .unset, .unset, .unset, .unset, .unset, .unset, .unset, .unset, .unset, .unset] [(.double (FP.ddiv (FP.l2d r14) sc))]))
  have hlw := own_div (own_l2d hlo) hsc (by omega) (by decide) (by decide)
  generalize hle2 : FP.Core.ddiv (FP.Core.l2d r14) sc = lw at hlw
  replace hle2 : (FP.ddiv (FP.l2d r14) sc) = lw := hle2
  rw [hle2]
  show Gl _ _ _ _ _ _ _ (T15.setTop (mkF m 50 #[.val (.int x0), .val (.int x1), .val (.int x2), .val (.long ((x0.toInt64) &&& (2147483647 : Int64))), .second, .val (.long ((x1.toInt64) &&& (2147483647 : Int64))), .second, .val (.long r14), .second, .val (.long r15), .second, .val (.int (x2 &&& (15 : Int32))), .val (.double sc), .second, .unset, .unset, .unset, .unset, .unset, .unset, .unset, .unset, .unset, .unset, .unset, .unset] [(.double lw)]))
  have hNl : Jvm.Free.Fl.NoNaN64 lw := own_nn hlw (own_notnan (by omega) (by omega) (by omega))
  refine Gl.back (fun _ k => XS.dstore X15.here hx rfl (hb hby at_50) rfl (l' := #[.val (.int x0), .val (.int x1), .val (.int x2), .val (.long ((x0.toInt64) &&& (2147483647 : Int64))), .second, .val (.long ((x1.toInt64) &&& (2147483647 : Int64))), .second, .val (.long r14), .second, .val (.long r15), .second, .val (.int (x2 &&& (15 : Int32))), .val (.double sc), .second, .val (.double lw), .second, .unset, .unset, .unset, .unset, .unset, .unset, .unset, .unset, .unset, .unset]) rfl k) ?_
  show Gl _ _ _ _ _ _ _ (T15.setTop (mkF m 52 #[.val (.int x0), .val (.int x1), .val (.int x2), .val (.long ((x0.toInt64) &&& (2147483647 : Int64))), .second, .val (.long ((x1.toInt64) &&& (2147483647 : Int64))), .second, .val (.long r14), .second, .val (.long r15), .second, .val (.int (x2 &&& (15 : Int32))), .val (.double sc), .second, .val (.double lw), .second, .unset, .unset, .unset, .unset, .unset, .unset, .unset, .unset, .unset, .unset] []))
  refine Gl.back (fun _ k => XS.iloadN X15.here hx rfl (hb hby at_52) rfl k) ?_
  show Gl _ _ _ _ _ _ _ (T15.setTop (mkF m 53 #[.val (.int x0), .val (.int x1), .val (.int x2), .val (.long ((x0.toInt64) &&& (2147483647 : Int64))), .second, .val (.long ((x1.toInt64) &&& (2147483647 : Int64))), .second, .val (.long r14), .second, .val (.long r15), .second, .val (.int (x2 &&& (15 : Int32))), .val (.double sc), .second, .val (.double lw), .second, .unset, .unset, .unset, .unset, .unset, .unset, .unset, .unset, .unset, .unset] [(.int x2)]))
  refine Gl.back (fun _ k => XS.iconst X15.here hx rfl (hb hby at_53) k) ?_
  show Gl _ _ _ _ _ _ _ (T15.setTop (mkF m 54 #[.val (.int x0), .val (.int x1), .val (.int x2), .val (.long ((x0.toInt64) &&& (2147483647 : Int64))), .second, .val (.long ((x1.toInt64) &&& (2147483647 : Int64))), .second, .val (.long r14), .second, .val (.long r15), .second, .val (.int (x2 &&& (15 : Int32))), .val (.double sc), .second, .val (.double lw), .second, .unset, .unset, .unset, .unset, .unset, .unset, .unset, .unset, .unset, .unset] [(.int (4 : Int32)), (.int x2)]))
  refine Gl.back (fun _ k => XS.iushr X15.here hx rfl (hb hby at_54) rfl k) ?_
  show Gl _ _ _ _ _ _ _ (T15.setTop (mkF m 55 #[.val (.int x0), .val (.int x1), .val (.int x2), .val (.long ((x0.toInt64) &&& (2147483647 : Int64))), .second, .val (.long ((x1.toInt64) &&& (2147483647 : Int64))), .second, .val (.long r14), .second, .val (.long r15), .second, .val (.int (x2 &&& (15 : Int32))), .val (.double sc), .second, .val (.double lw), .second, .unset, .unset, .unset, .unset, .unset, .unset, .unset, .unset, .unset, .unset] [(.int ((x2.toUInt32 >>> ((4 : Int32) &&& 31).toUInt32).toInt32))]))
  refine Gl.back (fun _ k => XS.iconst X15.here hx rfl (hb hby at_55) k) ?_
  show Gl _ _ _ _ _ _ _ (T15.setTop (mkF m 56 #[.val (.int x0), .val (.int x1), .val (.int x2), .val (.long ((x0.toInt64) &&& (2147483647 : Int64))), .second, .val (.long ((x1.toInt64) &&& (2147483647 : Int64))), .second, .val (.long r14), .second, .val (.long r15), .second, .val (.int (x2 &&& (15 : Int32))), .val (.double sc), .second, .val (.double lw), .second, .unset, .unset, .unset, .unset, .unset, .unset, .unset, .unset, .unset, .unset] [(.int (1 : Int32)), (.int ((x2.toUInt32 >>> ((4 : Int32) &&& 31).toUInt32).toInt32))]))
  refine Gl.back (fun _ k => XS.iand X15.here hx rfl (hb hby at_56) rfl k) ?_
  show Gl _ _ _ _ _ _ _ (T15.setTop (mkF m 57 #[.val (.int x0), .val (.int x1), .val (.int x2), .val (.long ((x0.toInt64) &&& (2147483647 : Int64))), .second, .val (.long ((x1.toInt64) &&& (2147483647 : Int64))), .second, .val (.long r14), .second, .val (.long r15), .second, .val (.int (x2 &&& (15 : Int32))), .val (.double sc), .second, .val (.double lw), .second, .unset, .unset, .unset, .unset, .unset, .unset, .unset, .unset, .unset, .unset] [(.int (((x2.toUInt32 >>> ((4 : Int32) &&& 31).toUInt32).toInt32) &&& (1 : Int32)))]))
  by_cases hc57_16 : (((x2.toUInt32 >>> ((4 : Int32) &&& 31).toUInt32).toInt32) &&& (1 : Int32)) = (0 : Int32)
  · refine Gl.back (fun _ k => XS.ifYes X15.here hx rfl (pc0 := 57) (pc' := 64) rfl (hb hby at_57) rfl ((if0 _ _).trans (teq hc57_16).1) (by decide) (by decide) k) ?_
    show Gl _ _ _ _ _ _ _ (T15.setTop (mkF m 64 #[.val (.int x0), .val (.int x1), .val (.int x2), .val (.long ((x0.toInt64) &&& (2147483647 : Int64))), .second, .val (.long ((x1.toInt64) &&& (2147483647 : Int64))), .second, .val (.long r14), .second, .val (.long r15), .second, .val (.int (x2 &&& (15 : Int32))), .val (.double sc), .second, .val (.double lw), .second, .unset, .unset, .unset, .unset, .unset, .unset, .unset, .unset, .unset, .unset] []))
    refine Gl.back (fun _ k => XS.iconst X15.here hx rfl (hb hby at_64) k) ?_
    show Gl _ _ _ _ _ _ _ (T15.setTop (mkF m 65 #[.val (.int x0), .val (.int x1), .val (.int x2), .val (.long ((x0.toInt64) &&& (2147483647 : Int64))), .second, .val (.long ((x1.toInt64) &&& (2147483647 : Int64))), .second, .val (.long r14), .second, .val (.long r15), .second, .val (.int (x2 &&& (15 : Int32))), .val (.double sc), .second, .val (.double lw), .second, .unset, .unset, .unset, .unset, .unset, .unset, .unset, .unset, .unset, .unset] [(.int (0 : Int32))]))
    refine Gl.back (fun _ k => XS.istore X15.here hx rfl (hb hby at_65) rfl (l' := #[.val (.int x0), .val (.int x1), .val (.int x2), .val (.long ((x0.toInt64) &&& (2147483647 : Int64))), .second, .val (.long ((x1.toInt64) &&& (2147483647 : Int64))), .second, .val (.long r14), .second, .val (.long r15), .second, .val (.int (x2 &&& (15 : Int32))), .val (.double sc), .second, .val (.double lw), .second, .val (.int (0 : Int32)), .unset, .unset, .unset, .unset, .unset, .unset, .unset, .unset, .unset]) rfl k) ?_
    show Gl _ _ _ _ _ _ _ (T15.setTop (mkF m 67 #[.val (.int x0), .val (.int x1), .val (.int x2), .val (.long ((x0.toInt64) &&& (2147483647 : Int64))), .second, .val (.long ((x1.toInt64) &&& (2147483647 : Int64))), .second, .val (.long r14), .second, .val (.long r15), .second, .val (.int (x2 &&& (15 : Int32))), .val (.double sc), .second, .val (.double lw), .second, .val (.int (0 : Int32)), .unset, .unset, .unset, .unset, .unset, .unset, .unset, .unset, .unset] []))
    refine Gl.back (fun _ k => X15.ldc2DoubleC hx hown (mvT hZ (hw _ (List.mem_of_getElem? (i := 8) rfl))) (g := (mkF m 67 #[.val (.int x0), .val (.int x1), .val (.int x2), .val (.long ((x0.toInt64) &&& (2147483647 : Int64))), .second, .val (.long ((x1.toInt64) &&& (2147483647 : Int64))), .second, .val (.long r14), .second, .val (.long r15), .second, .val (.int (x2 &&& (15 : Int32))), .val (.double sc), .second, .val (.double lw), .second, .val (.int (0 : Int32)), .unset, .unset, .unset, .unset, .unset, .unset, .unset, .unset, .unset] [])) rfl (hb hby at_67) _ k) ?_
    show Gl _ _ _ _ _ _ _ (T15.setTop (mkF m 70 #[.val (.int x0), .val (.int x1), .val (.int x2), .val (.long ((x0.toInt64) &&& (2147483647 : Int64))), .second, .val (.long ((x1.toInt64) &&& (2147483647 : Int64))), .second, .val (.long r14), .second, .val (.long r15), .second, .val (.int (x2 &&& (15 : Int32))), .val (.double sc), .second, .val (.double lw), .second, .val (.int (0 : Int32)), .unset, .unset, .unset, .unset, .unset, .unset, .unset, .unset, .unset] [(.double (9218868437227405312 : UInt64))]))
    refine Gl.back (fun _ k => XS.dstore X15.here hx rfl (hb hby at_70) rfl (l' := #[.val (.int x0), .val (.int x1), .val (.int x2), .val (.long ((x0.toInt64) &&& (2147483647 : Int64))), .second, .val (.long ((x1.toInt64) &&& (2147483647 : Int64))), .second, .val (.long r14), .second, .val (.long r15), .second, .val (.int (x2 &&& (15 : Int32))), .val (.double sc), .second, .val (.double lw), .second, .val (.int (0 : Int32)), .val (.double (9218868437227405312 : UInt64)), .second, .unset, .unset, .unset, .unset, .unset, .unset, .unset]) rfl k) ?_
    show Gl _ _ _ _ _ _ _ (T15.setTop (mkF m 72 #[.val (.int x0), .val (.int x1), .val (.int x2), .val (.long ((x0.toInt64) &&& (2147483647 : Int64))), .second, .val (.long ((x1.toInt64) &&& (2147483647 : Int64))), .second, .val (.long r14), .second, .val (.long r15), .second, .val (.int (x2 &&& (15 : Int32))), .val (.double sc), .second, .val (.double lw), .second, .val (.int (0 : Int32)), .val (.double (9218868437227405312 : UInt64)), .second, .unset, .unset, .unset, .unset, .unset, .unset, .unset] []))
    refine Gl.back (fun _ k => XS.iload X15.here hx rfl (hb hby at_72) rfl k) ?_
    show Gl _ _ _ _ _ _ _ (T15.setTop (mkF m 74 #[.val (.int x0), .val (.int x1), .val (.int x2), .val (.long ((x0.toInt64) &&& (2147483647 : Int64))), .second, .val (.long ((x1.toInt64) &&& (2147483647 : Int64))), .second, .val (.long r14), .second, .val (.long r15), .second, .val (.int (x2 &&& (15 : Int32))), .val (.double sc), .second, .val (.double lw), .second, .val (.int (0 : Int32)), .val (.double (9218868437227405312 : UInt64)), .second, .unset, .unset, .unset, .unset, .unset, .unset, .unset] [(.int (0 : Int32))]))
    refine Gl.back (fun _ k => XS.ifYes X15.here hx rfl (pc0 := 74) (pc' := 82) rfl (hb hby at_74) rfl ((if0 _ _).trans (teq (by decide : (0 : Int32) = (0 : Int32))).1) (by decide) (by decide) k) ?_
    show Gl _ _ _ _ _ _ _ (T15.setTop (mkF m 82 #[.val (.int x0), .val (.int x1), .val (.int x2), .val (.long ((x0.toInt64) &&& (2147483647 : Int64))), .second, .val (.long ((x1.toInt64) &&& (2147483647 : Int64))), .second, .val (.long r14), .second, .val (.long r15), .second, .val (.int (x2 &&& (15 : Int32))), .val (.double sc), .second, .val (.double lw), .second, .val (.int (0 : Int32)), .val (.double (9218868437227405312 : UInt64)), .second, .unset, .unset, .unset, .unset, .unset, .unset, .unset] []))
    refine Gl.back (fun _ k => XS.lload X15.here hx rfl (hb hby at_82) rfl k) ?_
    show Gl _ _ _ _ _ _ _ (T15.setTop (mkF m 84 #[.val (.int x0), .val (.int x1), .val (.int x2), .val (.long ((x0.toInt64) &&& (2147483647 : Int64))), .second, .val (.long ((x1.toInt64) &&& (2147483647 : Int64))), .second, .val (.long r14), .second, .val (.long r15), .second, .val (.int (x2 &&& (15 : Int32))), .val (.double sc), .second, .val (.double lw), .second, .val (.int (0 : Int32)), .val (.double (9218868437227405312 : UInt64)), .second, .unset, .unset, .unset, .unset, .unset, .unset, .unset] [(.long r15)]))
    refine Gl.back (fun _ k => XS.l2dS X15.here hx rfl (hb hby at_84) rfl rfl k) ?_
    show Gl _ _ _ _ _ _ _ (T15.setTop (mkF m 85 #[.val (.int x0), .val (.int x1), .val (.int x2), .val (.long ((x0.toInt64) &&& (2147483647 : Int64))), .second, .val (.long ((x1.toInt64) &&& (2147483647 : Int64))), .second, .val (.long r14), .second, .val (.long r15), .second, .val (.int (x2 &&& (15 : Int32))), .val (.double sc), .second, .val (.double lw), .second, .val (.int (0 : Int32)), .val (.double (9218868437227405312 : UInt64)), .second, .unset, .unset, .unset, .unset, .unset, .unset, .unset] [(.double (FP.l2d r15))]))
    refine Gl.back (fun _ k => XS.dload X15.here hx rfl (hb hby at_85) rfl k) ?_
    show Gl _ _ _ _ _ _ _ (T15.setTop (mkF m 87 #[.val (.int x0), .val (.int x1), .val (.int x2), .val (.long ((x0.toInt64) &&& (2147483647 : Int64))), .second, .val (.long ((x1.toInt64) &&& (2147483647 : Int64))), .second, .val (.long r14), .second, .val (.long r15), .second, .val (.int (x2 &&& (15 : Int32))), .val (.double sc), .second, .val (.double lw), .second, .val (.int (0 : Int32)), .val (.double (9218868437227405312 : UInt64)), .second, .unset, .unset, .unset, .unset, .unset, .unset, .unset] [(.double sc), (.double (FP.l2d r15))]))
    refine Gl.back (fun _ k => XS.ddivS X15.here hx rfl (hb hby at_87) rfl (own_nn (own_div (own_l2d hhi) hsc (by omega) (by decide) (by decide)) (own_notnan (by omega) (by omega) (by omega))) rfl k) ?_
    show Gl _ _ _ _ _ _ _ (T15.setTop (mkF m 88 #[.val (.int x0), .val (.int x1), .val (.int x2), .val (.long ((x0.toInt64) &&& (2147483647 : Int64))), .second, .val (.long ((x1.toInt64) &&& (2147483647 : Int64))), .second, .val (.long r14), .second, .val (.long r15), .second, .val (.int (x2 &&& (15 : Int32))), .val (.double sc), .second, .val (.double lw), .second, .val (.int (0 : Int32)), .val (.double (9218868437227405312 : UInt64)), .second, .unset, .unset, .unset, .unset, .unset, .unset, .unset] [(.double (FP.ddiv (FP.l2d r15) sc))]))
    have hup := own_div (own_l2d hhi) hsc (by omega) (by decide) (by decide)
    generalize hup2 : FP.Core.ddiv (FP.Core.l2d r15) sc = up at hup
    replace hup2 : (FP.ddiv (FP.l2d r15) sc) = up := hup2
    rw [hup2]
    show Gl _ _ _ _ _ _ _ (T15.setTop (mkF m 88 #[.val (.int x0), .val (.int x1), .val (.int x2), .val (.long ((x0.toInt64) &&& (2147483647 : Int64))), .second, .val (.long ((x1.toInt64) &&& (2147483647 : Int64))), .second, .val (.long r14), .second, .val (.long r15), .second, .val (.int (x2 &&& (15 : Int32))), .val (.double sc), .second, .val (.double lw), .second, .val (.int (0 : Int32)), .val (.double (9218868437227405312 : UInt64)), .second, .unset, .unset, .unset, .unset, .unset, .unset, .unset] [(.double up)]))
    refine Gl.back (fun _ k => XS.dstore X15.here hx rfl (hb hby at_88) rfl (l' := #[.val (.int x0), .val (.int x1), .val (.int x2), .val (.long ((x0.toInt64) &&& (2147483647 : Int64))), .second, .val (.long ((x1.toInt64) &&& (2147483647 : Int64))), .second, .val (.long r14), .second, .val (.long r15), .second, .val (.int (x2 &&& (15 : Int32))), .val (.double sc), .second, .val (.double lw), .second, .val (.int (0 : Int32)), .val (.double (9218868437227405312 : UInt64)), .second, .val (.double up), .second, .unset, .unset, .unset, .unset, .unset]) rfl k) ?_
    show Gl _ _ _ _ _ _ _ (T15.setTop (mkF m 90 #[.val (.int x0), .val (.int x1), .val (.int x2), .val (.long ((x0.toInt64) &&& (2147483647 : Int64))), .second, .val (.long ((x1.toInt64) &&& (2147483647 : Int64))), .second, .val (.long r14), .second, .val (.long r15), .second, .val (.int (x2 &&& (15 : Int32))), .val (.double sc), .second, .val (.double lw), .second, .val (.int (0 : Int32)), .val (.double (9218868437227405312 : UInt64)), .second, .val (.double up), .second, .unset, .unset, .unset, .unset, .unset] []))
    obtain ⟨T17, h17, X17, e17, E17, A17, D17, -, st17⟩ := newO X15 hx hZ hown (hw _ (List.mem_of_getElem? (i := 9) rfl)) (hw _ (List.mem_of_getElem? (i := 10) rfl)) (hw _ (List.mem_of_getElem? (i := 11) rfl)) eh15 (g := (mkF m 90 #[.val (.int x0), .val (.int x1), .val (.int x2), .val (.long ((x0.toInt64) &&& (2147483647 : Int64))), .second, .val (.long ((x1.toInt64) &&& (2147483647 : Int64))), .second, .val (.long r14), .second, .val (.long r15), .second, .val (.int (x2 &&& (15 : Int32))), .val (.double sc), .second, .val (.double lw), .second, .val (.int (0 : Int32)), .val (.double (9218868437227405312 : UInt64)), .second, .val (.double up), .second, .unset, .unset, .unset, .unset, .unset] [])) rfl (hb hby at_90) (by decide) (by decide)
    obtain ⟨b17, g17⟩ : ∃ z, z = h0.size := ⟨_, rfl⟩
    rw [← g17] at A17 D17 st17
    have g_b17 : n0 ≤ b17 := Nat.le_trans Z0 (Nat.le_of_eq g17.symm)
    have sz_b17 : h0.size ≤ b17 := Nat.le_trans (Keep.refl h0 []).1 (Nat.le_of_eq g17.symm)
    have Z17 : n0 ≤ h17.size := Nat.le_trans Z0 E17.1
    have K17 := Keep.ext (Keep.refl h0 []) E17
    have F17_lower : Fld Z h17 b17 "com/example/uncovert/uncovert/analysis/capacity/CapacityBounds" "lower" "D" (.double (0 : UInt64)) := D17 (Or.inr (hw _ (List.mem_of_getElem? (i := 27) rfl))) (ty := .double) (by decide)
    have F17_upper : Fld Z h17 b17 "com/example/uncovert/uncovert/analysis/capacity/CapacityBounds" "upper" "D" (.double (0 : UInt64)) := D17 (Or.inr (hw _ (List.mem_of_getElem? (i := 29) rfl))) (ty := .double) (by decide)
    refine Gl.back (fun _ k => st17 _ k) ?_
    show Gl _ _ _ _ _ _ _ (T17.setTop (mkF m 93 #[.val (.int x0), .val (.int x1), .val (.int x2), .val (.long ((x0.toInt64) &&& (2147483647 : Int64))), .second, .val (.long ((x1.toInt64) &&& (2147483647 : Int64))), .second, .val (.long r14), .second, .val (.long r15), .second, .val (.int (x2 &&& (15 : Int32))), .val (.double sc), .second, .val (.double lw), .second, .val (.int (0 : Int32)), .val (.double (9218868437227405312 : UInt64)), .second, .val (.double up), .second, .unset, .unset, .unset, .unset, .unset] [(.ref b17)]))
    refine Gl.back (fun _ k => XS.dup X17.here hx rfl (hb hby at_93) rfl rfl k) ?_
    show Gl _ _ _ _ _ _ _ (T17.setTop (mkF m 94 #[.val (.int x0), .val (.int x1), .val (.int x2), .val (.long ((x0.toInt64) &&& (2147483647 : Int64))), .second, .val (.long ((x1.toInt64) &&& (2147483647 : Int64))), .second, .val (.long r14), .second, .val (.long r15), .second, .val (.int (x2 &&& (15 : Int32))), .val (.double sc), .second, .val (.double lw), .second, .val (.int (0 : Int32)), .val (.double (9218868437227405312 : UInt64)), .second, .val (.double up), .second, .unset, .unset, .unset, .unset, .unset] [(.ref b17), (.ref b17)]))
    refine Gl.back (fun _ k => XS.dload X17.here hx rfl (hb hby at_94) rfl k) ?_
    show Gl _ _ _ _ _ _ _ (T17.setTop (mkF m 96 #[.val (.int x0), .val (.int x1), .val (.int x2), .val (.long ((x0.toInt64) &&& (2147483647 : Int64))), .second, .val (.long ((x1.toInt64) &&& (2147483647 : Int64))), .second, .val (.long r14), .second, .val (.long r15), .second, .val (.int (x2 &&& (15 : Int32))), .val (.double sc), .second, .val (.double lw), .second, .val (.int (0 : Int32)), .val (.double (9218868437227405312 : UInt64)), .second, .val (.double up), .second, .unset, .unset, .unset, .unset, .unset] [(.double lw), (.ref b17), (.ref b17)]))
    refine Gl.back (fun _ k => XS.dload X17.here hx rfl (hb hby at_96) rfl k) ?_
    show Gl _ _ _ _ _ _ _ (T17.setTop (mkF m 98 #[.val (.int x0), .val (.int x1), .val (.int x2), .val (.long ((x0.toInt64) &&& (2147483647 : Int64))), .second, .val (.long ((x1.toInt64) &&& (2147483647 : Int64))), .second, .val (.long r14), .second, .val (.long r15), .second, .val (.int (x2 &&& (15 : Int32))), .val (.double sc), .second, .val (.double lw), .second, .val (.int (0 : Int32)), .val (.double (9218868437227405312 : UInt64)), .second, .val (.double up), .second, .unset, .unset, .unset, .unset, .unset] [(.double up), (.double lw), (.ref b17), (.ref b17)]))
    obtain ⟨_, _, ⟨T18, L18, k18, n18⟩, -, X18, ⟨Lc18, hQ18, l18, y18, z18⟩, st18⟩ := X17.specialBack hx (y := (⟨"com/example/uncovert/uncovert/analysis/capacity/CapacityBounds", "<init>", "(DD)V"⟩ : MethodName)) rfl hown (mvT hZ (hw _ (List.mem_of_getElem? (i := 12) rfl))) (mvT hZ (hw _ (List.mem_of_getElem? (i := 13) rfl))) (mvT hZ (hw _ (List.mem_of_getElem? (i := 14) rfl))) (by decide) (backOf (W := 1) (rm3 l Z a0 hw [] b17 lw up  h17 n0 Z17 g_b17 A17 F17_lower F17_upper hNl (own_fin hlw (by omega) (by omega) (by omega)) (own_ge0 hlw (by omega) (by omega) (by omega)) (own_le hlw hup (by omega) (by omega) hle (by omega) (by omega))) hZ (hw _ (List.mem_of_getElem? (i := 14) rfl)) (hw _ (List.mem_of_getElem? (i := 11) rfl)) (by decide) (by decide)) (g := (mkF m 98 #[.val (.int x0), .val (.int x1), .val (.int x2), .val (.long ((x0.toInt64) &&& (2147483647 : Int64))), .second, .val (.long ((x1.toInt64) &&& (2147483647 : Int64))), .second, .val (.long r14), .second, .val (.long r15), .second, .val (.int (x2 &&& (15 : Int32))), .val (.double sc), .second, .val (.double lw), .second, .val (.int (0 : Int32)), .val (.double (9218868437227405312 : UInt64)), .second, .val (.double up), .second, .unset, .unset, .unset, .unset, .unset] [(.double up), (.double lw), (.ref b17), (.ref b17)])) rfl (by rw [hml]; rfl) (Steps.refl _) (a := b17) (argsL := [(.double lw), (.double up)]) (rest := [(.ref b17)]) (lenOf pd__DD_V rfl) rfl (by show 2 * 0 + _ ≤ _; exact Nat.le_of_eq rfl) (hb hby at_98) (fun _ _ => ⟨rfl, e17, (by decide : 1 + 0 ≤ _), (by decide : 2 + 0 ≤ _)⟩)
    dsimp only [Pt.U, Pt.locs, Pt.cells, Pt.slots] at X18 l18 y18 z18 st18 hQ18
    subst l18 y18 z18
    obtain ⟨Nq18, rfl, Kq18, Fl18, Fu18⟩ := hQ18
    have N18 := Fr.app N15 Nq18
    have Kc18 := Keep.trans K17 Kq18 (allS (Or.inr sz_b17) all0)
    have Zc18 : n0 ≤ T18.heap.size := Nat.le_trans Z17 Kq18.1
    refine Gl.back (fun _ k => st18.trans k) ?_
    show Gl _ _ _ _ _ _ _ (T18.setTop (mkF m 101 #[.val (.int x0), .val (.int x1), .val (.int x2), .val (.long ((x0.toInt64) &&& (2147483647 : Int64))), .second, .val (.long ((x1.toInt64) &&& (2147483647 : Int64))), .second, .val (.long r14), .second, .val (.long r15), .second, .val (.int (x2 &&& (15 : Int32))), .val (.double sc), .second, .val (.double lw), .second, .val (.int (0 : Int32)), .val (.double (9218868437227405312 : UInt64)), .second, .val (.double up), .second, .unset, .unset, .unset, .unset, .unset] [(.ref b17)]))
    refine Gl.back (fun _ k => XS.astore X18.here hx rfl (hb hby at_101) rfl rfl (l' := #[.val (.int x0), .val (.int x1), .val (.int x2), .val (.long ((x0.toInt64) &&& (2147483647 : Int64))), .second, .val (.long ((x1.toInt64) &&& (2147483647 : Int64))), .second, .val (.long r14), .second, .val (.long r15), .second, .val (.int (x2 &&& (15 : Int32))), .val (.double sc), .second, .val (.double lw), .second, .val (.int (0 : Int32)), .val (.double (9218868437227405312 : UInt64)), .second, .val (.double up), .second, .val (.ref b17), .unset, .unset, .unset, .unset]) rfl k) ?_
    show Gl _ _ _ _ _ _ _ (T18.setTop (mkF m 103 #[.val (.int x0), .val (.int x1), .val (.int x2), .val (.long ((x0.toInt64) &&& (2147483647 : Int64))), .second, .val (.long ((x1.toInt64) &&& (2147483647 : Int64))), .second, .val (.long r14), .second, .val (.long r15), .second, .val (.int (x2 &&& (15 : Int32))), .val (.double sc), .second, .val (.double lw), .second, .val (.int (0 : Int32)), .val (.double (9218868437227405312 : UInt64)), .second, .val (.double up), .second, .val (.ref b17), .unset, .unset, .unset, .unset] []))
    refine Gl.back (fun _ k => XS.aload X18.here hx rfl (hb hby at_103) rfl rfl k) ?_
    show Gl _ _ _ _ _ _ _ (T18.setTop (mkF m 105 #[.val (.int x0), .val (.int x1), .val (.int x2), .val (.long ((x0.toInt64) &&& (2147483647 : Int64))), .second, .val (.long ((x1.toInt64) &&& (2147483647 : Int64))), .second, .val (.long r14), .second, .val (.long r15), .second, .val (.int (x2 &&& (15 : Int32))), .val (.double sc), .second, .val (.double lw), .second, .val (.int (0 : Int32)), .val (.double (9218868437227405312 : UInt64)), .second, .val (.double up), .second, .val (.ref b17), .unset, .unset, .unset, .unset] [(.ref b17)]))
    obtain ⟨hn1, hn2, hn3, hres⟩ := own_mid hlw hup hle hbd hj
    have f20 := (A17.keep Kq18)
    obtain ⟨cq19, kq19, q19a, q19b, q19c⟩ := isOf hZ rfl f20
    obtain ⟨_, _, ⟨T19, L19, k19, n19⟩, -, X19, ⟨Lc19, hQ19, l19, y19, z19⟩, st19⟩ := X18.virtualBack hx (y := (⟨"com/example/uncovert/uncovert/analysis/capacity/CapacityBounds", "getMidpoint", "()D"⟩ : MethodName)) (z := (⟨"com/example/uncovert/uncovert/analysis/capacity/CapacityBounds", "getMidpoint", "()D"⟩ : MethodName)) hown (mvT hZ (hw _ (List.mem_of_getElem? (i := 30) rfl))) (mvT hZ (hw _ (List.mem_of_getElem? (i := 31) rfl))) (notFace_of_selects (args := #[]) (mvT hZ (hw _ (List.mem_of_getElem? (i := 33) rfl)))) (mvT hZ (hw _ (List.mem_of_getElem? (i := 33) rfl))) (mvT hZ (hw _ (List.mem_of_getElem? (i := 32) rfl))) (by decide) (backOf (W := 0) (rm7 l Z a0 hw [] b17 lw up T18.heap n0 Zc18 Fl18 Fu18 hn1 hn2 hn3) hZ (hw _ (List.mem_of_getElem? (i := 34) rfl)) (hw _ (List.mem_of_getElem? (i := 11) rfl)) (by decide) (by decide)) q19a q19c (g := (mkF m 105 #[.val (.int x0), .val (.int x1), .val (.int x2), .val (.long ((x0.toInt64) &&& (2147483647 : Int64))), .second, .val (.long ((x1.toInt64) &&& (2147483647 : Int64))), .second, .val (.long r14), .second, .val (.long r15), .second, .val (.int (x2 &&& (15 : Int32))), .val (.double sc), .second, .val (.double lw), .second, .val (.int (0 : Int32)), .val (.double (9218868437227405312 : UInt64)), .second, .val (.double up), .second, .val (.ref b17), .unset, .unset, .unset, .unset] [(.ref b17)])) rfl (by rw [hml]; rfl) (Steps.refl _) (argsL := []) (rest := []) (lenOf pd___D rfl) rfl (by show 2 * 0 + _ ≤ _; exact Nat.le_of_eq rfl) (hb hby at_105) (fun _ _ => ⟨rfl, rfl, (by decide : 1 + 0 ≤ _), (by decide : 2 + 0 ≤ _)⟩)
    dsimp only [Pt.U, Pt.locs, Pt.cells, Pt.slots] at X19 l19 y19 z19 st19 hQ19
    subst l19 y19 z19
    obtain ⟨Nq19, rfl, eh19⟩ := hQ19
    have N19 := Fr.app N18 Nq19
    refine Gl.back (fun _ k => st19.trans k) ?_
    show Gl _ _ _ _ _ _ _ (T19.setTop (mkF m 108 #[.val (.int x0), .val (.int x1), .val (.int x2), .val (.long ((x0.toInt64) &&& (2147483647 : Int64))), .second, .val (.long ((x1.toInt64) &&& (2147483647 : Int64))), .second, .val (.long r14), .second, .val (.long r15), .second, .val (.int (x2 &&& (15 : Int32))), .val (.double sc), .second, .val (.double lw), .second, .val (.int (0 : Int32)), .val (.double (9218868437227405312 : UInt64)), .second, .val (.double up), .second, .val (.ref b17), .unset, .unset, .unset, .unset] [(.double (FP.dadd lw (FP.ddiv (FP.dsub up lw) (4611686018427387904 : UInt64))))]))
    refine Gl.back (fun _ k => XS.dstore X19.here hx rfl (hb hby at_108) rfl (l' := #[.val (.int x0), .val (.int x1), .val (.int x2), .val (.long ((x0.toInt64) &&& (2147483647 : Int64))), .second, .val (.long ((x1.toInt64) &&& (2147483647 : Int64))), .second, .val (.long r14), .second, .val (.long r15), .second, .val (.int (x2 &&& (15 : Int32))), .val (.double sc), .second, .val (.double lw), .second, .val (.int (0 : Int32)), .val (.double (9218868437227405312 : UInt64)), .second, .val (.double up), .second, .val (.ref b17), .val (.double (FP.dadd lw (FP.ddiv (FP.dsub up lw) (4611686018427387904 : UInt64)))), .second, .unset, .unset]) rfl k) ?_
    show Gl _ _ _ _ _ _ _ (T19.setTop (mkF m 110 #[.val (.int x0), .val (.int x1), .val (.int x2), .val (.long ((x0.toInt64) &&& (2147483647 : Int64))), .second, .val (.long ((x1.toInt64) &&& (2147483647 : Int64))), .second, .val (.long r14), .second, .val (.long r15), .second, .val (.int (x2 &&& (15 : Int32))), .val (.double sc), .second, .val (.double lw), .second, .val (.int (0 : Int32)), .val (.double (9218868437227405312 : UInt64)), .second, .val (.double up), .second, .val (.ref b17), .val (.double (FP.dadd lw (FP.ddiv (FP.dsub up lw) (4611686018427387904 : UInt64)))), .second, .unset, .unset] []))
    refine Gl.back (fun _ k => XS.iload X19.here hx rfl (hb hby at_110) rfl k) ?_
    show Gl _ _ _ _ _ _ _ (T19.setTop (mkF m 112 #[.val (.int x0), .val (.int x1), .val (.int x2), .val (.long ((x0.toInt64) &&& (2147483647 : Int64))), .second, .val (.long ((x1.toInt64) &&& (2147483647 : Int64))), .second, .val (.long r14), .second, .val (.long r15), .second, .val (.int (x2 &&& (15 : Int32))), .val (.double sc), .second, .val (.double lw), .second, .val (.int (0 : Int32)), .val (.double (9218868437227405312 : UInt64)), .second, .val (.double up), .second, .val (.ref b17), .val (.double (FP.dadd lw (FP.ddiv (FP.dsub up lw) (4611686018427387904 : UInt64)))), .second, .unset, .unset] [(.int (0 : Int32))]))
    refine Gl.back (fun _ k => XS.ifYes X19.here hx rfl (pc0 := 112) (pc' := 120) rfl (hb hby at_112) rfl ((if0 _ _).trans (teq (by decide : (0 : Int32) = (0 : Int32))).1) (by decide) (by decide) k) ?_
    show Gl _ _ _ _ _ _ _ (T19.setTop (mkF m 120 #[.val (.int x0), .val (.int x1), .val (.int x2), .val (.long ((x0.toInt64) &&& (2147483647 : Int64))), .second, .val (.long ((x1.toInt64) &&& (2147483647 : Int64))), .second, .val (.long r14), .second, .val (.long r15), .second, .val (.int (x2 &&& (15 : Int32))), .val (.double sc), .second, .val (.double lw), .second, .val (.int (0 : Int32)), .val (.double (9218868437227405312 : UInt64)), .second, .val (.double up), .second, .val (.ref b17), .val (.double (FP.dadd lw (FP.ddiv (FP.dsub up lw) (4611686018427387904 : UInt64)))), .second, .unset, .unset] []))
    refine Gl.back (fun _ k => XS.lload X19.here hx rfl (hb hby at_120) rfl k) ?_
    show Gl _ _ _ _ _ _ _ (T19.setTop (mkF m 122 #[.val (.int x0), .val (.int x1), .val (.int x2), .val (.long ((x0.toInt64) &&& (2147483647 : Int64))), .second, .val (.long ((x1.toInt64) &&& (2147483647 : Int64))), .second, .val (.long r14), .second, .val (.long r15), .second, .val (.int (x2 &&& (15 : Int32))), .val (.double sc), .second, .val (.double lw), .second, .val (.int (0 : Int32)), .val (.double (9218868437227405312 : UInt64)), .second, .val (.double up), .second, .val (.ref b17), .val (.double (FP.dadd lw (FP.ddiv (FP.dsub up lw) (4611686018427387904 : UInt64)))), .second, .unset, .unset] [(.long r14)]))
    refine Gl.back (fun _ k => XS.lload X19.here hx rfl (hb hby at_122) rfl k) ?_
    show Gl _ _ _ _ _ _ _ (T19.setTop (mkF m 124 #[.val (.int x0), .val (.int x1), .val (.int x2), .val (.long ((x0.toInt64) &&& (2147483647 : Int64))), .second, .val (.long ((x1.toInt64) &&& (2147483647 : Int64))), .second, .val (.long r14), .second, .val (.long r15), .second, .val (.int (x2 &&& (15 : Int32))), .val (.double sc), .second, .val (.double lw), .second, .val (.int (0 : Int32)), .val (.double (9218868437227405312 : UInt64)), .second, .val (.double up), .second, .val (.ref b17), .val (.double (FP.dadd lw (FP.ddiv (FP.dsub up lw) (4611686018427387904 : UInt64)))), .second, .unset, .unset] [(.long r15), (.long r14)]))
    refine Gl.back (fun _ k => XS.ladd X19.here hx rfl (hb hby at_124) rfl k) ?_
    show Gl _ _ _ _ _ _ _ (T19.setTop (mkF m 125 #[.val (.int x0), .val (.int x1), .val (.int x2), .val (.long ((x0.toInt64) &&& (2147483647 : Int64))), .second, .val (.long ((x1.toInt64) &&& (2147483647 : Int64))), .second, .val (.long r14), .second, .val (.long r15), .second, .val (.int (x2 &&& (15 : Int32))), .val (.double sc), .second, .val (.double lw), .second, .val (.int (0 : Int32)), .val (.double (9218868437227405312 : UInt64)), .second, .val (.double up), .second, .val (.ref b17), .val (.double (FP.dadd lw (FP.ddiv (FP.dsub up lw) (4611686018427387904 : UInt64)))), .second, .unset, .unset] [(.long (r14 + r15))]))
    refine Gl.back (fun _ k => XS.l2dS X19.here hx rfl (hb hby at_125) rfl rfl k) ?_
    show Gl _ _ _ _ _ _ _ (T19.setTop (mkF m 126 #[.val (.int x0), .val (.int x1), .val (.int x2), .val (.long ((x0.toInt64) &&& (2147483647 : Int64))), .second, .val (.long ((x1.toInt64) &&& (2147483647 : Int64))), .second, .val (.long r14), .second, .val (.long r15), .second, .val (.int (x2 &&& (15 : Int32))), .val (.double sc), .second, .val (.double lw), .second, .val (.int (0 : Int32)), .val (.double (9218868437227405312 : UInt64)), .second, .val (.double up), .second, .val (.ref b17), .val (.double (FP.dadd lw (FP.ddiv (FP.dsub up lw) (4611686018427387904 : UInt64)))), .second, .unset, .unset] [(.double (FP.l2d (r14 + r15)))]))
    refine Gl.back (fun _ k => X19.ldc2DoubleC hx hown (mvT hZ (hw _ (List.mem_of_getElem? (i := 36) rfl))) (g := (mkF m 126 #[.val (.int x0), .val (.int x1), .val (.int x2), .val (.long ((x0.toInt64) &&& (2147483647 : Int64))), .second, .val (.long ((x1.toInt64) &&& (2147483647 : Int64))), .second, .val (.long r14), .second, .val (.long r15), .second, .val (.int (x2 &&& (15 : Int32))), .val (.double sc), .second, .val (.double lw), .second, .val (.int (0 : Int32)), .val (.double (9218868437227405312 : UInt64)), .second, .val (.double up), .second, .val (.ref b17), .val (.double (FP.dadd lw (FP.ddiv (FP.dsub up lw) (4611686018427387904 : UInt64)))), .second, .unset, .unset] [(.double (FP.l2d (r14 + r15)))])) rfl (hb hby at_126) _ k) ?_
    show Gl _ _ _ _ _ _ _ (T19.setTop (mkF m 129 #[.val (.int x0), .val (.int x1), .val (.int x2), .val (.long ((x0.toInt64) &&& (2147483647 : Int64))), .second, .val (.long ((x1.toInt64) &&& (2147483647 : Int64))), .second, .val (.long r14), .second, .val (.long r15), .second, .val (.int (x2 &&& (15 : Int32))), .val (.double sc), .second, .val (.double lw), .second, .val (.int (0 : Int32)), .val (.double (9218868437227405312 : UInt64)), .second, .val (.double up), .second, .val (.ref b17), .val (.double (FP.dadd lw (FP.ddiv (FP.dsub up lw) (4611686018427387904 : UInt64)))), .second, .unset, .unset] [(.double (4611686018427387904 : UInt64)), (.double (FP.l2d (r14 + r15)))]))
    refine Gl.back (fun _ k => XS.dload X19.here hx rfl (hb hby at_129) rfl k) ?_
    show Gl _ _ _ _ _ _ _ (T19.setTop (mkF m 131 #[.val (.int x0), .val (.int x1), .val (.int x2), .val (.long ((x0.toInt64) &&& (2147483647 : Int64))), .second, .val (.long ((x1.toInt64) &&& (2147483647 : Int64))), .second, .val (.long r14), .second, .val (.long r15), .second, .val (.int (x2 &&& (15 : Int32))), .val (.double sc), .second, .val (.double lw), .second, .val (.int (0 : Int32)), .val (.double (9218868437227405312 : UInt64)), .second, .val (.double up), .second, .val (.ref b17), .val (.double (FP.dadd lw (FP.ddiv (FP.dsub up lw) (4611686018427387904 : UInt64)))), .second, .unset, .unset] [(.double sc), (.double (4611686018427387904 : UInt64)), (.double (FP.l2d (r14 + r15)))]))
    refine Gl.back (fun _ k => XS.dmulS X19.here hx rfl (hb hby at_131) rfl (own_nn hsc2 (fun z => nomatch z)) rfl k) ?_
    show Gl _ _ _ _ _ _ _ (T19.setTop (mkF m 132 #[.val (.int x0), .val (.int x1), .val (.int x2), .val (.long ((x0.toInt64) &&& (2147483647 : Int64))), .second, .val (.long ((x1.toInt64) &&& (2147483647 : Int64))), .second, .val (.long r14), .second, .val (.long r15), .second, .val (.int (x2 &&& (15 : Int32))), .val (.double sc), .second, .val (.double lw), .second, .val (.int (0 : Int32)), .val (.double (9218868437227405312 : UInt64)), .second, .val (.double up), .second, .val (.ref b17), .val (.double (FP.dadd lw (FP.ddiv (FP.dsub up lw) (4611686018427387904 : UInt64)))), .second, .unset, .unset] [(.double (FP.dmul (4611686018427387904 : UInt64) sc)), (.double (FP.l2d (r14 + r15)))]))
    refine Gl.back (fun _ k => XS.ddivS X19.here hx rfl (hb hby at_132) rfl (own_nn (own_div (own_l2d (own_sum hlo hhi hle hbd)) hsc2 (by omega) (by decide) (by decide)) (own_notnan (by omega) (by omega) (by omega))) rfl k) ?_
    show Gl _ _ _ _ _ _ _ (T19.setTop (mkF m 133 #[.val (.int x0), .val (.int x1), .val (.int x2), .val (.long ((x0.toInt64) &&& (2147483647 : Int64))), .second, .val (.long ((x1.toInt64) &&& (2147483647 : Int64))), .second, .val (.long r14), .second, .val (.long r15), .second, .val (.int (x2 &&& (15 : Int32))), .val (.double sc), .second, .val (.double lw), .second, .val (.int (0 : Int32)), .val (.double (9218868437227405312 : UInt64)), .second, .val (.double up), .second, .val (.ref b17), .val (.double (FP.dadd lw (FP.ddiv (FP.dsub up lw) (4611686018427387904 : UInt64)))), .second, .unset, .unset] [(.double (FP.ddiv (FP.l2d (r14 + r15)) (FP.dmul (4611686018427387904 : UInt64) sc)))]))
    refine Gl.back (fun _ k => XS.dstore X19.here hx rfl (hb hby at_133) rfl (l' := #[.val (.int x0), .val (.int x1), .val (.int x2), .val (.long ((x0.toInt64) &&& (2147483647 : Int64))), .second, .val (.long ((x1.toInt64) &&& (2147483647 : Int64))), .second, .val (.long r14), .second, .val (.long r15), .second, .val (.int (x2 &&& (15 : Int32))), .val (.double sc), .second, .val (.double lw), .second, .val (.int (0 : Int32)), .val (.double (9218868437227405312 : UInt64)), .second, .val (.double up), .second, .val (.ref b17), .val (.double (FP.dadd lw (FP.ddiv (FP.dsub up lw) (4611686018427387904 : UInt64)))), .second, .val (.double (FP.ddiv (FP.l2d (r14 + r15)) (FP.dmul (4611686018427387904 : UInt64) sc))), .second]) rfl k) ?_
    show Gl _ _ _ _ _ _ _ (T19.setTop (mkF m 135 #[.val (.int x0), .val (.int x1), .val (.int x2), .val (.long ((x0.toInt64) &&& (2147483647 : Int64))), .second, .val (.long ((x1.toInt64) &&& (2147483647 : Int64))), .second, .val (.long r14), .second, .val (.long r15), .second, .val (.int (x2 &&& (15 : Int32))), .val (.double sc), .second, .val (.double lw), .second, .val (.int (0 : Int32)), .val (.double (9218868437227405312 : UInt64)), .second, .val (.double up), .second, .val (.ref b17), .val (.double (FP.dadd lw (FP.ddiv (FP.dsub up lw) (4611686018427387904 : UInt64)))), .second, .val (.double (FP.ddiv (FP.l2d (r14 + r15)) (FP.dmul (4611686018427387904 : UInt64) sc))), .second] []))
    refine Gl.back (fun _ k => XS.dload X19.here hx rfl (hb hby at_135) rfl k) ?_
    show Gl _ _ _ _ _ _ _ (T19.setTop (mkF m 137 #[.val (.int x0), .val (.int x1), .val (.int x2), .val (.long ((x0.toInt64) &&& (2147483647 : Int64))), .second, .val (.long ((x1.toInt64) &&& (2147483647 : Int64))), .second, .val (.long r14), .second, .val (.long r15), .second, .val (.int (x2 &&& (15 : Int32))), .val (.double sc), .second, .val (.double lw), .second, .val (.int (0 : Int32)), .val (.double (9218868437227405312 : UInt64)), .second, .val (.double up), .second, .val (.ref b17), .val (.double (FP.dadd lw (FP.ddiv (FP.dsub up lw) (4611686018427387904 : UInt64)))), .second, .val (.double (FP.ddiv (FP.l2d (r14 + r15)) (FP.dmul (4611686018427387904 : UInt64) sc))), .second] [(.double (FP.dadd lw (FP.ddiv (FP.dsub up lw) (4611686018427387904 : UInt64))))]))
    refine Gl.back (fun _ k => XS.dload X19.here hx rfl (hb hby at_137) rfl k) ?_
    show Gl _ _ _ _ _ _ _ (T19.setTop (mkF m 139 #[.val (.int x0), .val (.int x1), .val (.int x2), .val (.long ((x0.toInt64) &&& (2147483647 : Int64))), .second, .val (.long ((x1.toInt64) &&& (2147483647 : Int64))), .second, .val (.long r14), .second, .val (.long r15), .second, .val (.int (x2 &&& (15 : Int32))), .val (.double sc), .second, .val (.double lw), .second, .val (.int (0 : Int32)), .val (.double (9218868437227405312 : UInt64)), .second, .val (.double up), .second, .val (.ref b17), .val (.double (FP.dadd lw (FP.ddiv (FP.dsub up lw) (4611686018427387904 : UInt64)))), .second, .val (.double (FP.ddiv (FP.l2d (r14 + r15)) (FP.dmul (4611686018427387904 : UInt64) sc))), .second] [(.double (FP.ddiv (FP.l2d (r14 + r15)) (FP.dmul (4611686018427387904 : UInt64) sc))), (.double (FP.dadd lw (FP.ddiv (FP.dsub up lw) (4611686018427387904 : UInt64))))]))
    refine Gl.back (fun _ k => XS.dcmpS X19.here hx rfl (hb hby at_139) rfl (dcmpV_eq (own_same hres (own_div (own_l2d (own_sum hlo hhi hle hbd)) hsc2 (by omega) (by decide) (by decide)) (own_notnan (by omega) (by omega) (by omega))) hn3 .l) k) ?_
    show Gl _ _ _ _ _ _ _ (T19.setTop (mkF m 140 #[.val (.int x0), .val (.int x1), .val (.int x2), .val (.long ((x0.toInt64) &&& (2147483647 : Int64))), .second, .val (.long ((x1.toInt64) &&& (2147483647 : Int64))), .second, .val (.long r14), .second, .val (.long r15), .second, .val (.int (x2 &&& (15 : Int32))), .val (.double sc), .second, .val (.double lw), .second, .val (.int (0 : Int32)), .val (.double (9218868437227405312 : UInt64)), .second, .val (.double up), .second, .val (.ref b17), .val (.double (FP.dadd lw (FP.ddiv (FP.dsub up lw) (4611686018427387904 : UInt64)))), .second, .val (.double (FP.ddiv (FP.l2d (r14 + r15)) (FP.dmul (4611686018427387904 : UInt64) sc))), .second] [(.int (0 : Int32))]))
    refine Gl.back (fun _ k => XS.ifNo X19.here hx rfl (hb hby at_140) rfl ((if0 _ _).trans (teq (by decide : (0 : Int32) = (0 : Int32))).2) k) ?_
    show Gl _ _ _ _ _ _ _ (T19.setTop (mkF m 143 #[.val (.int x0), .val (.int x1), .val (.int x2), .val (.long ((x0.toInt64) &&& (2147483647 : Int64))), .second, .val (.long ((x1.toInt64) &&& (2147483647 : Int64))), .second, .val (.long r14), .second, .val (.long r15), .second, .val (.int (x2 &&& (15 : Int32))), .val (.double sc), .second, .val (.double lw), .second, .val (.int (0 : Int32)), .val (.double (9218868437227405312 : UInt64)), .second, .val (.double up), .second, .val (.ref b17), .val (.double (FP.dadd lw (FP.ddiv (FP.dsub up lw) (4611686018427387904 : UInt64)))), .second, .val (.double (FP.ddiv (FP.l2d (r14 + r15)) (FP.dmul (4611686018427387904 : UInt64) sc))), .second] []))
    refine Gl.back (fun _ k => XS.iconst X19.here hx rfl (hb hby at_143) k) ?_
    show Gl _ _ _ _ _ _ _ (T19.setTop (mkF m 144 #[.val (.int x0), .val (.int x1), .val (.int x2), .val (.long ((x0.toInt64) &&& (2147483647 : Int64))), .second, .val (.long ((x1.toInt64) &&& (2147483647 : Int64))), .second, .val (.long r14), .second, .val (.long r15), .second, .val (.int (x2 &&& (15 : Int32))), .val (.double sc), .second, .val (.double lw), .second, .val (.int (0 : Int32)), .val (.double (9218868437227405312 : UInt64)), .second, .val (.double up), .second, .val (.ref b17), .val (.double (FP.dadd lw (FP.ddiv (FP.dsub up lw) (4611686018427387904 : UInt64)))), .second, .val (.double (FP.ddiv (FP.l2d (r14 + r15)) (FP.dmul (4611686018427387904 : UInt64) sc))), .second] [(.int (1 : Int32))]))
    refine Gl.back (fun _ k => XS.goto X19.here hx rfl (pc0 := 144) (pc' := 148) rfl (hb hby at_144) (by decide) (by decide) k) ?_
    show Gl _ _ _ _ _ _ _ (T19.setTop (mkF m 148 #[.val (.int x0), .val (.int x1), .val (.int x2), .val (.long ((x0.toInt64) &&& (2147483647 : Int64))), .second, .val (.long ((x1.toInt64) &&& (2147483647 : Int64))), .second, .val (.long r14), .second, .val (.long r15), .second, .val (.int (x2 &&& (15 : Int32))), .val (.double sc), .second, .val (.double lw), .second, .val (.int (0 : Int32)), .val (.double (9218868437227405312 : UInt64)), .second, .val (.double up), .second, .val (.ref b17), .val (.double (FP.dadd lw (FP.ddiv (FP.dsub up lw) (4611686018427387904 : UInt64)))), .second, .val (.double (FP.ddiv (FP.l2d (r14 + r15)) (FP.dmul (4611686018427387904 : UInt64) sc))), .second] [(.int (1 : Int32))]))
    exact Gl.ret X19 eh19 (v := (some (.int (1 : Int32)))) (fun h => by rw [Bd.returns] at h; cases h) Bd.notSynchronized (fun fs hr => retN X19 hx (t := .boolean) (z := (1 : Int32)) Bd.returns (by simp) (hb hby at_148) hr) ⟨N19, rfl⟩ (by decide) (by decide)
  · refine Gl.back (fun _ k => XS.ifNo X15.here hx rfl (hb hby at_57) rfl ((if0 _ _).trans (feq hc57_16).1) k) ?_
    show Gl _ _ _ _ _ _ _ (T15.setTop (mkF m 60 #[.val (.int x0), .val (.int x1), .val (.int x2), .val (.long ((x0.toInt64) &&& (2147483647 : Int64))), .second, .val (.long ((x1.toInt64) &&& (2147483647 : Int64))), .second, .val (.long r14), .second, .val (.long r15), .second, .val (.int (x2 &&& (15 : Int32))), .val (.double sc), .second, .val (.double lw), .second, .unset, .unset, .unset, .unset, .unset, .unset, .unset, .unset, .unset, .unset] []))
    refine Gl.back (fun _ k => XS.iconst X15.here hx rfl (hb hby at_60) k) ?_
    show Gl _ _ _ _ _ _ _ (T15.setTop (mkF m 61 #[.val (.int x0), .val (.int x1), .val (.int x2), .val (.long ((x0.toInt64) &&& (2147483647 : Int64))), .second, .val (.long ((x1.toInt64) &&& (2147483647 : Int64))), .second, .val (.long r14), .second, .val (.long r15), .second, .val (.int (x2 &&& (15 : Int32))), .val (.double sc), .second, .val (.double lw), .second, .unset, .unset, .unset, .unset, .unset, .unset, .unset, .unset, .unset, .unset] [(.int (1 : Int32))]))
    refine Gl.back (fun _ k => XS.goto X15.here hx rfl (pc0 := 61) (pc' := 65) rfl (hb hby at_61) (by decide) (by decide) k) ?_
    show Gl _ _ _ _ _ _ _ (T15.setTop (mkF m 65 #[.val (.int x0), .val (.int x1), .val (.int x2), .val (.long ((x0.toInt64) &&& (2147483647 : Int64))), .second, .val (.long ((x1.toInt64) &&& (2147483647 : Int64))), .second, .val (.long r14), .second, .val (.long r15), .second, .val (.int (x2 &&& (15 : Int32))), .val (.double sc), .second, .val (.double lw), .second, .unset, .unset, .unset, .unset, .unset, .unset, .unset, .unset, .unset, .unset] [(.int (1 : Int32))]))
    refine Gl.back (fun _ k => XS.istore X15.here hx rfl (hb hby at_65) rfl (l' := #[.val (.int x0), .val (.int x1), .val (.int x2), .val (.long ((x0.toInt64) &&& (2147483647 : Int64))), .second, .val (.long ((x1.toInt64) &&& (2147483647 : Int64))), .second, .val (.long r14), .second, .val (.long r15), .second, .val (.int (x2 &&& (15 : Int32))), .val (.double sc), .second, .val (.double lw), .second, .val (.int (1 : Int32)), .unset, .unset, .unset, .unset, .unset, .unset, .unset, .unset, .unset]) rfl k) ?_
    show Gl _ _ _ _ _ _ _ (T15.setTop (mkF m 67 #[.val (.int x0), .val (.int x1), .val (.int x2), .val (.long ((x0.toInt64) &&& (2147483647 : Int64))), .second, .val (.long ((x1.toInt64) &&& (2147483647 : Int64))), .second, .val (.long r14), .second, .val (.long r15), .second, .val (.int (x2 &&& (15 : Int32))), .val (.double sc), .second, .val (.double lw), .second, .val (.int (1 : Int32)), .unset, .unset, .unset, .unset, .unset, .unset, .unset, .unset, .unset] []))
    refine Gl.back (fun _ k => X15.ldc2DoubleC hx hown (mvT hZ (hw _ (List.mem_of_getElem? (i := 8) rfl))) (g := (mkF m 67 #[.val (.int x0), .val (.int x1), .val (.int x2), .val (.long ((x0.toInt64) &&& (2147483647 : Int64))), .second, .val (.long ((x1.toInt64) &&& (2147483647 : Int64))), .second, .val (.long r14), .second, .val (.long r15), .second, .val (.int (x2 &&& (15 : Int32))), .val (.double sc), .second, .val (.double lw), .second, .val (.int (1 : Int32)), .unset, .unset, .unset, .unset, .unset, .unset, .unset, .unset, .unset] [])) rfl (hb hby at_67) _ k) ?_
    show Gl _ _ _ _ _ _ _ (T15.setTop (mkF m 70 #[.val (.int x0), .val (.int x1), .val (.int x2), .val (.long ((x0.toInt64) &&& (2147483647 : Int64))), .second, .val (.long ((x1.toInt64) &&& (2147483647 : Int64))), .second, .val (.long r14), .second, .val (.long r15), .second, .val (.int (x2 &&& (15 : Int32))), .val (.double sc), .second, .val (.double lw), .second, .val (.int (1 : Int32)), .unset, .unset, .unset, .unset, .unset, .unset, .unset, .unset, .unset] [(.double (9218868437227405312 : UInt64))]))
    refine Gl.back (fun _ k => XS.dstore X15.here hx rfl (hb hby at_70) rfl (l' := #[.val (.int x0), .val (.int x1), .val (.int x2), .val (.long ((x0.toInt64) &&& (2147483647 : Int64))), .second, .val (.long ((x1.toInt64) &&& (2147483647 : Int64))), .second, .val (.long r14), .second, .val (.long r15), .second, .val (.int (x2 &&& (15 : Int32))), .val (.double sc), .second, .val (.double lw), .second, .val (.int (1 : Int32)), .val (.double (9218868437227405312 : UInt64)), .second, .unset, .unset, .unset, .unset, .unset, .unset, .unset]) rfl k) ?_
    show Gl _ _ _ _ _ _ _ (T15.setTop (mkF m 72 #[.val (.int x0), .val (.int x1), .val (.int x2), .val (.long ((x0.toInt64) &&& (2147483647 : Int64))), .second, .val (.long ((x1.toInt64) &&& (2147483647 : Int64))), .second, .val (.long r14), .second, .val (.long r15), .second, .val (.int (x2 &&& (15 : Int32))), .val (.double sc), .second, .val (.double lw), .second, .val (.int (1 : Int32)), .val (.double (9218868437227405312 : UInt64)), .second, .unset, .unset, .unset, .unset, .unset, .unset, .unset] []))
    refine Gl.back (fun _ k => XS.iload X15.here hx rfl (hb hby at_72) rfl k) ?_
    show Gl _ _ _ _ _ _ _ (T15.setTop (mkF m 74 #[.val (.int x0), .val (.int x1), .val (.int x2), .val (.long ((x0.toInt64) &&& (2147483647 : Int64))), .second, .val (.long ((x1.toInt64) &&& (2147483647 : Int64))), .second, .val (.long r14), .second, .val (.long r15), .second, .val (.int (x2 &&& (15 : Int32))), .val (.double sc), .second, .val (.double lw), .second, .val (.int (1 : Int32)), .val (.double (9218868437227405312 : UInt64)), .second, .unset, .unset, .unset, .unset, .unset, .unset, .unset] [(.int (1 : Int32))]))
    refine Gl.back (fun _ k => XS.ifNo X15.here hx rfl (hb hby at_74) rfl ((if0 _ _).trans (feq (by decide : ¬ (1 : Int32) = (0 : Int32))).1) k) ?_
    show Gl _ _ _ _ _ _ _ (T15.setTop (mkF m 77 #[.val (.int x0), .val (.int x1), .val (.int x2), .val (.long ((x0.toInt64) &&& (2147483647 : Int64))), .second, .val (.long ((x1.toInt64) &&& (2147483647 : Int64))), .second, .val (.long r14), .second, .val (.long r15), .second, .val (.int (x2 &&& (15 : Int32))), .val (.double sc), .second, .val (.double lw), .second, .val (.int (1 : Int32)), .val (.double (9218868437227405312 : UInt64)), .second, .unset, .unset, .unset, .unset, .unset, .unset, .unset] []))
    refine Gl.back (fun _ k => XS.dload X15.here hx rfl (hb hby at_77) rfl k) ?_
    show Gl _ _ _ _ _ _ _ (T15.setTop (mkF m 79 #[.val (.int x0), .val (.int x1), .val (.int x2), .val (.long ((x0.toInt64) &&& (2147483647 : Int64))), .second, .val (.long ((x1.toInt64) &&& (2147483647 : Int64))), .second, .val (.long r14), .second, .val (.long r15), .second, .val (.int (x2 &&& (15 : Int32))), .val (.double sc), .second, .val (.double lw), .second, .val (.int (1 : Int32)), .val (.double (9218868437227405312 : UInt64)), .second, .unset, .unset, .unset, .unset, .unset, .unset, .unset] [(.double (9218868437227405312 : UInt64))]))
    refine Gl.back (fun _ k => XS.goto X15.here hx rfl (pc0 := 79) (pc' := 88) rfl (hb hby at_79) (by decide) (by decide) k) ?_
    show Gl _ _ _ _ _ _ _ (T15.setTop (mkF m 88 #[.val (.int x0), .val (.int x1), .val (.int x2), .val (.long ((x0.toInt64) &&& (2147483647 : Int64))), .second, .val (.long ((x1.toInt64) &&& (2147483647 : Int64))), .second, .val (.long r14), .second, .val (.long r15), .second, .val (.int (x2 &&& (15 : Int32))), .val (.double sc), .second, .val (.double lw), .second, .val (.int (1 : Int32)), .val (.double (9218868437227405312 : UInt64)), .second, .unset, .unset, .unset, .unset, .unset, .unset, .unset] [(.double (9218868437227405312 : UInt64))]))
    refine Gl.back (fun _ k => XS.dstore X15.here hx rfl (hb hby at_88) rfl (l' := #[.val (.int x0), .val (.int x1), .val (.int x2), .val (.long ((x0.toInt64) &&& (2147483647 : Int64))), .second, .val (.long ((x1.toInt64) &&& (2147483647 : Int64))), .second, .val (.long r14), .second, .val (.long r15), .second, .val (.int (x2 &&& (15 : Int32))), .val (.double sc), .second, .val (.double lw), .second, .val (.int (1 : Int32)), .val (.double (9218868437227405312 : UInt64)), .second, .val (.double (9218868437227405312 : UInt64)), .second, .unset, .unset, .unset, .unset, .unset]) rfl k) ?_
    show Gl _ _ _ _ _ _ _ (T15.setTop (mkF m 90 #[.val (.int x0), .val (.int x1), .val (.int x2), .val (.long ((x0.toInt64) &&& (2147483647 : Int64))), .second, .val (.long ((x1.toInt64) &&& (2147483647 : Int64))), .second, .val (.long r14), .second, .val (.long r15), .second, .val (.int (x2 &&& (15 : Int32))), .val (.double sc), .second, .val (.double lw), .second, .val (.int (1 : Int32)), .val (.double (9218868437227405312 : UInt64)), .second, .val (.double (9218868437227405312 : UInt64)), .second, .unset, .unset, .unset, .unset, .unset] []))
    obtain ⟨T21, h21, X21, e21, E21, A21, D21, -, st21⟩ := newO X15 hx hZ hown (hw _ (List.mem_of_getElem? (i := 9) rfl)) (hw _ (List.mem_of_getElem? (i := 10) rfl)) (hw _ (List.mem_of_getElem? (i := 11) rfl)) eh15 (g := (mkF m 90 #[.val (.int x0), .val (.int x1), .val (.int x2), .val (.long ((x0.toInt64) &&& (2147483647 : Int64))), .second, .val (.long ((x1.toInt64) &&& (2147483647 : Int64))), .second, .val (.long r14), .second, .val (.long r15), .second, .val (.int (x2 &&& (15 : Int32))), .val (.double sc), .second, .val (.double lw), .second, .val (.int (1 : Int32)), .val (.double (9218868437227405312 : UInt64)), .second, .val (.double (9218868437227405312 : UInt64)), .second, .unset, .unset, .unset, .unset, .unset] [])) rfl (hb hby at_90) (by decide) (by decide)
    obtain ⟨b21, g21⟩ : ∃ z, z = h0.size := ⟨_, rfl⟩
    rw [← g21] at A21 D21 st21
    have g_b21 : n0 ≤ b21 := Nat.le_trans Z0 (Nat.le_of_eq g21.symm)
    have sz_b21 : h0.size ≤ b21 := Nat.le_trans (Keep.refl h0 []).1 (Nat.le_of_eq g21.symm)
    have Z21 : n0 ≤ h21.size := Nat.le_trans Z0 E21.1
    have K21 := Keep.ext (Keep.refl h0 []) E21
    have F21_lower : Fld Z h21 b21 "com/example/uncovert/uncovert/analysis/capacity/CapacityBounds" "lower" "D" (.double (0 : UInt64)) := D21 (Or.inr (hw _ (List.mem_of_getElem? (i := 27) rfl))) (ty := .double) (by decide)
    have F21_upper : Fld Z h21 b21 "com/example/uncovert/uncovert/analysis/capacity/CapacityBounds" "upper" "D" (.double (0 : UInt64)) := D21 (Or.inr (hw _ (List.mem_of_getElem? (i := 29) rfl))) (ty := .double) (by decide)
    refine Gl.back (fun _ k => st21 _ k) ?_
    show Gl _ _ _ _ _ _ _ (T21.setTop (mkF m 93 #[.val (.int x0), .val (.int x1), .val (.int x2), .val (.long ((x0.toInt64) &&& (2147483647 : Int64))), .second, .val (.long ((x1.toInt64) &&& (2147483647 : Int64))), .second, .val (.long r14), .second, .val (.long r15), .second, .val (.int (x2 &&& (15 : Int32))), .val (.double sc), .second, .val (.double lw), .second, .val (.int (1 : Int32)), .val (.double (9218868437227405312 : UInt64)), .second, .val (.double (9218868437227405312 : UInt64)), .second, .unset, .unset, .unset, .unset, .unset] [(.ref b21)]))
    refine Gl.back (fun _ k => XS.dup X21.here hx rfl (hb hby at_93) rfl rfl k) ?_
    show Gl _ _ _ _ _ _ _ (T21.setTop (mkF m 94 #[.val (.int x0), .val (.int x1), .val (.int x2), .val (.long ((x0.toInt64) &&& (2147483647 : Int64))), .second, .val (.long ((x1.toInt64) &&& (2147483647 : Int64))), .second, .val (.long r14), .second, .val (.long r15), .second, .val (.int (x2 &&& (15 : Int32))), .val (.double sc), .second, .val (.double lw), .second, .val (.int (1 : Int32)), .val (.double (9218868437227405312 : UInt64)), .second, .val (.double (9218868437227405312 : UInt64)), .second, .unset, .unset, .unset, .unset, .unset] [(.ref b21), (.ref b21)]))
    refine Gl.back (fun _ k => XS.dload X21.here hx rfl (hb hby at_94) rfl k) ?_
    show Gl _ _ _ _ _ _ _ (T21.setTop (mkF m 96 #[.val (.int x0), .val (.int x1), .val (.int x2), .val (.long ((x0.toInt64) &&& (2147483647 : Int64))), .second, .val (.long ((x1.toInt64) &&& (2147483647 : Int64))), .second, .val (.long r14), .second, .val (.long r15), .second, .val (.int (x2 &&& (15 : Int32))), .val (.double sc), .second, .val (.double lw), .second, .val (.int (1 : Int32)), .val (.double (9218868437227405312 : UInt64)), .second, .val (.double (9218868437227405312 : UInt64)), .second, .unset, .unset, .unset, .unset, .unset] [(.double lw), (.ref b21), (.ref b21)]))
    refine Gl.back (fun _ k => XS.dload X21.here hx rfl (hb hby at_96) rfl k) ?_
    show Gl _ _ _ _ _ _ _ (T21.setTop (mkF m 98 #[.val (.int x0), .val (.int x1), .val (.int x2), .val (.long ((x0.toInt64) &&& (2147483647 : Int64))), .second, .val (.long ((x1.toInt64) &&& (2147483647 : Int64))), .second, .val (.long r14), .second, .val (.long r15), .second, .val (.int (x2 &&& (15 : Int32))), .val (.double sc), .second, .val (.double lw), .second, .val (.int (1 : Int32)), .val (.double (9218868437227405312 : UInt64)), .second, .val (.double (9218868437227405312 : UInt64)), .second, .unset, .unset, .unset, .unset, .unset] [(.double (9218868437227405312 : UInt64)), (.double lw), (.ref b21), (.ref b21)]))
    obtain ⟨_, _, ⟨T22, L22, k22, n22⟩, -, X22, ⟨Lc22, hQ22, l22, y22, z22⟩, st22⟩ := X21.specialBack hx (y := (⟨"com/example/uncovert/uncovert/analysis/capacity/CapacityBounds", "<init>", "(DD)V"⟩ : MethodName)) rfl hown (mvT hZ (hw _ (List.mem_of_getElem? (i := 12) rfl))) (mvT hZ (hw _ (List.mem_of_getElem? (i := 13) rfl))) (mvT hZ (hw _ (List.mem_of_getElem? (i := 14) rfl))) (by decide) (backOf (W := 1) (rm3 l Z a0 hw [] b21 lw (9218868437227405312 : UInt64)  h21 n0 Z21 g_b21 A21 F21_lower F21_upper hNl (own_fin hlw (by omega) (by omega) (by omega)) (own_ge0 hlw (by omega) (by omega) (by omega)) (own_leinf hlw (by omega) (by omega) (by omega))) hZ (hw _ (List.mem_of_getElem? (i := 14) rfl)) (hw _ (List.mem_of_getElem? (i := 11) rfl)) (by decide) (by decide)) (g := (mkF m 98 #[.val (.int x0), .val (.int x1), .val (.int x2), .val (.long ((x0.toInt64) &&& (2147483647 : Int64))), .second, .val (.long ((x1.toInt64) &&& (2147483647 : Int64))), .second, .val (.long r14), .second, .val (.long r15), .second, .val (.int (x2 &&& (15 : Int32))), .val (.double sc), .second, .val (.double lw), .second, .val (.int (1 : Int32)), .val (.double (9218868437227405312 : UInt64)), .second, .val (.double (9218868437227405312 : UInt64)), .second, .unset, .unset, .unset, .unset, .unset] [(.double (9218868437227405312 : UInt64)), (.double lw), (.ref b21), (.ref b21)])) rfl (by rw [hml]; rfl) (Steps.refl _) (a := b21) (argsL := [(.double lw), (.double (9218868437227405312 : UInt64))]) (rest := [(.ref b21)]) (lenOf pd__DD_V rfl) rfl (by show 2 * 0 + _ ≤ _; exact Nat.le_of_eq rfl) (hb hby at_98) (fun _ _ => ⟨rfl, e21, (by decide : 1 + 0 ≤ _), (by decide : 2 + 0 ≤ _)⟩)
    dsimp only [Pt.U, Pt.locs, Pt.cells, Pt.slots] at X22 l22 y22 z22 st22 hQ22
    subst l22 y22 z22
    obtain ⟨Nq22, rfl, Kq22, Fl22, Fu22⟩ := hQ22
    have N22 := Fr.app N15 Nq22
    have Kc22 := Keep.trans K21 Kq22 (allS (Or.inr sz_b21) all0)
    have Zc22 : n0 ≤ T22.heap.size := Nat.le_trans Z21 Kq22.1
    refine Gl.back (fun _ k => st22.trans k) ?_
    show Gl _ _ _ _ _ _ _ (T22.setTop (mkF m 101 #[.val (.int x0), .val (.int x1), .val (.int x2), .val (.long ((x0.toInt64) &&& (2147483647 : Int64))), .second, .val (.long ((x1.toInt64) &&& (2147483647 : Int64))), .second, .val (.long r14), .second, .val (.long r15), .second, .val (.int (x2 &&& (15 : Int32))), .val (.double sc), .second, .val (.double lw), .second, .val (.int (1 : Int32)), .val (.double (9218868437227405312 : UInt64)), .second, .val (.double (9218868437227405312 : UInt64)), .second, .unset, .unset, .unset, .unset, .unset] [(.ref b21)]))
    refine Gl.back (fun _ k => XS.astore X22.here hx rfl (hb hby at_101) rfl rfl (l' := #[.val (.int x0), .val (.int x1), .val (.int x2), .val (.long ((x0.toInt64) &&& (2147483647 : Int64))), .second, .val (.long ((x1.toInt64) &&& (2147483647 : Int64))), .second, .val (.long r14), .second, .val (.long r15), .second, .val (.int (x2 &&& (15 : Int32))), .val (.double sc), .second, .val (.double lw), .second, .val (.int (1 : Int32)), .val (.double (9218868437227405312 : UInt64)), .second, .val (.double (9218868437227405312 : UInt64)), .second, .val (.ref b21), .unset, .unset, .unset, .unset]) rfl k) ?_
    show Gl _ _ _ _ _ _ _ (T22.setTop (mkF m 103 #[.val (.int x0), .val (.int x1), .val (.int x2), .val (.long ((x0.toInt64) &&& (2147483647 : Int64))), .second, .val (.long ((x1.toInt64) &&& (2147483647 : Int64))), .second, .val (.long r14), .second, .val (.long r15), .second, .val (.int (x2 &&& (15 : Int32))), .val (.double sc), .second, .val (.double lw), .second, .val (.int (1 : Int32)), .val (.double (9218868437227405312 : UInt64)), .second, .val (.double (9218868437227405312 : UInt64)), .second, .val (.ref b21), .unset, .unset, .unset, .unset] []))
    refine Gl.back (fun _ k => XS.aload X22.here hx rfl (hb hby at_103) rfl rfl k) ?_
    show Gl _ _ _ _ _ _ _ (T22.setTop (mkF m 105 #[.val (.int x0), .val (.int x1), .val (.int x2), .val (.long ((x0.toInt64) &&& (2147483647 : Int64))), .second, .val (.long ((x1.toInt64) &&& (2147483647 : Int64))), .second, .val (.long r14), .second, .val (.long r15), .second, .val (.int (x2 &&& (15 : Int32))), .val (.double sc), .second, .val (.double lw), .second, .val (.int (1 : Int32)), .val (.double (9218868437227405312 : UInt64)), .second, .val (.double (9218868437227405312 : UInt64)), .second, .val (.ref b21), .unset, .unset, .unset, .unset] [(.ref b21)]))
    obtain ⟨hn1, hn2, hn3, hres⟩ := own_midinf hlw (by omega) (by omega) (by omega)
    have f24 := (A21.keep Kq22)
    obtain ⟨cq23, kq23, q23a, q23b, q23c⟩ := isOf hZ rfl f24
    obtain ⟨_, _, ⟨T23, L23, k23, n23⟩, -, X23, ⟨Lc23, hQ23, l23, y23, z23⟩, st23⟩ := X22.virtualBack hx (y := (⟨"com/example/uncovert/uncovert/analysis/capacity/CapacityBounds", "getMidpoint", "()D"⟩ : MethodName)) (z := (⟨"com/example/uncovert/uncovert/analysis/capacity/CapacityBounds", "getMidpoint", "()D"⟩ : MethodName)) hown (mvT hZ (hw _ (List.mem_of_getElem? (i := 30) rfl))) (mvT hZ (hw _ (List.mem_of_getElem? (i := 31) rfl))) (notFace_of_selects (args := #[]) (mvT hZ (hw _ (List.mem_of_getElem? (i := 33) rfl)))) (mvT hZ (hw _ (List.mem_of_getElem? (i := 33) rfl))) (mvT hZ (hw _ (List.mem_of_getElem? (i := 32) rfl))) (by decide) (backOf (W := 0) (rm7 l Z a0 hw [] b21 lw (9218868437227405312 : UInt64) T22.heap n0 Zc22 Fl22 Fu22 hn1 hn2 hn3) hZ (hw _ (List.mem_of_getElem? (i := 34) rfl)) (hw _ (List.mem_of_getElem? (i := 11) rfl)) (by decide) (by decide)) q23a q23c (g := (mkF m 105 #[.val (.int x0), .val (.int x1), .val (.int x2), .val (.long ((x0.toInt64) &&& (2147483647 : Int64))), .second, .val (.long ((x1.toInt64) &&& (2147483647 : Int64))), .second, .val (.long r14), .second, .val (.long r15), .second, .val (.int (x2 &&& (15 : Int32))), .val (.double sc), .second, .val (.double lw), .second, .val (.int (1 : Int32)), .val (.double (9218868437227405312 : UInt64)), .second, .val (.double (9218868437227405312 : UInt64)), .second, .val (.ref b21), .unset, .unset, .unset, .unset] [(.ref b21)])) rfl (by rw [hml]; rfl) (Steps.refl _) (argsL := []) (rest := []) (lenOf pd___D rfl) rfl (by show 2 * 0 + _ ≤ _; exact Nat.le_of_eq rfl) (hb hby at_105) (fun _ _ => ⟨rfl, rfl, (by decide : 1 + 0 ≤ _), (by decide : 2 + 0 ≤ _)⟩)
    dsimp only [Pt.U, Pt.locs, Pt.cells, Pt.slots] at X23 l23 y23 z23 st23 hQ23
    subst l23 y23 z23
    obtain ⟨Nq23, rfl, eh23⟩ := hQ23
    have N23 := Fr.app N22 Nq23
    refine Gl.back (fun _ k => st23.trans k) ?_
    show Gl _ _ _ _ _ _ _ (T23.setTop (mkF m 108 #[.val (.int x0), .val (.int x1), .val (.int x2), .val (.long ((x0.toInt64) &&& (2147483647 : Int64))), .second, .val (.long ((x1.toInt64) &&& (2147483647 : Int64))), .second, .val (.long r14), .second, .val (.long r15), .second, .val (.int (x2 &&& (15 : Int32))), .val (.double sc), .second, .val (.double lw), .second, .val (.int (1 : Int32)), .val (.double (9218868437227405312 : UInt64)), .second, .val (.double (9218868437227405312 : UInt64)), .second, .val (.ref b21), .unset, .unset, .unset, .unset] [(.double (FP.dadd lw (FP.ddiv (FP.dsub (9218868437227405312 : UInt64) lw) (4611686018427387904 : UInt64))))]))
    refine Gl.back (fun _ k => XS.dstore X23.here hx rfl (hb hby at_108) rfl (l' := #[.val (.int x0), .val (.int x1), .val (.int x2), .val (.long ((x0.toInt64) &&& (2147483647 : Int64))), .second, .val (.long ((x1.toInt64) &&& (2147483647 : Int64))), .second, .val (.long r14), .second, .val (.long r15), .second, .val (.int (x2 &&& (15 : Int32))), .val (.double sc), .second, .val (.double lw), .second, .val (.int (1 : Int32)), .val (.double (9218868437227405312 : UInt64)), .second, .val (.double (9218868437227405312 : UInt64)), .second, .val (.ref b21), .val (.double (FP.dadd lw (FP.ddiv (FP.dsub (9218868437227405312 : UInt64) lw) (4611686018427387904 : UInt64)))), .second, .unset, .unset]) rfl k) ?_
    show Gl _ _ _ _ _ _ _ (T23.setTop (mkF m 110 #[.val (.int x0), .val (.int x1), .val (.int x2), .val (.long ((x0.toInt64) &&& (2147483647 : Int64))), .second, .val (.long ((x1.toInt64) &&& (2147483647 : Int64))), .second, .val (.long r14), .second, .val (.long r15), .second, .val (.int (x2 &&& (15 : Int32))), .val (.double sc), .second, .val (.double lw), .second, .val (.int (1 : Int32)), .val (.double (9218868437227405312 : UInt64)), .second, .val (.double (9218868437227405312 : UInt64)), .second, .val (.ref b21), .val (.double (FP.dadd lw (FP.ddiv (FP.dsub (9218868437227405312 : UInt64) lw) (4611686018427387904 : UInt64)))), .second, .unset, .unset] []))
    refine Gl.back (fun _ k => XS.iload X23.here hx rfl (hb hby at_110) rfl k) ?_
    show Gl _ _ _ _ _ _ _ (T23.setTop (mkF m 112 #[.val (.int x0), .val (.int x1), .val (.int x2), .val (.long ((x0.toInt64) &&& (2147483647 : Int64))), .second, .val (.long ((x1.toInt64) &&& (2147483647 : Int64))), .second, .val (.long r14), .second, .val (.long r15), .second, .val (.int (x2 &&& (15 : Int32))), .val (.double sc), .second, .val (.double lw), .second, .val (.int (1 : Int32)), .val (.double (9218868437227405312 : UInt64)), .second, .val (.double (9218868437227405312 : UInt64)), .second, .val (.ref b21), .val (.double (FP.dadd lw (FP.ddiv (FP.dsub (9218868437227405312 : UInt64) lw) (4611686018427387904 : UInt64)))), .second, .unset, .unset] [(.int (1 : Int32))]))
    refine Gl.back (fun _ k => XS.ifNo X23.here hx rfl (hb hby at_112) rfl ((if0 _ _).trans (feq (by decide : ¬ (1 : Int32) = (0 : Int32))).1) k) ?_
    show Gl _ _ _ _ _ _ _ (T23.setTop (mkF m 115 #[.val (.int x0), .val (.int x1), .val (.int x2), .val (.long ((x0.toInt64) &&& (2147483647 : Int64))), .second, .val (.long ((x1.toInt64) &&& (2147483647 : Int64))), .second, .val (.long r14), .second, .val (.long r15), .second, .val (.int (x2 &&& (15 : Int32))), .val (.double sc), .second, .val (.double lw), .second, .val (.int (1 : Int32)), .val (.double (9218868437227405312 : UInt64)), .second, .val (.double (9218868437227405312 : UInt64)), .second, .val (.ref b21), .val (.double (FP.dadd lw (FP.ddiv (FP.dsub (9218868437227405312 : UInt64) lw) (4611686018427387904 : UInt64)))), .second, .unset, .unset] []))
    refine Gl.back (fun _ k => XS.dload X23.here hx rfl (hb hby at_115) rfl k) ?_
    show Gl _ _ _ _ _ _ _ (T23.setTop (mkF m 117 #[.val (.int x0), .val (.int x1), .val (.int x2), .val (.long ((x0.toInt64) &&& (2147483647 : Int64))), .second, .val (.long ((x1.toInt64) &&& (2147483647 : Int64))), .second, .val (.long r14), .second, .val (.long r15), .second, .val (.int (x2 &&& (15 : Int32))), .val (.double sc), .second, .val (.double lw), .second, .val (.int (1 : Int32)), .val (.double (9218868437227405312 : UInt64)), .second, .val (.double (9218868437227405312 : UInt64)), .second, .val (.ref b21), .val (.double (FP.dadd lw (FP.ddiv (FP.dsub (9218868437227405312 : UInt64) lw) (4611686018427387904 : UInt64)))), .second, .unset, .unset] [(.double (9218868437227405312 : UInt64))]))
    refine Gl.back (fun _ k => XS.goto X23.here hx rfl (pc0 := 117) (pc' := 133) rfl (hb hby at_117) (by decide) (by decide) k) ?_
    show Gl _ _ _ _ _ _ _ (T23.setTop (mkF m 133 #[.val (.int x0), .val (.int x1), .val (.int x2), .val (.long ((x0.toInt64) &&& (2147483647 : Int64))), .second, .val (.long ((x1.toInt64) &&& (2147483647 : Int64))), .second, .val (.long r14), .second, .val (.long r15), .second, .val (.int (x2 &&& (15 : Int32))), .val (.double sc), .second, .val (.double lw), .second, .val (.int (1 : Int32)), .val (.double (9218868437227405312 : UInt64)), .second, .val (.double (9218868437227405312 : UInt64)), .second, .val (.ref b21), .val (.double (FP.dadd lw (FP.ddiv (FP.dsub (9218868437227405312 : UInt64) lw) (4611686018427387904 : UInt64)))), .second, .unset, .unset] [(.double (9218868437227405312 : UInt64))]))
    refine Gl.back (fun _ k => XS.dstore X23.here hx rfl (hb hby at_133) rfl (l' := #[.val (.int x0), .val (.int x1), .val (.int x2), .val (.long ((x0.toInt64) &&& (2147483647 : Int64))), .second, .val (.long ((x1.toInt64) &&& (2147483647 : Int64))), .second, .val (.long r14), .second, .val (.long r15), .second, .val (.int (x2 &&& (15 : Int32))), .val (.double sc), .second, .val (.double lw), .second, .val (.int (1 : Int32)), .val (.double (9218868437227405312 : UInt64)), .second, .val (.double (9218868437227405312 : UInt64)), .second, .val (.ref b21), .val (.double (FP.dadd lw (FP.ddiv (FP.dsub (9218868437227405312 : UInt64) lw) (4611686018427387904 : UInt64)))), .second, .val (.double (9218868437227405312 : UInt64)), .second]) rfl k) ?_
    show Gl _ _ _ _ _ _ _ (T23.setTop (mkF m 135 #[.val (.int x0), .val (.int x1), .val (.int x2), .val (.long ((x0.toInt64) &&& (2147483647 : Int64))), .second, .val (.long ((x1.toInt64) &&& (2147483647 : Int64))), .second, .val (.long r14), .second, .val (.long r15), .second, .val (.int (x2 &&& (15 : Int32))), .val (.double sc), .second, .val (.double lw), .second, .val (.int (1 : Int32)), .val (.double (9218868437227405312 : UInt64)), .second, .val (.double (9218868437227405312 : UInt64)), .second, .val (.ref b21), .val (.double (FP.dadd lw (FP.ddiv (FP.dsub (9218868437227405312 : UInt64) lw) (4611686018427387904 : UInt64)))), .second, .val (.double (9218868437227405312 : UInt64)), .second] []))
    refine Gl.back (fun _ k => XS.dload X23.here hx rfl (hb hby at_135) rfl k) ?_
    show Gl _ _ _ _ _ _ _ (T23.setTop (mkF m 137 #[.val (.int x0), .val (.int x1), .val (.int x2), .val (.long ((x0.toInt64) &&& (2147483647 : Int64))), .second, .val (.long ((x1.toInt64) &&& (2147483647 : Int64))), .second, .val (.long r14), .second, .val (.long r15), .second, .val (.int (x2 &&& (15 : Int32))), .val (.double sc), .second, .val (.double lw), .second, .val (.int (1 : Int32)), .val (.double (9218868437227405312 : UInt64)), .second, .val (.double (9218868437227405312 : UInt64)), .second, .val (.ref b21), .val (.double (FP.dadd lw (FP.ddiv (FP.dsub (9218868437227405312 : UInt64) lw) (4611686018427387904 : UInt64)))), .second, .val (.double (9218868437227405312 : UInt64)), .second] [(.double (FP.dadd lw (FP.ddiv (FP.dsub (9218868437227405312 : UInt64) lw) (4611686018427387904 : UInt64))))]))
    refine Gl.back (fun _ k => XS.dload X23.here hx rfl (hb hby at_137) rfl k) ?_
    show Gl _ _ _ _ _ _ _ (T23.setTop (mkF m 139 #[.val (.int x0), .val (.int x1), .val (.int x2), .val (.long ((x0.toInt64) &&& (2147483647 : Int64))), .second, .val (.long ((x1.toInt64) &&& (2147483647 : Int64))), .second, .val (.long r14), .second, .val (.long r15), .second, .val (.int (x2 &&& (15 : Int32))), .val (.double sc), .second, .val (.double lw), .second, .val (.int (1 : Int32)), .val (.double (9218868437227405312 : UInt64)), .second, .val (.double (9218868437227405312 : UInt64)), .second, .val (.ref b21), .val (.double (FP.dadd lw (FP.ddiv (FP.dsub (9218868437227405312 : UInt64) lw) (4611686018427387904 : UInt64)))), .second, .val (.double (9218868437227405312 : UInt64)), .second] [(.double (9218868437227405312 : UInt64)), (.double (FP.dadd lw (FP.ddiv (FP.dsub (9218868437227405312 : UInt64) lw) (4611686018427387904 : UInt64))))]))
    refine Gl.back (fun _ k => XS.dcmpS X23.here hx rfl (hb hby at_139) rfl (dcmpV_eq hres hn3 .l) k) ?_
    show Gl _ _ _ _ _ _ _ (T23.setTop (mkF m 140 #[.val (.int x0), .val (.int x1), .val (.int x2), .val (.long ((x0.toInt64) &&& (2147483647 : Int64))), .second, .val (.long ((x1.toInt64) &&& (2147483647 : Int64))), .second, .val (.long r14), .second, .val (.long r15), .second, .val (.int (x2 &&& (15 : Int32))), .val (.double sc), .second, .val (.double lw), .second, .val (.int (1 : Int32)), .val (.double (9218868437227405312 : UInt64)), .second, .val (.double (9218868437227405312 : UInt64)), .second, .val (.ref b21), .val (.double (FP.dadd lw (FP.ddiv (FP.dsub (9218868437227405312 : UInt64) lw) (4611686018427387904 : UInt64)))), .second, .val (.double (9218868437227405312 : UInt64)), .second] [(.int (0 : Int32))]))
    refine Gl.back (fun _ k => XS.ifNo X23.here hx rfl (hb hby at_140) rfl ((if0 _ _).trans (teq (by decide : (0 : Int32) = (0 : Int32))).2) k) ?_
    show Gl _ _ _ _ _ _ _ (T23.setTop (mkF m 143 #[.val (.int x0), .val (.int x1), .val (.int x2), .val (.long ((x0.toInt64) &&& (2147483647 : Int64))), .second, .val (.long ((x1.toInt64) &&& (2147483647 : Int64))), .second, .val (.long r14), .second, .val (.long r15), .second, .val (.int (x2 &&& (15 : Int32))), .val (.double sc), .second, .val (.double lw), .second, .val (.int (1 : Int32)), .val (.double (9218868437227405312 : UInt64)), .second, .val (.double (9218868437227405312 : UInt64)), .second, .val (.ref b21), .val (.double (FP.dadd lw (FP.ddiv (FP.dsub (9218868437227405312 : UInt64) lw) (4611686018427387904 : UInt64)))), .second, .val (.double (9218868437227405312 : UInt64)), .second] []))
    refine Gl.back (fun _ k => XS.iconst X23.here hx rfl (hb hby at_143) k) ?_
    show Gl _ _ _ _ _ _ _ (T23.setTop (mkF m 144 #[.val (.int x0), .val (.int x1), .val (.int x2), .val (.long ((x0.toInt64) &&& (2147483647 : Int64))), .second, .val (.long ((x1.toInt64) &&& (2147483647 : Int64))), .second, .val (.long r14), .second, .val (.long r15), .second, .val (.int (x2 &&& (15 : Int32))), .val (.double sc), .second, .val (.double lw), .second, .val (.int (1 : Int32)), .val (.double (9218868437227405312 : UInt64)), .second, .val (.double (9218868437227405312 : UInt64)), .second, .val (.ref b21), .val (.double (FP.dadd lw (FP.ddiv (FP.dsub (9218868437227405312 : UInt64) lw) (4611686018427387904 : UInt64)))), .second, .val (.double (9218868437227405312 : UInt64)), .second] [(.int (1 : Int32))]))
    refine Gl.back (fun _ k => XS.goto X23.here hx rfl (pc0 := 144) (pc' := 148) rfl (hb hby at_144) (by decide) (by decide) k) ?_
    show Gl _ _ _ _ _ _ _ (T23.setTop (mkF m 148 #[.val (.int x0), .val (.int x1), .val (.int x2), .val (.long ((x0.toInt64) &&& (2147483647 : Int64))), .second, .val (.long ((x1.toInt64) &&& (2147483647 : Int64))), .second, .val (.long r14), .second, .val (.long r15), .second, .val (.int (x2 &&& (15 : Int32))), .val (.double sc), .second, .val (.double lw), .second, .val (.int (1 : Int32)), .val (.double (9218868437227405312 : UInt64)), .second, .val (.double (9218868437227405312 : UInt64)), .second, .val (.ref b21), .val (.double (FP.dadd lw (FP.ddiv (FP.dsub (9218868437227405312 : UInt64) lw) (4611686018427387904 : UInt64)))), .second, .val (.double (9218868437227405312 : UInt64)), .second] [(.int (1 : Int32))]))
    exact Gl.ret X23 eh23 (v := (some (.int (1 : Int32)))) (fun h => by rw [Bd.returns] at h; cases h) Bd.notSynchronized (fun fs hr => retN X23 hx (t := .boolean) (z := (1 : Int32)) Bd.returns (by simp) (hb hby at_148) hr) ⟨N23, rfl⟩ (by decide) (by decide)
set_option maxRecDepth 65536 in
set_option maxHeartbeats 40000000 in
theorem comes_1 {Post : Tables → Env → Array Value → State → Outcome → State → Prop} (hpost : ∀ tb e args s v u, (limb_1_1.after args s (.returned v) u = true ∧ limb_1_2.after args s (.returned v) u = true ∧ True) → FrameEnd s (.returned v) u (Jvm.fieldLocs frame_1_writes args s ++ Jvm.arrayLocs frame_1_arrays args s ++ Jvm.staticLocs frame_1_statics s) 16 128 → Post tb e args s (.returned v) u) :
    ArmFor flags0 classFile x code maxLocals ret World_1 tables_1 room_1 Calls_1 rest_1 Pre_1 Post := by
  intro l hfl _ _ p e ha hc hk s m args below hf hA hF happ hP
  obtain ⟨hcalls, hrest, hpre⟩ := hP
  obtain ⟨-, -, -, hnamed, -, -, -, hat⟩ := (Spec.applies_iff hf).mp happ
  obtain ⟨hg, hn⟩ := and_e (Cond.before_iff.mp (show (Jvm.Cond.and given_1 narrow_1).before args s = true from hpre))
  obtain ⟨gv25, gv26⟩ := and_e hg
  obtain ⟨gv27, gv28⟩ := and_e gv26
  obtain ⟨gv29, gv30⟩ := and_e gv28
  obtain ⟨w0, w1, w2, rfl⟩ : ∃ w0 w1 w2 : Value, args = #[w0, w1, w2] := by
    have hs : args.size = 3 := by simpa [Cond.value, given_1] using gv25
    obtain ⟨L⟩ := args
    match L, hs with
    | [w0, w1, w2], _ => exact ⟨w0, w1, w2, rfl⟩
  have hw := fun d (hd : d ∈ tables_1) => atoms_spec (ws := Jvm.Cond.code x code maxLocals ret :: tables_1) hat d (List.mem_cons_of_mem _ hd)
  have hfit : Fit s := fun {y c} hc i hi => by
    obtain ⟨ha, rfl⟩ := Array.getElem?_eq_some_iff.mp hc
    have q := List.all_eq_true.mp ((Array.all_eq_true_iff_forall_mem.mp hF) _ (Array.getElem_mem ha)) i (List.mem_range.mpr hi)
    simpa [Array.getElem?_eq_getElem hi] using q
  obtain ⟨i0, ei0⟩ := is_v gv27
  obtain rfl : w0 = (.int i0) := Option.some.inj ei0
  obtain ⟨i1, ei1⟩ := is_v gv29
  obtain rfl : w1 = (.int i1) := Option.some.inj ei1
  obtain ⟨i2, ei2⟩ := is_v gv30
  obtain rfl : w2 = (.int i2) := Option.some.inj ei2
  obtain ⟨n, o, h1, h2, h3, _, L, rfl, ⟨N, rfl⟩, hq⟩ := rm0 l s _ hw tables_1 i0 i1 i2  s.heap s.heap.size (Nat.le_refl _)  p e ha hc hk s m _ below hf ((Spec.applies_iff_loose hf).mp happ).1 ⟨rfl, State.Warmed39.refl s, rfl⟩ trivial
  refine ⟨n, _, h1, h2, h3, hpost _ _ _ _ _ _ ⟨Cond.after_iff.mpr rfl, Cond.after_iff.mpr (eq_i res_at (Term.int_eval (1)) rfl), trivial⟩ ⟨hq.1, hq.2.1, (hq.2.2.sift fun y hy => Or.inr (N y hy)).mono (by decide) (by decide)⟩⟩
theorem main_1_1 : Claimed_1_1 := comes_1 fun _ _ _ _ _ _ h hF => ⟨h.1, hF⟩
theorem main_1_2 : Claimed_1_2 := comes_1 fun _ _ _ _ _ _ h hF => ⟨h.2.1, hF⟩
end Jvm.Pilot.@@N@@
namespace Jvm.Pilot.@@N@@
open Jvm Jvm.ClassFile Sem Op Lib Jvm.Free Jvm.Stand Jvm.Pilot.@@N@@.Jvm.D
/-! MADE BY PROGRAM (witnessworld.py) out of the Statement's table words and the real class files: 15 classes; the members and pool entries that the words name. The judged class is class 1, her method 1. -/
namespace start1
open Jvm.ClassFile
def u (s : String) : CpInfo := .utf8 (stringToUtf16 s)
/-- a pool by its gaps: so many unusable entries, then the entry; so many at the end -/
def gap : Nat → List CpInfo → List CpInfo
  | 0, r => r
  | n + 1, r => .unusable :: gap n r
def poolList (es : List (Nat × CpInfo)) (last : Nat) : List CpInfo := es.foldr (fun e r => gap e.1 (e.2 :: r)) (gap last [])
def pool (es : List (Nat × CpInfo)) (last : Nat) : Array CpInfo := ⟨poolList es last⟩
def fileOf (pool : Array CpInfo) (this : Nat) (attrs : Array Attribute := #[]) (ms : Array MethodInfo := #[]) (fl : Nat := 33) (sup : Nat := 0) (ifs : Array Nat := #[]) (fds : Array FieldInfo := #[]) : ClassFile where
  minorVersion := 0
  majorVersion := 65
  constantPool := pool
  accessFlags := fl
  thisClass := this
  superClass := sup
  interfaces := ifs
  fields := fds
  methods := ms
  attributes := attrs
def plain (name : String) (sup : Option ClassId) : Class where
  name := name
  kind := .ordinary
  loader := none
  accessFlags := 33
  super := sup
  interfaces := #[]
  cf := none
  fields := #[]
  methods := #[]
  instanceTypes := #[]
  staticTypes := #[]
  resolved := #[]
  callSites := []
  init := .initialized
  statics := none
  mirror := none

def pool0 : Array CpInfo := pool [(5, u "<init>"), (0, u "()V"), (1, .class_ 10), (1, u "java/lang/Object")] 113

def k0c0 : Code := { maxStack := 0, maxLocals := 1, code := object_method_1_code, exceptionTable := #[], attributes := #[] }
def k0m0 : Method := { name := "<init>", desc := "()V", sig := { parameters := [], returnType := none }, accessFlags := 1, code := some k0c0 }
/-- java/lang/Object -/
def k0 : Class := { plain "java/lang/Object" none with
  accessFlags := 33
  interfaces := #[]
  cf := some (fileOf pool0 8 #[] #[{ accessFlags := 1, nameIndex := 5, descriptorIndex := 6, attributes := #[] }] 33 0 #[] #[])
  fields := #[]
  methods := #[k0m0]
  instanceTypes := #[]
  staticTypes := #[]
  resolved := Array.replicate 124 none
  statics := none }

def pool1 : Array CpInfo := pool [(2, .class_ 4), (1, u "java/lang/Object"), (0, u "<init>"), (0, u "()V"), (0, .long 2147483647), (1, .methodref 10 11), (0, .class_ 12), (0, .nameAndType 13 14), (0, u "java/lang/Math"), (0, u "min"), (0, u "(JJ)J"), (0, .methodref 10 16), (0, .nameAndType 17 14), (0, u "max"), (0, .double 9218868437227405312), (1, .class_ 21), (0, u "com/example/uncovert/uncovert/analysis/capacity/CapacityBounds"), (0, .methodref 20 23), (0, .nameAndType 5 24), (0, u "(DD)V"), (0, .methodref 20 26), (0, .nameAndType 27 28), (0, u "getMidpoint"), (0, u "()D"), (0, .double 4611686018427387904), (1, .class_ 32), (0, u "com/example/uncovert/uncovert/analysis/capacity/CapacityBoundsGetMidpointPinLaw"), (2, u "law"), (0, u "(III)Z")] 3

def k1m0 : Method := { name := "<init>", desc := "()V", sig := { parameters := [], returnType := none }, accessFlags := 1, code := none }
def k1c1 : Code := { maxStack := 6, maxLocals := 26, code := code, exceptionTable := #[], attributes := #[] }
def k1m1 : Method := { name := "law", desc := "(III)Z", sig := { parameters := [.int, .int, .int], returnType := some .boolean }, accessFlags := 9, code := some k1c1 }
/-- com/example/uncovert/uncovert/analysis/capacity/CapacityBoundsGetMidpointPinLaw -/
def k1 : Class := { plain "com/example/uncovert/uncovert/analysis/capacity/CapacityBoundsGetMidpointPinLaw" (some 0) with
  accessFlags := 49
  interfaces := #[]
  cf := some (fileOf pool1 31 #[] #[{ accessFlags := 1, nameIndex := 5, descriptorIndex := 6, attributes := #[] }, { accessFlags := 9, nameIndex := 35, descriptorIndex := 36, attributes := #[] }] 49 2 #[] #[])
  fields := #[]
  methods := #[k1m0, k1m1]
  instanceTypes := #[]
  staticTypes := #[]
  resolved := Array.replicate 40 none
  statics := none }

def pool2 : Array CpInfo := pool [(1, .class_ 2), (0, u "java/lang/Math"), (1, .class_ 6), (1, u "java/lang/Object"), (0, u "<init>"), (0, u "()V"), (5, u "(D)D"), (83, .class_ 100), (1, u "java/lang/Math$RandomNumberGeneratorHolder"), (20, u "(JJ)J"), (2, u "abs"), (47, u "negativeZeroFloatBits"), (0, u "J"), (2, u "negativeZeroDoubleBits"), (21, u "max"), (2, u "min"), (43, u "$assertionsDisabled"), (0, u "Z"), (91, u "twoToTheDoubleScaleDown"), (0, u "D"), (4, u "twoToTheDoubleScaleUp"), (9, u "E"), (3, u "PI"), (2, u "TAU"), (2, u "DEGREES_TO_RADIANS"), (0, u "RADIANS_TO_DEGREES")] 94

def k2m0 : Method := { name := "<init>", desc := "()V", sig := { parameters := [], returnType := none }, accessFlags := 2, code := none }
def k2c1 : Code := { maxStack := 4, maxLocals := 2, code := jdk_29_method_64_code, exceptionTable := #[], attributes := #[] }
def k2m1 : Method := { name := "abs", desc := "(D)D", sig := { parameters := [.double], returnType := some .double }, accessFlags := 9, code := some k2c1 }
def k2c2 : Code := { maxStack := 4, maxLocals := 4, code := jdk_29_method_66_code, exceptionTable := #[], attributes := #[] }
def k2m2 : Method := { name := "max", desc := "(JJ)J", sig := { parameters := [.long, .long], returnType := some .long }, accessFlags := 9, code := some k2c2 }
def k2c3 : Code := { maxStack := 4, maxLocals := 4, code := jdk_29_method_70_code, exceptionTable := #[], attributes := #[] }
def k2m3 : Method := { name := "min", desc := "(JJ)J", sig := { parameters := [.long, .long], returnType := some .long }, accessFlags := 9, code := some k2c3 }
/-- java/lang/Math -/
def k2 : Class := { plain "java/lang/Math" (some 0) with
  accessFlags := 49
  interfaces := #[]
  cf := some (fileOf pool2 1 #[.nestMembers #[98]] #[{ accessFlags := 2, nameIndex := 7, descriptorIndex := 8, attributes := #[] }, { accessFlags := 9, nameIndex := 124, descriptorIndex := 14, attributes := #[] }, { accessFlags := 9, nameIndex := 198, descriptorIndex := 121, attributes := #[] }, { accessFlags := 9, nameIndex := 201, descriptorIndex := 121, attributes := #[] }] 49 4 #[] #[{ accessFlags := 25, nameIndex := 354, descriptorIndex := 339, attributes := #[] }, { accessFlags := 25, nameIndex := 358, descriptorIndex := 339, attributes := #[] }, { accessFlags := 25, nameIndex := 361, descriptorIndex := 339, attributes := #[] }, { accessFlags := 26, nameIndex := 364, descriptorIndex := 339, attributes := #[] }, { accessFlags := 26, nameIndex := 365, descriptorIndex := 339, attributes := #[] }, { accessFlags := 26, nameIndex := 172, descriptorIndex := 173, attributes := #[] }, { accessFlags := 26, nameIndex := 176, descriptorIndex := 173, attributes := #[] }, { accessFlags := 8, nameIndex := 344, descriptorIndex := 339, attributes := #[] }, { accessFlags := 8, nameIndex := 338, descriptorIndex := 339, attributes := #[] }, { accessFlags := 4120, nameIndex := 245, descriptorIndex := 246, attributes := #[] }])
  fields := #[{ name := "E", type := .double, accessFlags := 25, slot := 0, constantValue := 0 }, { name := "PI", type := .double, accessFlags := 25, slot := 1, constantValue := 0 }, { name := "TAU", type := .double, accessFlags := 25, slot := 2, constantValue := 0 }, { name := "DEGREES_TO_RADIANS", type := .double, accessFlags := 26, slot := 3, constantValue := 0 }, { name := "RADIANS_TO_DEGREES", type := .double, accessFlags := 26, slot := 4, constantValue := 0 }, { name := "negativeZeroFloatBits", type := .long, accessFlags := 26, slot := 5, constantValue := 0 }, { name := "negativeZeroDoubleBits", type := .long, accessFlags := 26, slot := 6, constantValue := 0 }, { name := "twoToTheDoubleScaleUp", type := .double, accessFlags := 8, slot := 7, constantValue := 0 }, { name := "twoToTheDoubleScaleDown", type := .double, accessFlags := 8, slot := 8, constantValue := 0 }, { name := "$assertionsDisabled", type := .boolean, accessFlags := 4120, slot := 9, constantValue := 0 }]
  methods := #[k2m0, k2m1, k2m2, k2m3]
  instanceTypes := #[]
  staticTypes := #[.double, .double, .double, .double, .double, .long, .long, .double, .double, .boolean]
  resolved := Array.replicate 460 none
  statics := none }

def pool3 : Array CpInfo := pool [(1, .methodref 2 3), (0, .class_ 4), (0, .nameAndType 5 6), (0, u "java/lang/Object"), (0, u "<init>"), (0, u "()V"), (0, .methodref 8 9), (0, .class_ 10), (0, .nameAndType 11 12), (0, u "java/lang/Double"), (0, u "isFinite"), (0, u "(D)Z"), (9, .fieldref 23 24), (0, .class_ 25), (0, .nameAndType 26 27), (0, u "com/example/uncovert/uncovert/analysis/capacity/CapacityBounds"), (0, u "lower"), (0, u "D"), (0, .fieldref 23 29), (0, .nameAndType 30 27), (0, u "upper"), (0, .double 4611686018427387904), (1, u "(DD)V"), (4, u "()D"), (1, u "getMidpoint")] 17

def k3c0 : Code := { maxStack := 6, maxLocals := 5, code := prog_1_method_1_code, exceptionTable := #[], attributes := #[] }
def k3m0 : Method := { name := "<init>", desc := "(DD)V", sig := { parameters := [.double, .double], returnType := none }, accessFlags := 1, code := some k3c0 }
def k3c1 : Code := { maxStack := 6, maxLocals := 1, code := prog_1_method_4_code, exceptionTable := #[], attributes := #[] }
def k3m1 : Method := { name := "getMidpoint", desc := "()D", sig := { parameters := [], returnType := some .double }, accessFlags := 1, code := some k3c1 }
/-- com/example/uncovert/uncovert/analysis/capacity/CapacityBounds -/
def k3 : Class := { plain "com/example/uncovert/uncovert/analysis/capacity/CapacityBounds" (some 0) with
  accessFlags := 33
  interfaces := #[]
  cf := some (fileOf pool3 23 #[] #[{ accessFlags := 1, nameIndex := 5, descriptorIndex := 33, attributes := #[] }, { accessFlags := 1, nameIndex := 40, descriptorIndex := 38, attributes := #[] }] 33 2 #[] #[{ accessFlags := 18, nameIndex := 26, descriptorIndex := 27, attributes := #[] }, { accessFlags := 18, nameIndex := 30, descriptorIndex := 27, attributes := #[] }])
  fields := #[{ name := "lower", type := .double, accessFlags := 18, slot := 0, constantValue := 0 }, { name := "upper", type := .double, accessFlags := 18, slot := 1, constantValue := 0 }]
  methods := #[k3m0, k3m1]
  instanceTypes := #[.double, .double]
  staticTypes := #[]
  resolved := Array.replicate 58 none
  statics := none }

def pool4 : Array CpInfo := pool [(1, .class_ 2), (0, u "java/io/Serializable"), (0, .class_ 4), (0, u "java/lang/Object")] 2

/-- java/io/Serializable -/
def k4 : Class := { plain "java/io/Serializable" (some 0) with
  accessFlags := 1537
  interfaces := #[]
  cf := some (fileOf pool4 1 #[] #[] 1537 3 #[] #[])
  fields := #[]
  methods := #[]
  instanceTypes := #[]
  staticTypes := #[]
  resolved := Array.replicate 7 none
  statics := none }

def pool5 : Array CpInfo := pool [(2, .class_ 4), (1, u "java/lang/Object"), (0, u "<init>"), (0, u "()V"), (1, .class_ 10), (1, u "java/lang/Number"), (2, .class_ 14), (0, u "java/io/Serializable"), (0, u "serialVersionUID"), (0, u "J")] 20

def k5m0 : Method := { name := "<init>", desc := "()V", sig := { parameters := [], returnType := none }, accessFlags := 1, code := none }
/-- java/lang/Number -/
def k5 : Class := { plain "java/lang/Number" (some 0) with
  accessFlags := 1057
  interfaces := #[4]
  cf := some (fileOf pool5 8 #[] #[{ accessFlags := 1, nameIndex := 5, descriptorIndex := 6, attributes := #[] }] 1057 2 #[13] #[{ accessFlags := 26, nameIndex := 15, descriptorIndex := 16, attributes := #[] }])
  fields := #[{ name := "serialVersionUID", type := .long, accessFlags := 26, slot := 0, constantValue := 0 }]
  methods := #[k5m0]
  instanceTypes := #[]
  staticTypes := #[.long]
  resolved := Array.replicate 37 none
  statics := none }

def pool6 : Array CpInfo := pool [(1, .class_ 2), (0, u "java/lang/Comparable"), (0, .class_ 4), (0, u "java/lang/Object")] 7

/-- java/lang/Comparable -/
def k6 : Class := { plain "java/lang/Comparable" (some 0) with
  accessFlags := 1537
  interfaces := #[]
  cf := some (fileOf pool6 1 #[] #[] 1537 3 #[] #[])
  fields := #[]
  methods := #[]
  instanceTypes := #[]
  staticTypes := #[]
  resolved := Array.replicate 12 none
  statics := none }

def pool7 : Array CpInfo := pool [(1, .class_ 2), (0, u "java/lang/constant/Constable"), (0, .class_ 4), (0, u "java/lang/Object")] 6

/-- java/lang/constant/Constable -/
def k7 : Class := { plain "java/lang/constant/Constable" (some 0) with
  accessFlags := 1537
  interfaces := #[]
  cf := some (fileOf pool7 1 #[] #[] 1537 3 #[] #[])
  fields := #[]
  methods := #[]
  instanceTypes := #[]
  staticTypes := #[]
  resolved := Array.replicate 11 none
  statics := none }

def pool8 : Array CpInfo := pool [(1, .class_ 2), (0, u "java/lang/constant/ConstantDesc"), (0, .class_ 4), (0, u "java/lang/Object")] 32

/-- java/lang/constant/ConstantDesc -/
def k8 : Class := { plain "java/lang/constant/ConstantDesc" (some 0) with
  accessFlags := 1537
  interfaces := #[]
  cf := some (fileOf pool8 1 #[] #[] 1537 3 #[] #[])
  fields := #[]
  methods := #[]
  instanceTypes := #[]
  staticTypes := #[]
  resolved := Array.replicate 37 none
  statics := none }

def pool9 : Array CpInfo := pool [(1, .class_ 2), (0, u "java/lang/Double"), (10, u "isFinite"), (0, u "(D)Z"), (8, .class_ 25), (1, u "java/lang/Math"), (12, .methodref 23 39), (0, .nameAndType 40 41), (0, u "abs"), (0, u "(D)D"), (69, .double 9218868437227405311), (2, .class_ 116), (1, u "java/lang/Number"), (3, u "value"), (0, u "D"), (51, u "TYPE"), (0, u "Ljava/lang/Class;"), (0, .class_ 176), (0, u "java/lang/Comparable"), (0, .class_ 178), (0, u "java/lang/constant/Constable"), (0, .class_ 180), (0, u "java/lang/constant/ConstantDesc"), (0, u "POSITIVE_INFINITY"), (3, u "NEGATIVE_INFINITY"), (2, u "NaN"), (2, u "MAX_VALUE"), (0, u "MIN_NORMAL"), (0, u "MIN_VALUE"), (2, u "SIZE"), (0, u "I"), (1, u "PRECISION"), (1, u "MAX_EXPONENT"), (1, u "MIN_EXPONENT"), (1, u "BYTES"), (3, u "serialVersionUID"), (0, u "J")] 79

def k9c0 : Code := { maxStack := 4, maxLocals := 2, code := jdk_117_method_8_code, exceptionTable := #[], attributes := #[] }
def k9m0 : Method := { name := "isFinite", desc := "(D)Z", sig := { parameters := [.double], returnType := some .boolean }, accessFlags := 9, code := some k9c0 }
/-- java/lang/Double -/
def k9 : Class := { plain "java/lang/Double" (some 5) with
  accessFlags := 49
  interfaces := #[6, 7, 8]
  cf := some (fileOf pool9 1 #[] #[{ accessFlags := 9, nameIndex := 13, descriptorIndex := 14, attributes := #[] }] 49 114 #[175, 177, 179] #[{ accessFlags := 25, nameIndex := 181, descriptorIndex := 121, attributes := #[] }, { accessFlags := 25, nameIndex := 185, descriptorIndex := 121, attributes := #[] }, { accessFlags := 25, nameIndex := 188, descriptorIndex := 121, attributes := #[] }, { accessFlags := 25, nameIndex := 191, descriptorIndex := 121, attributes := #[] }, { accessFlags := 25, nameIndex := 192, descriptorIndex := 121, attributes := #[] }, { accessFlags := 25, nameIndex := 193, descriptorIndex := 121, attributes := #[] }, { accessFlags := 25, nameIndex := 196, descriptorIndex := 197, attributes := #[] }, { accessFlags := 25, nameIndex := 199, descriptorIndex := 197, attributes := #[] }, { accessFlags := 25, nameIndex := 201, descriptorIndex := 197, attributes := #[] }, { accessFlags := 25, nameIndex := 203, descriptorIndex := 197, attributes := #[] }, { accessFlags := 25, nameIndex := 205, descriptorIndex := 197, attributes := #[] }, { accessFlags := 25, nameIndex := 173, descriptorIndex := 174, attributes := #[] }, { accessFlags := 18, nameIndex := 120, descriptorIndex := 121, attributes := #[] }, { accessFlags := 26, nameIndex := 209, descriptorIndex := 210, attributes := #[] }])
  fields := #[{ name := "POSITIVE_INFINITY", type := .double, accessFlags := 25, slot := 0, constantValue := 0 }, { name := "NEGATIVE_INFINITY", type := .double, accessFlags := 25, slot := 1, constantValue := 0 }, { name := "NaN", type := .double, accessFlags := 25, slot := 2, constantValue := 0 }, { name := "MAX_VALUE", type := .double, accessFlags := 25, slot := 3, constantValue := 0 }, { name := "MIN_NORMAL", type := .double, accessFlags := 25, slot := 4, constantValue := 0 }, { name := "MIN_VALUE", type := .double, accessFlags := 25, slot := 5, constantValue := 0 }, { name := "SIZE", type := .int, accessFlags := 25, slot := 6, constantValue := 0 }, { name := "PRECISION", type := .int, accessFlags := 25, slot := 7, constantValue := 0 }, { name := "MAX_EXPONENT", type := .int, accessFlags := 25, slot := 8, constantValue := 0 }, { name := "MIN_EXPONENT", type := .int, accessFlags := 25, slot := 9, constantValue := 0 }, { name := "BYTES", type := .int, accessFlags := 25, slot := 10, constantValue := 0 }, { name := "TYPE", type := (.object "java/lang/Class"), accessFlags := 25, slot := 11, constantValue := 0 }, { name := "value", type := .double, accessFlags := 18, slot := 0, constantValue := 0 }, { name := "serialVersionUID", type := .long, accessFlags := 26, slot := 12, constantValue := 0 }]
  methods := #[k9m0]
  instanceTypes := #[.double]
  staticTypes := #[.double, .double, .double, .double, .double, .double, .int, .int, .int, .int, .int, (.object "java/lang/Class"), .long]
  resolved := Array.replicate 290 none
  statics := none }

def pool10 : Array CpInfo := pool [(1, u "java/lang/Cloneable"), (0, .class_ 1), (0, u "java/lang/Object"), (0, .class_ 3)] 3

/-- java/lang/Cloneable -/
def k10 : Class := { plain "java/lang/Cloneable" (some 0) with
  accessFlags := 1537
  interfaces := #[]
  cf := some (fileOf pool10 2 #[] #[] 1537 4 #[] #[])
  fields := #[]
  methods := #[]
  instanceTypes := #[]
  staticTypes := #[]
  resolved := Array.replicate 8 none
  statics := none }

/-- the primitive byte -/
def k11 : Class := { plain "byte" none with kind := .primitive 'B', accessFlags := 0x411 }
/-- [B -/
def k12 : Class := { plain "[B" (some 0) with kind := .array 11 .byte, interfaces := #[10, 4], accessFlags := 1041 }

/-- the primitive int -/
def k13 : Class := { plain "int" none with kind := .primitive 'I', accessFlags := 0x411 }
/-- [I -/
def k14 : Class := { plain "[I" (some 0) with kind := .array 13 .int, interfaces := #[10, 4], accessFlags := 1041 }

def heap : Heap := #[]
def classes : Array Class := #[k0, k1, k2, k3, k4, k5, k6, k7, k8, k9, k10, k11, k12, k13, k14]
def interned : List (Array UInt16 × Addr) := []
def slotsUsed : Nat := 0
def theMethod : MethodId := ⟨1, 1⟩
def args0 : Array Value := #[.int 3, .int 8, .int 3]
def aboutOver (below : List Frame) : State where
  vm := { classes := classes, interned := interned.toArray }
  heap := heap
  slotsUsed := slotsUsed
  threads := #[{ frames := .invoking theMethod args0 :: below }]
def below0 : List Frame := [.native { method := ⟨0, 0⟩, args := #[] }]
def about1 : State := aboutOver below0
def p0 : Program := .bare "" "" ""
def e0 : Env := launch0.env 0 0 0
theorem w_frames : about1.frames = Frame.invoking theMethod args0 :: below0 := rfl
set_option maxRecDepth 65536 in
theorem w_args : argsFit about1.vm theMethod args0 = true := by decide +kernel
set_option maxRecDepth 65536 in
theorem w_heap : heapFits about1 = true := by decide +kernel
set_option maxRecDepth 65536 in
theorem w_runnable : about1.curStatus? = some .runnable := by decide +kernel
set_option maxRecDepth 65536 in
theorem w_alone : about1.alone = true := by decide +kernel
set_option maxRecDepth 65536 in
theorem w_named : about1.methodNamed? x = some theMethod := by decide +kernel
set_option maxRecDepth 65536 in
theorem w_hears : about1.hears theMethod below0 = true := by decide +kernel
set_option maxRecDepth 65536 in
theorem w_ripe : about1.ripe theMethod args0 below0 = true := by decide +kernel
theorem w_running : about1.status = .running := rfl
set_option maxRecDepth 65536 in
theorem w_room : about1.hasRoom e0.platform room_1 = true :=
  launch0.hasRoom_least _ room_1 (by decide +kernel) (by decide +kernel) (by decide +kernel) (by decide +kernel) (by decide +kernel) (by decide +kernel)
theorem allAtoms_all (ts : List Jvm.Cond) (a : Array Jvm.Value) (st : Jvm.State) : (allAtoms ts).before a st = ts.all (fun c => c.before a st) := by
  induction ts with
  | nil => rfl
  | cons c t ih =>
    show (Jvm.Cond.and c (allAtoms t)).before a st = _
    rw [Jvm.Cond.before_and, ih, List.all_cons]
def words1 : List Jvm.Cond := Jvm.Cond.code x code maxLocals ret :: tables_1
/-- a 'code' word, met by the world's own term for the bytes: nothing is compared byte by byte -/
theorem code_word {y : MethodName} {bytes : ByteArray} {mx : Nat} {rt : Option FieldType} {a : Array Value} {s : State} {m : MethodId} {meth : Method} {c : Code} (h1 : s.methodNamed? y = some m) (h2 : s.vm.method? m = some meth) (h3 : meth.code = some c) (h4 : c.code = bytes)
    (h5 : (c.maxLocals == mx && c.exceptionTable.isEmpty && decide (c.maxStack ≤ mostOperands) && decide (meth.sig.returnType = rt) && !meth.locks && decide (parseMethodDescriptor y.desc = some meth.sig)) = true) : (Jvm.Cond.code y bytes mx rt).before a s = true := by
  simp only [Bool.and_eq_true, beq_iff_eq, Bool.not_eq_true', decide_eq_true_eq] at h5
  obtain ⟨⟨⟨⟨⟨g1, g2⟩, g3⟩, g4⟩, g5⟩, g6⟩ := h5
  simp [Cond.before, Cond.holds, Cond.value, h1, h2, h3, h4, g1, g2, g3, g4, g5, g6]
def isCode : Jvm.Cond → Bool
  | .code _ _ _ _ => true
  | _ => false
theorem all_split {L : List Jvm.Cond} {P : Jvm.Cond → Bool} (h1 : L.all (fun c => isCode c || P c) = true) (h2 : ∀ c ∈ L.filter isCode, P c = true) : L.all P = true := by
  refine List.all_eq_true.mpr fun c hc => ?_
  have h := List.all_eq_true.mp h1 c hc
  rcases Bool.eq_false_or_eq_true (isCode c) with hi | hi
  · exact h2 c (List.mem_filter.mpr ⟨hc, hi⟩)
  · simpa [hi] using h
set_option maxRecDepth 65536 in
theorem w_c0 : (Jvm.Cond.code x code maxLocals ret).before args0 about1 = true := code_word (m := ⟨1, 1⟩) (meth := k1m1) (c := k1c1) (by decide +kernel) rfl rfl rfl (by decide +kernel)
set_option maxRecDepth 65536 in
theorem w_c1 : (Jvm.Cond.code ({ cls := "java/lang/Math", name := "min", desc := "(JJ)J" } : Jvm.MethodName) jdk_29_method_70_code (4 : Nat) (Option.some Jvm.ClassFile.FieldType.long)).before args0 about1 = true := code_word (m := ⟨2, 3⟩) (meth := k2m3) (c := k2c3) (by decide +kernel) rfl rfl rfl (by decide +kernel)
set_option maxRecDepth 65536 in
theorem w_c2 : (Jvm.Cond.code ({ cls := "java/lang/Math", name := "max", desc := "(JJ)J" } : Jvm.MethodName) jdk_29_method_66_code (4 : Nat) (Option.some Jvm.ClassFile.FieldType.long)).before args0 about1 = true := code_word (m := ⟨2, 2⟩) (meth := k2m2) (c := k2c2) (by decide +kernel) rfl rfl rfl (by decide +kernel)
set_option maxRecDepth 65536 in
theorem w_c3 : (Jvm.Cond.code ({ cls := "com/example/uncovert/uncovert/analysis/capacity/CapacityBounds", name := "<init>", desc := "(DD)V" } : Jvm.MethodName) prog_1_method_1_code (5 : Nat) (Option.none : Option Jvm.ClassFile.FieldType)).before args0 about1 = true := code_word (m := ⟨3, 0⟩) (meth := k3m0) (c := k3c0) (by decide +kernel) rfl rfl rfl (by decide +kernel)
set_option maxRecDepth 65536 in
theorem w_c4 : (Jvm.Cond.code ({ cls := "java/lang/Object", name := "<init>", desc := "()V" } : Jvm.MethodName) object_method_1_code (1 : Nat) (Option.none : Option Jvm.ClassFile.FieldType)).before args0 about1 = true := code_word (m := ⟨0, 0⟩) (meth := k0m0) (c := k0c0) (by decide +kernel) rfl rfl rfl (by decide +kernel)
set_option maxRecDepth 65536 in
theorem w_c5 : (Jvm.Cond.code ({ cls := "java/lang/Double", name := "isFinite", desc := "(D)Z" } : Jvm.MethodName) jdk_117_method_8_code (2 : Nat) (Option.some Jvm.ClassFile.FieldType.boolean)).before args0 about1 = true := code_word (m := ⟨9, 0⟩) (meth := k9m0) (c := k9c0) (by decide +kernel) rfl rfl rfl (by decide +kernel)
set_option maxRecDepth 65536 in
theorem w_c6 : (Jvm.Cond.code ({ cls := "java/lang/Math", name := "abs", desc := "(D)D" } : Jvm.MethodName) jdk_29_method_64_code (2 : Nat) (Option.some Jvm.ClassFile.FieldType.double)).before args0 about1 = true := code_word (m := ⟨2, 1⟩) (meth := k2m1) (c := k2c1) (by decide +kernel) rfl rfl rfl (by decide +kernel)
set_option maxRecDepth 65536 in
theorem w_c7 : (Jvm.Cond.code ({ cls := "com/example/uncovert/uncovert/analysis/capacity/CapacityBounds", name := "getMidpoint", desc := "()D" } : Jvm.MethodName) prog_1_method_4_code (1 : Nat) (Option.some Jvm.ClassFile.FieldType.double)).before args0 about1 = true := code_word (m := ⟨3, 1⟩) (meth := k3m1) (c := k3c1) (by decide +kernel) rfl rfl rfl (by decide +kernel)
def codes1 : List Jvm.Cond := [Jvm.Cond.code x code maxLocals ret, Jvm.Cond.code ({ cls := "java/lang/Math", name := "min", desc := "(JJ)J" } : Jvm.MethodName) jdk_29_method_70_code (4 : Nat) (Option.some Jvm.ClassFile.FieldType.long), Jvm.Cond.code ({ cls := "java/lang/Math", name := "max", desc := "(JJ)J" } : Jvm.MethodName) jdk_29_method_66_code (4 : Nat) (Option.some Jvm.ClassFile.FieldType.long), Jvm.Cond.code ({ cls := "com/example/uncovert/uncovert/analysis/capacity/CapacityBounds", name := "<init>", desc := "(DD)V" } : Jvm.MethodName) prog_1_method_1_code (5 : Nat) (Option.none : Option Jvm.ClassFile.FieldType), Jvm.Cond.code ({ cls := "java/lang/Object", name := "<init>", desc := "()V" } : Jvm.MethodName) object_method_1_code (1 : Nat) (Option.none : Option Jvm.ClassFile.FieldType), Jvm.Cond.code ({ cls := "java/lang/Double", name := "isFinite", desc := "(D)Z" } : Jvm.MethodName) jdk_117_method_8_code (2 : Nat) (Option.some Jvm.ClassFile.FieldType.boolean), Jvm.Cond.code ({ cls := "java/lang/Math", name := "abs", desc := "(D)D" } : Jvm.MethodName) jdk_29_method_64_code (2 : Nat) (Option.some Jvm.ClassFile.FieldType.double), Jvm.Cond.code ({ cls := "com/example/uncovert/uncovert/analysis/capacity/CapacityBounds", name := "getMidpoint", desc := "()D" } : Jvm.MethodName) prog_1_method_4_code (1 : Nat) (Option.some Jvm.ClassFile.FieldType.double)]
set_option maxRecDepth 65536 in
theorem codes_eq : words1.filter isCode = codes1 := rfl
theorem w_codes : ∀ c ∈ words1.filter isCode, c.before args0 about1 = true := by
  rw [codes_eq]
  intro c hc
  simp only [codes1, List.mem_cons, List.not_mem_nil, or_false] at hc
  rcases hc with rfl | rfl | rfl | rfl | rfl | rfl | rfl | rfl
  · exact w_c0
  · exact w_c1
  · exact w_c2
  · exact w_c3
  · exact w_c4
  · exact w_c5
  · exact w_c6
  · exact w_c7
set_option maxRecDepth 65536 in
theorem w_t1 : (words1.take 24).all (fun c => isCode c || c.before args0 about1) = true := by decide +kernel
set_option maxRecDepth 65536 in
theorem w_t2 : (words1.drop 24).all (fun c => isCode c || c.before args0 about1) = true := by decide +kernel
theorem w_tables : (allAtoms (Jvm.Cond.code x code maxLocals ret :: tables_1)).before args0 about1 = true := by
  rw [allAtoms_all]
  show words1.all (fun c => c.before args0 about1) = true
  refine all_split ?_ w_codes
  rw [← List.take_append_drop 24 words1, List.all_append, w_t1, w_t2]
  rfl
set_option maxRecDepth 65536 in
theorem w_case : (Jvm.Cond.and given_1 narrow_1).before args0 about1 = true := by decide +kernel
theorem w_applies : (headSpec (Jvm.Cond.code x code maxLocals ret :: tables_1) room_1).applies x e0.platform about1 = true :=
  (Spec.applies_iff w_frames).mpr ⟨w_running, w_runnable, w_alone, w_named, w_hears, w_ripe, w_room, w_tables⟩
theorem atStart : AtStart classFile x code maxLocals ret World_1 tables_1 room_1 Calls_1 rest_1 Pre_1 launch0 p0 e0 about1 theMethod args0 below0 :=
  ⟨lists_1, trivial, launch0.admits_env _ _ _, launch0.least_env, fairChoices_fair.cas, fairChoices_fair.clock, w_frames, w_args, w_heap, w_applies, trivial, trivial, w_case⟩
end start1
theorem witness_1 : WitnessClaimed_1 := ⟨start1.p0, start1.e0, start1.about1, start1.theMethod, start1.args0, start1.below0, start1.atStart⟩
end Jvm.Pilot.@@N@@
