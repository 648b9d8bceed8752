import JvmDerived
import JvmDerived.Pilot.@@N@@Statement
import JvmDerived.Pilot.@@N@@Code
set_option linter.unusedVariables false
set_option linter.unusedSimpArgs false
@@BLOCK:NumsL.lean.txt@@
namespace Jvm.Pilot.@@N@@
open Jvm Jvm.ClassFile Sem Op Lib Jvm.Free Jvm.Stand Jvm.LawKit Jvm.RoadKit Bundle Jvm.Pilot.@@N@@.Jvm.D
/-! the goal of a body's walk, closed under steps that lead to where it holds -/
def Gl (p : Program) (e : Env) (below : List Frame) (s : State) (Q : Option Value → Heap → List Loc → Prop) (k n : Nat) (S0 : State) : Prop :=
  ∃ s₂ o, Steps p.tables e below S0 s₂ ∧ s₂.status = .running ∧ Ended s₂ below o ∧ ∃ v L, o = .returned v ∧ Q v s₂.heap L ∧ FrameEnd s o s₂ L k n
theorem Gl.back {p : Program} {e : Env} {below : List Frame} {s : State} {Q : Option Value → Heap → List Loc → Prop} {k n : Nat} {S0 S1 : State} (h : ∀ t, Steps p.tables e below S1 t → Steps p.tables e below S0 t) (g : Gl p e below s Q k n S1) : Gl p e below s Q k n S0 := by
  obtain ⟨s₂, o, h1, r⟩ := g; exact ⟨s₂, o, h _ h1, r⟩
theorem Gl.ret {p : Program} {l : Launch} {e : Env} {R : Room} {s : State} {m : MethodId} {args : Array Value} {below : List Frame} {meth : Method} {c : Code} {T : State} {locs : List Loc} {cells slots : Nat} (X : Stand p l e R s m args below meth c T locs cells slots) {h : Heap} (eT : T.heap = h)
    {v : Option Value} (hv : meth.sig.returnType = none → v = none) (hlocks : meth.locks = false) {S0 : State} (st : ∀ fs, (∀ (f : JFrame) (acts : List Action), f.method = m → f.locked = none → f.entered = [] → (doReturn e (T.setTop f) acts v).1 = T.setFrames fs) → Steps p.tables e below S0 (T.setFrames fs))
    {Q : Option Value → Heap → List Loc → Prop} {k n : Nat} (hQ : Q v h locs) (hk : cells ≤ k) (hn : slots ≤ n) : Gl p e below s Q k n S0 := by
  obtain ⟨fs, hr, hrun, hended, hW, hsame⟩ := X.leave (v := v) hv hlocks
  exact ⟨_, _, st fs hr, hrun, hended, v, locs, rfl, eT ▸ hQ, ⟨_, rfl⟩, hW, hsame.mono hk hn⟩
def GlW (p : Program) (e : Env) (below : List Frame) (s : State) (Q : Option Value → Heap → List Loc → Prop) (k n : Nat) (S0 : State) : Prop :=
  ∃ s₂ o, Steps p.tables e below S0 s₂ ∧ s₂.status = .running ∧ Ended s₂ below o ∧ ∃ v L, o = .returned v ∧ Q v s₂.heap L ∧ ReturnedEndW s o s₂ L k n
theorem GlW.back {p : Program} {e : Env} {below : List Frame} {s : State} {Q : Option Value → Heap → List Loc → Prop} {k n : Nat} {S0 S1 : State} (h : ∀ t, Steps p.tables e below S1 t → Steps p.tables e below S0 t) (g : GlW p e below s Q k n S1) : GlW p e below s Q k n S0 := by
  obtain ⟨s₂, o, h1, r⟩ := g; exact ⟨s₂, o, h _ h1, r⟩
theorem GlW.ret {p : Program} {l : Launch} {e : Env} {R : Room} {s : State} {vm0 : Vm} {m : MethodId} {args : Array Value} {below : List Frame} {meth : Method} {c : Code} {T : State} {locs : List Loc} {cells slots : Nat} (X : Stand p l e R (s.setVm vm0) m args below meth c T locs cells slots) {h : Heap} (eT : T.heap = h)
    {k0 : Nat} (hS : s.Since vm0 k0) (hk0 : k0 ≤ h.size) {v : Option Value} (hv : meth.sig.returnType = none → v = none) (hlocks : meth.locks = false) {S0 : State} (st : ∀ fs, (∀ (f : JFrame) (acts : List Action), f.method = m → f.locked = none → f.entered = [] → (doReturn e (T.setTop f) acts v).1 = T.setFrames fs) → Steps p.tables e below S0 (T.setFrames fs))
    {Q : Option Value → Heap → List Loc → Prop} {k n : Nat} (hQ : Q v h locs) (hk : cells ≤ k) (hn : slots ≤ n) : GlW p e below s Q k n S0 := by
  obtain ⟨fs, hr, hrun, hended, hE⟩ := X.leaveW hS (by rw [eT]; exact hk0) (v := v) hv hlocks
  exact ⟨_, _, st fs hr, hrun, hended, v, locs, rfl, eT ▸ hQ, hE.1, hE.2.1, hE.2.2.1, hE.2.2.2.mono hk hn⟩
theorem own_lcL {x y : Int64} (h : x < y) : lcmpW x y < 0 := by rw [lcW]; exact (lc_lt x y).mpr h
theorem own_lcLn {x y : Int64} (h : ¬ x < y) : ¬ lcmpW x y < 0 := by rw [lcW]; exact fun q => h ((lc_lt x y).mp q)
theorem own_lcG {x y : Int64} (h : y < x) : 0 < lcmpW x y := by rw [lcW]; exact (lc_gt x y).mpr h
theorem own_lcGn {x y : Int64} (h : ¬ y < x) : ¬ 0 < lcmpW x y := by rw [lcW]; exact fun q => h ((lc_gt x y).mp q)
theorem own_lcE {x y : Int64} (h : x = y) : lcmpW x y = 0 := by rw [lcW]; exact (lc_eq x y).mpr h
theorem own_lcEn {x y : Int64} (h : ¬ x = y) : ¬ lcmpW x y = 0 := by rw [lcW]; exact fun q => h ((lc_eq x y).mp q)
theorem own_fldI {args : Array Value} {s : State} {t : Term} {C n d : String} {k : Int32} {a : Addr} (ev : t.eval args s none [] s = some (.ref a)) (h : (Jvm.Cond.eq (Term.field t C n d) (Term.int k)).value args s none s [] = some true) : Fld s s.heap a C n d (.int k) := by
  have e := fld_at (C := C) (n := n) (dd := d) ev
  obtain ⟨x, y, h1, h2, k1, k2⟩ := cmp_v (Or.inl h)
  obtain rfl : Value.int k = y := Option.some.inj h2
  obtain ⟨z, rfl⟩ := k2
  have q := Jvm.Cond.eq_ints h1 h2
  obtain rfl : z = k := gotT q h
  exact Fld.start (e ▸ h1)
theorem own_unt_ext {h h' : Heap} {a : Addr} (U : Unt h a) (E : Ext h h') : Unt h' a := by
  obtain ⟨c, u1, u2, u3⟩ := U; exact ⟨c, E.2 _ _ u1, u2, u3⟩
theorem own_unt_keep {h h' : Heap} {a : Addr} {ws : List Addr} (U : Unt h a) (K : Keep h h' ws) (q : a ∉ ws) : Unt h' a := by
  obtain ⟨c, u1, u2, u3⟩ := U; exact ⟨c, K.2.1 a c u1 q, u2, u3⟩
theorem own_unt_wr {h h' : Heap} {a b : Addr} {sl : Nat} {v : Value} (U : Unt h a) (W : Wr h h' b sl v) : Unt h' a := by
  obtain ⟨c, u1, u2, u3⟩ := U
  obtain ⟨c0, w1, w2, w3, rfl⟩ := W
  by_cases z : b = a
  · subst z
    cases w1.symm.trans u1
    exact ⟨c.setSlot sl v, by simp [(Array.getElem?_eq_some_iff.mp u1).1], u2, u3⟩
  · exact ⟨c, by rw [Array.getElem?_setIfInBounds_ne z]; exact u1, u2, u3⟩
/-- the same heap but for a's monitor -/
def Lft (h h' : Heap) (a : Addr) : Prop := ∃ (c : Cell) (mo : Monitor), h[a]? = some c ∧ h' = h.setIfInBounds a { c with monitor := mo }
theorem Lft.mon {h h' : Heap} {a : Addr} (L : Lft h h' a) : Mon h h' := by
  obtain ⟨c, mo, h1, rfl⟩ := L; exact mon_set h1 mo
theorem own_keepS {h0 hE h h' : Heap} {a : Addr} {ws : List Addr} (L0 : Lft h0 hE a) (K : Keep hE h ws) (L1 : Lft h h' a) (ha : a ∈ ws) : Keep h0 h' ws := by
  have M0 := L0.mon
  have M1 := L1.mon
  refine ⟨by rw [M1.1, ← M0.1]; exact K.1, fun x c q hx => ?_, fun x c q => ?_⟩
  · have hne : a ≠ x := fun e => hx (e ▸ ha)
    obtain ⟨c1, m1, -, e1⟩ := L0
    obtain ⟨c2, m2, -, e2⟩ := L1
    have q1 : hE[x]? = some c := by rw [e1, Array.getElem?_setIfInBounds_ne hne]; exact q
    rw [e2, Array.getElem?_setIfInBounds_ne hne]; exact K.2.1 x c q1 hx
  · obtain ⟨mo, q1⟩ := M0.2 _ _ q
    obtain ⟨c', q2, r1, r2, r3⟩ := K.2.2 x _ q1
    obtain ⟨mo', q3⟩ := M1.2 _ _ q2
    exact ⟨_, q3, r1, r2, r3⟩
theorem own_arv_mon {Z : State} {h h' : Heap} {b : Addr} {k : ClassId} {ty : FieldType} {z : Int32} {vs : List Value} {dv : Value} (W : Mon h h') (F : Arv Z h b k ty z vs dv) : Arv Z h' b k ty z vs dv := by
  obtain ⟨c, ⟨a1, a2, a3⟩, r⟩ := F
  obtain ⟨mo, q⟩ := W.2 _ _ a1
  exact ⟨_, ⟨q, a2, a3⟩, r⟩
theorem Gl.retS {p : Program} {l : Launch} {e : Env} {R : Room} {s : State} {m : MethodId} {args : Array Value} {below : List Frame} {meth : Method} {c : Code} {T : State} {locs : List Loc} {cells slots : Nat} {a : Addr} {cell : Cell} (X : Stand p l e R (s.setCell a (cell.withEntry s.cur)) m args below meth c T locs cells slots) {h : Heap} (eT : T.heap = h)
    (hc : s.heap[a]? = some cell) (ho : cell.enterable s.cur) (hl : meth.locks = true) (hu : Unt s.heap a) {v : Option Value} (hv : meth.sig.returnType = none → v = none) {S0 : State} (st : ∀ V, (∀ (f : JFrame) (acts : List Action), f.method = m → f.locked = some a → f.entered = [] → (doReturn e (T.setTop f) acts v).1 = V) → Steps p.tables e below S0 V)
    {Q : Option Value → Heap → List Loc → Prop} {k n : Nat} (hQ : ∀ h', Lft h h' a → Unt h' a → Q v h' locs) (hk : cells ≤ k) (hn : slots ≤ n) : Gl p e below s Q k n S0 := by
  obtain ⟨fs, cT, hcT, hr, hrun, hend, h1, h2⟩ := X.leaveSync hc ho hl hv
  refine ⟨_, _, st _ hr, hrun, hend, v, locs, rfl, hQ _ ?_ ?_, ⟨_, rfl⟩, h1, h2.mono hk hn⟩
  · show Lft h (T.heap.setIfInBounds a cT.left) a
    subst eT; unfold Cell.left; split <;> exact ⟨cT, _, hcT, rfl⟩
  · obtain ⟨cl, u1, u2, u3⟩ := hu
    obtain ⟨c', g1, g2, -⟩ := h2.2.2.2.2.2 a cl u1
    exact ⟨c', g1, by rw [g2]; exact u2, by rw [g2]; exact u3⟩
theorem own_backOfY {p : Program} {l : Launch} {e : Env} {R : Room} {s : State} {args : Array Value} {below : List Frame} {Z : State} {a0 : Array Value} {h : Heap} {y : MethodName} {bytes : ByteArray} {maxL : Nat} {ret : Option FieldType} {rm : Room} {len W : Nat} {as' : Array Value} {Q : Option Value → Heap → List Loc → Prop}
    (hM : MetFree l y (head1 (Cond.codeSync y bytes maxL ret :: Cond.instanceMethod y :: []) rm) (fun a U => a = as' ∧ Z.Warmed39 U.vm ∧ U.heap = h) (fun _ _ _ _ _ => True) (fun _ U o U' => ∃ v L, o = .returned v ∧ Q v U'.heap L ∧ FrameEnd U o U' L rm.cells rm.slots))
    (hZ : Z.Warmed39 s.vm) (wc : (Cond.codeSync y bytes maxL ret).before a0 Z = true) (wi : (Cond.instanceMethod y).before a0 Z = true) (wz : (Cond.initialized y.cls).before a0 Z = true) (hf : rm.frames + 1 ≤ R.frames) (hl : W + (maxL + 11) + rm.locals ≤ R.locals) :
    Back l R p e below s args y len W (fun A a => a = as' ∧ A.U.heap = h ∧ A.cells + rm.cells ≤ R.cells ∧ A.slots + rm.slots ≤ R.slots)
      (fun A _ v B => ∃ L, Q v B.U.heap L ∧ B.locs = A.locs ++ L ∧ B.cells = A.cells + rm.cells ∧ B.slots = A.slots + rm.slots) :=
  Jvm.Free.XT.back_of_sync (bytes := bytes) (maxL := maxL) (ret := ret) (E := fun _ _ o t L k n => k = rm.cells ∧ n = rm.slots ∧ ∃ v, o = .returned v ∧ Q v t.heap L) hM hf hl
    (fun m meth c A a Y hp => have hU : Z.Warmed39 A.U.vm := wtrans hZ Y.warmed
      ⟨by show (Cond.and _ (Cond.and _ .tt)).before a A.U = true; rw [Cond.before_and, Cond.before_and, mv hU wc, mv hU wi]; rfl, mv hU wc, mv hU wz, hp.2.2.1, hp.2.2.2⟩)
    (fun m meth c A a g mk Y hp => ⟨hp.1, wtrans hZ Y.warmed, hp.2.1⟩) (fun _ _ _ _ _ _ _ _ _ => trivial)
    (fun _ _ _ _ ⟨v, L, h1, h2, h3⟩ => ⟨L, _, _, h3, rfl, rfl, v, h1, h2⟩)
    (fun m meth c A a g mk v t L k n Y hp _ _ ⟨e1, e2, v', e3, e4⟩ => by cases e3; subst e1 e2; exact ⟨L, e4, rfl, rfl, rfl⟩)
def own_lo (b : Nat) : Int32 := (Int32.ofNat b).toInt8.toInt32
def own_B (X m i : Nat) : Nat := X / 128 ^ i % 128 + (if i + 1 < m then 128 else 0)
def own_acc (f : Nat → Nat) : Nat → Int64
  | 0 => 0
  | i + 1 => own_acc f i ||| ((Int32.ofNat (f i) % (128 : Int32)).toInt64 <<< (Int32.ofNat (7 * i) &&& 0x3f).toInt64)
def own_sum (f : Nat → Nat) : Nat → Nat
  | 0 => 0
  | i + 1 => own_sum f i + 128 ^ i * (f i % 128)
theorem own_sum_lt (f : Nat → Nat) : ∀ i, own_sum f i < 128 ^ i
  | 0 => by simp [own_sum]
  | i + 1 => by
    have h := own_sum_lt f i
    have h2 : f i % 128 < 128 := Nat.mod_lt _ (by decide)
    have h3 : 128 ^ i * (f i % 128) ≤ 128 ^ i * 127 := Nat.mul_le_mul_left _ (by omega)
    have h4 : 128 ^ (i + 1) = 128 ^ i * 128 := Nat.pow_succ ..
    simp only [own_sum]
    omega
theorem own_sum_mod (X : Nat) {m : Nat} : ∀ i, own_sum (own_B X m) i = X % 128 ^ i
  | 0 => by simp [own_sum, Nat.mod_one]
  | i + 1 => by
    have e : own_B X m i % 128 = X / 128 ^ i % 128 := by
      unfold own_B; split <;> omega
    rw [own_sum, own_sum_mod X i, e, Nat.mod_pow_succ]
theorem own_or {a b : Int64} {A B k : Nat} (ha : a.toInt = A) (hb : b.toInt = 2 ^ k * B) (hA : A < 2 ^ k) (hk : 2 ^ k * B + A < 2 ^ 63) : (a ||| b).toInt = ((A + 2 ^ k * B : Nat) : Int) := by
  have nn : ∀ {x : Int64} {n : Nat}, x.toInt = n → n < 2 ^ 63 → x.toBitVec.toNat = n := fun {x n} h hn => by
    have h' : x.toInt = x.toBitVec.toInt := rfl
    rw [h', BitVec.toInt_eq_toNat_cond] at h
    have := x.toBitVec.isLt
    split at h <;> omega
  have ea := nn ha (by omega)
  have eb := nn (n := 2 ^ k * B) (by rw [hb]; push_cast; rfl) (by omega)
  have e : (a ||| b).toBitVec.toNat = A + 2 ^ k * B := by
    show (a.toBitVec ||| b.toBitVec).toNat = _
    rw [BitVec.toNat_or, ea, eb, Nat.or_comm, Nat.mul_comm, ← Nat.shiftLeft_eq, ← Nat.shiftLeft_add_eq_or_of_lt hA, Nat.add_comm]
  show (a ||| b).toBitVec.toInt = _
  rw [BitVec.toInt_eq_toNat_cond, e, if_pos (by omega)]
theorem own_mod128 {b : Nat} (h : b < 256) : (Int32.ofNat b % (128 : Int32)).toInt = ((b % 128 : Nat) : Int) := by
  have q : ∀ c : Fin 256, (Int32.ofNat c.val % (128 : Int32)).toInt = ((c.val % 128 : Nat) : Int) := by decide +kernel
  exact q ⟨b, h⟩
theorem own_acc_val (f : Nat → Nat) : ∀ i, i ≤ 9 → (∀ k, k < i → f k < 256) → (own_acc f i).toInt = ((own_sum f i : Nat) : Int)
  | 0, _, _ => rfl
  | i + 1, hi, hf => by
    have h := own_acc_val f i (by omega) (fun k hk => hf k (by omega))
    have hs := own_sum_lt f i
    have hd := own_mod128 (hf i (by omega))
    have h2 : f i % 128 < 128 := Nat.mod_lt _ (by decide)
    have ep : 128 ^ i = 2 ^ (7 * i) := by rw [show (128 : Nat) = 2 ^ 7 from rfl, ← Nat.pow_mul]
    have hb9 : 2 ^ (7 * i) ≤ 2 ^ 56 := Nat.pow_le_pow_right (by decide) (by omega)
    have hm : 2 ^ (7 * i) * (f i % 128) ≤ 2 ^ (7 * i) * 127 := Nat.mul_le_mul_left _ (by omega)
    have e64 : ((Int32.ofNat (f i) % (128 : Int32)).toInt64).toInt = ((f i % 128 : Nat) : Int) := by rw [Jvm.Kit.i64_of_i32]; exact hd
    have sh : (((Int32.ofNat (f i) % (128 : Int32)).toInt64) <<< (Int32.ofNat (7 * i) &&& 0x3f).toInt64).toInt = 2 ^ (7 * i) * ((f i % 128 : Nat) : Int) := by
      have key : ∀ (z : Int64) (d : Nat), z.toInt = d → d < 128 → (z <<< (Int32.ofNat (7 * i) &&& 0x3f).toInt64).toInt = 2 ^ (7 * i) * (d : Int) := fun z d hz hdd => by
        have hi' : i = 0 ∨ i = 1 ∨ i = 2 ∨ i = 3 ∨ i = 4 ∨ i = 5 ∨ i = 6 ∨ i = 7 ∨ i = 8 := by omega
        have hzb : z = Int64.ofNat d := Int64.toInt_inj.mp (by
          rw [hz]
          have q : ∀ c : Fin 128, ((c.val : Nat) : Int) = (Int64.ofNat c.val).toInt := by decide +kernel
          exact q ⟨d, hdd⟩)
        subst hzb
        rcases hi' with rfl | rfl | rfl | rfl | rfl | rfl | rfl | rfl | rfl
        · have q : ∀ c : Fin 128, (Int64.ofNat c.val <<< (Int32.ofNat (7 * 0) &&& 0x3f).toInt64).toInt = 2 ^ (7 * 0) * ((c.val : Nat) : Int) := by decide +kernel
          exact q ⟨d, hdd⟩
        · have q : ∀ c : Fin 128, (Int64.ofNat c.val <<< (Int32.ofNat (7 * 1) &&& 0x3f).toInt64).toInt = 2 ^ (7 * 1) * ((c.val : Nat) : Int) := by decide +kernel
          exact q ⟨d, hdd⟩
        · have q : ∀ c : Fin 128, (Int64.ofNat c.val <<< (Int32.ofNat (7 * 2) &&& 0x3f).toInt64).toInt = 2 ^ (7 * 2) * ((c.val : Nat) : Int) := by decide +kernel
          exact q ⟨d, hdd⟩
        · have q : ∀ c : Fin 128, (Int64.ofNat c.val <<< (Int32.ofNat (7 * 3) &&& 0x3f).toInt64).toInt = 2 ^ (7 * 3) * ((c.val : Nat) : Int) := by decide +kernel
          exact q ⟨d, hdd⟩
        · have q : ∀ c : Fin 128, (Int64.ofNat c.val <<< (Int32.ofNat (7 * 4) &&& 0x3f).toInt64).toInt = 2 ^ (7 * 4) * ((c.val : Nat) : Int) := by decide +kernel
          exact q ⟨d, hdd⟩
        · have q : ∀ c : Fin 128, (Int64.ofNat c.val <<< (Int32.ofNat (7 * 5) &&& 0x3f).toInt64).toInt = 2 ^ (7 * 5) * ((c.val : Nat) : Int) := by decide +kernel
          exact q ⟨d, hdd⟩
        · have q : ∀ c : Fin 128, (Int64.ofNat c.val <<< (Int32.ofNat (7 * 6) &&& 0x3f).toInt64).toInt = 2 ^ (7 * 6) * ((c.val : Nat) : Int) := by decide +kernel
          exact q ⟨d, hdd⟩
        · have q : ∀ c : Fin 128, (Int64.ofNat c.val <<< (Int32.ofNat (7 * 7) &&& 0x3f).toInt64).toInt = 2 ^ (7 * 7) * ((c.val : Nat) : Int) := by decide +kernel
          exact q ⟨d, hdd⟩
        · have q : ∀ c : Fin 128, (Int64.ofNat c.val <<< (Int32.ofNat (7 * 8) &&& 0x3f).toInt64).toInt = 2 ^ (7 * 8) * ((c.val : Nat) : Int) := by decide +kernel
          exact q ⟨d, hdd⟩
      exact key _ _ e64 h2
    rw [own_acc, own_sum, ep]
    exact own_or (k := 7 * i) h sh (by omega) (by omega)
theorem own_acc_enc {x : Int64} {m : Nat} (h0 : ¬ x < 0) (hm : m ≤ 9) (hX : x.toInt.toNat < 128 ^ m) : own_acc (own_B x.toInt.toNat m) m = x := by
  apply Int64.toInt_inj.mp
  rw [own_acc_val _ m hm (fun k _ => by unfold own_B; split <;> omega), own_sum_mod, Nat.mod_eq_of_lt hX]
  rw [Int64.lt_iff_toInt_lt] at h0
  have e0 : (0 : Int64).toInt = 0 := by decide
  omega
theorem own_rd {b : Nat} (h : b < 256) : own_lo b &&& (255 : Int32) = Int32.ofNat b := by
  have q : ∀ c : Fin 256, own_lo c.val &&& (255 : Int32) = Int32.ofNat c.val := by decide +kernel
  exact q ⟨b, h⟩
theorem own_ge {b : Nat} (h : b < 256) : ((Int32.ofNat b) < (128 : Int32)) ↔ b < 128 := by
  have q : ∀ c : Fin 256, ((Int32.ofNat c.val) < (128 : Int32)) ↔ c.val < 128 := by decide +kernel
  exact q ⟨b, h⟩
def own_I (vs vs' : List Value) (a i X : Nat) : Prop := (∀ k, k < a → vs'.getD k (.int 0) = vs.getD k (.int 0)) ∧ (∀ k, k < i → vs'.getD (a + k) (.int 0) = .int (own_lo (X / 128 ^ k % 128 + 128))) ∧ vs'.length = 32
def own_D (vs vs' : List Value) (a m X : Nat) : Prop := (∀ k, k < a → vs'.getD k (.int 0) = vs.getD k (.int 0)) ∧ (∀ k, k < m → vs'.getD (a + k) (.int 0) = .int (own_lo (own_B X m k))) ∧ vs'.length = 32
theorem own_I0 {vs : List Value} {a X : Nat} (h : vs.length = 32) : own_I vs vs a 0 X := ⟨fun _ _ => rfl, fun k hk => absurd hk (Nat.not_lt_zero k), h⟩
theorem own_nb (z : Int32) : nar .byte (z.toInt8.toInt32) = z.toInt8.toInt32 := by
  show z.toInt8.toInt32.toInt8.toInt32 = z.toInt8.toInt32
  rw [Int8.toInt8_toInt32]
theorem own_ofn {z : Int32} {n : Nat} (h : z.toInt = (n : Int)) : z = Int32.ofNat n := by
  apply Int32.toInt_inj.mp
  have b := z.toInt_lt
  rw [h] at b
  rw [h, Int32.toInt_ofNat_of_lt (by omega)]
theorem own_b1 {x : Int64} {Y : Nat} (h : x.toInt = (Y : Int)) : nar .byte ((((x - (x / (128 : Int64)) * (128 : Int64)).toInt32 + (128 : Int32))).toInt8.toInt32) = own_lo (Y % 128 + 128) := by
  rw [own_nb]
  have e : (128 : Int64).toInt = 128 := by decide
  have e2 : (128 : Int32).toInt = 128 := by decide
  have r := (c_lrem x (128 : Int64) 128 e).1 (by omega)
  have t : (x - (x / (128 : Int64)) * (128 : Int64)).toInt32.toInt = (x - (x / (128 : Int64)) * (128 : Int64)).toInt := Jvm.Kit.i32_of_i64 (by omega) (by omega)
  have s : ((x - (x / (128 : Int64)) * (128 : Int64)).toInt32 + (128 : Int32)).toInt = (x - (x / (128 : Int64)) * (128 : Int64)).toInt32.toInt + (128 : Int32).toInt := Jvm.Kit.i32_add (by omega) (by omega)
  rw [own_ofn (z := (x - (x / (128 : Int64)) * (128 : Int64)).toInt32 + (128 : Int32)) (n := Y % 128 + 128) (by rw [s, t, r, h, e2]; omega)]
  rfl
theorem own_b2 {x : Int64} {Y : Nat} (h : x.toInt = (Y : Int)) (hl : Y < 128) : nar .byte (x.toInt32.toInt8.toInt32) = own_lo Y := by
  rw [own_nb]
  have t : x.toInt32.toInt = x.toInt := Jvm.Kit.i32_of_i64 (by omega) (by omega)
  rw [own_ofn (z := x.toInt32) (n := Y) (by rw [t, h])]
  rfl
theorem own_set {vs : List Value} {j : Nat} {v : Value} (k : Nat) (h : j < vs.length) : (vs.set j v).getD k (.int 0) = if k = j then v else vs.getD k (.int 0) := by
  simp only [List.getD_eq_getElem?_getD]
  by_cases e : k = j
  · subst e; simp [h]
  · rw [List.getElem?_set_ne (Ne.symm e), if_neg e]
theorem own_I1 {vs vs' : List Value} {a i X : Nat} {c : Int32} {x : Int64} (I : own_I vs vs' a i X) (hc : c.toInt = ((a + i : Nat) : Int)) (hai : a + i < 32) (hx : x.toInt = ((X / 128 ^ i : Nat) : Int)) :
    own_I vs (vs'.set c.toNatClampNeg (.int (nar .byte ((((x - (x / (128 : Int64)) * (128 : Int64)).toInt32 + (128 : Int32))).toInt8.toInt32)))) a (i + 1) X := by
  obtain ⟨h1, h2, h3⟩ := I
  have ec : c.toNatClampNeg = a + i := by simp only [Int32.toNatClampNeg]; omega
  rw [ec, own_b1 hx]
  refine ⟨fun k hk => ?_, fun k hk => ?_, by simp [h3]⟩
  · rw [own_set k (by omega), if_neg (by omega)]; exact h1 k hk
  · rw [own_set (a + k) (by omega)]
    by_cases e : k = i
    · subst e; rw [if_pos rfl]
    · rw [if_neg (by omega)]; exact h2 k (by omega)
theorem own_I2 {vs vs' : List Value} {a i X : Nat} {c : Int32} {x : Int64} (I : own_I vs vs' a i X) (hc : c.toInt = ((a + i : Nat) : Int)) (hai : a + i < 32) (hx : x.toInt = ((X / 128 ^ i : Nat) : Int)) (hl : x < (128 : Int64)) :
    own_D vs (vs'.set c.toNatClampNeg (.int (nar .byte (x.toInt32.toInt8.toInt32)))) a (i + 1) X := by
  obtain ⟨h1, h2, h3⟩ := I
  have e128 : (128 : Int64).toInt = 128 := by decide
  rw [Int64.lt_iff_toInt_lt, e128, hx] at hl
  have ec : c.toNatClampNeg = a + i := by simp only [Int32.toNatClampNeg]; omega
  rw [ec, own_b2 hx (by omega)]
  refine ⟨fun k hk => ?_, fun k hk => ?_, by simp [h3]⟩
  · rw [own_set k (by omega), if_neg (by omega)]; exact h1 k hk
  · rw [own_set (a + k) (by omega)]
    by_cases e : k = i
    · subst e
      rw [if_pos rfl]
      unfold own_B
      rw [if_neg (by omega), Nat.mod_eq_of_lt (by omega), Nat.add_zero]
    · rw [if_neg (by omega), h2 k (by omega)]
      unfold own_B
      rw [if_pos (by omega)]
theorem own_shift0 {x : Int64} {Y : Nat} (hx : x.toInt = (Y : Int)) : ((x.toUInt64 >>> ((7 : Int32) &&& 0x3f).toInt64.toUInt64).toInt64).toInt = ((Y / 128 : Nat) : Int) := by
  have q := Jvm.Kit.i64_lushr (x := x) (n := ((7 : Int32) &&& 0x3f).toInt64.toUInt64) (k := 7) (Jvm.Kit.i64_nonneg.mpr (by omega)) (by decide) (by decide)
  rw [q, hx]
  omega
theorem own_shift {x : Int64} {X i : Nat} (hx : x.toInt = ((X / 128 ^ i : Nat) : Int)) : ((x.toUInt64 >>> ((7 : Int32) &&& 0x3f).toInt64.toUInt64).toInt64).toInt = ((X / 128 ^ (i + 1) : Nat) : Int) := by
  rw [Nat.pow_succ, ← Nat.div_div_eq_div_mul]
  exact own_shift0 hx
theorem own_bound {x : Int64} {X i : Nat} (hx : x.toInt = ((X / 128 ^ i : Nat) : Int)) (hl : x < (128 : Int64)) : X < 128 ^ (i + 1) := by
  have e128 : (128 : Int64).toInt = 128 := by decide
  rw [Int64.lt_iff_toInt_lt, e128, hx] at hl
  have h : X / 128 ^ i < 128 := by omega
  rw [Nat.pow_succ, Nat.mul_comm]
  exact (Nat.div_lt_iff_lt_mul (Nat.pow_pos (by decide))).mp h
theorem own_last {x : Int64} {X : Nat} (h63 : X < 2 ^ 63) (hx : x.toInt = ((X / 128 ^ 8 : Nat) : Int)) : x < (128 : Int64) := by
  have e128 : (128 : Int64).toInt = 128 := by decide
  rw [Int64.lt_iff_toInt_lt, e128, hx]
  have h : X / 128 ^ 8 < 128 := (Nat.div_lt_iff_lt_mul (by decide)).mpr (by omega)
  omega
theorem own_lt {n : Int32} {k : Nat} (h : ¬ n < 0 ∧ n < Int32.ofNat k) (hk : k < 1000) : n.toNatClampNeg < k := by
  have e0 : (0 : Int32).toInt = 0 := by decide
  rw [Int32.lt_iff_toInt_lt, Int32.lt_iff_toInt_lt, e0, Int32.toInt_ofNat_of_lt (by omega)] at h
  simp only [Int32.toNatClampNeg]; omega
theorem own_n19 {n : Int32} (h : ¬ n < 0 ∧ n < 19) : n < 32 := by
  have e19 : (19 : Int32).toInt = 19 := by decide
  have e32 : (32 : Int32).toInt = 32 := by decide
  have q := h.2
  rw [Int32.lt_iff_toInt_lt] at q ⊢
  omega
theorem own_n32 {n : Int32} (h : ¬ n < 0 ∧ n < 19) : ¬ n = 32 := fun e => by
  subst e; exact absurd h.2 (by decide)
theorem own_c18 {n : Int32} (h : ¬ n < 0 ∧ n < 19) : n.toNatClampNeg ≤ 18 := Nat.le_of_lt_succ (own_lt (k := 19) h (by decide))
theorem own_cp4 {n : Int32} (h : ¬ n < 0 ∧ n < 19) : (0 : Int32).toNatClampNeg + n.toNatClampNeg ≤ (32 : Int32).toNatClampNeg := by
  have q := own_c18 h
  have e0 : (0 : Int32).toNatClampNeg = 0 := by decide
  have e32 : (32 : Int32).toNatClampNeg = 32 := by decide
  omega
theorem own_cp5 {n : Int32} (h : ¬ n < 0 ∧ n < 19) : (0 : Int32).toNatClampNeg + n.toNatClampNeg ≤ n.toNatClampNeg := by
  have e0 : (0 : Int32).toNatClampNeg = 0 := by decide
  omega
theorem own_cpl {n : Int32} {d : Value} (h : ¬ n < 0 ∧ n < 19) : (0 : Int32).toNatClampNeg + n.toNatClampNeg ≤ ([] ++ List.replicate n.toNatClampNeg d).length := by
  have e0 : (0 : Int32).toNatClampNeg = 0 := by decide
  rw [e0]; simp
theorem own_cp {n : Int32} {vs vd : List Value} {d : Value} (h : ¬ n < 0 ∧ n < 19) : ∀ i, i < n.toNatClampNeg → (vd.take (0 : Int32).toNatClampNeg ++ (List.range n.toNatClampNeg).map (fun i => vs.getD ((0 : Int32).toNatClampNeg + i) d) ++ vd.drop ((0 : Int32).toNatClampNeg + n.toNatClampNeg)).getD i d = vs.getD i d := fun i hi => by
  have e0 : (0 : Int32).toNatClampNeg = 0 := by decide
  rw [e0]
  simp only [List.getD_eq_getElem?_getD, List.take_zero, List.nil_append, Nat.zero_add]
  rw [List.getElem?_append_left (by simpa using hi)]
  simp [hi]
theorem own_x63 {x : Int64} {X : Nat} (h : x.toInt = (X : Int)) : X < 2 ^ 63 := by
  have b := x.toInt_lt
  omega
theorem own_cs1 {c : Int32} {a i : Nat} (h : c.toInt = ((a + i : Nat) : Int)) (hl : a + i < 1000) : (c + (1 : Int32)).toInt = ((a + (i + 1) : Nat) : Int) := by
  have e1 : (1 : Int32).toInt = 1 := by decide
  have s : (c + (1 : Int32)).toInt = c.toInt + (1 : Int32).toInt := Jvm.Kit.i32_add (by omega) (by omega)
  omega
theorem own_32 {c : Int32} {a i : Nat} (h : c.toInt = ((a + i : Nat) : Int)) (hl : a + i < 32) : ¬ c < 0 ∧ c < 32 := by
  have e0 : (0 : Int32).toInt = 0 := by decide
  have e32 : (32 : Int32).toInt = 32 := by decide
  rw [Int32.lt_iff_toInt_lt, Int32.lt_iff_toInt_lt, e0, e32]
  omega
theorem own_cap {n : Int32} (h : ¬ n < 0 ∧ n < 32) : ¬ (0 : Int32) < ((n + (1 : Int32)) - (32 : Int32)) := by
  have e0 : (0 : Int32).toInt = 0 := by decide
  have e1 : (1 : Int32).toInt = 1 := by decide
  have e32 : (32 : Int32).toInt = 32 := by decide
  rw [Int32.lt_iff_toInt_lt, Int32.lt_iff_toInt_lt, e0, e32] at h
  have a : (n + (1 : Int32)).toInt = n.toInt + (1 : Int32).toInt := Jvm.Kit.i32_add (by omega) (by omega)
  have s : ((n + (1 : Int32)) - (32 : Int32)).toInt = (n + (1 : Int32)).toInt - (32 : Int32).toInt := Jvm.Kit.i32_sub (by omega) (by omega)
  rw [Int32.lt_iff_toInt_lt]
  omega
theorem own_idx {n : Int32} {vs : List Value} (h : ¬ n < 0 ∧ n < 32) (hl : vs.length = 32) : n.toNatClampNeg < vs.length := by
  have e0 : (0 : Int32).toInt = 0 := by decide
  have e32 : (32 : Int32).toInt = 32 := by decide
  rw [Int32.lt_iff_toInt_lt, Int32.lt_iff_toInt_lt, e0, e32] at h
  rw [hl]; simp only [Int32.toNatClampNeg]; omega
def own_F (a b c d e f : Nat) (i : Nat) : Nat := [a, b, c, d, e, f, 0, 0, 0].getD i 0
theorem own_F256 {a b c d e f : Nat} (ha : a < 256) (hb : b < 256) (hc : c < 256) (hd : d < 256) (he : e < 256) (hf : f < 256) : ∀ i, own_F a b c d e f i < 256
  | 0 => ha
  | 1 => hb
  | 2 => hc
  | 3 => hd
  | 4 => he
  | 5 => hf
  | 6 => (by decide : 0 < 256)
  | 7 => (by decide : 0 < 256)
  | 8 => (by decide : 0 < 256)
  | _ + 9 => (by decide : 0 < 256)
theorem own_ob (n : Nat) : (Value.int (nar .byte ((Int32.ofNat n).toInt8.toInt32))) = .int (own_lo n) := congrArg Value.int (own_nb _)
theorem own_six {a b c d e f : Nat} : ∀ i, i < 6 → [(Value.int (nar .byte ((Int32.ofNat a).toInt8.toInt32))), (Value.int (nar .byte ((Int32.ofNat b).toInt8.toInt32))), (Value.int (nar .byte ((Int32.ofNat c).toInt8.toInt32))), (Value.int (nar .byte ((Int32.ofNat d).toInt8.toInt32))), (Value.int (nar .byte ((Int32.ofNat e).toInt8.toInt32))), (Value.int (nar .byte ((Int32.ofNat f).toInt8.toInt32)))].getD i (.int 0) = .int (own_lo (own_F a b c d e f i))
  | 0, _ => own_ob a
  | 1, _ => own_ob b
  | 2, _ => own_ob c
  | 3, _ => own_ob d
  | 4, _ => own_ob e
  | 5, _ => own_ob f
  | _ + 6, h => absurd h (by omega)
theorem own_and255 (z : Int32) : ∃ n, n < 256 ∧ z &&& (255 : Int32) = Int32.ofNat n := by
  have h := Jvm.Kit.i32_mask z 255 (k := 8) (by decide) (by decide)
  exact ⟨(z &&& (255 : Int32)).toInt.toNat, by omega, own_ofn (by omega)⟩
theorem own_and127 (z : Int32) : ∃ n, n < 128 ∧ z &&& (127 : Int32) = Int32.ofNat n := by
  have h := Jvm.Kit.i32_mask z 127 (k := 7) (by decide) (by decide)
  exact ⟨(z &&& (127 : Int32)).toInt.toNat, by omega, own_ofn (by omega)⟩
theorem own_mask (j : Int64) : ¬ (j &&& (9223372036854775807 : Int64)) < 0 := by
  rw [Int64.lt_iff_toInt_lt]
  have e0 : (0 : Int64).toInt = 0 := by decide
  rw [e0]
  show ¬ (j &&& (9223372036854775807 : Int64)).toBitVec.toInt < 0
  have q : (j &&& (9223372036854775807 : Int64)).toBitVec.toNat ≤ 9223372036854775807 := by
    show (j.toBitVec &&& (9223372036854775807 : Int64).toBitVec).toNat ≤ _
    rw [BitVec.toNat_and]
    exact Nat.and_le_right
  rw [BitVec.toInt_eq_toNat_cond]
  split <;> omega
theorem own_tn {x : Int64} (h : ¬ x < 0) : x.toInt = ((x.toInt.toNat : Nat) : Int) := by
  rw [Int64.lt_iff_toInt_lt] at h
  have e0 : (0 : Int64).toInt = 0 := by decide
  omega
theorem own_acS {ff : Nat → Nat} {i : Nat} {c : Int32} {z : Int64} (hz : z = own_acc ff i) (hc : c = Int32.ofNat (7 * i)) : (z ||| ((Int32.ofNat (ff i) % (128 : Int32)).toInt64 <<< (c &&& 0x3f).toInt64)) = own_acc ff (i + 1) := by
  rw [hz, hc]; rfl
theorem own_m127 {b : Nat} (h : b < 256) : Int32.ofNat b &&& (127 : Int32) = Int32.ofNat b % (128 : Int32) := by
  have q : ∀ c : Fin 256, Int32.ofNat c.val &&& (127 : Int32) = Int32.ofNat c.val % (128 : Int32) := by decide +kernel
  exact q ⟨b, h⟩
theorem own_rS {ff : Nat → Nat} {i : Nat} {c p : Int32} {z : Int64} (hz : z = own_acc ff i) (hp : p = Int32.ofNat (ff i)) (hf : ff i < 256) (hc : c = Int32.ofNat (7 * i)) : (z ||| ((p &&& (127 : Int32)).toInt64 <<< (c &&& 0x3f).toInt64)) = own_acc ff (i + 1) := by
  rw [hz, hc, hp, own_m127 hf]; rfl
theorem own_r1 {ff : Nat → Nat} {p : Int32} (hp : p = Int32.ofNat (ff 0)) (hf : ff 0 < 256) : (p &&& (127 : Int32)).toInt64 = own_acc ff 1 := by
  have q : ∀ c : Fin 256, (Int32.ofNat c.val &&& (127 : Int32)).toInt64 = (0 : Int64) ||| ((Int32.ofNat c.val % (128 : Int32)).toInt64 <<< (Int32.ofNat (7 * 0) &&& 0x3f).toInt64) := by decide +kernel
  rw [hp]; exact q ⟨ff 0, hf⟩
theorem own_nx {ff : Nat → Nat} {mm i : Nat} (hi : i < mm) (hf : ff i < 256) (hhi : ff (mm - 1) < 128) (hc : ¬ Int32.ofNat (ff i) < (128 : Int32)) : i + 1 < mm := by
  by_cases e : mm = i + 1
  · subst e; exact absurd ((own_ge hf).mpr hhi) hc
  · omega
theorem own_ex {ff : Nat → Nat} {mm i : Nat} (hi : i < mm) (hf : ff i < 256) (hlo : ∀ i, i + 1 < mm → 128 ≤ ff i) (hc : Int32.ofNat (ff i) < (128 : Int32)) : mm = i + 1 := by
  by_cases e : i + 1 < mm
  · exact absurd ((own_ge hf).mp hc) (Nat.not_lt.mpr (hlo i e))
  · omega
theorem own_nxP {ff : Nat → Nat} {mm i : Nat} {p : Int32} (ep : p = Int32.ofNat (ff i)) (hi : i < mm) (hf : ff i < 256) (hhi : ff (mm - 1) < 128) (hc : ¬ p < (128 : Int32)) : i + 1 < mm := own_nx hi hf hhi (ep ▸ hc)
theorem own_exP {ff : Nat → Nat} {mm i : Nat} {p : Int32} (ep : p = Int32.ofNat (ff i)) (hi : i < mm) (hf : ff i < 256) (hlo : ∀ i, i + 1 < mm → 128 ≤ ff i) (hc : p < (128 : Int32)) : mm = i + 1 := own_ex hi hf hlo (ep ▸ hc)
theorem own_e4 {mm : Nat} (h : mm ≤ 4) (hi : 2 + 1 < mm) : mm = 4 := by omega
theorem own_e9 {mm : Nat} (h : mm ≤ 9) (hi : 7 + 1 < mm) : mm = 8 + 1 := by omega
theorem own_l9 {ff : Nat → Nat} {mm : Nat} (hf : ∀ i, i < mm → ff i < 256) (hhi : ff (mm - 1) < 128) (h : mm ≤ 9) (hi : 7 + 1 < mm) : Int32.ofNat (ff 8) < (128 : Int32) := by
  obtain rfl : mm = 9 := by omega
  exact (own_ge (hf 8 hi)).mpr hhi
theorem own_cs2 {c ll : Int32} {a i m : Nat} (h : c.toInt = ((a + i : Nat) : Int)) (hi : i < m) (hll : ((a + m : Nat) : Int) ≤ ll.toInt) : (c + (1 : Int32)).toInt = ((a + (i + 1) : Nat) : Int) := by
  have e1 : (1 : Int32).toInt = 1 := by decide
  have b := ll.toInt_lt
  have s : (c + (1 : Int32)).toInt = c.toInt + (1 : Int32).toInt := Jvm.Kit.i32_add (by omega) (by omega)
  omega
theorem own_end {c : Int32} {a i m : Nat} (h : c.toInt = ((a + i : Nat) : Int)) (e : m = i) : c.toInt = ((a + m : Nat) : Int) := by rw [e]; exact h
theorem own_inb {c ll : Int32} {a i m : Nat} (h : c.toInt = ((a + i : Nat) : Int)) (hi : i < m) (hll : ((a + m : Nat) : Int) ≤ ll.toInt) : ¬ c < 0 ∧ c < ll := by
  have e0 : (0 : Int32).toInt = 0 := by decide
  rw [Int32.lt_iff_toInt_lt, Int32.lt_iff_toInt_lt, e0]
  omega
theorem own_gD {c : Int32} {a i : Nat} {vs : List Value} {z : Value} (h : c.toInt = ((a + i : Nat) : Int)) (q : vs.getD (a + i) (.int 0) = z) : vs.getD c.toNatClampNeg (.int 0) = z := by
  have ec : c.toNatClampNeg = a + i := by simp only [Int32.toNatClampNeg]; omega
  rw [ec]; exact q
theorem own_hn1 {c : Int32} {m : Nat} (h : c.toInt = (0 : Int32).toInt + (m : Int)) : c.toInt = ((m : Nat) : Int) := by
  have e0 : (0 : Int32).toInt = 0 := by decide
  omega
theorem own_hn2 {c d : Int32} {m n : Nat} (h : c.toInt = (0 : Int32).toInt + (m : Int)) (h2 : d.toInt = c.toInt + (n : Int)) : d.toInt = ((m + n : Nat) : Int) := by
  have e0 : (0 : Int32).toInt = 0 := by decide
  omega
theorem own_18 {c : Int32} {m n : Nat} (h : c.toInt = ((m + n : Nat) : Int)) (hm : m ≤ 9) (hn : n ≤ 9) : ¬ c < 0 ∧ c < 19 := by
  have e0 : (0 : Int32).toInt = 0 := by decide
  have e19 : (19 : Int32).toInt = 19 := by decide
  rw [Int32.lt_iff_toInt_lt, Int32.lt_iff_toInt_lt, e0, e19]
  omega
theorem own_le0 {c : Int32} {m n : Nat} (h : c.toInt = ((m + n : Nat) : Int)) : ((0 + m : Nat) : Int) ≤ c.toInt := by omega
theorem own_le1 {c : Int32} {m n : Nat} (h : c.toInt = ((m + n : Nat) : Int)) : ((m + n : Nat) : Int) ≤ c.toInt := by omega
theorem own_z {c : Int32} {m : Nat} (h : c.toInt = ((0 + m : Nat) : Int)) : c.toInt = ((m : Nat) : Int) := by omega
theorem own_ua {us v0 v1 v2 : List Value} {c : Int32} {m n X Y : Nat} (hu : ∀ i, i < c.toNatClampNeg → us.getD i (.int 0) = v2.getD i (.int 0)) (hc : c.toInt = ((m + n : Nat) : Int)) (A : own_D v0 v1 0 m X) (B : own_D v1 v2 m n Y) : ∀ i, i < m → us.getD (0 + i) (.int 0) = .int (own_lo (own_B X m i)) := fun i hi => by
  have ec : c.toNatClampNeg = m + n := by simp only [Int32.toNatClampNeg]; omega
  rw [hu (0 + i) (by omega), B.1 (0 + i) (by omega)]
  exact A.2.1 i hi
theorem own_ub {us v1 v2 : List Value} {c : Int32} {m n Y : Nat} (hu : ∀ i, i < c.toNatClampNeg → us.getD i (.int 0) = v2.getD i (.int 0)) (hc : c.toInt = ((m + n : Nat) : Int)) (B : own_D v1 v2 m n Y) : ∀ i, i < n → us.getD (m + i) (.int 0) = .int (own_lo (own_B Y n i)) := fun i hi => by
  have ec : c.toNatClampNeg = m + n := by simp only [Int32.toNatClampNeg]; omega
  rw [hu (m + i) (by omega)]
  exact B.2.1 i hi
theorem own_Blt (X m i : Nat) : own_B X m i < 256 := by unfold own_B; split <;> omega
theorem own_Bge (X : Nat) {m i : Nat} (h : i + 1 < m) : 128 ≤ own_B X m i := by unfold own_B; rw [if_pos h]; omega
theorem own_Bl (X : Nat) {m : Nat} (h : 1 ≤ m) : own_B X m (m - 1) < 128 := by unfold own_B; rw [if_neg (by omega)]; omega
theorem own_lo1 {f : Nat → Nat} : ∀ i, i + 1 < 1 → 128 ≤ f i := fun i h => absurd h (by omega)
theorem own_lo2 {f : Nat → Nat} (h0 : 128 ≤ f 0) : ∀ i, i + 1 < 2 → 128 ≤ f i := fun i h => by
  obtain rfl : i = 0 := by omega
  exact h0
theorem own_lo3 {f : Nat → Nat} (h0 : 128 ≤ f 0) (h1 : 128 ≤ f 1) : ∀ i, i + 1 < 3 → 128 ≤ f i := fun i h => by
  have e : i = 0 ∨ i = 1 := by omega
  rcases e with rfl | rfl
  · exact h0
  · exact h1
theorem own_lo4 {f : Nat → Nat} (h0 : 128 ≤ f 0) (h1 : 128 ≤ f 1) (h2 : 128 ≤ f 2) : ∀ i, i + 1 < 4 → 128 ≤ f i := fun i h => by
  have e : i = 0 ∨ i = 1 ∨ i = 2 := by omega
  rcases e with rfl | rfl | rfl
  · exact h0
  · exact h1
  · exact h2
theorem own_nine {a b c d e f : Nat} : ∀ i, i < 9 → [(Value.int (Int32.ofNat a)), (Value.int (Int32.ofNat b)), (Value.int (Int32.ofNat c)), (Value.int (Int32.ofNat d)), (Value.int (Int32.ofNat e)), (Value.int (Int32.ofNat f)), .int 0, .int 0, .int 0].getD i (.int 0) = .int (Int32.ofNat (own_F a b c d e f i))
  | 0, _ => rfl
  | 1, _ => rfl
  | 2, _ => rfl
  | 3, _ => rfl
  | 4, _ => rfl
  | 5, _ => rfl
  | 6, _ => rfl
  | 7, _ => rfl
  | 8, _ => rfl
  | _ + 9, h => absurd h (by omega)
theorem own_two0 {a b c d e f : Nat} (ha : a < 256) (hb : b < 256) (hc : c < 256) (hd : d < 256) (he : e < 128) (hf : f < 128) (mA mD : Nat) (loA : ∀ i, i + 1 < mA → 128 ≤ own_F a b c d e f (1 + i)) (hiA : own_F a b c d e f (1 + (mA - 1)) < 128) (hA : 1 ≤ mA ∧ mA ≤ 4) (loD : ∀ i, i + 1 < mD → 128 ≤ own_F a b c d e f (1 + mA + i)) (hiD : own_F a b c d e f (1 + mA + (mD - 1)) < 128) (hD : 1 ≤ mD ∧ mD ≤ 4) (hl : 1 + mA + mD ≤ 6) :
    ∃ (FA FD : Nat → Nat) (mA mD : Nat), (∀ i, FA i < 256) ∧ (∀ i, FD i < 256) ∧ (∀ i, i + 1 < mA → 128 ≤ FA i) ∧ FA (mA - 1) < 128 ∧ (1 ≤ mA ∧ mA ≤ 4) ∧ (∀ i, i + 1 < mD → 128 ≤ FD i) ∧ FD (mD - 1) < 128 ∧ (1 ≤ mD ∧ mD ≤ 4) ∧ 1 + mA + mD ≤ 6 ∧ b = FA 0 ∧ c = FA 1 ∧ d = FA 2 ∧ e = FA 3 ∧ (∀ i, i < mA → [(Value.int (nar .byte ((Int32.ofNat a).toInt8.toInt32))), (Value.int (nar .byte ((Int32.ofNat b).toInt8.toInt32))), (Value.int (nar .byte ((Int32.ofNat c).toInt8.toInt32))), (Value.int (nar .byte ((Int32.ofNat d).toInt8.toInt32))), (Value.int (nar .byte ((Int32.ofNat e).toInt8.toInt32))), (Value.int (nar .byte ((Int32.ofNat f).toInt8.toInt32)))].getD (1 + i) (.int 0) = .int (own_lo (FA i))) ∧ (∀ i, i < mD → [(Value.int (nar .byte ((Int32.ofNat a).toInt8.toInt32))), (Value.int (nar .byte ((Int32.ofNat b).toInt8.toInt32))), (Value.int (nar .byte ((Int32.ofNat c).toInt8.toInt32))), (Value.int (nar .byte ((Int32.ofNat d).toInt8.toInt32))), (Value.int (nar .byte ((Int32.ofNat e).toInt8.toInt32))), (Value.int (nar .byte ((Int32.ofNat f).toInt8.toInt32)))].getD (1 + mA + i) (.int 0) = .int (own_lo (FD i))) ∧ (∀ j, j < 4 → [(Value.int (Int32.ofNat a)), (Value.int (Int32.ofNat b)), (Value.int (Int32.ofNat c)), (Value.int (Int32.ofNat d)), (Value.int (Int32.ofNat e)), (Value.int (Int32.ofNat f)), .int 0, .int 0, .int 0].getD (1 + mA + j) (.int 0) = .int (Int32.ofNat (FD j))) := by
  have hF := own_F256 ha hb hc hd (Nat.lt_trans he (by decide)) (Nat.lt_trans hf (by decide))
  exact ⟨fun i => own_F a b c d e f (1 + i), fun i => own_F a b c d e f (1 + mA + i), mA, mD, fun i => hF _, fun i => hF _, loA, hiA, hA, loD, hiD, hD, hl, rfl, rfl, rfl, rfl, fun i hi => own_six _ (by omega), fun i hi => own_six _ (by omega), fun j hj => own_nine _ (by omega)⟩
theorem own_two {a b c d e f : Nat} (ha : a < 256) (hb : b < 256) (hc : c < 256) (hd : d < 256) (he : e < 128) (hf : f < 128) :
    ∃ (FA FD : Nat → Nat) (mA mD : Nat), (∀ i, FA i < 256) ∧ (∀ i, FD i < 256) ∧ (∀ i, i + 1 < mA → 128 ≤ FA i) ∧ FA (mA - 1) < 128 ∧ (1 ≤ mA ∧ mA ≤ 4) ∧ (∀ i, i + 1 < mD → 128 ≤ FD i) ∧ FD (mD - 1) < 128 ∧ (1 ≤ mD ∧ mD ≤ 4) ∧ 1 + mA + mD ≤ 6 ∧ b = FA 0 ∧ c = FA 1 ∧ d = FA 2 ∧ e = FA 3 ∧ (∀ i, i < mA → [(Value.int (nar .byte ((Int32.ofNat a).toInt8.toInt32))), (Value.int (nar .byte ((Int32.ofNat b).toInt8.toInt32))), (Value.int (nar .byte ((Int32.ofNat c).toInt8.toInt32))), (Value.int (nar .byte ((Int32.ofNat d).toInt8.toInt32))), (Value.int (nar .byte ((Int32.ofNat e).toInt8.toInt32))), (Value.int (nar .byte ((Int32.ofNat f).toInt8.toInt32)))].getD (1 + i) (.int 0) = .int (own_lo (FA i))) ∧ (∀ i, i < mD → [(Value.int (nar .byte ((Int32.ofNat a).toInt8.toInt32))), (Value.int (nar .byte ((Int32.ofNat b).toInt8.toInt32))), (Value.int (nar .byte ((Int32.ofNat c).toInt8.toInt32))), (Value.int (nar .byte ((Int32.ofNat d).toInt8.toInt32))), (Value.int (nar .byte ((Int32.ofNat e).toInt8.toInt32))), (Value.int (nar .byte ((Int32.ofNat f).toInt8.toInt32)))].getD (1 + mA + i) (.int 0) = .int (own_lo (FD i))) ∧ (∀ j, j < 4 → [(Value.int (Int32.ofNat a)), (Value.int (Int32.ofNat b)), (Value.int (Int32.ofNat c)), (Value.int (Int32.ofNat d)), (Value.int (Int32.ofNat e)), (Value.int (Int32.ofNat f)), .int 0, .int 0, .int 0].getD (1 + mA + j) (.int 0) = .int (Int32.ofNat (FD j))) := by
  by_cases qb : b < 128
  · by_cases qc : c < 128
    · exact own_two0 ha hb hc hd he hf 1 1 own_lo1 qb (by decide) own_lo1 qc (by decide) (by decide)
    · by_cases qd : d < 128
      · exact own_two0 ha hb hc hd he hf 1 2 own_lo1 qb (by decide) (own_lo2 (Nat.le_of_not_lt qc)) qd (by decide) (by decide)
      · exact own_two0 ha hb hc hd he hf 1 3 own_lo1 qb (by decide) (own_lo3 (Nat.le_of_not_lt qc) (Nat.le_of_not_lt qd)) he (by decide) (by decide)
  · by_cases qc : c < 128
    · by_cases qd : d < 128
      · exact own_two0 ha hb hc hd he hf 2 1 (own_lo2 (Nat.le_of_not_lt qb)) qc (by decide) own_lo1 qd (by decide) (by decide)
      · exact own_two0 ha hb hc hd he hf 2 2 (own_lo2 (Nat.le_of_not_lt qb)) qc (by decide) (own_lo2 (Nat.le_of_not_lt qd)) he (by decide) (by decide)
    · by_cases qd : d < 128
      · exact own_two0 ha hb hc hd he hf 3 1 (own_lo3 (Nat.le_of_not_lt qb) (Nat.le_of_not_lt qc)) qd (by decide) own_lo1 he (by decide) (by decide)
      · exact own_two0 ha hb hc hd he hf 4 1 (own_lo4 (Nat.le_of_not_lt qb) (Nat.le_of_not_lt qc) (Nat.le_of_not_lt qd)) he (by decide) own_lo1 hf (by decide) (by decide)
theorem own_o {m : Nat} (h : m ≤ 4) : ((1 : Int32) + Int32.ofNat m).toInt = ((1 + m : Nat) : Int) := by
  have q : ∀ c : Fin 5, ((1 : Int32) + Int32.ofNat c.val).toInt = ((1 + c.val : Nat) : Int) := by decide +kernel
  exact q ⟨m, by omega⟩
theorem own_oj {o z : Int32} {m j : Nat} (h : o.toInt = ((1 + m : Nat) : Int)) (hm : m ≤ 4) (hz : z = Int32.ofNat j) (hj : j < 4) : (o + z).toInt = ((1 + m + j : Nat) : Int) := by
  have e : z.toInt = (j : Int) := by rw [hz, Int32.toInt_ofNat_of_lt (by omega)]
  have s : (o + z).toInt = o.toInt + z.toInt := Jvm.Kit.i32_add (by omega) (by omega)
  omega
theorem own_9 {o : Int32} {m j : Nat} (h : o.toInt = ((1 + m + j : Nat) : Int)) (hm : m ≤ 4) (hj : j < 4) : ¬ o < 0 ∧ o < 9 := by
  have e0 : (0 : Int32).toInt = 0 := by decide
  have e9 : (9 : Int32).toInt = 9 := by decide
  rw [Int32.lt_iff_toInt_lt, Int32.lt_iff_toInt_lt, e0, e9]
  omega
theorem own_l6 {m : Nat} (h : m ≤ 4) : ((1 + m : Nat) : Int) ≤ (6 : Int32).toInt := by
  have e : (6 : Int32).toInt = 6 := by decide
  omega
theorem own_l6' {m n : Nat} (h : 1 + m + n ≤ 6) : ((1 + m + n : Nat) : Int) ≤ (6 : Int32).toInt := by
  have e : (6 : Int32).toInt = 6 := by decide
  omega
theorem own_49 {m : Nat} (h : 1 ≤ m ∧ m ≤ 4) : 1 ≤ m ∧ m ≤ 9 := ⟨h.1, by omega⟩
theorem d5_0 : decode jdk_2038_method_1_code 0 = .ok (.aload_n 0, 1) := by decide +kernel
theorem d5_1 : decode jdk_2038_method_1_code 1 = .ok (.invokespecial 1, 3) := by decide +kernel
theorem d5_4 : decode jdk_2038_method_1_code 4 = .ok (.return_, 1) := by decide +kernel
theorem pn_java_io_OutputStream : plainName "java/io/OutputStream" = true := by first | (simp [plainName, overriddenIn]; done) | decide +kernel
theorem ef_os (m : MethodId) (x0 : Addr) : entryFrame m #[(.ref x0)] 1 = mkF m 0 #[.val (.ref x0)] [] := by first | (simp [entryFrame, mkF, argsToLocals, Value.category]; done) | rfl
def Qos (Z : State) (a : Addr) (h0 : Heap) (n0 : Nat) (v : Option Value) (h : Heap) (L : List Loc) : Prop := Fr n0 L ∧ (v = none ∧ h = h0)
set_option maxRecDepth 65536 in
set_option maxHeartbeats 40000000 in
theorem rmos (l : Launch) (Z : State) (a0 : Array Value) (hw : ∀ d ∈ tables_1, d.before a0 Z = true) (ws : List Jvm.Cond) (a : Addr) (h0 : Heap) (n0 : Nat) (Z0 : n0 ≤ h0.size) :
    MetFree l (⟨"java/io/OutputStream", "<init>", "()V"⟩ : MethodName) (head1 (Jvm.Cond.code (⟨"java/io/OutputStream", "<init>", "()V"⟩ : MethodName) jdk_2038_method_1_code 1 none :: ws) ({ frames := 1, cells := 0, slots := 0, locals := 12 } : Room)) (fun as0 U => as0 = #[(.ref a)] ∧ Z.Warmed39 U.vm ∧ U.heap = h0) (fun _ _ _ _ _ => True) (fun _ U oc0 U' => ∃ v L, oc0 = .returned v ∧ Qos Z a h0 n0 v U'.heap L ∧ FrameEnd U oc0 U' L ({ frames := 1, cells := 0, slots := 0, locals := 12 } : Room).cells ({ frames := 1, cells := 0, slots := 0, locals := 12 } : Room).slots) := by
  refine MetFree.of_bodySF (plainFor_of_name pn_java_io_OutputStream) hisR ?_
  intro p e s m args below meth c s₁ Bd hml0 hP hK
  obtain ⟨rfl, hZ, hh⟩ := hP
  have hx := Bd.exec
  have hby := Bd.bytes
  have hml : c.maxLocals = 1 := hml0
  have hown : s.vm.findClass "java/io/OutputStream" = some m.cls := findClass_of_methodNamed Bd.named
  have hnm := (name_of_methodNamed Bd.named Bd.method).1
  have X0 : Stand p l e ({ frames := 1, cells := 0, slots := 0, locals := 12 } : Room) s m #[(.ref a)] below meth c s₁ [] 0 0 := Stand.of_body Bd
  have e0 : s₁.heap = h0 := by rw [← hh, Bd.state]; rfl
  have N0 := Fr.nil n0
  show Gl p e below s (Qos Z a h0 n0) ({ frames := 1, cells := 0, slots := 0, locals := 12 } : Room).cells ({ frames := 1, cells := 0, slots := 0, locals := 12 } : Room).slots (s₁.setTop (entryFrame m #[(.ref a)] 1))
  refine Gl.back (fun _ k => castTop (ef_os m a) k) ?_
  show Gl _ _ _ _ _ _ _ (s₁.setTop (mkF m 0 #[.val (.ref a)] []))
  refine Gl.back (fun _ k => XS.aloadN X0.here hx rfl (hb hby d5_0) rfl rfl k) ?_
  show Gl _ _ _ _ _ _ _ (s₁.setTop (mkF m 1 #[.val (.ref a)] [(.ref a)]))
  obtain ⟨T1, X1, e1, st1⟩ := initO X0 hx hZ hown (hw _ (List.mem_of_getElem? (i := 26) rfl)) (hw _ (List.mem_of_getElem? (i := 8) rfl)) (hw _ (List.mem_of_getElem? (i := 9) rfl)) e0 (g := (mkF m 1 #[.val (.ref a)] [(.ref a)])) rfl (by rw [hml]; rfl) rfl (hb hby d5_1) (by decide) (W := 0) (by show 2 * 0 + _ ≤ _; exact Nat.le_of_eq rfl) (by decide)
  refine Gl.back (fun _ k => st1 _ k) ?_
  show Gl _ _ _ _ _ _ _ (T1.setTop (mkF m 4 #[.val (.ref a)] []))
  exact Gl.ret X1 e1 (v := none) (fun _ => rfl) Bd.notSynchronized (fun fs hr => X1.returnOut hx Bd.returns (hb hby d5_4) hr) ⟨N0, rfl, rfl⟩ (by decide) (by decide)
theorem d4_0 : decode jdk_2005_method_2_code 0 = .ok (.aload_n 0, 1) := by decide +kernel
theorem d4_1 : decode jdk_2005_method_2_code 1 = .ok (.invokespecial 7, 3) := by decide +kernel
theorem pd___V : parseMethodDescriptor "()V" = some ⟨[], none⟩ := by decide +kernel
theorem d4_4 : decode jdk_2005_method_2_code 4 = .ok (.iload_n 1, 1) := by decide +kernel
theorem d4_5 : decode jdk_2005_method_2_code 5 = .ok (.ifCond .ge 30, 3) := by decide +kernel
theorem d4_35 : decode jdk_2005_method_2_code 35 = .ok (.aload_n 0, 1) := by decide +kernel
theorem d4_36 : decode jdk_2005_method_2_code 36 = .ok (.iload_n 1, 1) := by decide +kernel
theorem d4_37 : decode jdk_2005_method_2_code 37 = .ok (.newarray .byte, 2) := by decide +kernel
theorem d4_39 : decode jdk_2005_method_2_code 39 = .ok (.putfield 33, 3) := by decide +kernel
theorem d4_42 : decode jdk_2005_method_2_code 42 = .ok (.return_, 1) := by decide +kernel
theorem pn_java_io_ByteArrayOutputStream : plainName "java/io/ByteArrayOutputStream" = true := by first | (simp [plainName, overriddenIn]; done) | decide +kernel
theorem ef_bo1 (m : MethodId) (x0 : Addr) : entryFrame m #[(.ref x0), (.int (32 : Int32))] 2 = mkF m 0 #[.val (.ref x0), .val (.int (32 : Int32))] [] := by first | (simp [entryFrame, mkF, argsToLocals, Value.category]; done) | rfl
def Qbo1 (Z : State) (a : Addr) (h0 : Heap) (n0 : Nat) (v : Option Value) (h : Heap) (L : List Loc) : Prop := Fr n0 L ∧ (v = none ∧ Keep h0 h [a] ∧ ∃ (t : Addr) (k : ClassId) (vs : List Value), h0.size ≤ t ∧ n0 ≤ t ∧ Fld Z h a "java/io/ByteArrayOutputStream" "buf" "[B" (.ref t) ∧ Fld Z h a "java/io/ByteArrayOutputStream" "count" "I" (.int (0 : Int32)) ∧ Arv Z h t k .byte (32 : Int32) vs (.int (0 : Int32)) ∧ vs.length = 32 ∧ Unt h a)
set_option maxRecDepth 65536 in
set_option maxHeartbeats 40000000 in
theorem rmbo1 (l : Launch) (Z : State) (a0 : Array Value) (hw : ∀ d ∈ tables_1, d.before a0 Z = true) (ws : List Jvm.Cond) (a : Addr) (h0 : Heap) (n0 : Nat) (Z0 : n0 ≤ h0.size) (g_a : n0 ≤ a) (E_a : Exa Z h0 a "java/io/ByteArrayOutputStream") (F_buf : Fld Z h0 a "java/io/ByteArrayOutputStream" "buf" "[B" .null) (F_count : Fld Z h0 a "java/io/ByteArrayOutputStream" "count" "I" (.int 0)) (U_a : Unt h0 a) :
    MetFree l (⟨"java/io/ByteArrayOutputStream", "<init>", "(I)V"⟩ : MethodName) (head1 (Jvm.Cond.code (⟨"java/io/ByteArrayOutputStream", "<init>", "(I)V"⟩ : MethodName) jdk_2005_method_2_code 2 none :: ws) ({ frames := 2, cells := 1, slots := 32, locals := 24 } : Room)) (fun as0 U => as0 = #[(.ref a), (.int (32 : Int32))] ∧ Z.Warmed39 U.vm ∧ U.heap = h0) (fun _ _ _ _ _ => True) (fun _ U oc0 U' => ∃ v L, oc0 = .returned v ∧ Qbo1 Z a h0 n0 v U'.heap L ∧ FrameEnd U oc0 U' L ({ frames := 2, cells := 1, slots := 32, locals := 24 } : Room).cells ({ frames := 2, cells := 1, slots := 32, locals := 24 } : Room).slots) := by
  refine MetFree.of_bodySF (plainFor_of_name pn_java_io_ByteArrayOutputStream) hisR ?_
  intro p e s m args below meth c s₁ Bd hml0 hP hK
  obtain ⟨rfl, hZ, hh⟩ := hP
  have hx := Bd.exec
  have hby := Bd.bytes
  have hml : c.maxLocals = 2 := hml0
  have hown : s.vm.findClass "java/io/ByteArrayOutputStream" = some m.cls := findClass_of_methodNamed Bd.named
  have hnm := (name_of_methodNamed Bd.named Bd.method).1
  have X0 : Stand p l e ({ frames := 2, cells := 1, slots := 32, locals := 24 } : Room) s m #[(.ref a), (.int (32 : Int32))] below meth c s₁ [] 0 0 := Stand.of_body Bd
  have e0 : s₁.heap = h0 := by rw [← hh, Bd.state]; rfl
  have N0 := Fr.nil n0
  show Gl p e below s (Qbo1 Z a h0 n0) ({ frames := 2, cells := 1, slots := 32, locals := 24 } : Room).cells ({ frames := 2, cells := 1, slots := 32, locals := 24 } : Room).slots (s₁.setTop (entryFrame m #[(.ref a), (.int (32 : Int32))] 2))
  refine Gl.back (fun _ k => castTop (ef_bo1 m a) k) ?_
  show Gl _ _ _ _ _ _ _ (s₁.setTop (mkF m 0 #[.val (.ref a), .val (.int (32 : Int32))] []))
  refine Gl.back (fun _ k => XS.aloadN X0.here hx rfl (hb hby d4_0) rfl rfl k) ?_
  show Gl _ _ _ _ _ _ _ (s₁.setTop (mkF m 1 #[.val (.ref a), .val (.int (32 : Int32))] [(.ref a)]))
  obtain ⟨_, _, ⟨T2, L2, k2, n2⟩, -, X2, ⟨Lc2, hQ2, l2, y2, z2⟩, st2⟩ := X0.specialBack hx (y := (⟨"java/io/OutputStream", "<init>", "()V"⟩ : MethodName)) rfl hown (mvT hZ (hw _ (List.mem_of_getElem? (i := 20) rfl))) (mvT hZ (hw _ (List.mem_of_getElem? (i := 21) rfl))) (mvT hZ (hw _ (List.mem_of_getElem? (i := 25) rfl))) (by decide) (backOf (W := 0) (rmos l Z a0 hw [] a  h0 n0 Z0 ) hZ (hw _ (List.mem_of_getElem? (i := 25) rfl)) (hw _ (List.mem_of_getElem? (i := 24) rfl)) (by decide) (by decide)) (g := (mkF m 1 #[.val (.ref a), .val (.int (32 : Int32))] [(.ref a)])) rfl (by rw [hml]; rfl) (Steps.refl _) (a := a) (argsL := []) (rest := []) (lenOf pd___V rfl) rfl (by show 2 * 0 + _ ≤ _; exact Nat.le_of_eq rfl) (hb hby d4_1) (fun _ _ => ⟨rfl, e0, (by decide : 0 + 0 ≤ _), (by decide : 0 + 0 ≤ _)⟩)
  dsimp only [Pt.U, Pt.locs, Pt.cells, Pt.slots] at X2 l2 y2 z2 st2 hQ2
  replace l2 := Eq.symm l2
  replace y2 := Eq.symm y2
  replace z2 := Eq.symm z2
  subst l2 y2 z2
  obtain ⟨Nq2, rfl, eh2⟩ := hQ2
  have N2 := Fr.app N0 Nq2
  refine Gl.back (fun _ k => st2.trans k) ?_
  show Gl _ _ _ _ _ _ _ (T2.setTop (mkF m 4 #[.val (.ref a), .val (.int (32 : Int32))] []))
  refine Gl.back (fun _ k => XS.iloadN X2.here hx rfl (hb hby d4_4) rfl k) ?_
  show Gl _ _ _ _ _ _ _ (T2.setTop (mkF m 5 #[.val (.ref a), .val (.int (32 : Int32))] [(.int (32 : Int32))]))
  refine Gl.back (fun _ k => XS.ifYes X2.here hx rfl (pc0 := 5) (pc' := 35) rfl (hb hby d4_5) rfl ((if0 _ _).trans (flt (by decide : ¬ (32 : Int32) < (0 : Int32))).2.1) (by decide) (by decide) k) ?_
  show Gl _ _ _ _ _ _ _ (T2.setTop (mkF m 35 #[.val (.ref a), .val (.int (32 : Int32))] []))
  refine Gl.back (fun _ k => XS.aloadN X2.here hx rfl (hb hby d4_35) rfl rfl k) ?_
  show Gl _ _ _ _ _ _ _ (T2.setTop (mkF m 36 #[.val (.ref a), .val (.int (32 : Int32))] [(.ref a)]))
  refine Gl.back (fun _ k => XS.iloadN X2.here hx rfl (hb hby d4_36) rfl k) ?_
  show Gl _ _ _ _ _ _ _ (T2.setTop (mkF m 37 #[.val (.ref a), .val (.int (32 : Int32))] [(.int (32 : Int32)), (.ref a)]))
  obtain ⟨T3, h3, k3, X3, e3, E3, A3, st3⟩ := newP X2 hx hZ (hw _ (List.mem_of_getElem? (i := 27) rfl)) eh2 (g := (mkF m 37 #[.val (.ref a), .val (.int (32 : Int32))] [(.int (32 : Int32)), (.ref a)])) rfl (hb hby d4_37) rfl (by decide) (cap := 32) (by decide) (by decide) (by decide) (by decide)
  obtain ⟨b3, g3⟩ : ∃ z, z = h0.size := ⟨_, rfl⟩
  rw [← g3] at A3 st3
  have V3 : Arv Z h3 b3 k3 .byte (32 : Int32) [(.int (0 : Int32)), (.int (0 : Int32)), (.int (0 : Int32)), (.int (0 : Int32)), (.int (0 : Int32)), (.int (0 : Int32)), (.int (0 : Int32)), (.int (0 : Int32)), (.int (0 : Int32)), (.int (0 : Int32)), (.int (0 : Int32)), (.int (0 : Int32)), (.int (0 : Int32)), (.int (0 : Int32)), (.int (0 : Int32)), (.int (0 : Int32)), (.int (0 : Int32)), (.int (0 : Int32)), (.int (0 : Int32)), (.int (0 : Int32)), (.int (0 : Int32)), (.int (0 : Int32)), (.int (0 : Int32)), (.int (0 : Int32)), (.int (0 : Int32)), (.int (0 : Int32)), (.int (0 : Int32)), (.int (0 : Int32)), (.int (0 : Int32)), (.int (0 : Int32)), (.int (0 : Int32)), (.int (0 : Int32))] (.int (0 : Int32)) := (Arv.new A3 (by decide)).pad (pad_rep [] (.int (0 : Int32)) 32)
  have ne_a_b3 : a ≠ b3 := Nat.ne_of_lt (Nat.lt_of_lt_of_le E_a.lt (Nat.le_of_eq g3.symm))
  have g_b3 : n0 ≤ b3 := Nat.le_trans Z0 (Nat.le_of_eq g3.symm)
  have sz_b3 : h0.size ≤ b3 := Nat.le_trans (Keep.refl h0 [a]).1 (Nat.le_of_eq g3.symm)
  have Z3 : n0 ≤ h3.size := Nat.le_trans Z0 E3.1
  have K3 := Keep.ext (Keep.refl h0 [a]) E3
  refine Gl.back (fun _ k => st3 _ k) ?_
  show Gl _ _ _ _ _ _ _ (T3.setTop (mkF m 39 #[.val (.ref a), .val (.int (32 : Int32))] [(.ref b3), (.ref a)]))
  have f4 := (E_a.ext E3)
  have f5 := (F_buf.ext E3)
  obtain ⟨T6, h6, X6, e6, W6, st6⟩ := putF X3 hx hZ hown (host := "") (Or.inl (hw _ (List.mem_of_getElem? (i := 28) rfl))) Via.refl e3 f5 f4 (Or.inl (hw _ (List.mem_of_getElem? (i := 29) rfl))) (hw _ (List.mem_of_getElem? (i := 11) rfl)) (ty := (.array .byte)) (by decide) rfl rfl (g := (mkF m 39 #[.val (.ref a), .val (.int (32 : Int32))] [(.ref b3), (.ref a)])) rfl rfl (hb hby d4_39)
  have Fw6 := f5.same W6
  have K6 := Keep.wr K3 W6 (Or.inl (List.mem_of_getElem? (i := 0) rfl))
  have Z6 : n0 ≤ h6.size := Nat.le_trans Z3 (Keep.of_wr W6).1
  have N6 := Fr.snoc X6 N2 g_a
  refine Gl.back (fun _ k => st6 _ k) ?_
  show Gl _ _ _ _ _ _ _ (T6.setTop (mkF m 42 #[.val (.ref a), .val (.int (32 : Int32))] []))
  have f7 := ((F_count.ext E3).other W6 (Or.inr (slot_ne (Or.inl (hw _ (List.mem_of_getElem? (i := 44) rfl))) (Or.inl (hw _ (List.mem_of_getElem? (i := 29) rfl))) (by decide) (t := .int) (t' := (.array .byte)) (by decide) (by decide))))
  have f8 := (V3.other W6 (Ne.symm ne_a_b3))
  have f9 := (own_unt_wr (own_unt_ext U_a E3) W6)
  exact Gl.ret X6 e6 (v := none) (fun _ => rfl) Bd.notSynchronized (fun fs hr => X6.returnOut hx Bd.returns (hb hby d4_42) hr) ⟨N6, rfl, K6, b3, k3, _, sz_b3, g_b3, Fw6, f7, f8, rfl, f9⟩ (by decide) (by decide)
theorem d3_0 : decode jdk_2005_method_1_code 0 = .ok (.aload_n 0, 1) := by decide +kernel
theorem d3_1 : decode jdk_2005_method_1_code 1 = .ok (.bipush 32, 2) := by decide +kernel
theorem d3_3 : decode jdk_2005_method_1_code 3 = .ok (.invokespecial 1, 3) := by decide +kernel
theorem pd__I_V : parseMethodDescriptor "(I)V" = some ⟨[.int], none⟩ := by decide +kernel
theorem d3_6 : decode jdk_2005_method_1_code 6 = .ok (.return_, 1) := by decide +kernel
theorem ef_bo0 (m : MethodId) (x0 : Addr) : entryFrame m #[(.ref x0)] 1 = mkF m 0 #[.val (.ref x0)] [] := by first | (simp [entryFrame, mkF, argsToLocals, Value.category]; done) | rfl
def Qbo0 (Z : State) (a : Addr) (h0 : Heap) (n0 : Nat) (v : Option Value) (h : Heap) (L : List Loc) : Prop := Fr n0 L ∧ (v = none ∧ Keep h0 h [a] ∧ ∃ (t : Addr) (k : ClassId) (vs : List Value), h0.size ≤ t ∧ n0 ≤ t ∧ Fld Z h a "java/io/ByteArrayOutputStream" "buf" "[B" (.ref t) ∧ Fld Z h a "java/io/ByteArrayOutputStream" "count" "I" (.int (0 : Int32)) ∧ Arv Z h t k .byte (32 : Int32) vs (.int (0 : Int32)) ∧ vs.length = 32 ∧ Unt h a)
set_option maxRecDepth 65536 in
set_option maxHeartbeats 40000000 in
theorem rmbo0 (l : Launch) (Z : State) (a0 : Array Value) (hw : ∀ d ∈ tables_1, d.before a0 Z = true) (ws : List Jvm.Cond) (a : Addr) (h0 : Heap) (n0 : Nat) (Z0 : n0 ≤ h0.size) (g_a : n0 ≤ a) (E_a : Exa Z h0 a "java/io/ByteArrayOutputStream") (F_buf : Fld Z h0 a "java/io/ByteArrayOutputStream" "buf" "[B" .null) (F_count : Fld Z h0 a "java/io/ByteArrayOutputStream" "count" "I" (.int 0)) (U_a : Unt h0 a) :
    MetFree l (⟨"java/io/ByteArrayOutputStream", "<init>", "()V"⟩ : MethodName) (head1 (Jvm.Cond.code (⟨"java/io/ByteArrayOutputStream", "<init>", "()V"⟩ : MethodName) jdk_2005_method_1_code 1 none :: ws) ({ frames := 3, cells := 1, slots := 32, locals := 37 } : Room)) (fun as0 U => as0 = #[(.ref a)] ∧ Z.Warmed39 U.vm ∧ U.heap = h0) (fun _ _ _ _ _ => True) (fun _ U oc0 U' => ∃ v L, oc0 = .returned v ∧ Qbo0 Z a h0 n0 v U'.heap L ∧ FrameEnd U oc0 U' L ({ frames := 3, cells := 1, slots := 32, locals := 37 } : Room).cells ({ frames := 3, cells := 1, slots := 32, locals := 37 } : Room).slots) := by
  refine MetFree.of_bodySF (plainFor_of_name pn_java_io_ByteArrayOutputStream) hisR ?_
  intro p e s m args below meth c s₁ Bd hml0 hP hK
  obtain ⟨rfl, hZ, hh⟩ := hP
  have hx := Bd.exec
  have hby := Bd.bytes
  have hml : c.maxLocals = 1 := hml0
  have hown : s.vm.findClass "java/io/ByteArrayOutputStream" = some m.cls := findClass_of_methodNamed Bd.named
  have hnm := (name_of_methodNamed Bd.named Bd.method).1
  have X0 : Stand p l e ({ frames := 3, cells := 1, slots := 32, locals := 37 } : Room) s m #[(.ref a)] below meth c s₁ [] 0 0 := Stand.of_body Bd
  have e0 : s₁.heap = h0 := by rw [← hh, Bd.state]; rfl
  have N0 := Fr.nil n0
  show Gl p e below s (Qbo0 Z a h0 n0) ({ frames := 3, cells := 1, slots := 32, locals := 37 } : Room).cells ({ frames := 3, cells := 1, slots := 32, locals := 37 } : Room).slots (s₁.setTop (entryFrame m #[(.ref a)] 1))
  refine Gl.back (fun _ k => castTop (ef_bo0 m a) k) ?_
  show Gl _ _ _ _ _ _ _ (s₁.setTop (mkF m 0 #[.val (.ref a)] []))
  refine Gl.back (fun _ k => XS.aloadN X0.here hx rfl (hb hby d3_0) rfl rfl k) ?_
  show Gl _ _ _ _ _ _ _ (s₁.setTop (mkF m 1 #[.val (.ref a)] [(.ref a)]))
  refine Gl.back (fun _ k => XS.bipush X0.here hx rfl (hb hby d3_1) k) ?_
  show Gl _ _ _ _ _ _ _ (s₁.setTop (mkF m 3 #[.val (.ref a)] [(.int (32 : Int32)), (.ref a)]))
  obtain ⟨_, _, ⟨T10, L10, k10, n10⟩, -, X10, ⟨Lc10, hQ10, l10, y10, z10⟩, st10⟩ := X0.specialBack hx (y := (⟨"java/io/ByteArrayOutputStream", "<init>", "(I)V"⟩ : MethodName)) rfl hown (mvT hZ (hw _ (List.mem_of_getElem? (i := 16) rfl))) (mvT hZ (hw _ (List.mem_of_getElem? (i := 17) rfl))) (mvT hZ (hw _ (List.mem_of_getElem? (i := 19) rfl))) (by decide) (backOf (W := 0) (rmbo1 l Z a0 hw [] a  h0 n0 Z0 g_a E_a F_buf F_count U_a) hZ (hw _ (List.mem_of_getElem? (i := 19) rfl)) (hw _ (List.mem_of_getElem? (i := 12) rfl)) (by decide) (by decide)) (g := (mkF m 3 #[.val (.ref a)] [(.int (32 : Int32)), (.ref a)])) rfl (by rw [hml]; rfl) (Steps.refl _) (a := a) (argsL := [(.int (32 : Int32))]) (rest := []) (lenOf pd__I_V rfl) rfl (by show 2 * 0 + _ ≤ _; exact Nat.le_of_eq rfl) (hb hby d3_3) (fun _ _ => ⟨rfl, e0, (by decide : 0 + 1 ≤ _), (by decide : 0 + 32 ≤ _)⟩)
  dsimp only [Pt.U, Pt.locs, Pt.cells, Pt.slots] at X10 l10 y10 z10 st10 hQ10
  replace l10 := Eq.symm l10
  replace y10 := Eq.symm y10
  replace z10 := Eq.symm z10
  subst l10 y10 z10
  obtain ⟨Nq10, rfl, Kq10, t10, k010, vs10, Sz10, Gz10, Fb10, Fc10, V10, hl10, Uq10⟩ := hQ10
  have N10 := Fr.app N0 Nq10
  have Kc10 := Keep.trans (Keep.refl h0 [a]) Kq10 (allS (Or.inl (List.mem_of_getElem? (i := 0) rfl)) all0)
  have Zc10 : n0 ≤ T10.heap.size := Nat.le_trans Z0 Kq10.1
  have ne_a_t10 : a ≠ t10 := Nat.ne_of_lt (Nat.lt_of_lt_of_le (E_a).lt Sz10)
  have sz_t10 : h0.size ≤ t10 := Nat.le_trans (Keep.refl h0 [a]).1 Sz10
  refine Gl.back (fun _ k => st10.trans k) ?_
  show Gl _ _ _ _ _ _ _ (T10.setTop (mkF m 6 #[.val (.ref a)] []))
  exact Gl.ret X10 rfl (v := none) (fun _ => rfl) Bd.notSynchronized (fun fs hr => X10.returnOut hx Bd.returns (hb hby d3_6) hr) ⟨N10, rfl, Kc10, t10, k010, vs10, sz_t10, Gz10, Fb10, Fc10, V10, hl10, Uq10⟩ (by decide) (by decide)
theorem d1_0 : decode prog_129_method_1_code 0 = .ok (.aload_n 0, 1) := by decide +kernel
theorem d1_1 : decode prog_129_method_1_code 1 = .ok (.invokespecial 3, 3) := by decide +kernel
theorem d1_4 : decode prog_129_method_1_code 4 = .ok (.aload_n 0, 1) := by decide +kernel
theorem d1_5 : decode prog_129_method_1_code 5 = .ok (.new 9, 3) := by decide +kernel
theorem d1_8 : decode prog_129_method_1_code 8 = .ok (.dup, 1) := by decide +kernel
theorem d1_9 : decode prog_129_method_1_code 9 = .ok (.invokespecial 11, 3) := by decide +kernel
theorem d1_12 : decode prog_129_method_1_code 12 = .ok (.putfield 12, 3) := by decide +kernel
theorem d1_15 : decode prog_129_method_1_code 15 = .ok (.return_, 1) := by decide +kernel
theorem pn_com_example_harbourlink_harbourlink_scratch_Packing_Writer : plainName "com/example/harbourlink/harbourlink/scratch/Packing$Writer" = true := by first | (simp [plainName, overriddenIn]; done) | decide +kernel
theorem ef_wi (m : MethodId) (x0 : Addr) : entryFrame m #[(.ref x0)] 1 = mkF m 0 #[.val (.ref x0)] [] := by first | (simp [entryFrame, mkF, argsToLocals, Value.category]; done) | rfl
def Qwi (Z : State) (a : Addr) (h0 : Heap) (n0 : Nat) (v : Option Value) (h : Heap) (L : List Loc) : Prop := Fr n0 L ∧ (v = none ∧ Keep h0 h [a] ∧ ∃ (o t : Addr) (k : ClassId) (vs : List Value), h0.size ≤ o ∧ n0 ≤ o ∧ h0.size ≤ t ∧ n0 ≤ t ∧ o ≠ t ∧ Fld Z h a "com/example/harbourlink/harbourlink/scratch/Packing$Writer" "packed" "Ljava/io/ByteArrayOutputStream;" (.ref o) ∧ Exa Z h o "java/io/ByteArrayOutputStream" ∧ Fld Z h o "java/io/ByteArrayOutputStream" "buf" "[B" (.ref t) ∧ Fld Z h o "java/io/ByteArrayOutputStream" "count" "I" (.int (0 : Int32)) ∧ Arv Z h t k .byte (32 : Int32) vs (.int (0 : Int32)) ∧ vs.length = 32 ∧ Unt h o)
set_option maxRecDepth 65536 in
set_option maxHeartbeats 40000000 in
theorem rmwi (l : Launch) (Z : State) (a0 : Array Value) (hw : ∀ d ∈ tables_1, d.before a0 Z = true) (ws : List Jvm.Cond) (a : Addr) (h0 : Heap) (n0 : Nat) (Z0 : n0 ≤ h0.size) (g_a : n0 ≤ a) (E_a : Exa Z h0 a "com/example/harbourlink/harbourlink/scratch/Packing$Writer") (F_p : Fld Z h0 a "com/example/harbourlink/harbourlink/scratch/Packing$Writer" "packed" "Ljava/io/ByteArrayOutputStream;" .null) :
    MetFree l (⟨"com/example/harbourlink/harbourlink/scratch/Packing$Writer", "<init>", "()V"⟩ : MethodName) (head1 (Jvm.Cond.code (⟨"com/example/harbourlink/harbourlink/scratch/Packing$Writer", "<init>", "()V"⟩ : MethodName) prog_129_method_1_code 1 none :: ws) ({ frames := 4, cells := 2, slots := 34, locals := 51 } : Room)) (fun as0 U => as0 = #[(.ref a)] ∧ Z.Warmed39 U.vm ∧ U.heap = h0) (fun _ _ _ _ _ => True) (fun _ U oc0 U' => ∃ v L, oc0 = .returned v ∧ Qwi Z a h0 n0 v U'.heap L ∧ FrameEnd U oc0 U' L ({ frames := 4, cells := 2, slots := 34, locals := 51 } : Room).cells ({ frames := 4, cells := 2, slots := 34, locals := 51 } : Room).slots) := by
  refine MetFree.of_bodySF (plainFor_of_name pn_com_example_harbourlink_harbourlink_scratch_Packing_Writer) hisR ?_
  intro p e s m args below meth c s₁ Bd hml0 hP hK
  obtain ⟨rfl, hZ, hh⟩ := hP
  have hx := Bd.exec
  have hby := Bd.bytes
  have hml : c.maxLocals = 1 := hml0
  have hown : s.vm.findClass "com/example/harbourlink/harbourlink/scratch/Packing$Writer" = some m.cls := findClass_of_methodNamed Bd.named
  have hnm := (name_of_methodNamed Bd.named Bd.method).1
  have X0 : Stand p l e ({ frames := 4, cells := 2, slots := 34, locals := 51 } : Room) s m #[(.ref a)] below meth c s₁ [] 0 0 := Stand.of_body Bd
  have e0 : s₁.heap = h0 := by rw [← hh, Bd.state]; rfl
  have N0 := Fr.nil n0
  show Gl p e below s (Qwi Z a h0 n0) ({ frames := 4, cells := 2, slots := 34, locals := 51 } : Room).cells ({ frames := 4, cells := 2, slots := 34, locals := 51 } : Room).slots (s₁.setTop (entryFrame m #[(.ref a)] 1))
  refine Gl.back (fun _ k => castTop (ef_wi m a) k) ?_
  show Gl _ _ _ _ _ _ _ (s₁.setTop (mkF m 0 #[.val (.ref a)] []))
  refine Gl.back (fun _ k => XS.aloadN X0.here hx rfl (hb hby d1_0) rfl rfl k) ?_
  show Gl _ _ _ _ _ _ _ (s₁.setTop (mkF m 1 #[.val (.ref a)] [(.ref a)]))
  obtain ⟨T11, X11, e11, st11⟩ := initO X0 hx hZ hown (hw _ (List.mem_of_getElem? (i := 7) rfl)) (hw _ (List.mem_of_getElem? (i := 8) rfl)) (hw _ (List.mem_of_getElem? (i := 9) rfl)) e0 (g := (mkF m 1 #[.val (.ref a)] [(.ref a)])) rfl (by rw [hml]; rfl) rfl (hb hby d1_1) (by decide) (W := 0) (by show 2 * 0 + _ ≤ _; exact Nat.le_of_eq rfl) (by decide)
  refine Gl.back (fun _ k => st11 _ k) ?_
  show Gl _ _ _ _ _ _ _ (T11.setTop (mkF m 4 #[.val (.ref a)] []))
  refine Gl.back (fun _ k => XS.aloadN X11.here hx rfl (hb hby d1_4) rfl rfl k) ?_
  show Gl _ _ _ _ _ _ _ (T11.setTop (mkF m 5 #[.val (.ref a)] [(.ref a)]))
  obtain ⟨T12, h12, X12, e12, E12, A12, D12, U12, st12⟩ := newO X11 hx hZ hown (hw _ (List.mem_of_getElem? (i := 10) rfl)) (hw _ (List.mem_of_getElem? (i := 11) rfl)) (hw _ (List.mem_of_getElem? (i := 12) rfl)) e11 (g := (mkF m 5 #[.val (.ref a)] [(.ref a)])) rfl (hb hby d1_5) (by decide) (by decide)
  obtain ⟨b12, g12⟩ : ∃ z, z = h0.size := ⟨_, rfl⟩
  rw [← g12] at A12 D12 st12
  have Un12 : Unt h12 b12 := by rw [g12]; exact U12
  have ne_a_b12 : a ≠ b12 := Nat.ne_of_lt (Nat.lt_of_lt_of_le E_a.lt (Nat.le_of_eq g12.symm))
  have g_b12 : n0 ≤ b12 := Nat.le_trans Z0 (Nat.le_of_eq g12.symm)
  have sz_b12 : h0.size ≤ b12 := Nat.le_trans (Keep.refl h0 [a]).1 (Nat.le_of_eq g12.symm)
  have Z12 : n0 ≤ h12.size := Nat.le_trans Z0 E12.1
  have K12 := Keep.ext (Keep.refl h0 [a]) E12
  have F12_buf : Fld Z h12 b12 "java/io/ByteArrayOutputStream" "buf" "[B" .null := D12 (Or.inl (hw _ (List.mem_of_getElem? (i := 29) rfl))) (ty := (.array .byte)) (by decide)
  have F12_count : Fld Z h12 b12 "java/io/ByteArrayOutputStream" "count" "I" (.int (0 : Int32)) := D12 (Or.inl (hw _ (List.mem_of_getElem? (i := 44) rfl))) (ty := .int) (by decide)
  refine Gl.back (fun _ k => st12 _ k) ?_
  show Gl _ _ _ _ _ _ _ (T12.setTop (mkF m 8 #[.val (.ref a)] [(.ref b12), (.ref a)]))
  refine Gl.back (fun _ k => XS.dup X12.here hx rfl (hb hby d1_8) rfl rfl k) ?_
  show Gl _ _ _ _ _ _ _ (T12.setTop (mkF m 9 #[.val (.ref a)] [(.ref b12), (.ref b12), (.ref a)]))
  have f14 := (E_a.ext E12)
  obtain ⟨_, _, ⟨T13, L13, k13, n13⟩, -, X13, ⟨Lc13, hQ13, l13, y13, z13⟩, st13⟩ := X12.specialBack hx (y := (⟨"java/io/ByteArrayOutputStream", "<init>", "()V"⟩ : MethodName)) rfl hown (mvT hZ (hw _ (List.mem_of_getElem? (i := 13) rfl))) (mvT hZ (hw _ (List.mem_of_getElem? (i := 14) rfl))) (mvT hZ (hw _ (List.mem_of_getElem? (i := 15) rfl))) (by decide) (backOf (W := 2) (rmbo0 l Z a0 hw [] b12  h12 n0 Z12 g_b12 A12 F12_buf F12_count Un12) hZ (hw _ (List.mem_of_getElem? (i := 15) rfl)) (hw _ (List.mem_of_getElem? (i := 12) rfl)) (by decide) (by decide)) (g := (mkF m 9 #[.val (.ref a)] [(.ref b12), (.ref b12), (.ref a)])) rfl (by rw [hml]; rfl) (Steps.refl _) (a := b12) (argsL := []) (rest := [(.ref b12), (.ref a)]) (lenOf pd___V rfl) rfl (by show 2 * 0 + _ ≤ _; exact Nat.le_of_eq rfl) (hb hby d1_9) (fun _ _ => ⟨rfl, e12, (by decide : 1 + 1 ≤ _), (by decide : 2 + 32 ≤ _)⟩)
  dsimp only [Pt.U, Pt.locs, Pt.cells, Pt.slots] at X13 l13 y13 z13 st13 hQ13
  replace l13 := Eq.symm l13
  replace y13 := Eq.symm y13
  replace z13 := Eq.symm z13
  subst l13 y13 z13
  obtain ⟨Nq13, rfl, Kq13, t13, k013, vs13, Sz13, Gz13, Fb13, Fc13, V13, hl13, Uq13⟩ := hQ13
  have N13 := Fr.app N0 Nq13
  have Kc13 := Keep.trans K12 Kq13 (allS (Or.inr sz_b12) all0)
  have Zc13 : n0 ≤ T13.heap.size := Nat.le_trans Z12 Kq13.1
  have ne_a_t13 : a ≠ t13 := Nat.ne_of_lt (Nat.lt_of_lt_of_le (f14).lt Sz13)
  have ne_b12_t13 : b12 ≠ t13 := Nat.ne_of_lt (Nat.lt_of_lt_of_le (A12).lt Sz13)
  have sz_t13 : h0.size ≤ t13 := Nat.le_trans K12.1 Sz13
  refine Gl.back (fun _ k => st13.trans k) ?_
  show Gl _ _ _ _ _ _ _ (T13.setTop (mkF m 12 #[.val (.ref a)] [(.ref b12), (.ref a)]))
  have f15 := (f14.keep Kq13)
  have f16 := ((F_p.ext E12).keep Kq13 (ninS ne_a_b12 nin0))
  obtain ⟨T17, h17, X17, e17, W17, st17⟩ := putF X13 hx hZ hown (host := "") (Or.inl (hw _ (List.mem_of_getElem? (i := 30) rfl))) Via.refl rfl f16 f15 (Or.inr ⟨(hw _ (List.mem_of_getElem? (i := 31) rfl)), rfl, hnm⟩) (hw _ (List.mem_of_getElem? (i := 2) rfl)) (ty := (.object "java/io/ByteArrayOutputStream")) (by decide) rfl rfl (g := (mkF m 12 #[.val (.ref a)] [(.ref b12), (.ref a)])) rfl rfl (hb hby d1_12)
  have Fw17 := f16.same W17
  have K17 := Keep.wr Kc13 W17 (Or.inl (List.mem_of_getElem? (i := 0) rfl))
  have Z17 : n0 ≤ h17.size := Nat.le_trans Zc13 (Keep.of_wr W17).1
  have N17 := Fr.snoc X17 N13 g_a
  refine Gl.back (fun _ k => st17 _ k) ?_
  show Gl _ _ _ _ _ _ _ (T17.setTop (mkF m 15 #[.val (.ref a)] []))
  have f18 := ((A12.keep Kq13).wr W17)
  have f19 := (Fb13.other W17 (Or.inl (Ne.symm ne_a_b12)))
  have f20 := (Fc13.other W17 (Or.inl (Ne.symm ne_a_b12)))
  have f21 := (V13.other W17 (Ne.symm ne_a_t13))
  have f22 := (own_unt_wr Uq13 W17)
  exact Gl.ret X17 e17 (v := none) (fun _ => rfl) Bd.notSynchronized (fun fs hr => X17.returnOut hx Bd.returns (hb hby d1_15) hr) ⟨N17, rfl, K17, b12, t13, k013, vs13, sz_b12, g_b12, sz_t13, Gz13, ne_b12_t13, Fw17, f18, f19, f20, f21, hl13, f22⟩ (by decide) (by decide)
theorem d8_0 : decode jdk_2005_method_3_code 0 = .ok (.aload_n 0, 1) := by decide +kernel
theorem d8_1 : decode jdk_2005_method_3_code 1 = .ok (.getfield 33, 3) := by decide +kernel
theorem d8_4 : decode jdk_2005_method_3_code 4 = .ok (.arraylength, 1) := by decide +kernel
theorem d8_5 : decode jdk_2005_method_3_code 5 = .ok (.istore_n 2, 1) := by decide +kernel
theorem d8_6 : decode jdk_2005_method_3_code 6 = .ok (.iload_n 1, 1) := by decide +kernel
theorem d8_7 : decode jdk_2005_method_3_code 7 = .ok (.iload_n 2, 1) := by decide +kernel
theorem d8_8 : decode jdk_2005_method_3_code 8 = .ok (.isub, 1) := by decide +kernel
theorem d8_9 : decode jdk_2005_method_3_code 9 = .ok (.istore_n 3, 1) := by decide +kernel
theorem d8_10 : decode jdk_2005_method_3_code 10 = .ok (.iload_n 3, 1) := by decide +kernel
theorem d8_11 : decode jdk_2005_method_3_code 11 = .ok (.ifCond .le 20, 3) := by decide +kernel
theorem d8_31 : decode jdk_2005_method_3_code 31 = .ok (.return_, 1) := by decide +kernel
theorem ef_ens (m : MethodId) (x0 : Addr) (x1 : Int32) : entryFrame m #[(.ref x0), (.int x1)] 4 = mkF m 0 #[.val (.ref x0), .val (.int x1), .unset, .unset] [] := by first | (simp [entryFrame, mkF, argsToLocals, Value.category]; done) | rfl
def Qens (Z : State) (a : Addr) (cc : Int32) (t : Addr) (k_t : ClassId) (vs : List Value) (h0 : Heap) (n0 : Nat) (v : Option Value) (h : Heap) (L : List Loc) : Prop := Fr n0 L ∧ (v = none ∧ h = h0)
set_option maxRecDepth 65536 in
set_option maxHeartbeats 40000000 in
theorem rmens (l : Launch) (Z : State) (a0 : Array Value) (hw : ∀ d ∈ tables_1, d.before a0 Z = true) (ws : List Jvm.Cond) (a : Addr) (cc : Int32) (t : Addr) (k_t : ClassId) (vs : List Value) (h0 : Heap) (n0 : Nat) (Z0 : n0 ≤ h0.size) (F_buf : Fld Z h0 a "java/io/ByteArrayOutputStream" "buf" "[B" (.ref t)) (V_t : Arv Z h0 t k_t .byte (32 : Int32) vs (.int (0 : Int32))) (hc : ¬ (0 : Int32) < (cc - (32 : Int32))) :
    MetFree l (⟨"java/io/ByteArrayOutputStream", "ensureCapacity", "(I)V"⟩ : MethodName) (head1 (Jvm.Cond.code (⟨"java/io/ByteArrayOutputStream", "ensureCapacity", "(I)V"⟩ : MethodName) jdk_2005_method_3_code 4 none :: ws) ({ frames := 0, cells := 0, slots := 0, locals := 0 } : Room)) (fun as0 U => as0 = #[(.ref a), (.int cc)] ∧ Z.Warmed39 U.vm ∧ U.heap = h0) (fun _ _ _ _ _ => True) (fun _ U oc0 U' => ∃ v L, oc0 = .returned v ∧ Qens Z a cc t k_t vs h0 n0 v U'.heap L ∧ FrameEnd U oc0 U' L ({ frames := 0, cells := 0, slots := 0, locals := 0 } : Room).cells ({ frames := 0, cells := 0, slots := 0, locals := 0 } : Room).slots) := by
  refine MetFree.of_bodySF (plainFor_of_name pn_java_io_ByteArrayOutputStream) hisR ?_
  intro p e s m args below meth c s₁ Bd hml0 hP hK
  obtain ⟨rfl, hZ, hh⟩ := hP
  have hx := Bd.exec
  have hby := Bd.bytes
  have hml : c.maxLocals = 4 := hml0
  have hown : s.vm.findClass "java/io/ByteArrayOutputStream" = some m.cls := findClass_of_methodNamed Bd.named
  have hnm := (name_of_methodNamed Bd.named Bd.method).1
  have X0 : Stand p l e ({ frames := 0, cells := 0, slots := 0, locals := 0 } : Room) s m #[(.ref a), (.int cc)] below meth c s₁ [] 0 0 := Stand.of_body Bd
  have e0 : s₁.heap = h0 := by rw [← hh, Bd.state]; rfl
  have N0 := Fr.nil n0
  show Gl p e below s (Qens Z a cc t k_t vs h0 n0) ({ frames := 0, cells := 0, slots := 0, locals := 0 } : Room).cells ({ frames := 0, cells := 0, slots := 0, locals := 0 } : Room).slots (s₁.setTop (entryFrame m #[(.ref a), (.int cc)] 4))
  refine Gl.back (fun _ k => castTop (ef_ens m a cc) k) ?_
  show Gl _ _ _ _ _ _ _ (s₁.setTop (mkF m 0 #[.val (.ref a), .val (.int cc), .unset, .unset] []))
  refine Gl.back (fun _ k => XS.aloadN X0.here hx rfl (hb hby d8_0) rfl rfl k) ?_
  show Gl _ _ _ _ _ _ _ (s₁.setTop (mkF m 1 #[.val (.ref a), .val (.int cc), .unset, .unset] [(.ref a)]))
  obtain ⟨T23, X23, e23, st23⟩ := getF X0 hx hZ hown (host := "") (Or.inl (hw _ (List.mem_of_getElem? (i := 28) rfl))) Via.refl e0 F_buf (g := (mkF m 1 #[.val (.ref a), .val (.int cc), .unset, .unset] [(.ref a)])) rfl rfl (hb hby d8_1)
  refine Gl.back (fun _ k => st23 _ k) ?_
  show Gl _ _ _ _ _ _ _ (T23.setTop (mkF m 4 #[.val (.ref a), .val (.int cc), .unset, .unset] [(.ref t)]))
  obtain ⟨cl24, Ar24, -, Sz24, Nn24, -, -⟩ := id V_t
  refine Gl.back (fun _ k => X23.arraylength hx (by rw [e23]; exact Ar24.1) (State.isArrayOf_alike hZ.alike Ar24.2.1) (g := (mkF m 4 #[.val (.ref a), .val (.int cc), .unset, .unset] [(.ref t)])) rfl rfl (hb hby d8_4) _ k) ?_
  rw [len_of Sz24 Nn24]
  show Gl _ _ _ _ _ _ _ (T23.setTop (mkF m 5 #[.val (.ref a), .val (.int cc), .unset, .unset] [(.int (32 : Int32))]))
  refine Gl.back (fun _ k => XS.istoreN X23.here hx rfl (hb hby d8_5) rfl (l' := #[.val (.ref a), .val (.int cc), .val (.int (32 : Int32)), .unset]) rfl k) ?_
  show Gl _ _ _ _ _ _ _ (T23.setTop (mkF m 6 #[.val (.ref a), .val (.int cc), .val (.int (32 : Int32)), .unset] []))
  refine Gl.back (fun _ k => XS.iloadN X23.here hx rfl (hb hby d8_6) rfl k) ?_
  show Gl _ _ _ _ _ _ _ (T23.setTop (mkF m 7 #[.val (.ref a), .val (.int cc), .val (.int (32 : Int32)), .unset] [(.int cc)]))
  refine Gl.back (fun _ k => XS.iloadN X23.here hx rfl (hb hby d8_7) rfl k) ?_
  show Gl _ _ _ _ _ _ _ (T23.setTop (mkF m 8 #[.val (.ref a), .val (.int cc), .val (.int (32 : Int32)), .unset] [(.int (32 : Int32)), (.int cc)]))
  refine Gl.back (fun _ k => XS.isub X23.here hx rfl (hb hby d8_8) rfl k) ?_
  show Gl _ _ _ _ _ _ _ (T23.setTop (mkF m 9 #[.val (.ref a), .val (.int cc), .val (.int (32 : Int32)), .unset] [(.int (cc - (32 : Int32)))]))
  refine Gl.back (fun _ k => XS.istoreN X23.here hx rfl (hb hby d8_9) rfl (l' := #[.val (.ref a), .val (.int cc), .val (.int (32 : Int32)), .val (.int (cc - (32 : Int32)))]) rfl k) ?_
  show Gl _ _ _ _ _ _ _ (T23.setTop (mkF m 10 #[.val (.ref a), .val (.int cc), .val (.int (32 : Int32)), .val (.int (cc - (32 : Int32)))] []))
  refine Gl.back (fun _ k => XS.iloadN X23.here hx rfl (hb hby d8_10) rfl k) ?_
  show Gl _ _ _ _ _ _ _ (T23.setTop (mkF m 11 #[.val (.ref a), .val (.int cc), .val (.int (32 : Int32)), .val (.int (cc - (32 : Int32)))] [(.int (cc - (32 : Int32)))]))
  refine Gl.back (fun _ k => XS.ifYes X23.here hx rfl (pc0 := 11) (pc' := 31) rfl (hb hby d8_11) rfl ((if0 _ _).trans (flt (hc : ¬ (0 : Int32) < (cc - (32 : Int32)))).2.2.2) (by decide) (by decide) k) ?_
  show Gl _ _ _ _ _ _ _ (T23.setTop (mkF m 31 #[.val (.ref a), .val (.int cc), .val (.int (32 : Int32)), .val (.int (cc - (32 : Int32)))] []))
  exact Gl.ret X23 e23 (v := none) (fun _ => rfl) Bd.notSynchronized (fun fs hr => X23.returnOut hx Bd.returns (hb hby d8_31) hr) ⟨N0, rfl, rfl⟩ (by decide) (by decide)
theorem d7_0 : decode jdk_2005_method_4_code 0 = .ok (.aload_n 0, 1) := by decide +kernel
theorem d7_1 : decode jdk_2005_method_4_code 1 = .ok (.aload_n 0, 1) := by decide +kernel
theorem d7_2 : decode jdk_2005_method_4_code 2 = .ok (.getfield 49, 3) := by decide +kernel
theorem d7_5 : decode jdk_2005_method_4_code 5 = .ok (.iconst 1, 1) := by decide +kernel
theorem d7_6 : decode jdk_2005_method_4_code 6 = .ok (.iadd, 1) := by decide +kernel
theorem d7_7 : decode jdk_2005_method_4_code 7 = .ok (.invokevirtual 53, 3) := by decide +kernel
theorem d7_10 : decode jdk_2005_method_4_code 10 = .ok (.aload_n 0, 1) := by decide +kernel
theorem d7_11 : decode jdk_2005_method_4_code 11 = .ok (.getfield 33, 3) := by decide +kernel
theorem d7_14 : decode jdk_2005_method_4_code 14 = .ok (.aload_n 0, 1) := by decide +kernel
theorem d7_15 : decode jdk_2005_method_4_code 15 = .ok (.getfield 49, 3) := by decide +kernel
theorem d7_18 : decode jdk_2005_method_4_code 18 = .ok (.iload_n 1, 1) := by decide +kernel
theorem d7_19 : decode jdk_2005_method_4_code 19 = .ok (.i2b, 1) := by decide +kernel
theorem d7_20 : decode jdk_2005_method_4_code 20 = .ok (.bastore, 1) := by decide +kernel
theorem d7_21 : decode jdk_2005_method_4_code 21 = .ok (.aload_n 0, 1) := by decide +kernel
theorem d7_22 : decode jdk_2005_method_4_code 22 = .ok (.dup, 1) := by decide +kernel
theorem d7_23 : decode jdk_2005_method_4_code 23 = .ok (.getfield 49, 3) := by decide +kernel
theorem d7_26 : decode jdk_2005_method_4_code 26 = .ok (.iconst 1, 1) := by decide +kernel
theorem d7_27 : decode jdk_2005_method_4_code 27 = .ok (.iadd, 1) := by decide +kernel
theorem d7_28 : decode jdk_2005_method_4_code 28 = .ok (.putfield 49, 3) := by decide +kernel
theorem d7_31 : decode jdk_2005_method_4_code 31 = .ok (.return_, 1) := by decide +kernel
theorem ef_wr (m : MethodId) (x0 : Addr) (x1 : Int32) : entryFrame m #[(.ref x0), (.int x1)] 2 = mkF m 0 #[.val (.ref x0), .val (.int x1)] [] := by first | (simp [entryFrame, mkF, argsToLocals, Value.category]; done) | rfl
def Qwr (Z : State) (a : Addr) (bb : Int32) (t : Addr) (k_t : ClassId) (vs : List Value) (nn : Int32) (h0 : Heap) (n0 : Nat) (v : Option Value) (h : Heap) (L : List Loc) : Prop := Fr n0 L ∧ (v = none ∧ Keep h0 h [a, t] ∧ Fld Z h a "java/io/ByteArrayOutputStream" "buf" "[B" (.ref t) ∧ Fld Z h a "java/io/ByteArrayOutputStream" "count" "I" (.int (nn + (1 : Int32))) ∧ Arv Z h t k_t .byte (32 : Int32) (vs.set nn.toNatClampNeg (.int (nar .byte (bb.toInt8.toInt32)))) (.int (0 : Int32)) ∧ Unt h a)
set_option maxRecDepth 65536 in
set_option maxHeartbeats 40000000 in
theorem rmwr (l : Launch) (Z : State) (a0 : Array Value) (hw : ∀ d ∈ tables_1, d.before a0 Z = true) (ws : List Jvm.Cond) (a : Addr) (bb : Int32) (t : Addr) (k_t : ClassId) (vs : List Value) (nn : Int32) (h0 : Heap) (n0 : Nat) (Z0 : n0 ≤ h0.size) (g_a : n0 ≤ a) (g_t : n0 ≤ t) (U_a : Unt h0 a) (E_a : Exa Z h0 a "java/io/ByteArrayOutputStream") (F_buf : Fld Z h0 a "java/io/ByteArrayOutputStream" "buf" "[B" (.ref t)) (F_count : Fld Z h0 a "java/io/ByteArrayOutputStream" "count" "I" (.int nn)) (V_t : Arv Z h0 t k_t .byte (32 : Int32) vs (.int (0 : Int32))) (hat : a ≠ t) (hn : ¬ nn < 0 ∧ nn < 32) (hl : vs.length = 32) :
    MetFree l (⟨"java/io/ByteArrayOutputStream", "write", "(I)V"⟩ : MethodName) (head1 (Jvm.Cond.codeSync (⟨"java/io/ByteArrayOutputStream", "write", "(I)V"⟩ : MethodName) jdk_2005_method_4_code 2 none :: Jvm.Cond.instanceMethod (⟨"java/io/ByteArrayOutputStream", "write", "(I)V"⟩ : MethodName) :: ws) ({ frames := 1, cells := 0, slots := 0, locals := 17 } : Room)) (fun as0 U => as0 = #[(.ref a), (.int bb)] ∧ Z.Warmed39 U.vm ∧ U.heap = h0) (fun _ _ _ _ _ => True) (fun _ U oc0 U' => ∃ v L, oc0 = .returned v ∧ Qwr Z a bb t k_t vs nn h0 n0 v U'.heap L ∧ FrameEnd U oc0 U' L ({ frames := 1, cells := 0, slots := 0, locals := 17 } : Room).cells ({ frames := 1, cells := 0, slots := 0, locals := 17 } : Room).slots) := by
  obtain ⟨clU, u1, u2, u3⟩ := id U_a
  refine MetFree.of_bodySync (plainFor_of_name pn_java_io_ByteArrayOutputStream) (hisS (List.mem_cons_self ..)) (fun _ s0 _ ⟨h1, _, h2⟩ => ⟨a, clU, by rw [h1]; rfl, by rw [h2]; exact u1, by rw [Cell.enterable, u3]; simp⟩) ?_
  intro p e s m args below meth c a' cell s₁ Bd hml0 hP hK
  obtain ⟨rfl, hZ0, hh⟩ := hP
  cases Bd.receiver
  have hx := Bd.exec
  have hby := Bd.bytes
  have hml : c.maxLocals = 2 := hml0
  have hown : (s.setCell a (cell.withEntry s.cur)).vm.findClass "java/io/ByteArrayOutputStream" = some m.cls := (findClass_of_methodNamed Bd.named :)
  have hnm := (name_of_methodNamed Bd.named Bd.method).1
  have X0 : Stand p l e ({ frames := 1, cells := 0, slots := 0, locals := 17 } : Room) (s.setCell a (cell.withEntry s.cur)) m #[(.ref a), (.int bb)] below meth c s₁ [] 0 0 := Stand.of_bodySync Bd
  have hZ : Z.Warmed39 (s.setCell a (cell.withEntry s.cur)).vm := hZ0
  obtain ⟨hE, e0⟩ : ∃ z, s₁.heap = z := ⟨_, rfl⟩
  have L0 : Lft h0 hE a := by rw [← e0, ← hh, Bd.state]; exact ⟨cell, _, Bd.object, rfl⟩
  have hU : Unt s.heap a := by rw [hh]; exact U_a
  have N0 := Fr.nil n0
  have ZE : n0 ≤ hE.size := by rw [L0.mon.1]; exact Z0
  show Gl p e below s (Qwr Z a bb t k_t vs nn h0 n0) ({ frames := 1, cells := 0, slots := 0, locals := 17 } : Room).cells ({ frames := 1, cells := 0, slots := 0, locals := 17 } : Room).slots (s₁.setTop (mkL a m 0 #[.val (.ref a), .val (.int bb)] []))
  have E_a_e := Exa.mon L0.mon E_a
  have F_buf_e := Fld.mon L0.mon F_buf
  have F_count_e := Fld.mon L0.mon F_count
  have V_t_e := own_arv_mon L0.mon V_t
  show Gl _ _ _ _ _ _ _ (s₁.setTop (mkL a m 0 #[.val (.ref a), .val (.int bb)] []))
  refine Gl.back (fun _ k => XS.aloadN X0.here hx rfl (hb hby d7_0) rfl rfl k) ?_
  show Gl _ _ _ _ _ _ _ (s₁.setTop (mkL a m 1 #[.val (.ref a), .val (.int bb)] [(.ref a)]))
  refine Gl.back (fun _ k => XS.aloadN X0.here hx rfl (hb hby d7_1) rfl rfl k) ?_
  show Gl _ _ _ _ _ _ _ (s₁.setTop (mkL a m 2 #[.val (.ref a), .val (.int bb)] [(.ref a), (.ref a)]))
  obtain ⟨T25, X25, e25, st25⟩ := getF X0 hx hZ hown (host := "") (Or.inl (hw _ (List.mem_of_getElem? (i := 43) rfl))) Via.refl e0 F_count_e (g := (mkL a m 2 #[.val (.ref a), .val (.int bb)] [(.ref a), (.ref a)])) rfl rfl (hb hby d7_2)
  refine Gl.back (fun _ k => st25 _ k) ?_
  show Gl _ _ _ _ _ _ _ (T25.setTop (mkL a m 5 #[.val (.ref a), .val (.int bb)] [(.int nn), (.ref a)]))
  refine Gl.back (fun _ k => XS.iconst X25.here hx rfl (hb hby d7_5) k) ?_
  show Gl _ _ _ _ _ _ _ (T25.setTop (mkL a m 6 #[.val (.ref a), .val (.int bb)] [(.int (1 : Int32)), (.int nn), (.ref a)]))
  refine Gl.back (fun _ k => XS.iadd X25.here hx rfl (hb hby d7_6) rfl k) ?_
  show Gl _ _ _ _ _ _ _ (T25.setTop (mkL a m 7 #[.val (.ref a), .val (.int bb)] [(.int (nn + (1 : Int32))), (.ref a)]))
  obtain ⟨cq26, q26, q26'⟩ := E_a_e.cell
  obtain ⟨_, _, ⟨T26, L26, k26, n26⟩, -, X26, ⟨Lc26, hQ26, l26, y26, z26⟩, st26⟩ := X25.privateBack hx (y := (⟨"java/io/ByteArrayOutputStream", "ensureCapacity", "(I)V"⟩ : MethodName)) hown (mvT hZ (hw _ (List.mem_of_getElem? (i := 45) rfl))) (mvT hZ (hw _ (List.mem_of_getElem? (i := 46) rfl))) (mvT hZ (hw _ (List.mem_of_getElem? (i := 48) rfl))) (Cond.privateMethod_at (mvP hZ (hw _ (List.mem_of_getElem? (i := 47) rfl)) (args := #[]))) (mvT hZ (hw _ (List.mem_of_getElem? (i := 49) rfl))) (by decide) (backOf (W := 2) (rmens l Z a0 hw [] a (nn + (1 : Int32)) t k_t vs hE n0 ZE F_buf_e V_t_e (own_cap hn)) hZ (hw _ (List.mem_of_getElem? (i := 49) rfl)) (hw _ (List.mem_of_getElem? (i := 12) rfl)) (by decide) (by decide)) (g := (mkL a m 7 #[.val (.ref a), .val (.int bb)] [(.int (nn + (1 : Int32))), (.ref a)])) rfl (by rw [hml]; rfl) (Steps.refl _) (a := a) (by rw [e25]; exact q26) q26' (argsL := [(.int (nn + (1 : Int32)))]) (rest := []) (lenOf pd__I_V rfl) rfl (by show 2 * 1 + _ ≤ _; exact Nat.le_of_eq rfl) (hb hby d7_7) (fun _ _ => ⟨rfl, e25, (by decide : 0 + 0 ≤ _), (by decide : 0 + 0 ≤ _)⟩)
  dsimp only [Pt.U, Pt.locs, Pt.cells, Pt.slots] at X26 l26 y26 z26 st26 hQ26
  replace l26 := Eq.symm l26
  replace y26 := Eq.symm y26
  replace z26 := Eq.symm z26
  subst l26 y26 z26
  obtain ⟨Nq26, rfl, eh26⟩ := hQ26
  have N26 := Fr.app N0 Nq26
  refine Gl.back (fun _ k => st26.trans k) ?_
  show Gl _ _ _ _ _ _ _ (T26.setTop (mkL a m 10 #[.val (.ref a), .val (.int bb)] []))
  refine Gl.back (fun _ k => XS.aloadN X26.here hx rfl (hb hby d7_10) rfl rfl k) ?_
  show Gl _ _ _ _ _ _ _ (T26.setTop (mkL a m 11 #[.val (.ref a), .val (.int bb)] [(.ref a)]))
  obtain ⟨T27, X27, e27, st27⟩ := getF X26 hx hZ hown (host := "") (Or.inl (hw _ (List.mem_of_getElem? (i := 28) rfl))) Via.refl eh26 F_buf_e (g := (mkL a m 11 #[.val (.ref a), .val (.int bb)] [(.ref a)])) rfl rfl (hb hby d7_11)
  refine Gl.back (fun _ k => st27 _ k) ?_
  show Gl _ _ _ _ _ _ _ (T27.setTop (mkL a m 14 #[.val (.ref a), .val (.int bb)] [(.ref t)]))
  refine Gl.back (fun _ k => XS.aloadN X27.here hx rfl (hb hby d7_14) rfl rfl k) ?_
  show Gl _ _ _ _ _ _ _ (T27.setTop (mkL a m 15 #[.val (.ref a), .val (.int bb)] [(.ref a), (.ref t)]))
  obtain ⟨T28, X28, e28, st28⟩ := getF X27 hx hZ hown (host := "") (Or.inl (hw _ (List.mem_of_getElem? (i := 43) rfl))) Via.refl e27 F_count_e (g := (mkL a m 15 #[.val (.ref a), .val (.int bb)] [(.ref a), (.ref t)])) rfl rfl (hb hby d7_15)
  refine Gl.back (fun _ k => st28 _ k) ?_
  show Gl _ _ _ _ _ _ _ (T28.setTop (mkL a m 18 #[.val (.ref a), .val (.int bb)] [(.int nn), (.ref t)]))
  refine Gl.back (fun _ k => XS.iloadN X28.here hx rfl (hb hby d7_18) rfl k) ?_
  show Gl _ _ _ _ _ _ _ (T28.setTop (mkL a m 19 #[.val (.ref a), .val (.int bb)] [(.int bb), (.int nn), (.ref t)]))
  refine Gl.back (fun _ k => XS.i2b X28.here hx rfl (hb hby d7_19) rfl k) ?_
  show Gl _ _ _ _ _ _ _ (T28.setTop (mkL a m 20 #[.val (.ref a), .val (.int bb)] [(.int (bb.toInt8.toInt32)), (.int nn), (.ref t)]))
  obtain ⟨cl29, Ar29, q29, Sz29, Nn29, Hs29, Gf29⟩ := id V_t_e
  have hin29 : ¬ (nn < 0 ∨ cl29.slots.size ≤ (nn).toNatClampNeg) := inb_of Sz29 hn
  obtain ⟨T30, h30, X30, e30, W30, st30⟩ := stB X28 hx hZ e28 Ar29 (j := nn) hin29 (g := (mkL a m 20 #[.val (.ref a), .val (.int bb)] [(.int (bb.toInt8.toInt32)), (.int nn), (.ref t)])) rfl rfl (hb hby d7_20)
  have V30 := Arv.set Ar29 q29 Sz29 Nn29 Hs29 Gf29 (fits_nar_byte _) W30 _ rfl (own_idx hn hl)
  have K30 := Keep.wr (Keep.refl hE [a, t]) W30 (Or.inl (List.mem_of_getElem? (i := 1) rfl))
  have Z30 : n0 ≤ h30.size := Nat.le_trans ZE (Keep.of_wr W30).1
  have N30 := Fr.snoc X30 N26 g_t
  refine Gl.back (fun _ k => st30 _ k) ?_
  show Gl _ _ _ _ _ _ _ (T30.setTop (mkL a m 21 #[.val (.ref a), .val (.int bb)] []))
  refine Gl.back (fun _ k => XS.aloadN X30.here hx rfl (hb hby d7_21) rfl rfl k) ?_
  show Gl _ _ _ _ _ _ _ (T30.setTop (mkL a m 22 #[.val (.ref a), .val (.int bb)] [(.ref a)]))
  refine Gl.back (fun _ k => XS.dup X30.here hx rfl (hb hby d7_22) rfl rfl k) ?_
  show Gl _ _ _ _ _ _ _ (T30.setTop (mkL a m 23 #[.val (.ref a), .val (.int bb)] [(.ref a), (.ref a)]))
  have f31 := (F_count_e.other W30 (Or.inl hat))
  obtain ⟨T32, X32, e32, st32⟩ := getF X30 hx hZ hown (host := "") (Or.inl (hw _ (List.mem_of_getElem? (i := 43) rfl))) Via.refl e30 f31 (g := (mkL a m 23 #[.val (.ref a), .val (.int bb)] [(.ref a), (.ref a)])) rfl rfl (hb hby d7_23)
  refine Gl.back (fun _ k => st32 _ k) ?_
  show Gl _ _ _ _ _ _ _ (T32.setTop (mkL a m 26 #[.val (.ref a), .val (.int bb)] [(.int nn), (.ref a)]))
  refine Gl.back (fun _ k => XS.iconst X32.here hx rfl (hb hby d7_26) k) ?_
  show Gl _ _ _ _ _ _ _ (T32.setTop (mkL a m 27 #[.val (.ref a), .val (.int bb)] [(.int (1 : Int32)), (.int nn), (.ref a)]))
  refine Gl.back (fun _ k => XS.iadd X32.here hx rfl (hb hby d7_27) rfl k) ?_
  show Gl _ _ _ _ _ _ _ (T32.setTop (mkL a m 28 #[.val (.ref a), .val (.int bb)] [(.int (nn + (1 : Int32))), (.ref a)]))
  have f33 := (E_a_e.wr W30)
  obtain ⟨T34, h34, X34, e34, W34, st34⟩ := putF X32 hx hZ hown (host := "") (Or.inl (hw _ (List.mem_of_getElem? (i := 43) rfl))) Via.refl e32 f31 f33 (Or.inl (hw _ (List.mem_of_getElem? (i := 44) rfl))) (hw _ (List.mem_of_getElem? (i := 11) rfl)) (ty := .int) (by decide) rfl rfl (g := (mkL a m 28 #[.val (.ref a), .val (.int bb)] [(.int (nn + (1 : Int32))), (.ref a)])) rfl rfl (hb hby d7_28)
  have Fw34 := f31.same W34
  have K34 := Keep.wr K30 W34 (Or.inl (List.mem_of_getElem? (i := 0) rfl))
  have Z34 : n0 ≤ h34.size := Nat.le_trans Z30 (Keep.of_wr W34).1
  have N34 := Fr.snoc X34 N30 g_a
  refine Gl.back (fun _ k => st34 _ k) ?_
  show Gl _ _ _ _ _ _ _ (T34.setTop (mkL a m 31 #[.val (.ref a), .val (.int bb)] []))
  have f35 := ((F_buf_e.other W30 (Or.inl hat)).other W34 (Or.inr (slot_ne (Or.inl (hw _ (List.mem_of_getElem? (i := 29) rfl))) (Or.inl (hw _ (List.mem_of_getElem? (i := 44) rfl))) (by decide) (t := (.array .byte)) (t' := .int) (by decide) (by decide))))
  have f36 := (V30.other W34 (Ne.symm hat))
  exact Gl.retS X34 e34 Bd.object Bd.enterable Bd.synchronized hU (v := none) (fun _ => rfl) (fun V hr => retS0 X34 hx Bd.returns (hb hby d7_31) hr) (fun h' Lh Uh => ⟨N34, rfl, own_keepS L0 K34 Lh (List.mem_of_getElem? (i := 0) rfl), Fld.mon Lh.mon f35, Fld.mon Lh.mon Fw34, own_arv_mon Lh.mon f36, Uh⟩) (by decide) (by decide)
theorem d6_0 : decode prog_129_method_2_code 0 = .ok (.lload_n 1, 1) := by decide +kernel
theorem d6_1 : decode prog_129_method_2_code 1 = .ok (.lconst 0, 1) := by decide +kernel
theorem d6_2 : decode prog_129_method_2_code 2 = .ok (.lcmp, 1) := by decide +kernel
theorem d6_3 : decode prog_129_method_2_code 3 = .ok (.ifCond .ge 17, 3) := by decide +kernel
theorem d6_20 : decode prog_129_method_2_code 20 = .ok (.lload_n 1, 1) := by decide +kernel
theorem d6_21 : decode prog_129_method_2_code 21 = .ok (.lstore_n 3, 1) := by decide +kernel
theorem d6_22 : decode prog_129_method_2_code 22 = .ok (.lload_n 3, 1) := by decide +kernel
theorem d6_23 : decode prog_129_method_2_code 23 = .ok (.ldc2_w 27, 3) := by decide +kernel
theorem d6_26 : decode prog_129_method_2_code 26 = .ok (.lcmp, 1) := by decide +kernel
theorem d6_27 : decode prog_129_method_2_code 27 = .ok (.ifCond .lt 28, 3) := by decide +kernel
theorem d6_55 : decode prog_129_method_2_code 55 = .ok (.aload_n 0, 1) := by decide +kernel
theorem d6_56 : decode prog_129_method_2_code 56 = .ok (.getfield 12, 3) := by decide +kernel
theorem d6_59 : decode prog_129_method_2_code 59 = .ok (.lload_n 3, 1) := by decide +kernel
theorem d6_60 : decode prog_129_method_2_code 60 = .ok (.l2i, 1) := by decide +kernel
theorem d6_61 : decode prog_129_method_2_code 61 = .ok (.invokevirtual 29, 3) := by decide +kernel
theorem d6_64 : decode prog_129_method_2_code 64 = .ok (.aload_n 0, 1) := by decide +kernel
theorem d6_65 : decode prog_129_method_2_code 65 = .ok (.areturn, 1) := by decide +kernel
theorem d6_30 : decode prog_129_method_2_code 30 = .ok (.aload_n 0, 1) := by decide +kernel
theorem d6_31 : decode prog_129_method_2_code 31 = .ok (.getfield 12, 3) := by decide +kernel
theorem d6_34 : decode prog_129_method_2_code 34 = .ok (.lload_n 3, 1) := by decide +kernel
theorem d6_35 : decode prog_129_method_2_code 35 = .ok (.ldc2_w 27, 3) := by decide +kernel
theorem d6_38 : decode prog_129_method_2_code 38 = .ok (.lrem, 1) := by decide +kernel
theorem d6_39 : decode prog_129_method_2_code 39 = .ok (.l2i, 1) := by decide +kernel
theorem d6_40 : decode prog_129_method_2_code 40 = .ok (.sipush 128, 3) := by decide +kernel
theorem d6_43 : decode prog_129_method_2_code 43 = .ok (.iadd, 1) := by decide +kernel
theorem d6_44 : decode prog_129_method_2_code 44 = .ok (.invokevirtual 29, 3) := by decide +kernel
theorem d6_47 : decode prog_129_method_2_code 47 = .ok (.lload_n 3, 1) := by decide +kernel
theorem d6_48 : decode prog_129_method_2_code 48 = .ok (.bipush 7, 2) := by decide +kernel
theorem d6_50 : decode prog_129_method_2_code 50 = .ok (.lushr, 1) := by decide +kernel
theorem d6_51 : decode prog_129_method_2_code 51 = .ok (.lstore_n 3, 1) := by decide +kernel
theorem d6_52 : decode prog_129_method_2_code 52 = .ok (.goto (-30), 3) := by decide +kernel
theorem ef_wn (m : MethodId) (x0 : Addr) (x1 : Int64) : entryFrame m #[(.ref x0), (.long x1)] 5 = mkF m 0 #[.val (.ref x0), .val (.long x1), .second, .unset, .unset] [] := by first | (simp [entryFrame, mkF, argsToLocals, Value.category]; done) | rfl
def Qwn (Z : State) (a : Addr) (xx : Int64) (o t : Addr) (k_t : ClassId) (vs : List Value) (nn : Int32) (an X : Nat) (h0 : Heap) (n0 : Nat) (v : Option Value) (h : Heap) (L : List Loc) : Prop := Fr n0 L ∧ (∃ (m : Nat) (cn : Int32) (vs' : List Value), v = some (.ref a) ∧ Keep h0 h [o, t] ∧ Fld Z h o "java/io/ByteArrayOutputStream" "buf" "[B" (.ref t) ∧ Fld Z h o "java/io/ByteArrayOutputStream" "count" "I" (.int cn) ∧ Arv Z h t k_t .byte (32 : Int32) vs' (.int (0 : Int32)) ∧ Unt h o ∧ own_D vs vs' an m X ∧ cn.toInt = nn.toInt + m ∧ 1 ≤ m ∧ m ≤ 9 ∧ X < 128 ^ m)
set_option maxRecDepth 65536 in
set_option maxHeartbeats 40000000 in
theorem rmwn (l : Launch) (Z : State) (a0 : Array Value) (hw : ∀ d ∈ tables_1, d.before a0 Z = true) (ws : List Jvm.Cond) (a : Addr) (xx : Int64) (o t : Addr) (k_t : ClassId) (vs : List Value) (nn : Int32) (an X : Nat) (h0 : Heap) (n0 : Nat) (Z0 : n0 ≤ h0.size) (g_o : n0 ≤ o) (g_t : n0 ≤ t) (E_a : Exa Z h0 a "com/example/harbourlink/harbourlink/scratch/Packing$Writer") (F_p : Fld Z h0 a "com/example/harbourlink/harbourlink/scratch/Packing$Writer" "packed" "Ljava/io/ByteArrayOutputStream;" (.ref o)) (U_o : Unt h0 o) (E_o : Exa Z h0 o "java/io/ByteArrayOutputStream") (F_buf : Fld Z h0 o "java/io/ByteArrayOutputStream" "buf" "[B" (.ref t)) (F_count : Fld Z h0 o "java/io/ByteArrayOutputStream" "count" "I" (.int nn)) (V_t : Arv Z h0 t k_t .byte (32 : Int32) vs (.int (0 : Int32))) (hot : o ≠ t) (hao : a ≠ o) (hta : a ≠ t) (hn : nn.toInt = (an : Int)) (han : an ≤ 9) (hl : vs.length = 32) (hx0 : ¬ xx < 0) (hX : xx.toInt = (X : Int)) :
    MetFree l (⟨"com/example/harbourlink/harbourlink/scratch/Packing$Writer", "number", "(J)Lcom/example/harbourlink/harbourlink/scratch/Packing$Writer;"⟩ : MethodName) (head1 (Jvm.Cond.code (⟨"com/example/harbourlink/harbourlink/scratch/Packing$Writer", "number", "(J)Lcom/example/harbourlink/harbourlink/scratch/Packing$Writer;"⟩ : MethodName) prog_129_method_2_code 5 (some (.object "com/example/harbourlink/harbourlink/scratch/Packing$Writer")) :: ws) ({ frames := 2, cells := 0, slots := 0, locals := 30 } : Room)) (fun as0 U => as0 = #[(.ref a), (.long xx)] ∧ Z.Warmed39 U.vm ∧ U.heap = h0) (fun _ _ _ _ _ => True) (fun _ U oc0 U' => ∃ v L, oc0 = .returned v ∧ Qwn Z a xx o t k_t vs nn an X h0 n0 v U'.heap L ∧ FrameEnd U oc0 U' L ({ frames := 2, cells := 0, slots := 0, locals := 30 } : Room).cells ({ frames := 2, cells := 0, slots := 0, locals := 30 } : Room).slots) := by
  refine MetFree.of_bodySF (plainFor_of_name pn_com_example_harbourlink_harbourlink_scratch_Packing_Writer) hisR ?_
  intro p e s m args below meth c s₁ Bd hml0 hP hK
  obtain ⟨rfl, hZ, hh⟩ := hP
  have hx := Bd.exec
  have hby := Bd.bytes
  have hml : c.maxLocals = 5 := hml0
  have hown : s.vm.findClass "com/example/harbourlink/harbourlink/scratch/Packing$Writer" = some m.cls := findClass_of_methodNamed Bd.named
  have hnm := (name_of_methodNamed Bd.named Bd.method).1
  have X0 : Stand p l e ({ frames := 2, cells := 0, slots := 0, locals := 30 } : Room) s m #[(.ref a), (.long xx)] below meth c s₁ [] 0 0 := Stand.of_body Bd
  have e0 : s₁.heap = h0 := by rw [← hh, Bd.state]; rfl
  have N0 := Fr.nil n0
  show Gl p e below s (Qwn Z a xx o t k_t vs nn an X h0 n0) ({ frames := 2, cells := 0, slots := 0, locals := 30 } : Room).cells ({ frames := 2, cells := 0, slots := 0, locals := 30 } : Room).slots (s₁.setTop (entryFrame m #[(.ref a), (.long xx)] 5))
  refine Gl.back (fun _ k => castTop (ef_wn m a xx) k) ?_
  show Gl _ _ _ _ _ _ _ (s₁.setTop (mkF m 0 #[.val (.ref a), .val (.long xx), .second, .unset, .unset] []))
  refine Gl.back (fun _ k => XS.lloadN X0.here hx rfl (hb hby d6_0) rfl k) ?_
  show Gl _ _ _ _ _ _ _ (s₁.setTop (mkF m 1 #[.val (.ref a), .val (.long xx), .second, .unset, .unset] [(.long xx)]))
  refine Gl.back (fun _ k => XS.lconst X0.here hx rfl (hb hby d6_1) k) ?_
  show Gl _ _ _ _ _ _ _ (s₁.setTop (mkF m 2 #[.val (.ref a), .val (.long xx), .second, .unset, .unset] [(.long (0 : Int64)), (.long xx)]))
  refine Gl.back (fun _ k => XS.lcmp X0.here hx rfl (hb hby d6_2) rfl k) ?_
  show Gl _ _ _ _ _ _ _ (s₁.setTop (mkF m 3 #[.val (.ref a), .val (.long xx), .second, .unset, .unset] [(.int (lcmpW xx (0 : Int64)))]))
  refine Gl.back (fun _ k => XS.ifYes X0.here hx rfl (pc0 := 3) (pc' := 20) rfl (hb hby d6_3) rfl ((if0 _ _).trans (flt (own_lcLn (hx0 : ¬ xx < (0 : Int64)))).2.1) (by decide) (by decide) k) ?_
  show Gl _ _ _ _ _ _ _ (s₁.setTop (mkF m 20 #[.val (.ref a), .val (.long xx), .second, .unset, .unset] []))
  refine Gl.back (fun _ k => XS.lloadN X0.here hx rfl (hb hby d6_20) rfl k) ?_
  show Gl _ _ _ _ _ _ _ (s₁.setTop (mkF m 21 #[.val (.ref a), .val (.long xx), .second, .unset, .unset] [(.long xx)]))
  refine Gl.back (fun _ k => XS.lstoreN X0.here hx rfl (hb hby d6_21) rfl (l' := #[.val (.ref a), .val (.long xx), .second, .val (.long xx), .second]) rfl k) ?_
  show Gl _ _ _ _ _ _ _ (s₁.setTop (mkF m 22 #[.val (.ref a), .val (.long xx), .second, .val (.long xx), .second] []))
  have hx37 : xx.toInt = ((X / 128 ^ 0 : Nat) : Int) := by rw [Nat.pow_zero, Nat.div_one]; exact hX
  have I37 : own_I vs vs an 0 X := own_I0 hl
  have hc37 : nn.toInt = ((an + 0 : Nat) : Int) := hn
  refine Gl.back (fun _ k => XS.lloadN X0.here hx rfl (hb hby d6_22) rfl k) ?_
  show Gl _ _ _ _ _ _ _ (s₁.setTop (mkF m 23 #[.val (.ref a), .val (.long xx), .second, .val (.long xx), .second] [(.long xx)]))
  refine Gl.back (fun _ k => X0.ldc2Long hx hown (mvT hZ (hw _ (List.mem_of_getElem? (i := 37) rfl))) (g := (mkF m 23 #[.val (.ref a), .val (.long xx), .second, .val (.long xx), .second] [(.long xx)])) rfl (hb hby d6_23) _ k) ?_
  show Gl _ _ _ _ _ _ _ (s₁.setTop (mkF m 26 #[.val (.ref a), .val (.long xx), .second, .val (.long xx), .second] [(.long (128 : Int64)), (.long xx)]))
  refine Gl.back (fun _ k => XS.lcmp X0.here hx rfl (hb hby d6_26) rfl k) ?_
  show Gl _ _ _ _ _ _ _ (s₁.setTop (mkF m 27 #[.val (.ref a), .val (.long xx), .second, .val (.long xx), .second] [(.int (lcmpW xx (128 : Int64)))]))
  by_cases hc27_38 : xx < (128 : Int64)
  · refine Gl.back (fun _ k => XS.ifYes X0.here hx rfl (pc0 := 27) (pc' := 55) rfl (hb hby d6_27) rfl ((if0 _ _).trans (tlt (own_lcL hc27_38)).1) (by decide) (by decide) k) ?_
    show Gl _ _ _ _ _ _ _ (s₁.setTop (mkF m 55 #[.val (.ref a), .val (.long xx), .second, .val (.long xx), .second] []))
    refine Gl.back (fun _ k => XS.aloadN X0.here hx rfl (hb hby d6_55) rfl rfl k) ?_
    show Gl _ _ _ _ _ _ _ (s₁.setTop (mkF m 56 #[.val (.ref a), .val (.long xx), .second, .val (.long xx), .second] [(.ref a)]))
    obtain ⟨T39, X39, e39, st39⟩ := getF X0 hx hZ hown (host := "") (Or.inl (hw _ (List.mem_of_getElem? (i := 30) rfl))) Via.refl e0 F_p (g := (mkF m 56 #[.val (.ref a), .val (.long xx), .second, .val (.long xx), .second] [(.ref a)])) rfl rfl (hb hby d6_56)
    refine Gl.back (fun _ k => st39 _ k) ?_
    show Gl _ _ _ _ _ _ _ (T39.setTop (mkF m 59 #[.val (.ref a), .val (.long xx), .second, .val (.long xx), .second] [(.ref o)]))
    refine Gl.back (fun _ k => XS.lloadN X39.here hx rfl (hb hby d6_59) rfl k) ?_
    show Gl _ _ _ _ _ _ _ (T39.setTop (mkF m 60 #[.val (.ref a), .val (.long xx), .second, .val (.long xx), .second] [(.long xx), (.ref o)]))
    refine Gl.back (fun _ k => XS.l2i X39.here hx rfl (hb hby d6_60) rfl k) ?_
    show Gl _ _ _ _ _ _ _ (T39.setTop (mkF m 61 #[.val (.ref a), .val (.long xx), .second, .val (.long xx), .second] [(.int (xx.toInt32)), (.ref o)]))
    obtain ⟨cq40, kq40, q40a, q40b, q40c⟩ := isOf hZ e39 E_o
    obtain ⟨_, _, ⟨T40, L40, k40, n40⟩, -, X40, ⟨Lc40, hQ40, l40, y40, z40⟩, st40⟩ := X39.virtualBack hx (y := (⟨"java/io/ByteArrayOutputStream", "write", "(I)V"⟩ : MethodName)) (z := (⟨"java/io/ByteArrayOutputStream", "write", "(I)V"⟩ : MethodName)) hown (mvT hZ (hw _ (List.mem_of_getElem? (i := 38) rfl))) (mvT hZ (hw _ (List.mem_of_getElem? (i := 39) rfl))) (notFace_of_selects (args := #[]) (mvT hZ (hw _ (List.mem_of_getElem? (i := 41) rfl)))) (mvT hZ (hw _ (List.mem_of_getElem? (i := 41) rfl))) (mvT hZ (hw _ (List.mem_of_getElem? (i := 40) rfl))) (by decide) (own_backOfY (W := 0) (rmwr l Z a0 hw [] o (xx.toInt32) t k_t vs nn h0 n0 Z0 g_o g_t U_o E_o F_buf F_count V_t hot (own_32 hc37 (by omega)) (I37).2.2) hZ (hw _ (List.mem_of_getElem? (i := 42) rfl)) (hw _ (List.mem_of_getElem? (i := 40) rfl)) (hw _ (List.mem_of_getElem? (i := 12) rfl)) (by decide) (by decide)) q40a q40c (g := (mkF m 61 #[.val (.ref a), .val (.long xx), .second, .val (.long xx), .second] [(.int (xx.toInt32)), (.ref o)])) rfl (by rw [hml]; rfl) (Steps.refl _) (argsL := [(.int (xx.toInt32))]) (rest := []) (lenOf pd__I_V rfl) rfl (by show 2 * 0 + _ ≤ _; exact Nat.le_of_eq rfl) (hb hby d6_61) (fun _ _ => ⟨rfl, e39, (by decide : 0 + 0 ≤ _), (by decide : 0 + 0 ≤ _)⟩)
    dsimp only [Pt.U, Pt.locs, Pt.cells, Pt.slots] at X40 l40 y40 z40 st40 hQ40
    replace l40 := Eq.symm l40
    replace y40 := Eq.symm y40
    replace z40 := Eq.symm z40
    subst l40 y40 z40
    obtain ⟨Nq40, rfl, Kq40, Fb40, Fc40, V40, Uq40⟩ := hQ40
    have N40 := Fr.app N0 Nq40
    have Kc40 := Keep.trans (Keep.refl h0 [o, t]) Kq40 (allS (Or.inl (List.mem_of_getElem? (i := 0) rfl)) (allS (Or.inl (List.mem_of_getElem? (i := 1) rfl)) all0))
    have Zc40 : n0 ≤ T40.heap.size := Nat.le_trans Z0 Kq40.1
    have I40 := own_I2 I37 hc37 (by omega) hx37 hc27_38
    have hc40 := own_cs1 hc37 (by omega)
    obtain ⟨vs40, ev40⟩ : ∃ z, z = (vs.set nn.toNatClampNeg (.int (nar .byte (((xx.toInt32)).toInt8.toInt32)))) := ⟨_, rfl⟩
    rw [← ev40] at V40 I40
    obtain ⟨c40, ec40⟩ : ∃ z, z = (nn + (1 : Int32)) := ⟨_, rfl⟩
    rw [← ec40] at Fc40 hc40
    refine Gl.back (fun _ k => st40.trans k) ?_
    show Gl _ _ _ _ _ _ _ (T40.setTop (mkF m 64 #[.val (.ref a), .val (.long xx), .second, .val (.long xx), .second] []))
    refine Gl.back (fun _ k => XS.aloadN X40.here hx rfl (hb hby d6_64) rfl rfl k) ?_
    show Gl _ _ _ _ _ _ _ (T40.setTop (mkF m 65 #[.val (.ref a), .val (.long xx), .second, .val (.long xx), .second] [(.ref a)]))
    exact Gl.ret X40 rfl (v := (some (.ref a))) (fun h => by rw [Bd.returns] at h; cases h) Bd.notSynchronized (fun fs hr => retOut X40 hx (w := (.ref a)) Bd.returns rfl (Or.inr (Or.inr (Or.inr (Or.inr ⟨rfl, rfl, rfl⟩)))) (hb hby d6_65) hr) ⟨N40, 1, _, _, rfl, Kc40, Fb40, Fc40, V40, Uq40, I40, by rw [hc40, hn]; rfl, by decide, by decide, own_bound hx37 hc27_38⟩ (by decide) (by decide)
  · refine Gl.back (fun _ k => XS.ifNo X0.here hx rfl (hb hby d6_27) rfl ((if0 _ _).trans (flt (own_lcLn hc27_38)).1) k) ?_
    show Gl _ _ _ _ _ _ _ (s₁.setTop (mkF m 30 #[.val (.ref a), .val (.long xx), .second, .val (.long xx), .second] []))
    refine Gl.back (fun _ k => XS.aloadN X0.here hx rfl (hb hby d6_30) rfl rfl k) ?_
    show Gl _ _ _ _ _ _ _ (s₁.setTop (mkF m 31 #[.val (.ref a), .val (.long xx), .second, .val (.long xx), .second] [(.ref a)]))
    obtain ⟨T41, X41, e41, st41⟩ := getF X0 hx hZ hown (host := "") (Or.inl (hw _ (List.mem_of_getElem? (i := 30) rfl))) Via.refl e0 F_p (g := (mkF m 31 #[.val (.ref a), .val (.long xx), .second, .val (.long xx), .second] [(.ref a)])) rfl rfl (hb hby d6_31)
    refine Gl.back (fun _ k => st41 _ k) ?_
    show Gl _ _ _ _ _ _ _ (T41.setTop (mkF m 34 #[.val (.ref a), .val (.long xx), .second, .val (.long xx), .second] [(.ref o)]))
    refine Gl.back (fun _ k => XS.lloadN X41.here hx rfl (hb hby d6_34) rfl k) ?_
    show Gl _ _ _ _ _ _ _ (T41.setTop (mkF m 35 #[.val (.ref a), .val (.long xx), .second, .val (.long xx), .second] [(.long xx), (.ref o)]))
    refine Gl.back (fun _ k => X41.ldc2Long hx hown (mvT hZ (hw _ (List.mem_of_getElem? (i := 37) rfl))) (g := (mkF m 35 #[.val (.ref a), .val (.long xx), .second, .val (.long xx), .second] [(.long xx), (.ref o)])) rfl (hb hby d6_35) _ k) ?_
    show Gl _ _ _ _ _ _ _ (T41.setTop (mkF m 38 #[.val (.ref a), .val (.long xx), .second, .val (.long xx), .second] [(.long (128 : Int64)), (.long xx), (.ref o)]))
    refine Gl.back (fun _ k => XS.lrem X41.here hx rfl (hb hby d6_38) rfl (by decide) k) ?_
    show Gl _ _ _ _ _ _ _ (T41.setTop (mkF m 39 #[.val (.ref a), .val (.long xx), .second, .val (.long xx), .second] [(.long (xx - (xx / (128 : Int64)) * (128 : Int64))), (.ref o)]))
    refine Gl.back (fun _ k => XS.l2i X41.here hx rfl (hb hby d6_39) rfl k) ?_
    show Gl _ _ _ _ _ _ _ (T41.setTop (mkF m 40 #[.val (.ref a), .val (.long xx), .second, .val (.long xx), .second] [(.int ((xx - (xx / (128 : Int64)) * (128 : Int64)).toInt32)), (.ref o)]))
    refine Gl.back (fun _ k => XS.sipush X41.here hx rfl (hb hby d6_40) k) ?_
    show Gl _ _ _ _ _ _ _ (T41.setTop (mkF m 43 #[.val (.ref a), .val (.long xx), .second, .val (.long xx), .second] [(.int (128 : Int32)), (.int ((xx - (xx / (128 : Int64)) * (128 : Int64)).toInt32)), (.ref o)]))
    refine Gl.back (fun _ k => XS.iadd X41.here hx rfl (hb hby d6_43) rfl k) ?_
    show Gl _ _ _ _ _ _ _ (T41.setTop (mkF m 44 #[.val (.ref a), .val (.long xx), .second, .val (.long xx), .second] [(.int (((xx - (xx / (128 : Int64)) * (128 : Int64)).toInt32) + (128 : Int32))), (.ref o)]))
    obtain ⟨cq42, kq42, q42a, q42b, q42c⟩ := isOf hZ e41 E_o
    obtain ⟨_, _, ⟨T42, L42, k42, n42⟩, -, X42, ⟨Lc42, hQ42, l42, y42, z42⟩, st42⟩ := X41.virtualBack hx (y := (⟨"java/io/ByteArrayOutputStream", "write", "(I)V"⟩ : MethodName)) (z := (⟨"java/io/ByteArrayOutputStream", "write", "(I)V"⟩ : MethodName)) hown (mvT hZ (hw _ (List.mem_of_getElem? (i := 38) rfl))) (mvT hZ (hw _ (List.mem_of_getElem? (i := 39) rfl))) (notFace_of_selects (args := #[]) (mvT hZ (hw _ (List.mem_of_getElem? (i := 41) rfl)))) (mvT hZ (hw _ (List.mem_of_getElem? (i := 41) rfl))) (mvT hZ (hw _ (List.mem_of_getElem? (i := 40) rfl))) (by decide) (own_backOfY (W := 0) (rmwr l Z a0 hw [] o (((xx - (xx / (128 : Int64)) * (128 : Int64)).toInt32) + (128 : Int32)) t k_t vs nn h0 n0 Z0 g_o g_t U_o E_o F_buf F_count V_t hot (own_32 hc37 (by omega)) (I37).2.2) hZ (hw _ (List.mem_of_getElem? (i := 42) rfl)) (hw _ (List.mem_of_getElem? (i := 40) rfl)) (hw _ (List.mem_of_getElem? (i := 12) rfl)) (by decide) (by decide)) q42a q42c (g := (mkF m 44 #[.val (.ref a), .val (.long xx), .second, .val (.long xx), .second] [(.int (((xx - (xx / (128 : Int64)) * (128 : Int64)).toInt32) + (128 : Int32))), (.ref o)])) rfl (by rw [hml]; rfl) (Steps.refl _) (argsL := [(.int (((xx - (xx / (128 : Int64)) * (128 : Int64)).toInt32) + (128 : Int32)))]) (rest := []) (lenOf pd__I_V rfl) rfl (by show 2 * 0 + _ ≤ _; exact Nat.le_of_eq rfl) (hb hby d6_44) (fun _ _ => ⟨rfl, e41, (by decide : 0 + 0 ≤ _), (by decide : 0 + 0 ≤ _)⟩)
    dsimp only [Pt.U, Pt.locs, Pt.cells, Pt.slots] at X42 l42 y42 z42 st42 hQ42
    replace l42 := Eq.symm l42
    replace y42 := Eq.symm y42
    replace z42 := Eq.symm z42
    subst l42 y42 z42
    obtain ⟨Nq42, rfl, Kq42, Fb42, Fc42, V42, Uq42⟩ := hQ42
    have N42 := Fr.app N0 Nq42
    have Kc42 := Keep.trans (Keep.refl h0 [o, t]) Kq42 (allS (Or.inl (List.mem_of_getElem? (i := 0) rfl)) (allS (Or.inl (List.mem_of_getElem? (i := 1) rfl)) all0))
    have Zc42 : n0 ≤ T42.heap.size := Nat.le_trans Z0 Kq42.1
    have I42 := own_I1 I37 hc37 (by omega) hx37
    have hc42 := own_cs1 hc37 (by omega)
    obtain ⟨vs42, ev42⟩ : ∃ z, z = (vs.set nn.toNatClampNeg (.int (nar .byte (((((xx - (xx / (128 : Int64)) * (128 : Int64)).toInt32) + (128 : Int32))).toInt8.toInt32)))) := ⟨_, rfl⟩
    rw [← ev42] at V42 I42
    obtain ⟨c42, ec42⟩ : ∃ z, z = (nn + (1 : Int32)) := ⟨_, rfl⟩
    rw [← ec42] at Fc42 hc42
    refine Gl.back (fun _ k => st42.trans k) ?_
    show Gl _ _ _ _ _ _ _ (T42.setTop (mkF m 47 #[.val (.ref a), .val (.long xx), .second, .val (.long xx), .second] []))
    refine Gl.back (fun _ k => XS.lloadN X42.here hx rfl (hb hby d6_47) rfl k) ?_
    show Gl _ _ _ _ _ _ _ (T42.setTop (mkF m 48 #[.val (.ref a), .val (.long xx), .second, .val (.long xx), .second] [(.long xx)]))
    refine Gl.back (fun _ k => XS.bipush X42.here hx rfl (hb hby d6_48) k) ?_
    show Gl _ _ _ _ _ _ _ (T42.setTop (mkF m 50 #[.val (.ref a), .val (.long xx), .second, .val (.long xx), .second] [(.int (7 : Int32)), (.long xx)]))
    refine Gl.back (fun _ k => XS.lushr X42.here hx rfl (hb hby d6_50) rfl k) ?_
    show Gl _ _ _ _ _ _ _ (T42.setTop (mkF m 51 #[.val (.ref a), .val (.long xx), .second, .val (.long xx), .second] [(.long ((xx.toUInt64 >>> ((7 : Int32) &&& 0x3f).toInt64.toUInt64).toInt64))]))
    have hx43 := own_shift hx37
    generalize ((xx.toUInt64 >>> ((7 : Int32) &&& 0x3f).toInt64.toUInt64).toInt64) = x43 at hx43 ⊢
    show Gl _ _ _ _ _ _ _ (T42.setTop (mkF m 51 #[.val (.ref a), .val (.long xx), .second, .val (.long xx), .second] [(.long x43)]))
    refine Gl.back (fun _ k => XS.lstoreN X42.here hx rfl (hb hby d6_51) rfl (l' := #[.val (.ref a), .val (.long xx), .second, .val (.long x43), .second]) rfl k) ?_
    show Gl _ _ _ _ _ _ _ (T42.setTop (mkF m 52 #[.val (.ref a), .val (.long xx), .second, .val (.long x43), .second] []))
    refine Gl.back (fun _ k => XS.goto X42.here hx rfl (pc0 := 52) (pc' := 22) rfl (hb hby d6_52) (by decide) (by decide) k) ?_
    show Gl _ _ _ _ _ _ _ (T42.setTop (mkF m 22 #[.val (.ref a), .val (.long xx), .second, .val (.long x43), .second] []))
    refine Gl.back (fun _ k => XS.lloadN X42.here hx rfl (hb hby d6_22) rfl k) ?_
    show Gl _ _ _ _ _ _ _ (T42.setTop (mkF m 23 #[.val (.ref a), .val (.long xx), .second, .val (.long x43), .second] [(.long x43)]))
    refine Gl.back (fun _ k => X42.ldc2Long hx hown (mvT hZ (hw _ (List.mem_of_getElem? (i := 37) rfl))) (g := (mkF m 23 #[.val (.ref a), .val (.long xx), .second, .val (.long x43), .second] [(.long x43)])) rfl (hb hby d6_23) _ k) ?_
    show Gl _ _ _ _ _ _ _ (T42.setTop (mkF m 26 #[.val (.ref a), .val (.long xx), .second, .val (.long x43), .second] [(.long (128 : Int64)), (.long x43)]))
    refine Gl.back (fun _ k => XS.lcmp X42.here hx rfl (hb hby d6_26) rfl k) ?_
    show Gl _ _ _ _ _ _ _ (T42.setTop (mkF m 27 #[.val (.ref a), .val (.long xx), .second, .val (.long x43), .second] [(.int (lcmpW x43 (128 : Int64)))]))
    by_cases hc27_44 : x43 < (128 : Int64)
    · refine Gl.back (fun _ k => XS.ifYes X42.here hx rfl (pc0 := 27) (pc' := 55) rfl (hb hby d6_27) rfl ((if0 _ _).trans (tlt (own_lcL hc27_44)).1) (by decide) (by decide) k) ?_
      show Gl _ _ _ _ _ _ _ (T42.setTop (mkF m 55 #[.val (.ref a), .val (.long xx), .second, .val (.long x43), .second] []))
      refine Gl.back (fun _ k => XS.aloadN X42.here hx rfl (hb hby d6_55) rfl rfl k) ?_
      show Gl _ _ _ _ _ _ _ (T42.setTop (mkF m 56 #[.val (.ref a), .val (.long xx), .second, .val (.long x43), .second] [(.ref a)]))
      have f45 := (F_p.keep Kq42 (ninS hao (ninS hta nin0)))
      obtain ⟨T46, X46, e46, st46⟩ := getF X42 hx hZ hown (host := "") (Or.inl (hw _ (List.mem_of_getElem? (i := 30) rfl))) Via.refl rfl f45 (g := (mkF m 56 #[.val (.ref a), .val (.long xx), .second, .val (.long x43), .second] [(.ref a)])) rfl rfl (hb hby d6_56)
      refine Gl.back (fun _ k => st46 _ k) ?_
      show Gl _ _ _ _ _ _ _ (T46.setTop (mkF m 59 #[.val (.ref a), .val (.long xx), .second, .val (.long x43), .second] [(.ref o)]))
      refine Gl.back (fun _ k => XS.lloadN X46.here hx rfl (hb hby d6_59) rfl k) ?_
      show Gl _ _ _ _ _ _ _ (T46.setTop (mkF m 60 #[.val (.ref a), .val (.long xx), .second, .val (.long x43), .second] [(.long x43), (.ref o)]))
      refine Gl.back (fun _ k => XS.l2i X46.here hx rfl (hb hby d6_60) rfl k) ?_
      show Gl _ _ _ _ _ _ _ (T46.setTop (mkF m 61 #[.val (.ref a), .val (.long xx), .second, .val (.long x43), .second] [(.int (x43.toInt32)), (.ref o)]))
      have f48 := (E_o.keep Kq42)
      obtain ⟨cq47, kq47, q47a, q47b, q47c⟩ := isOf hZ e46 f48
      obtain ⟨_, _, ⟨T47, L47, k47, n47⟩, -, X47, ⟨Lc47, hQ47, l47, y47, z47⟩, st47⟩ := X46.virtualBack hx (y := (⟨"java/io/ByteArrayOutputStream", "write", "(I)V"⟩ : MethodName)) (z := (⟨"java/io/ByteArrayOutputStream", "write", "(I)V"⟩ : MethodName)) hown (mvT hZ (hw _ (List.mem_of_getElem? (i := 38) rfl))) (mvT hZ (hw _ (List.mem_of_getElem? (i := 39) rfl))) (notFace_of_selects (args := #[]) (mvT hZ (hw _ (List.mem_of_getElem? (i := 41) rfl)))) (mvT hZ (hw _ (List.mem_of_getElem? (i := 41) rfl))) (mvT hZ (hw _ (List.mem_of_getElem? (i := 40) rfl))) (by decide) (own_backOfY (W := 0) (rmwr l Z a0 hw [] o (x43.toInt32) t k_t vs42 c42 T42.heap n0 Zc42 g_o g_t Uq42 f48 Fb42 Fc42 V42 hot (own_32 hc42 (by omega)) (I42).2.2) hZ (hw _ (List.mem_of_getElem? (i := 42) rfl)) (hw _ (List.mem_of_getElem? (i := 40) rfl)) (hw _ (List.mem_of_getElem? (i := 12) rfl)) (by decide) (by decide)) q47a q47c (g := (mkF m 61 #[.val (.ref a), .val (.long xx), .second, .val (.long x43), .second] [(.int (x43.toInt32)), (.ref o)])) rfl (by rw [hml]; rfl) (Steps.refl _) (argsL := [(.int (x43.toInt32))]) (rest := []) (lenOf pd__I_V rfl) rfl (by show 2 * 0 + _ ≤ _; exact Nat.le_of_eq rfl) (hb hby d6_61) (fun _ _ => ⟨rfl, e46, (by decide : 0 + 0 ≤ _), (by decide : 0 + 0 ≤ _)⟩)
      dsimp only [Pt.U, Pt.locs, Pt.cells, Pt.slots] at X47 l47 y47 z47 st47 hQ47
      replace l47 := Eq.symm l47
      replace y47 := Eq.symm y47
      replace z47 := Eq.symm z47
      subst l47 y47 z47
      obtain ⟨Nq47, rfl, Kq47, Fb47, Fc47, V47, Uq47⟩ := hQ47
      have N47 := Fr.app N42 Nq47
      have Kc47 := Keep.trans Kc42 Kq47 (allS (Or.inl (List.mem_of_getElem? (i := 0) rfl)) (allS (Or.inl (List.mem_of_getElem? (i := 1) rfl)) all0))
      have Zc47 : n0 ≤ T47.heap.size := Nat.le_trans Zc42 Kq47.1
      have I47 := own_I2 I42 hc42 (by omega) hx43 hc27_44
      have hc47 := own_cs1 hc42 (by omega)
      obtain ⟨vs47, ev47⟩ : ∃ z, z = (vs42.set c42.toNatClampNeg (.int (nar .byte (((x43.toInt32)).toInt8.toInt32)))) := ⟨_, rfl⟩
      rw [← ev47] at V47 I47
      obtain ⟨c47, ec47⟩ : ∃ z, z = (c42 + (1 : Int32)) := ⟨_, rfl⟩
      rw [← ec47] at Fc47 hc47
      refine Gl.back (fun _ k => st47.trans k) ?_
      show Gl _ _ _ _ _ _ _ (T47.setTop (mkF m 64 #[.val (.ref a), .val (.long xx), .second, .val (.long x43), .second] []))
      refine Gl.back (fun _ k => XS.aloadN X47.here hx rfl (hb hby d6_64) rfl rfl k) ?_
      show Gl _ _ _ _ _ _ _ (T47.setTop (mkF m 65 #[.val (.ref a), .val (.long xx), .second, .val (.long x43), .second] [(.ref a)]))
      exact Gl.ret X47 rfl (v := (some (.ref a))) (fun h => by rw [Bd.returns] at h; cases h) Bd.notSynchronized (fun fs hr => retOut X47 hx (w := (.ref a)) Bd.returns rfl (Or.inr (Or.inr (Or.inr (Or.inr ⟨rfl, rfl, rfl⟩)))) (hb hby d6_65) hr) ⟨N47, 2, _, _, rfl, Kc47, Fb47, Fc47, V47, Uq47, I47, by rw [hc47, hn]; rfl, by decide, by decide, own_bound hx43 hc27_44⟩ (by decide) (by decide)
    · refine Gl.back (fun _ k => XS.ifNo X42.here hx rfl (hb hby d6_27) rfl ((if0 _ _).trans (flt (own_lcLn hc27_44)).1) k) ?_
      show Gl _ _ _ _ _ _ _ (T42.setTop (mkF m 30 #[.val (.ref a), .val (.long xx), .second, .val (.long x43), .second] []))
      refine Gl.back (fun _ k => XS.aloadN X42.here hx rfl (hb hby d6_30) rfl rfl k) ?_
      show Gl _ _ _ _ _ _ _ (T42.setTop (mkF m 31 #[.val (.ref a), .val (.long xx), .second, .val (.long x43), .second] [(.ref a)]))
      have f49 := (F_p.keep Kq42 (ninS hao (ninS hta nin0)))
      obtain ⟨T50, X50, e50, st50⟩ := getF X42 hx hZ hown (host := "") (Or.inl (hw _ (List.mem_of_getElem? (i := 30) rfl))) Via.refl rfl f49 (g := (mkF m 31 #[.val (.ref a), .val (.long xx), .second, .val (.long x43), .second] [(.ref a)])) rfl rfl (hb hby d6_31)
      refine Gl.back (fun _ k => st50 _ k) ?_
      show Gl _ _ _ _ _ _ _ (T50.setTop (mkF m 34 #[.val (.ref a), .val (.long xx), .second, .val (.long x43), .second] [(.ref o)]))
      refine Gl.back (fun _ k => XS.lloadN X50.here hx rfl (hb hby d6_34) rfl k) ?_
      show Gl _ _ _ _ _ _ _ (T50.setTop (mkF m 35 #[.val (.ref a), .val (.long xx), .second, .val (.long x43), .second] [(.long x43), (.ref o)]))
      refine Gl.back (fun _ k => X50.ldc2Long hx hown (mvT hZ (hw _ (List.mem_of_getElem? (i := 37) rfl))) (g := (mkF m 35 #[.val (.ref a), .val (.long xx), .second, .val (.long x43), .second] [(.long x43), (.ref o)])) rfl (hb hby d6_35) _ k) ?_
      show Gl _ _ _ _ _ _ _ (T50.setTop (mkF m 38 #[.val (.ref a), .val (.long xx), .second, .val (.long x43), .second] [(.long (128 : Int64)), (.long x43), (.ref o)]))
      refine Gl.back (fun _ k => XS.lrem X50.here hx rfl (hb hby d6_38) rfl (by decide) k) ?_
      show Gl _ _ _ _ _ _ _ (T50.setTop (mkF m 39 #[.val (.ref a), .val (.long xx), .second, .val (.long x43), .second] [(.long (x43 - (x43 / (128 : Int64)) * (128 : Int64))), (.ref o)]))
      refine Gl.back (fun _ k => XS.l2i X50.here hx rfl (hb hby d6_39) rfl k) ?_
      show Gl _ _ _ _ _ _ _ (T50.setTop (mkF m 40 #[.val (.ref a), .val (.long xx), .second, .val (.long x43), .second] [(.int ((x43 - (x43 / (128 : Int64)) * (128 : Int64)).toInt32)), (.ref o)]))
      refine Gl.back (fun _ k => XS.sipush X50.here hx rfl (hb hby d6_40) k) ?_
      show Gl _ _ _ _ _ _ _ (T50.setTop (mkF m 43 #[.val (.ref a), .val (.long xx), .second, .val (.long x43), .second] [(.int (128 : Int32)), (.int ((x43 - (x43 / (128 : Int64)) * (128 : Int64)).toInt32)), (.ref o)]))
      refine Gl.back (fun _ k => XS.iadd X50.here hx rfl (hb hby d6_43) rfl k) ?_
      show Gl _ _ _ _ _ _ _ (T50.setTop (mkF m 44 #[.val (.ref a), .val (.long xx), .second, .val (.long x43), .second] [(.int (((x43 - (x43 / (128 : Int64)) * (128 : Int64)).toInt32) + (128 : Int32))), (.ref o)]))
      have f52 := (E_o.keep Kq42)
      obtain ⟨cq51, kq51, q51a, q51b, q51c⟩ := isOf hZ e50 f52
      obtain ⟨_, _, ⟨T51, L51, k51, n51⟩, -, X51, ⟨Lc51, hQ51, l51, y51, z51⟩, st51⟩ := X50.virtualBack hx (y := (⟨"java/io/ByteArrayOutputStream", "write", "(I)V"⟩ : MethodName)) (z := (⟨"java/io/ByteArrayOutputStream", "write", "(I)V"⟩ : MethodName)) hown (mvT hZ (hw _ (List.mem_of_getElem? (i := 38) rfl))) (mvT hZ (hw _ (List.mem_of_getElem? (i := 39) rfl))) (notFace_of_selects (args := #[]) (mvT hZ (hw _ (List.mem_of_getElem? (i := 41) rfl)))) (mvT hZ (hw _ (List.mem_of_getElem? (i := 41) rfl))) (mvT hZ (hw _ (List.mem_of_getElem? (i := 40) rfl))) (by decide) (own_backOfY (W := 0) (rmwr l Z a0 hw [] o (((x43 - (x43 / (128 : Int64)) * (128 : Int64)).toInt32) + (128 : Int32)) t k_t vs42 c42 T42.heap n0 Zc42 g_o g_t Uq42 f52 Fb42 Fc42 V42 hot (own_32 hc42 (by omega)) (I42).2.2) hZ (hw _ (List.mem_of_getElem? (i := 42) rfl)) (hw _ (List.mem_of_getElem? (i := 40) rfl)) (hw _ (List.mem_of_getElem? (i := 12) rfl)) (by decide) (by decide)) q51a q51c (g := (mkF m 44 #[.val (.ref a), .val (.long xx), .second, .val (.long x43), .second] [(.int (((x43 - (x43 / (128 : Int64)) * (128 : Int64)).toInt32) + (128 : Int32))), (.ref o)])) rfl (by rw [hml]; rfl) (Steps.refl _) (argsL := [(.int (((x43 - (x43 / (128 : Int64)) * (128 : Int64)).toInt32) + (128 : Int32)))]) (rest := []) (lenOf pd__I_V rfl) rfl (by show 2 * 0 + _ ≤ _; exact Nat.le_of_eq rfl) (hb hby d6_44) (fun _ _ => ⟨rfl, e50, (by decide : 0 + 0 ≤ _), (by decide : 0 + 0 ≤ _)⟩)
      dsimp only [Pt.U, Pt.locs, Pt.cells, Pt.slots] at X51 l51 y51 z51 st51 hQ51
      replace l51 := Eq.symm l51
      replace y51 := Eq.symm y51
      replace z51 := Eq.symm z51
      subst l51 y51 z51
      obtain ⟨Nq51, rfl, Kq51, Fb51, Fc51, V51, Uq51⟩ := hQ51
      have N51 := Fr.app N42 Nq51
      have Kc51 := Keep.trans Kc42 Kq51 (allS (Or.inl (List.mem_of_getElem? (i := 0) rfl)) (allS (Or.inl (List.mem_of_getElem? (i := 1) rfl)) all0))
      have Zc51 : n0 ≤ T51.heap.size := Nat.le_trans Zc42 Kq51.1
      have I51 := own_I1 I42 hc42 (by omega) hx43
      have hc51 := own_cs1 hc42 (by omega)
      obtain ⟨vs51, ev51⟩ : ∃ z, z = (vs42.set c42.toNatClampNeg (.int (nar .byte (((((x43 - (x43 / (128 : Int64)) * (128 : Int64)).toInt32) + (128 : Int32))).toInt8.toInt32)))) := ⟨_, rfl⟩
      rw [← ev51] at V51 I51
      obtain ⟨c51, ec51⟩ : ∃ z, z = (c42 + (1 : Int32)) := ⟨_, rfl⟩
      rw [← ec51] at Fc51 hc51
      refine Gl.back (fun _ k => st51.trans k) ?_
      show Gl _ _ _ _ _ _ _ (T51.setTop (mkF m 47 #[.val (.ref a), .val (.long xx), .second, .val (.long x43), .second] []))
      refine Gl.back (fun _ k => XS.lloadN X51.here hx rfl (hb hby d6_47) rfl k) ?_
      show Gl _ _ _ _ _ _ _ (T51.setTop (mkF m 48 #[.val (.ref a), .val (.long xx), .second, .val (.long x43), .second] [(.long x43)]))
      refine Gl.back (fun _ k => XS.bipush X51.here hx rfl (hb hby d6_48) k) ?_
      show Gl _ _ _ _ _ _ _ (T51.setTop (mkF m 50 #[.val (.ref a), .val (.long xx), .second, .val (.long x43), .second] [(.int (7 : Int32)), (.long x43)]))
      refine Gl.back (fun _ k => XS.lushr X51.here hx rfl (hb hby d6_50) rfl k) ?_
      show Gl _ _ _ _ _ _ _ (T51.setTop (mkF m 51 #[.val (.ref a), .val (.long xx), .second, .val (.long x43), .second] [(.long ((x43.toUInt64 >>> ((7 : Int32) &&& 0x3f).toInt64.toUInt64).toInt64))]))
      have hx53 := own_shift hx43
      generalize ((x43.toUInt64 >>> ((7 : Int32) &&& 0x3f).toInt64.toUInt64).toInt64) = x53 at hx53 ⊢
      show Gl _ _ _ _ _ _ _ (T51.setTop (mkF m 51 #[.val (.ref a), .val (.long xx), .second, .val (.long x43), .second] [(.long x53)]))
      refine Gl.back (fun _ k => XS.lstoreN X51.here hx rfl (hb hby d6_51) rfl (l' := #[.val (.ref a), .val (.long xx), .second, .val (.long x53), .second]) rfl k) ?_
      show Gl _ _ _ _ _ _ _ (T51.setTop (mkF m 52 #[.val (.ref a), .val (.long xx), .second, .val (.long x53), .second] []))
      refine Gl.back (fun _ k => XS.goto X51.here hx rfl (pc0 := 52) (pc' := 22) rfl (hb hby d6_52) (by decide) (by decide) k) ?_
      show Gl _ _ _ _ _ _ _ (T51.setTop (mkF m 22 #[.val (.ref a), .val (.long xx), .second, .val (.long x53), .second] []))
      refine Gl.back (fun _ k => XS.lloadN X51.here hx rfl (hb hby d6_22) rfl k) ?_
      show Gl _ _ _ _ _ _ _ (T51.setTop (mkF m 23 #[.val (.ref a), .val (.long xx), .second, .val (.long x53), .second] [(.long x53)]))
      refine Gl.back (fun _ k => X51.ldc2Long hx hown (mvT hZ (hw _ (List.mem_of_getElem? (i := 37) rfl))) (g := (mkF m 23 #[.val (.ref a), .val (.long xx), .second, .val (.long x53), .second] [(.long x53)])) rfl (hb hby d6_23) _ k) ?_
      show Gl _ _ _ _ _ _ _ (T51.setTop (mkF m 26 #[.val (.ref a), .val (.long xx), .second, .val (.long x53), .second] [(.long (128 : Int64)), (.long x53)]))
      refine Gl.back (fun _ k => XS.lcmp X51.here hx rfl (hb hby d6_26) rfl k) ?_
      show Gl _ _ _ _ _ _ _ (T51.setTop (mkF m 27 #[.val (.ref a), .val (.long xx), .second, .val (.long x53), .second] [(.int (lcmpW x53 (128 : Int64)))]))
      by_cases hc27_54 : x53 < (128 : Int64)
      · refine Gl.back (fun _ k => XS.ifYes X51.here hx rfl (pc0 := 27) (pc' := 55) rfl (hb hby d6_27) rfl ((if0 _ _).trans (tlt (own_lcL hc27_54)).1) (by decide) (by decide) k) ?_
        show Gl _ _ _ _ _ _ _ (T51.setTop (mkF m 55 #[.val (.ref a), .val (.long xx), .second, .val (.long x53), .second] []))
        refine Gl.back (fun _ k => XS.aloadN X51.here hx rfl (hb hby d6_55) rfl rfl k) ?_
        show Gl _ _ _ _ _ _ _ (T51.setTop (mkF m 56 #[.val (.ref a), .val (.long xx), .second, .val (.long x53), .second] [(.ref a)]))
        have f55 := (f49.keep Kq51 (ninS hao (ninS hta nin0)))
        obtain ⟨T56, X56, e56, st56⟩ := getF X51 hx hZ hown (host := "") (Or.inl (hw _ (List.mem_of_getElem? (i := 30) rfl))) Via.refl rfl f55 (g := (mkF m 56 #[.val (.ref a), .val (.long xx), .second, .val (.long x53), .second] [(.ref a)])) rfl rfl (hb hby d6_56)
        refine Gl.back (fun _ k => st56 _ k) ?_
        show Gl _ _ _ _ _ _ _ (T56.setTop (mkF m 59 #[.val (.ref a), .val (.long xx), .second, .val (.long x53), .second] [(.ref o)]))
        refine Gl.back (fun _ k => XS.lloadN X56.here hx rfl (hb hby d6_59) rfl k) ?_
        show Gl _ _ _ _ _ _ _ (T56.setTop (mkF m 60 #[.val (.ref a), .val (.long xx), .second, .val (.long x53), .second] [(.long x53), (.ref o)]))
        refine Gl.back (fun _ k => XS.l2i X56.here hx rfl (hb hby d6_60) rfl k) ?_
        show Gl _ _ _ _ _ _ _ (T56.setTop (mkF m 61 #[.val (.ref a), .val (.long xx), .second, .val (.long x53), .second] [(.int (x53.toInt32)), (.ref o)]))
        have f58 := (f52.keep Kq51)
        obtain ⟨cq57, kq57, q57a, q57b, q57c⟩ := isOf hZ e56 f58
        obtain ⟨_, _, ⟨T57, L57, k57, n57⟩, -, X57, ⟨Lc57, hQ57, l57, y57, z57⟩, st57⟩ := X56.virtualBack hx (y := (⟨"java/io/ByteArrayOutputStream", "write", "(I)V"⟩ : MethodName)) (z := (⟨"java/io/ByteArrayOutputStream", "write", "(I)V"⟩ : MethodName)) hown (mvT hZ (hw _ (List.mem_of_getElem? (i := 38) rfl))) (mvT hZ (hw _ (List.mem_of_getElem? (i := 39) rfl))) (notFace_of_selects (args := #[]) (mvT hZ (hw _ (List.mem_of_getElem? (i := 41) rfl)))) (mvT hZ (hw _ (List.mem_of_getElem? (i := 41) rfl))) (mvT hZ (hw _ (List.mem_of_getElem? (i := 40) rfl))) (by decide) (own_backOfY (W := 0) (rmwr l Z a0 hw [] o (x53.toInt32) t k_t vs51 c51 T51.heap n0 Zc51 g_o g_t Uq51 f58 Fb51 Fc51 V51 hot (own_32 hc51 (by omega)) (I51).2.2) hZ (hw _ (List.mem_of_getElem? (i := 42) rfl)) (hw _ (List.mem_of_getElem? (i := 40) rfl)) (hw _ (List.mem_of_getElem? (i := 12) rfl)) (by decide) (by decide)) q57a q57c (g := (mkF m 61 #[.val (.ref a), .val (.long xx), .second, .val (.long x53), .second] [(.int (x53.toInt32)), (.ref o)])) rfl (by rw [hml]; rfl) (Steps.refl _) (argsL := [(.int (x53.toInt32))]) (rest := []) (lenOf pd__I_V rfl) rfl (by show 2 * 0 + _ ≤ _; exact Nat.le_of_eq rfl) (hb hby d6_61) (fun _ _ => ⟨rfl, e56, (by decide : 0 + 0 ≤ _), (by decide : 0 + 0 ≤ _)⟩)
        dsimp only [Pt.U, Pt.locs, Pt.cells, Pt.slots] at X57 l57 y57 z57 st57 hQ57
        replace l57 := Eq.symm l57
        replace y57 := Eq.symm y57
        replace z57 := Eq.symm z57
        subst l57 y57 z57
        obtain ⟨Nq57, rfl, Kq57, Fb57, Fc57, V57, Uq57⟩ := hQ57
        have N57 := Fr.app N51 Nq57
        have Kc57 := Keep.trans Kc51 Kq57 (allS (Or.inl (List.mem_of_getElem? (i := 0) rfl)) (allS (Or.inl (List.mem_of_getElem? (i := 1) rfl)) all0))
        have Zc57 : n0 ≤ T57.heap.size := Nat.le_trans Zc51 Kq57.1
        have I57 := own_I2 I51 hc51 (by omega) hx53 hc27_54
        have hc57 := own_cs1 hc51 (by omega)
        obtain ⟨vs57, ev57⟩ : ∃ z, z = (vs51.set c51.toNatClampNeg (.int (nar .byte (((x53.toInt32)).toInt8.toInt32)))) := ⟨_, rfl⟩
        rw [← ev57] at V57 I57
        obtain ⟨c57, ec57⟩ : ∃ z, z = (c51 + (1 : Int32)) := ⟨_, rfl⟩
        rw [← ec57] at Fc57 hc57
        refine Gl.back (fun _ k => st57.trans k) ?_
        show Gl _ _ _ _ _ _ _ (T57.setTop (mkF m 64 #[.val (.ref a), .val (.long xx), .second, .val (.long x53), .second] []))
        refine Gl.back (fun _ k => XS.aloadN X57.here hx rfl (hb hby d6_64) rfl rfl k) ?_
        show Gl _ _ _ _ _ _ _ (T57.setTop (mkF m 65 #[.val (.ref a), .val (.long xx), .second, .val (.long x53), .second] [(.ref a)]))
        exact Gl.ret X57 rfl (v := (some (.ref a))) (fun h => by rw [Bd.returns] at h; cases h) Bd.notSynchronized (fun fs hr => retOut X57 hx (w := (.ref a)) Bd.returns rfl (Or.inr (Or.inr (Or.inr (Or.inr ⟨rfl, rfl, rfl⟩)))) (hb hby d6_65) hr) ⟨N57, 3, _, _, rfl, Kc57, Fb57, Fc57, V57, Uq57, I57, by rw [hc57, hn]; rfl, by decide, by decide, own_bound hx53 hc27_54⟩ (by decide) (by decide)
      · refine Gl.back (fun _ k => XS.ifNo X51.here hx rfl (hb hby d6_27) rfl ((if0 _ _).trans (flt (own_lcLn hc27_54)).1) k) ?_
        show Gl _ _ _ _ _ _ _ (T51.setTop (mkF m 30 #[.val (.ref a), .val (.long xx), .second, .val (.long x53), .second] []))
        refine Gl.back (fun _ k => XS.aloadN X51.here hx rfl (hb hby d6_30) rfl rfl k) ?_
        show Gl _ _ _ _ _ _ _ (T51.setTop (mkF m 31 #[.val (.ref a), .val (.long xx), .second, .val (.long x53), .second] [(.ref a)]))
        have f59 := (f49.keep Kq51 (ninS hao (ninS hta nin0)))
        obtain ⟨T60, X60, e60, st60⟩ := getF X51 hx hZ hown (host := "") (Or.inl (hw _ (List.mem_of_getElem? (i := 30) rfl))) Via.refl rfl f59 (g := (mkF m 31 #[.val (.ref a), .val (.long xx), .second, .val (.long x53), .second] [(.ref a)])) rfl rfl (hb hby d6_31)
        refine Gl.back (fun _ k => st60 _ k) ?_
        show Gl _ _ _ _ _ _ _ (T60.setTop (mkF m 34 #[.val (.ref a), .val (.long xx), .second, .val (.long x53), .second] [(.ref o)]))
        refine Gl.back (fun _ k => XS.lloadN X60.here hx rfl (hb hby d6_34) rfl k) ?_
        show Gl _ _ _ _ _ _ _ (T60.setTop (mkF m 35 #[.val (.ref a), .val (.long xx), .second, .val (.long x53), .second] [(.long x53), (.ref o)]))
        refine Gl.back (fun _ k => X60.ldc2Long hx hown (mvT hZ (hw _ (List.mem_of_getElem? (i := 37) rfl))) (g := (mkF m 35 #[.val (.ref a), .val (.long xx), .second, .val (.long x53), .second] [(.long x53), (.ref o)])) rfl (hb hby d6_35) _ k) ?_
        show Gl _ _ _ _ _ _ _ (T60.setTop (mkF m 38 #[.val (.ref a), .val (.long xx), .second, .val (.long x53), .second] [(.long (128 : Int64)), (.long x53), (.ref o)]))
        refine Gl.back (fun _ k => XS.lrem X60.here hx rfl (hb hby d6_38) rfl (by decide) k) ?_
        show Gl _ _ _ _ _ _ _ (T60.setTop (mkF m 39 #[.val (.ref a), .val (.long xx), .second, .val (.long x53), .second] [(.long (x53 - (x53 / (128 : Int64)) * (128 : Int64))), (.ref o)]))
        refine Gl.back (fun _ k => XS.l2i X60.here hx rfl (hb hby d6_39) rfl k) ?_
        show Gl _ _ _ _ _ _ _ (T60.setTop (mkF m 40 #[.val (.ref a), .val (.long xx), .second, .val (.long x53), .second] [(.int ((x53 - (x53 / (128 : Int64)) * (128 : Int64)).toInt32)), (.ref o)]))
        refine Gl.back (fun _ k => XS.sipush X60.here hx rfl (hb hby d6_40) k) ?_
        show Gl _ _ _ _ _ _ _ (T60.setTop (mkF m 43 #[.val (.ref a), .val (.long xx), .second, .val (.long x53), .second] [(.int (128 : Int32)), (.int ((x53 - (x53 / (128 : Int64)) * (128 : Int64)).toInt32)), (.ref o)]))
        refine Gl.back (fun _ k => XS.iadd X60.here hx rfl (hb hby d6_43) rfl k) ?_
        show Gl _ _ _ _ _ _ _ (T60.setTop (mkF m 44 #[.val (.ref a), .val (.long xx), .second, .val (.long x53), .second] [(.int (((x53 - (x53 / (128 : Int64)) * (128 : Int64)).toInt32) + (128 : Int32))), (.ref o)]))
        have f62 := (f52.keep Kq51)
        obtain ⟨cq61, kq61, q61a, q61b, q61c⟩ := isOf hZ e60 f62
        obtain ⟨_, _, ⟨T61, L61, k61, n61⟩, -, X61, ⟨Lc61, hQ61, l61, y61, z61⟩, st61⟩ := X60.virtualBack hx (y := (⟨"java/io/ByteArrayOutputStream", "write", "(I)V"⟩ : MethodName)) (z := (⟨"java/io/ByteArrayOutputStream", "write", "(I)V"⟩ : MethodName)) hown (mvT hZ (hw _ (List.mem_of_getElem? (i := 38) rfl))) (mvT hZ (hw _ (List.mem_of_getElem? (i := 39) rfl))) (notFace_of_selects (args := #[]) (mvT hZ (hw _ (List.mem_of_getElem? (i := 41) rfl)))) (mvT hZ (hw _ (List.mem_of_getElem? (i := 41) rfl))) (mvT hZ (hw _ (List.mem_of_getElem? (i := 40) rfl))) (by decide) (own_backOfY (W := 0) (rmwr l Z a0 hw [] o (((x53 - (x53 / (128 : Int64)) * (128 : Int64)).toInt32) + (128 : Int32)) t k_t vs51 c51 T51.heap n0 Zc51 g_o g_t Uq51 f62 Fb51 Fc51 V51 hot (own_32 hc51 (by omega)) (I51).2.2) hZ (hw _ (List.mem_of_getElem? (i := 42) rfl)) (hw _ (List.mem_of_getElem? (i := 40) rfl)) (hw _ (List.mem_of_getElem? (i := 12) rfl)) (by decide) (by decide)) q61a q61c (g := (mkF m 44 #[.val (.ref a), .val (.long xx), .second, .val (.long x53), .second] [(.int (((x53 - (x53 / (128 : Int64)) * (128 : Int64)).toInt32) + (128 : Int32))), (.ref o)])) rfl (by rw [hml]; rfl) (Steps.refl _) (argsL := [(.int (((x53 - (x53 / (128 : Int64)) * (128 : Int64)).toInt32) + (128 : Int32)))]) (rest := []) (lenOf pd__I_V rfl) rfl (by show 2 * 0 + _ ≤ _; exact Nat.le_of_eq rfl) (hb hby d6_44) (fun _ _ => ⟨rfl, e60, (by decide : 0 + 0 ≤ _), (by decide : 0 + 0 ≤ _)⟩)
        dsimp only [Pt.U, Pt.locs, Pt.cells, Pt.slots] at X61 l61 y61 z61 st61 hQ61
        replace l61 := Eq.symm l61
        replace y61 := Eq.symm y61
        replace z61 := Eq.symm z61
        subst l61 y61 z61
        obtain ⟨Nq61, rfl, Kq61, Fb61, Fc61, V61, Uq61⟩ := hQ61
        have N61 := Fr.app N51 Nq61
        have Kc61 := Keep.trans Kc51 Kq61 (allS (Or.inl (List.mem_of_getElem? (i := 0) rfl)) (allS (Or.inl (List.mem_of_getElem? (i := 1) rfl)) all0))
        have Zc61 : n0 ≤ T61.heap.size := Nat.le_trans Zc51 Kq61.1
        have I61 := own_I1 I51 hc51 (by omega) hx53
        have hc61 := own_cs1 hc51 (by omega)
        obtain ⟨vs61, ev61⟩ : ∃ z, z = (vs51.set c51.toNatClampNeg (.int (nar .byte (((((x53 - (x53 / (128 : Int64)) * (128 : Int64)).toInt32) + (128 : Int32))).toInt8.toInt32)))) := ⟨_, rfl⟩
        rw [← ev61] at V61 I61
        obtain ⟨c61, ec61⟩ : ∃ z, z = (c51 + (1 : Int32)) := ⟨_, rfl⟩
        rw [← ec61] at Fc61 hc61
        refine Gl.back (fun _ k => st61.trans k) ?_
        show Gl _ _ _ _ _ _ _ (T61.setTop (mkF m 47 #[.val (.ref a), .val (.long xx), .second, .val (.long x53), .second] []))
        refine Gl.back (fun _ k => XS.lloadN X61.here hx rfl (hb hby d6_47) rfl k) ?_
        show Gl _ _ _ _ _ _ _ (T61.setTop (mkF m 48 #[.val (.ref a), .val (.long xx), .second, .val (.long x53), .second] [(.long x53)]))
        refine Gl.back (fun _ k => XS.bipush X61.here hx rfl (hb hby d6_48) k) ?_
        show Gl _ _ _ _ _ _ _ (T61.setTop (mkF m 50 #[.val (.ref a), .val (.long xx), .second, .val (.long x53), .second] [(.int (7 : Int32)), (.long x53)]))
        refine Gl.back (fun _ k => XS.lushr X61.here hx rfl (hb hby d6_50) rfl k) ?_
        show Gl _ _ _ _ _ _ _ (T61.setTop (mkF m 51 #[.val (.ref a), .val (.long xx), .second, .val (.long x53), .second] [(.long ((x53.toUInt64 >>> ((7 : Int32) &&& 0x3f).toInt64.toUInt64).toInt64))]))
        have hx63 := own_shift hx53
        generalize ((x53.toUInt64 >>> ((7 : Int32) &&& 0x3f).toInt64.toUInt64).toInt64) = x63 at hx63 ⊢
        show Gl _ _ _ _ _ _ _ (T61.setTop (mkF m 51 #[.val (.ref a), .val (.long xx), .second, .val (.long x53), .second] [(.long x63)]))
        refine Gl.back (fun _ k => XS.lstoreN X61.here hx rfl (hb hby d6_51) rfl (l' := #[.val (.ref a), .val (.long xx), .second, .val (.long x63), .second]) rfl k) ?_
        show Gl _ _ _ _ _ _ _ (T61.setTop (mkF m 52 #[.val (.ref a), .val (.long xx), .second, .val (.long x63), .second] []))
        refine Gl.back (fun _ k => XS.goto X61.here hx rfl (pc0 := 52) (pc' := 22) rfl (hb hby d6_52) (by decide) (by decide) k) ?_
        show Gl _ _ _ _ _ _ _ (T61.setTop (mkF m 22 #[.val (.ref a), .val (.long xx), .second, .val (.long x63), .second] []))
        refine Gl.back (fun _ k => XS.lloadN X61.here hx rfl (hb hby d6_22) rfl k) ?_
        show Gl _ _ _ _ _ _ _ (T61.setTop (mkF m 23 #[.val (.ref a), .val (.long xx), .second, .val (.long x63), .second] [(.long x63)]))
        refine Gl.back (fun _ k => X61.ldc2Long hx hown (mvT hZ (hw _ (List.mem_of_getElem? (i := 37) rfl))) (g := (mkF m 23 #[.val (.ref a), .val (.long xx), .second, .val (.long x63), .second] [(.long x63)])) rfl (hb hby d6_23) _ k) ?_
        show Gl _ _ _ _ _ _ _ (T61.setTop (mkF m 26 #[.val (.ref a), .val (.long xx), .second, .val (.long x63), .second] [(.long (128 : Int64)), (.long x63)]))
        refine Gl.back (fun _ k => XS.lcmp X61.here hx rfl (hb hby d6_26) rfl k) ?_
        show Gl _ _ _ _ _ _ _ (T61.setTop (mkF m 27 #[.val (.ref a), .val (.long xx), .second, .val (.long x63), .second] [(.int (lcmpW x63 (128 : Int64)))]))
        by_cases hc27_64 : x63 < (128 : Int64)
        · refine Gl.back (fun _ k => XS.ifYes X61.here hx rfl (pc0 := 27) (pc' := 55) rfl (hb hby d6_27) rfl ((if0 _ _).trans (tlt (own_lcL hc27_64)).1) (by decide) (by decide) k) ?_
          show Gl _ _ _ _ _ _ _ (T61.setTop (mkF m 55 #[.val (.ref a), .val (.long xx), .second, .val (.long x63), .second] []))
          refine Gl.back (fun _ k => XS.aloadN X61.here hx rfl (hb hby d6_55) rfl rfl k) ?_
          show Gl _ _ _ _ _ _ _ (T61.setTop (mkF m 56 #[.val (.ref a), .val (.long xx), .second, .val (.long x63), .second] [(.ref a)]))
          have f65 := (f59.keep Kq61 (ninS hao (ninS hta nin0)))
          obtain ⟨T66, X66, e66, st66⟩ := getF X61 hx hZ hown (host := "") (Or.inl (hw _ (List.mem_of_getElem? (i := 30) rfl))) Via.refl rfl f65 (g := (mkF m 56 #[.val (.ref a), .val (.long xx), .second, .val (.long x63), .second] [(.ref a)])) rfl rfl (hb hby d6_56)
          refine Gl.back (fun _ k => st66 _ k) ?_
          show Gl _ _ _ _ _ _ _ (T66.setTop (mkF m 59 #[.val (.ref a), .val (.long xx), .second, .val (.long x63), .second] [(.ref o)]))
          refine Gl.back (fun _ k => XS.lloadN X66.here hx rfl (hb hby d6_59) rfl k) ?_
          show Gl _ _ _ _ _ _ _ (T66.setTop (mkF m 60 #[.val (.ref a), .val (.long xx), .second, .val (.long x63), .second] [(.long x63), (.ref o)]))
          refine Gl.back (fun _ k => XS.l2i X66.here hx rfl (hb hby d6_60) rfl k) ?_
          show Gl _ _ _ _ _ _ _ (T66.setTop (mkF m 61 #[.val (.ref a), .val (.long xx), .second, .val (.long x63), .second] [(.int (x63.toInt32)), (.ref o)]))
          have f68 := (f62.keep Kq61)
          obtain ⟨cq67, kq67, q67a, q67b, q67c⟩ := isOf hZ e66 f68
          obtain ⟨_, _, ⟨T67, L67, k67, n67⟩, -, X67, ⟨Lc67, hQ67, l67, y67, z67⟩, st67⟩ := X66.virtualBack hx (y := (⟨"java/io/ByteArrayOutputStream", "write", "(I)V"⟩ : MethodName)) (z := (⟨"java/io/ByteArrayOutputStream", "write", "(I)V"⟩ : MethodName)) hown (mvT hZ (hw _ (List.mem_of_getElem? (i := 38) rfl))) (mvT hZ (hw _ (List.mem_of_getElem? (i := 39) rfl))) (notFace_of_selects (args := #[]) (mvT hZ (hw _ (List.mem_of_getElem? (i := 41) rfl)))) (mvT hZ (hw _ (List.mem_of_getElem? (i := 41) rfl))) (mvT hZ (hw _ (List.mem_of_getElem? (i := 40) rfl))) (by decide) (own_backOfY (W := 0) (rmwr l Z a0 hw [] o (x63.toInt32) t k_t vs61 c61 T61.heap n0 Zc61 g_o g_t Uq61 f68 Fb61 Fc61 V61 hot (own_32 hc61 (by omega)) (I61).2.2) hZ (hw _ (List.mem_of_getElem? (i := 42) rfl)) (hw _ (List.mem_of_getElem? (i := 40) rfl)) (hw _ (List.mem_of_getElem? (i := 12) rfl)) (by decide) (by decide)) q67a q67c (g := (mkF m 61 #[.val (.ref a), .val (.long xx), .second, .val (.long x63), .second] [(.int (x63.toInt32)), (.ref o)])) rfl (by rw [hml]; rfl) (Steps.refl _) (argsL := [(.int (x63.toInt32))]) (rest := []) (lenOf pd__I_V rfl) rfl (by show 2 * 0 + _ ≤ _; exact Nat.le_of_eq rfl) (hb hby d6_61) (fun _ _ => ⟨rfl, e66, (by decide : 0 + 0 ≤ _), (by decide : 0 + 0 ≤ _)⟩)
          dsimp only [Pt.U, Pt.locs, Pt.cells, Pt.slots] at X67 l67 y67 z67 st67 hQ67
          replace l67 := Eq.symm l67
          replace y67 := Eq.symm y67
          replace z67 := Eq.symm z67
          subst l67 y67 z67
          obtain ⟨Nq67, rfl, Kq67, Fb67, Fc67, V67, Uq67⟩ := hQ67
          have N67 := Fr.app N61 Nq67
          have Kc67 := Keep.trans Kc61 Kq67 (allS (Or.inl (List.mem_of_getElem? (i := 0) rfl)) (allS (Or.inl (List.mem_of_getElem? (i := 1) rfl)) all0))
          have Zc67 : n0 ≤ T67.heap.size := Nat.le_trans Zc61 Kq67.1
          have I67 := own_I2 I61 hc61 (by omega) hx63 hc27_64
          have hc67 := own_cs1 hc61 (by omega)
          obtain ⟨vs67, ev67⟩ : ∃ z, z = (vs61.set c61.toNatClampNeg (.int (nar .byte (((x63.toInt32)).toInt8.toInt32)))) := ⟨_, rfl⟩
          rw [← ev67] at V67 I67
          obtain ⟨c67, ec67⟩ : ∃ z, z = (c61 + (1 : Int32)) := ⟨_, rfl⟩
          rw [← ec67] at Fc67 hc67
          refine Gl.back (fun _ k => st67.trans k) ?_
          show Gl _ _ _ _ _ _ _ (T67.setTop (mkF m 64 #[.val (.ref a), .val (.long xx), .second, .val (.long x63), .second] []))
          refine Gl.back (fun _ k => XS.aloadN X67.here hx rfl (hb hby d6_64) rfl rfl k) ?_
          show Gl _ _ _ _ _ _ _ (T67.setTop (mkF m 65 #[.val (.ref a), .val (.long xx), .second, .val (.long x63), .second] [(.ref a)]))
          exact Gl.ret X67 rfl (v := (some (.ref a))) (fun h => by rw [Bd.returns] at h; cases h) Bd.notSynchronized (fun fs hr => retOut X67 hx (w := (.ref a)) Bd.returns rfl (Or.inr (Or.inr (Or.inr (Or.inr ⟨rfl, rfl, rfl⟩)))) (hb hby d6_65) hr) ⟨N67, 4, _, _, rfl, Kc67, Fb67, Fc67, V67, Uq67, I67, by rw [hc67, hn]; rfl, by decide, by decide, own_bound hx63 hc27_64⟩ (by decide) (by decide)
        · refine Gl.back (fun _ k => XS.ifNo X61.here hx rfl (hb hby d6_27) rfl ((if0 _ _).trans (flt (own_lcLn hc27_64)).1) k) ?_
          show Gl _ _ _ _ _ _ _ (T61.setTop (mkF m 30 #[.val (.ref a), .val (.long xx), .second, .val (.long x63), .second] []))
          refine Gl.back (fun _ k => XS.aloadN X61.here hx rfl (hb hby d6_30) rfl rfl k) ?_
          show Gl _ _ _ _ _ _ _ (T61.setTop (mkF m 31 #[.val (.ref a), .val (.long xx), .second, .val (.long x63), .second] [(.ref a)]))
          have f69 := (f59.keep Kq61 (ninS hao (ninS hta nin0)))
          obtain ⟨T70, X70, e70, st70⟩ := getF X61 hx hZ hown (host := "") (Or.inl (hw _ (List.mem_of_getElem? (i := 30) rfl))) Via.refl rfl f69 (g := (mkF m 31 #[.val (.ref a), .val (.long xx), .second, .val (.long x63), .second] [(.ref a)])) rfl rfl (hb hby d6_31)
          refine Gl.back (fun _ k => st70 _ k) ?_
          show Gl _ _ _ _ _ _ _ (T70.setTop (mkF m 34 #[.val (.ref a), .val (.long xx), .second, .val (.long x63), .second] [(.ref o)]))
          refine Gl.back (fun _ k => XS.lloadN X70.here hx rfl (hb hby d6_34) rfl k) ?_
          show Gl _ _ _ _ _ _ _ (T70.setTop (mkF m 35 #[.val (.ref a), .val (.long xx), .second, .val (.long x63), .second] [(.long x63), (.ref o)]))
          refine Gl.back (fun _ k => X70.ldc2Long hx hown (mvT hZ (hw _ (List.mem_of_getElem? (i := 37) rfl))) (g := (mkF m 35 #[.val (.ref a), .val (.long xx), .second, .val (.long x63), .second] [(.long x63), (.ref o)])) rfl (hb hby d6_35) _ k) ?_
          show Gl _ _ _ _ _ _ _ (T70.setTop (mkF m 38 #[.val (.ref a), .val (.long xx), .second, .val (.long x63), .second] [(.long (128 : Int64)), (.long x63), (.ref o)]))
          refine Gl.back (fun _ k => XS.lrem X70.here hx rfl (hb hby d6_38) rfl (by decide) k) ?_
          show Gl _ _ _ _ _ _ _ (T70.setTop (mkF m 39 #[.val (.ref a), .val (.long xx), .second, .val (.long x63), .second] [(.long (x63 - (x63 / (128 : Int64)) * (128 : Int64))), (.ref o)]))
          refine Gl.back (fun _ k => XS.l2i X70.here hx rfl (hb hby d6_39) rfl k) ?_
          show Gl _ _ _ _ _ _ _ (T70.setTop (mkF m 40 #[.val (.ref a), .val (.long xx), .second, .val (.long x63), .second] [(.int ((x63 - (x63 / (128 : Int64)) * (128 : Int64)).toInt32)), (.ref o)]))
          refine Gl.back (fun _ k => XS.sipush X70.here hx rfl (hb hby d6_40) k) ?_
          show Gl _ _ _ _ _ _ _ (T70.setTop (mkF m 43 #[.val (.ref a), .val (.long xx), .second, .val (.long x63), .second] [(.int (128 : Int32)), (.int ((x63 - (x63 / (128 : Int64)) * (128 : Int64)).toInt32)), (.ref o)]))
          refine Gl.back (fun _ k => XS.iadd X70.here hx rfl (hb hby d6_43) rfl k) ?_
          show Gl _ _ _ _ _ _ _ (T70.setTop (mkF m 44 #[.val (.ref a), .val (.long xx), .second, .val (.long x63), .second] [(.int (((x63 - (x63 / (128 : Int64)) * (128 : Int64)).toInt32) + (128 : Int32))), (.ref o)]))
          have f72 := (f62.keep Kq61)
          obtain ⟨cq71, kq71, q71a, q71b, q71c⟩ := isOf hZ e70 f72
          obtain ⟨_, _, ⟨T71, L71, k71, n71⟩, -, X71, ⟨Lc71, hQ71, l71, y71, z71⟩, st71⟩ := X70.virtualBack hx (y := (⟨"java/io/ByteArrayOutputStream", "write", "(I)V"⟩ : MethodName)) (z := (⟨"java/io/ByteArrayOutputStream", "write", "(I)V"⟩ : MethodName)) hown (mvT hZ (hw _ (List.mem_of_getElem? (i := 38) rfl))) (mvT hZ (hw _ (List.mem_of_getElem? (i := 39) rfl))) (notFace_of_selects (args := #[]) (mvT hZ (hw _ (List.mem_of_getElem? (i := 41) rfl)))) (mvT hZ (hw _ (List.mem_of_getElem? (i := 41) rfl))) (mvT hZ (hw _ (List.mem_of_getElem? (i := 40) rfl))) (by decide) (own_backOfY (W := 0) (rmwr l Z a0 hw [] o (((x63 - (x63 / (128 : Int64)) * (128 : Int64)).toInt32) + (128 : Int32)) t k_t vs61 c61 T61.heap n0 Zc61 g_o g_t Uq61 f72 Fb61 Fc61 V61 hot (own_32 hc61 (by omega)) (I61).2.2) hZ (hw _ (List.mem_of_getElem? (i := 42) rfl)) (hw _ (List.mem_of_getElem? (i := 40) rfl)) (hw _ (List.mem_of_getElem? (i := 12) rfl)) (by decide) (by decide)) q71a q71c (g := (mkF m 44 #[.val (.ref a), .val (.long xx), .second, .val (.long x63), .second] [(.int (((x63 - (x63 / (128 : Int64)) * (128 : Int64)).toInt32) + (128 : Int32))), (.ref o)])) rfl (by rw [hml]; rfl) (Steps.refl _) (argsL := [(.int (((x63 - (x63 / (128 : Int64)) * (128 : Int64)).toInt32) + (128 : Int32)))]) (rest := []) (lenOf pd__I_V rfl) rfl (by show 2 * 0 + _ ≤ _; exact Nat.le_of_eq rfl) (hb hby d6_44) (fun _ _ => ⟨rfl, e70, (by decide : 0 + 0 ≤ _), (by decide : 0 + 0 ≤ _)⟩)
          dsimp only [Pt.U, Pt.locs, Pt.cells, Pt.slots] at X71 l71 y71 z71 st71 hQ71
          replace l71 := Eq.symm l71
          replace y71 := Eq.symm y71
          replace z71 := Eq.symm z71
          subst l71 y71 z71
          obtain ⟨Nq71, rfl, Kq71, Fb71, Fc71, V71, Uq71⟩ := hQ71
          have N71 := Fr.app N61 Nq71
          have Kc71 := Keep.trans Kc61 Kq71 (allS (Or.inl (List.mem_of_getElem? (i := 0) rfl)) (allS (Or.inl (List.mem_of_getElem? (i := 1) rfl)) all0))
          have Zc71 : n0 ≤ T71.heap.size := Nat.le_trans Zc61 Kq71.1
          have I71 := own_I1 I61 hc61 (by omega) hx63
          have hc71 := own_cs1 hc61 (by omega)
          obtain ⟨vs71, ev71⟩ : ∃ z, z = (vs61.set c61.toNatClampNeg (.int (nar .byte (((((x63 - (x63 / (128 : Int64)) * (128 : Int64)).toInt32) + (128 : Int32))).toInt8.toInt32)))) := ⟨_, rfl⟩
          rw [← ev71] at V71 I71
          obtain ⟨c71, ec71⟩ : ∃ z, z = (c61 + (1 : Int32)) := ⟨_, rfl⟩
          rw [← ec71] at Fc71 hc71
          refine Gl.back (fun _ k => st71.trans k) ?_
          show Gl _ _ _ _ _ _ _ (T71.setTop (mkF m 47 #[.val (.ref a), .val (.long xx), .second, .val (.long x63), .second] []))
          refine Gl.back (fun _ k => XS.lloadN X71.here hx rfl (hb hby d6_47) rfl k) ?_
          show Gl _ _ _ _ _ _ _ (T71.setTop (mkF m 48 #[.val (.ref a), .val (.long xx), .second, .val (.long x63), .second] [(.long x63)]))
          refine Gl.back (fun _ k => XS.bipush X71.here hx rfl (hb hby d6_48) k) ?_
          show Gl _ _ _ _ _ _ _ (T71.setTop (mkF m 50 #[.val (.ref a), .val (.long xx), .second, .val (.long x63), .second] [(.int (7 : Int32)), (.long x63)]))
          refine Gl.back (fun _ k => XS.lushr X71.here hx rfl (hb hby d6_50) rfl k) ?_
          show Gl _ _ _ _ _ _ _ (T71.setTop (mkF m 51 #[.val (.ref a), .val (.long xx), .second, .val (.long x63), .second] [(.long ((x63.toUInt64 >>> ((7 : Int32) &&& 0x3f).toInt64.toUInt64).toInt64))]))
          have hx73 := own_shift hx63
          generalize ((x63.toUInt64 >>> ((7 : Int32) &&& 0x3f).toInt64.toUInt64).toInt64) = x73 at hx73 ⊢
          show Gl _ _ _ _ _ _ _ (T71.setTop (mkF m 51 #[.val (.ref a), .val (.long xx), .second, .val (.long x63), .second] [(.long x73)]))
          refine Gl.back (fun _ k => XS.lstoreN X71.here hx rfl (hb hby d6_51) rfl (l' := #[.val (.ref a), .val (.long xx), .second, .val (.long x73), .second]) rfl k) ?_
          show Gl _ _ _ _ _ _ _ (T71.setTop (mkF m 52 #[.val (.ref a), .val (.long xx), .second, .val (.long x73), .second] []))
          refine Gl.back (fun _ k => XS.goto X71.here hx rfl (pc0 := 52) (pc' := 22) rfl (hb hby d6_52) (by decide) (by decide) k) ?_
          show Gl _ _ _ _ _ _ _ (T71.setTop (mkF m 22 #[.val (.ref a), .val (.long xx), .second, .val (.long x73), .second] []))
          refine Gl.back (fun _ k => XS.lloadN X71.here hx rfl (hb hby d6_22) rfl k) ?_
          show Gl _ _ _ _ _ _ _ (T71.setTop (mkF m 23 #[.val (.ref a), .val (.long xx), .second, .val (.long x73), .second] [(.long x73)]))
          refine Gl.back (fun _ k => X71.ldc2Long hx hown (mvT hZ (hw _ (List.mem_of_getElem? (i := 37) rfl))) (g := (mkF m 23 #[.val (.ref a), .val (.long xx), .second, .val (.long x73), .second] [(.long x73)])) rfl (hb hby d6_23) _ k) ?_
          show Gl _ _ _ _ _ _ _ (T71.setTop (mkF m 26 #[.val (.ref a), .val (.long xx), .second, .val (.long x73), .second] [(.long (128 : Int64)), (.long x73)]))
          refine Gl.back (fun _ k => XS.lcmp X71.here hx rfl (hb hby d6_26) rfl k) ?_
          show Gl _ _ _ _ _ _ _ (T71.setTop (mkF m 27 #[.val (.ref a), .val (.long xx), .second, .val (.long x73), .second] [(.int (lcmpW x73 (128 : Int64)))]))
          by_cases hc27_74 : x73 < (128 : Int64)
          · refine Gl.back (fun _ k => XS.ifYes X71.here hx rfl (pc0 := 27) (pc' := 55) rfl (hb hby d6_27) rfl ((if0 _ _).trans (tlt (own_lcL hc27_74)).1) (by decide) (by decide) k) ?_
            show Gl _ _ _ _ _ _ _ (T71.setTop (mkF m 55 #[.val (.ref a), .val (.long xx), .second, .val (.long x73), .second] []))
            refine Gl.back (fun _ k => XS.aloadN X71.here hx rfl (hb hby d6_55) rfl rfl k) ?_
            show Gl _ _ _ _ _ _ _ (T71.setTop (mkF m 56 #[.val (.ref a), .val (.long xx), .second, .val (.long x73), .second] [(.ref a)]))
            have f75 := (f69.keep Kq71 (ninS hao (ninS hta nin0)))
            obtain ⟨T76, X76, e76, st76⟩ := getF X71 hx hZ hown (host := "") (Or.inl (hw _ (List.mem_of_getElem? (i := 30) rfl))) Via.refl rfl f75 (g := (mkF m 56 #[.val (.ref a), .val (.long xx), .second, .val (.long x73), .second] [(.ref a)])) rfl rfl (hb hby d6_56)
            refine Gl.back (fun _ k => st76 _ k) ?_
            show Gl _ _ _ _ _ _ _ (T76.setTop (mkF m 59 #[.val (.ref a), .val (.long xx), .second, .val (.long x73), .second] [(.ref o)]))
            refine Gl.back (fun _ k => XS.lloadN X76.here hx rfl (hb hby d6_59) rfl k) ?_
            show Gl _ _ _ _ _ _ _ (T76.setTop (mkF m 60 #[.val (.ref a), .val (.long xx), .second, .val (.long x73), .second] [(.long x73), (.ref o)]))
            refine Gl.back (fun _ k => XS.l2i X76.here hx rfl (hb hby d6_60) rfl k) ?_
            show Gl _ _ _ _ _ _ _ (T76.setTop (mkF m 61 #[.val (.ref a), .val (.long xx), .second, .val (.long x73), .second] [(.int (x73.toInt32)), (.ref o)]))
            have f78 := (f72.keep Kq71)
            obtain ⟨cq77, kq77, q77a, q77b, q77c⟩ := isOf hZ e76 f78
            obtain ⟨_, _, ⟨T77, L77, k77, n77⟩, -, X77, ⟨Lc77, hQ77, l77, y77, z77⟩, st77⟩ := X76.virtualBack hx (y := (⟨"java/io/ByteArrayOutputStream", "write", "(I)V"⟩ : MethodName)) (z := (⟨"java/io/ByteArrayOutputStream", "write", "(I)V"⟩ : MethodName)) hown (mvT hZ (hw _ (List.mem_of_getElem? (i := 38) rfl))) (mvT hZ (hw _ (List.mem_of_getElem? (i := 39) rfl))) (notFace_of_selects (args := #[]) (mvT hZ (hw _ (List.mem_of_getElem? (i := 41) rfl)))) (mvT hZ (hw _ (List.mem_of_getElem? (i := 41) rfl))) (mvT hZ (hw _ (List.mem_of_getElem? (i := 40) rfl))) (by decide) (own_backOfY (W := 0) (rmwr l Z a0 hw [] o (x73.toInt32) t k_t vs71 c71 T71.heap n0 Zc71 g_o g_t Uq71 f78 Fb71 Fc71 V71 hot (own_32 hc71 (by omega)) (I71).2.2) hZ (hw _ (List.mem_of_getElem? (i := 42) rfl)) (hw _ (List.mem_of_getElem? (i := 40) rfl)) (hw _ (List.mem_of_getElem? (i := 12) rfl)) (by decide) (by decide)) q77a q77c (g := (mkF m 61 #[.val (.ref a), .val (.long xx), .second, .val (.long x73), .second] [(.int (x73.toInt32)), (.ref o)])) rfl (by rw [hml]; rfl) (Steps.refl _) (argsL := [(.int (x73.toInt32))]) (rest := []) (lenOf pd__I_V rfl) rfl (by show 2 * 0 + _ ≤ _; exact Nat.le_of_eq rfl) (hb hby d6_61) (fun _ _ => ⟨rfl, e76, (by decide : 0 + 0 ≤ _), (by decide : 0 + 0 ≤ _)⟩)
            dsimp only [Pt.U, Pt.locs, Pt.cells, Pt.slots] at X77 l77 y77 z77 st77 hQ77
            replace l77 := Eq.symm l77
            replace y77 := Eq.symm y77
            replace z77 := Eq.symm z77
            subst l77 y77 z77
            obtain ⟨Nq77, rfl, Kq77, Fb77, Fc77, V77, Uq77⟩ := hQ77
            have N77 := Fr.app N71 Nq77
            have Kc77 := Keep.trans Kc71 Kq77 (allS (Or.inl (List.mem_of_getElem? (i := 0) rfl)) (allS (Or.inl (List.mem_of_getElem? (i := 1) rfl)) all0))
            have Zc77 : n0 ≤ T77.heap.size := Nat.le_trans Zc71 Kq77.1
            have I77 := own_I2 I71 hc71 (by omega) hx73 hc27_74
            have hc77 := own_cs1 hc71 (by omega)
            obtain ⟨vs77, ev77⟩ : ∃ z, z = (vs71.set c71.toNatClampNeg (.int (nar .byte (((x73.toInt32)).toInt8.toInt32)))) := ⟨_, rfl⟩
            rw [← ev77] at V77 I77
            obtain ⟨c77, ec77⟩ : ∃ z, z = (c71 + (1 : Int32)) := ⟨_, rfl⟩
            rw [← ec77] at Fc77 hc77
            refine Gl.back (fun _ k => st77.trans k) ?_
            show Gl _ _ _ _ _ _ _ (T77.setTop (mkF m 64 #[.val (.ref a), .val (.long xx), .second, .val (.long x73), .second] []))
            refine Gl.back (fun _ k => XS.aloadN X77.here hx rfl (hb hby d6_64) rfl rfl k) ?_
            show Gl _ _ _ _ _ _ _ (T77.setTop (mkF m 65 #[.val (.ref a), .val (.long xx), .second, .val (.long x73), .second] [(.ref a)]))
            exact Gl.ret X77 rfl (v := (some (.ref a))) (fun h => by rw [Bd.returns] at h; cases h) Bd.notSynchronized (fun fs hr => retOut X77 hx (w := (.ref a)) Bd.returns rfl (Or.inr (Or.inr (Or.inr (Or.inr ⟨rfl, rfl, rfl⟩)))) (hb hby d6_65) hr) ⟨N77, 5, _, _, rfl, Kc77, Fb77, Fc77, V77, Uq77, I77, by rw [hc77, hn]; rfl, by decide, by decide, own_bound hx73 hc27_74⟩ (by decide) (by decide)
          · refine Gl.back (fun _ k => XS.ifNo X71.here hx rfl (hb hby d6_27) rfl ((if0 _ _).trans (flt (own_lcLn hc27_74)).1) k) ?_
            show Gl _ _ _ _ _ _ _ (T71.setTop (mkF m 30 #[.val (.ref a), .val (.long xx), .second, .val (.long x73), .second] []))
            refine Gl.back (fun _ k => XS.aloadN X71.here hx rfl (hb hby d6_30) rfl rfl k) ?_
            show Gl _ _ _ _ _ _ _ (T71.setTop (mkF m 31 #[.val (.ref a), .val (.long xx), .second, .val (.long x73), .second] [(.ref a)]))
            have f79 := (f69.keep Kq71 (ninS hao (ninS hta nin0)))
            obtain ⟨T80, X80, e80, st80⟩ := getF X71 hx hZ hown (host := "") (Or.inl (hw _ (List.mem_of_getElem? (i := 30) rfl))) Via.refl rfl f79 (g := (mkF m 31 #[.val (.ref a), .val (.long xx), .second, .val (.long x73), .second] [(.ref a)])) rfl rfl (hb hby d6_31)
            refine Gl.back (fun _ k => st80 _ k) ?_
            show Gl _ _ _ _ _ _ _ (T80.setTop (mkF m 34 #[.val (.ref a), .val (.long xx), .second, .val (.long x73), .second] [(.ref o)]))
            refine Gl.back (fun _ k => XS.lloadN X80.here hx rfl (hb hby d6_34) rfl k) ?_
            show Gl _ _ _ _ _ _ _ (T80.setTop (mkF m 35 #[.val (.ref a), .val (.long xx), .second, .val (.long x73), .second] [(.long x73), (.ref o)]))
            refine Gl.back (fun _ k => X80.ldc2Long hx hown (mvT hZ (hw _ (List.mem_of_getElem? (i := 37) rfl))) (g := (mkF m 35 #[.val (.ref a), .val (.long xx), .second, .val (.long x73), .second] [(.long x73), (.ref o)])) rfl (hb hby d6_35) _ k) ?_
            show Gl _ _ _ _ _ _ _ (T80.setTop (mkF m 38 #[.val (.ref a), .val (.long xx), .second, .val (.long x73), .second] [(.long (128 : Int64)), (.long x73), (.ref o)]))
            refine Gl.back (fun _ k => XS.lrem X80.here hx rfl (hb hby d6_38) rfl (by decide) k) ?_
            show Gl _ _ _ _ _ _ _ (T80.setTop (mkF m 39 #[.val (.ref a), .val (.long xx), .second, .val (.long x73), .second] [(.long (x73 - (x73 / (128 : Int64)) * (128 : Int64))), (.ref o)]))
            refine Gl.back (fun _ k => XS.l2i X80.here hx rfl (hb hby d6_39) rfl k) ?_
            show Gl _ _ _ _ _ _ _ (T80.setTop (mkF m 40 #[.val (.ref a), .val (.long xx), .second, .val (.long x73), .second] [(.int ((x73 - (x73 / (128 : Int64)) * (128 : Int64)).toInt32)), (.ref o)]))
            refine Gl.back (fun _ k => XS.sipush X80.here hx rfl (hb hby d6_40) k) ?_
            show Gl _ _ _ _ _ _ _ (T80.setTop (mkF m 43 #[.val (.ref a), .val (.long xx), .second, .val (.long x73), .second] [(.int (128 : Int32)), (.int ((x73 - (x73 / (128 : Int64)) * (128 : Int64)).toInt32)), (.ref o)]))
            refine Gl.back (fun _ k => XS.iadd X80.here hx rfl (hb hby d6_43) rfl k) ?_
            show Gl _ _ _ _ _ _ _ (T80.setTop (mkF m 44 #[.val (.ref a), .val (.long xx), .second, .val (.long x73), .second] [(.int (((x73 - (x73 / (128 : Int64)) * (128 : Int64)).toInt32) + (128 : Int32))), (.ref o)]))
            have f82 := (f72.keep Kq71)
            obtain ⟨cq81, kq81, q81a, q81b, q81c⟩ := isOf hZ e80 f82
            obtain ⟨_, _, ⟨T81, L81, k81, n81⟩, -, X81, ⟨Lc81, hQ81, l81, y81, z81⟩, st81⟩ := X80.virtualBack hx (y := (⟨"java/io/ByteArrayOutputStream", "write", "(I)V"⟩ : MethodName)) (z := (⟨"java/io/ByteArrayOutputStream", "write", "(I)V"⟩ : MethodName)) hown (mvT hZ (hw _ (List.mem_of_getElem? (i := 38) rfl))) (mvT hZ (hw _ (List.mem_of_getElem? (i := 39) rfl))) (notFace_of_selects (args := #[]) (mvT hZ (hw _ (List.mem_of_getElem? (i := 41) rfl)))) (mvT hZ (hw _ (List.mem_of_getElem? (i := 41) rfl))) (mvT hZ (hw _ (List.mem_of_getElem? (i := 40) rfl))) (by decide) (own_backOfY (W := 0) (rmwr l Z a0 hw [] o (((x73 - (x73 / (128 : Int64)) * (128 : Int64)).toInt32) + (128 : Int32)) t k_t vs71 c71 T71.heap n0 Zc71 g_o g_t Uq71 f82 Fb71 Fc71 V71 hot (own_32 hc71 (by omega)) (I71).2.2) hZ (hw _ (List.mem_of_getElem? (i := 42) rfl)) (hw _ (List.mem_of_getElem? (i := 40) rfl)) (hw _ (List.mem_of_getElem? (i := 12) rfl)) (by decide) (by decide)) q81a q81c (g := (mkF m 44 #[.val (.ref a), .val (.long xx), .second, .val (.long x73), .second] [(.int (((x73 - (x73 / (128 : Int64)) * (128 : Int64)).toInt32) + (128 : Int32))), (.ref o)])) rfl (by rw [hml]; rfl) (Steps.refl _) (argsL := [(.int (((x73 - (x73 / (128 : Int64)) * (128 : Int64)).toInt32) + (128 : Int32)))]) (rest := []) (lenOf pd__I_V rfl) rfl (by show 2 * 0 + _ ≤ _; exact Nat.le_of_eq rfl) (hb hby d6_44) (fun _ _ => ⟨rfl, e80, (by decide : 0 + 0 ≤ _), (by decide : 0 + 0 ≤ _)⟩)
            dsimp only [Pt.U, Pt.locs, Pt.cells, Pt.slots] at X81 l81 y81 z81 st81 hQ81
            replace l81 := Eq.symm l81
            replace y81 := Eq.symm y81
            replace z81 := Eq.symm z81
            subst l81 y81 z81
            obtain ⟨Nq81, rfl, Kq81, Fb81, Fc81, V81, Uq81⟩ := hQ81
            have N81 := Fr.app N71 Nq81
            have Kc81 := Keep.trans Kc71 Kq81 (allS (Or.inl (List.mem_of_getElem? (i := 0) rfl)) (allS (Or.inl (List.mem_of_getElem? (i := 1) rfl)) all0))
            have Zc81 : n0 ≤ T81.heap.size := Nat.le_trans Zc71 Kq81.1
            have I81 := own_I1 I71 hc71 (by omega) hx73
            have hc81 := own_cs1 hc71 (by omega)
            obtain ⟨vs81, ev81⟩ : ∃ z, z = (vs71.set c71.toNatClampNeg (.int (nar .byte (((((x73 - (x73 / (128 : Int64)) * (128 : Int64)).toInt32) + (128 : Int32))).toInt8.toInt32)))) := ⟨_, rfl⟩
            rw [← ev81] at V81 I81
            obtain ⟨c81, ec81⟩ : ∃ z, z = (c71 + (1 : Int32)) := ⟨_, rfl⟩
            rw [← ec81] at Fc81 hc81
            refine Gl.back (fun _ k => st81.trans k) ?_
            show Gl _ _ _ _ _ _ _ (T81.setTop (mkF m 47 #[.val (.ref a), .val (.long xx), .second, .val (.long x73), .second] []))
            refine Gl.back (fun _ k => XS.lloadN X81.here hx rfl (hb hby d6_47) rfl k) ?_
            show Gl _ _ _ _ _ _ _ (T81.setTop (mkF m 48 #[.val (.ref a), .val (.long xx), .second, .val (.long x73), .second] [(.long x73)]))
            refine Gl.back (fun _ k => XS.bipush X81.here hx rfl (hb hby d6_48) k) ?_
            show Gl _ _ _ _ _ _ _ (T81.setTop (mkF m 50 #[.val (.ref a), .val (.long xx), .second, .val (.long x73), .second] [(.int (7 : Int32)), (.long x73)]))
            refine Gl.back (fun _ k => XS.lushr X81.here hx rfl (hb hby d6_50) rfl k) ?_
            show Gl _ _ _ _ _ _ _ (T81.setTop (mkF m 51 #[.val (.ref a), .val (.long xx), .second, .val (.long x73), .second] [(.long ((x73.toUInt64 >>> ((7 : Int32) &&& 0x3f).toInt64.toUInt64).toInt64))]))
            have hx83 := own_shift hx73
            generalize ((x73.toUInt64 >>> ((7 : Int32) &&& 0x3f).toInt64.toUInt64).toInt64) = x83 at hx83 ⊢
            show Gl _ _ _ _ _ _ _ (T81.setTop (mkF m 51 #[.val (.ref a), .val (.long xx), .second, .val (.long x73), .second] [(.long x83)]))
            refine Gl.back (fun _ k => XS.lstoreN X81.here hx rfl (hb hby d6_51) rfl (l' := #[.val (.ref a), .val (.long xx), .second, .val (.long x83), .second]) rfl k) ?_
            show Gl _ _ _ _ _ _ _ (T81.setTop (mkF m 52 #[.val (.ref a), .val (.long xx), .second, .val (.long x83), .second] []))
            refine Gl.back (fun _ k => XS.goto X81.here hx rfl (pc0 := 52) (pc' := 22) rfl (hb hby d6_52) (by decide) (by decide) k) ?_
            show Gl _ _ _ _ _ _ _ (T81.setTop (mkF m 22 #[.val (.ref a), .val (.long xx), .second, .val (.long x83), .second] []))
            refine Gl.back (fun _ k => XS.lloadN X81.here hx rfl (hb hby d6_22) rfl k) ?_
            show Gl _ _ _ _ _ _ _ (T81.setTop (mkF m 23 #[.val (.ref a), .val (.long xx), .second, .val (.long x83), .second] [(.long x83)]))
            refine Gl.back (fun _ k => X81.ldc2Long hx hown (mvT hZ (hw _ (List.mem_of_getElem? (i := 37) rfl))) (g := (mkF m 23 #[.val (.ref a), .val (.long xx), .second, .val (.long x83), .second] [(.long x83)])) rfl (hb hby d6_23) _ k) ?_
            show Gl _ _ _ _ _ _ _ (T81.setTop (mkF m 26 #[.val (.ref a), .val (.long xx), .second, .val (.long x83), .second] [(.long (128 : Int64)), (.long x83)]))
            refine Gl.back (fun _ k => XS.lcmp X81.here hx rfl (hb hby d6_26) rfl k) ?_
            show Gl _ _ _ _ _ _ _ (T81.setTop (mkF m 27 #[.val (.ref a), .val (.long xx), .second, .val (.long x83), .second] [(.int (lcmpW x83 (128 : Int64)))]))
            by_cases hc27_84 : x83 < (128 : Int64)
            · refine Gl.back (fun _ k => XS.ifYes X81.here hx rfl (pc0 := 27) (pc' := 55) rfl (hb hby d6_27) rfl ((if0 _ _).trans (tlt (own_lcL hc27_84)).1) (by decide) (by decide) k) ?_
              show Gl _ _ _ _ _ _ _ (T81.setTop (mkF m 55 #[.val (.ref a), .val (.long xx), .second, .val (.long x83), .second] []))
              refine Gl.back (fun _ k => XS.aloadN X81.here hx rfl (hb hby d6_55) rfl rfl k) ?_
              show Gl _ _ _ _ _ _ _ (T81.setTop (mkF m 56 #[.val (.ref a), .val (.long xx), .second, .val (.long x83), .second] [(.ref a)]))
              have f85 := (f79.keep Kq81 (ninS hao (ninS hta nin0)))
              obtain ⟨T86, X86, e86, st86⟩ := getF X81 hx hZ hown (host := "") (Or.inl (hw _ (List.mem_of_getElem? (i := 30) rfl))) Via.refl rfl f85 (g := (mkF m 56 #[.val (.ref a), .val (.long xx), .second, .val (.long x83), .second] [(.ref a)])) rfl rfl (hb hby d6_56)
              refine Gl.back (fun _ k => st86 _ k) ?_
              show Gl _ _ _ _ _ _ _ (T86.setTop (mkF m 59 #[.val (.ref a), .val (.long xx), .second, .val (.long x83), .second] [(.ref o)]))
              refine Gl.back (fun _ k => XS.lloadN X86.here hx rfl (hb hby d6_59) rfl k) ?_
              show Gl _ _ _ _ _ _ _ (T86.setTop (mkF m 60 #[.val (.ref a), .val (.long xx), .second, .val (.long x83), .second] [(.long x83), (.ref o)]))
              refine Gl.back (fun _ k => XS.l2i X86.here hx rfl (hb hby d6_60) rfl k) ?_
              show Gl _ _ _ _ _ _ _ (T86.setTop (mkF m 61 #[.val (.ref a), .val (.long xx), .second, .val (.long x83), .second] [(.int (x83.toInt32)), (.ref o)]))
              have f88 := (f82.keep Kq81)
              obtain ⟨cq87, kq87, q87a, q87b, q87c⟩ := isOf hZ e86 f88
              obtain ⟨_, _, ⟨T87, L87, k87, n87⟩, -, X87, ⟨Lc87, hQ87, l87, y87, z87⟩, st87⟩ := X86.virtualBack hx (y := (⟨"java/io/ByteArrayOutputStream", "write", "(I)V"⟩ : MethodName)) (z := (⟨"java/io/ByteArrayOutputStream", "write", "(I)V"⟩ : MethodName)) hown (mvT hZ (hw _ (List.mem_of_getElem? (i := 38) rfl))) (mvT hZ (hw _ (List.mem_of_getElem? (i := 39) rfl))) (notFace_of_selects (args := #[]) (mvT hZ (hw _ (List.mem_of_getElem? (i := 41) rfl)))) (mvT hZ (hw _ (List.mem_of_getElem? (i := 41) rfl))) (mvT hZ (hw _ (List.mem_of_getElem? (i := 40) rfl))) (by decide) (own_backOfY (W := 0) (rmwr l Z a0 hw [] o (x83.toInt32) t k_t vs81 c81 T81.heap n0 Zc81 g_o g_t Uq81 f88 Fb81 Fc81 V81 hot (own_32 hc81 (by omega)) (I81).2.2) hZ (hw _ (List.mem_of_getElem? (i := 42) rfl)) (hw _ (List.mem_of_getElem? (i := 40) rfl)) (hw _ (List.mem_of_getElem? (i := 12) rfl)) (by decide) (by decide)) q87a q87c (g := (mkF m 61 #[.val (.ref a), .val (.long xx), .second, .val (.long x83), .second] [(.int (x83.toInt32)), (.ref o)])) rfl (by rw [hml]; rfl) (Steps.refl _) (argsL := [(.int (x83.toInt32))]) (rest := []) (lenOf pd__I_V rfl) rfl (by show 2 * 0 + _ ≤ _; exact Nat.le_of_eq rfl) (hb hby d6_61) (fun _ _ => ⟨rfl, e86, (by decide : 0 + 0 ≤ _), (by decide : 0 + 0 ≤ _)⟩)
              dsimp only [Pt.U, Pt.locs, Pt.cells, Pt.slots] at X87 l87 y87 z87 st87 hQ87
              replace l87 := Eq.symm l87
              replace y87 := Eq.symm y87
              replace z87 := Eq.symm z87
              subst l87 y87 z87
              obtain ⟨Nq87, rfl, Kq87, Fb87, Fc87, V87, Uq87⟩ := hQ87
              have N87 := Fr.app N81 Nq87
              have Kc87 := Keep.trans Kc81 Kq87 (allS (Or.inl (List.mem_of_getElem? (i := 0) rfl)) (allS (Or.inl (List.mem_of_getElem? (i := 1) rfl)) all0))
              have Zc87 : n0 ≤ T87.heap.size := Nat.le_trans Zc81 Kq87.1
              have I87 := own_I2 I81 hc81 (by omega) hx83 hc27_84
              have hc87 := own_cs1 hc81 (by omega)
              obtain ⟨vs87, ev87⟩ : ∃ z, z = (vs81.set c81.toNatClampNeg (.int (nar .byte (((x83.toInt32)).toInt8.toInt32)))) := ⟨_, rfl⟩
              rw [← ev87] at V87 I87
              obtain ⟨c87, ec87⟩ : ∃ z, z = (c81 + (1 : Int32)) := ⟨_, rfl⟩
              rw [← ec87] at Fc87 hc87
              refine Gl.back (fun _ k => st87.trans k) ?_
              show Gl _ _ _ _ _ _ _ (T87.setTop (mkF m 64 #[.val (.ref a), .val (.long xx), .second, .val (.long x83), .second] []))
              refine Gl.back (fun _ k => XS.aloadN X87.here hx rfl (hb hby d6_64) rfl rfl k) ?_
              show Gl _ _ _ _ _ _ _ (T87.setTop (mkF m 65 #[.val (.ref a), .val (.long xx), .second, .val (.long x83), .second] [(.ref a)]))
              exact Gl.ret X87 rfl (v := (some (.ref a))) (fun h => by rw [Bd.returns] at h; cases h) Bd.notSynchronized (fun fs hr => retOut X87 hx (w := (.ref a)) Bd.returns rfl (Or.inr (Or.inr (Or.inr (Or.inr ⟨rfl, rfl, rfl⟩)))) (hb hby d6_65) hr) ⟨N87, 6, _, _, rfl, Kc87, Fb87, Fc87, V87, Uq87, I87, by rw [hc87, hn]; rfl, by decide, by decide, own_bound hx83 hc27_84⟩ (by decide) (by decide)
            · refine Gl.back (fun _ k => XS.ifNo X81.here hx rfl (hb hby d6_27) rfl ((if0 _ _).trans (flt (own_lcLn hc27_84)).1) k) ?_
              show Gl _ _ _ _ _ _ _ (T81.setTop (mkF m 30 #[.val (.ref a), .val (.long xx), .second, .val (.long x83), .second] []))
              refine Gl.back (fun _ k => XS.aloadN X81.here hx rfl (hb hby d6_30) rfl rfl k) ?_
              show Gl _ _ _ _ _ _ _ (T81.setTop (mkF m 31 #[.val (.ref a), .val (.long xx), .second, .val (.long x83), .second] [(.ref a)]))
              have f89 := (f79.keep Kq81 (ninS hao (ninS hta nin0)))
              obtain ⟨T90, X90, e90, st90⟩ := getF X81 hx hZ hown (host := "") (Or.inl (hw _ (List.mem_of_getElem? (i := 30) rfl))) Via.refl rfl f89 (g := (mkF m 31 #[.val (.ref a), .val (.long xx), .second, .val (.long x83), .second] [(.ref a)])) rfl rfl (hb hby d6_31)
              refine Gl.back (fun _ k => st90 _ k) ?_
              show Gl _ _ _ _ _ _ _ (T90.setTop (mkF m 34 #[.val (.ref a), .val (.long xx), .second, .val (.long x83), .second] [(.ref o)]))
              refine Gl.back (fun _ k => XS.lloadN X90.here hx rfl (hb hby d6_34) rfl k) ?_
              show Gl _ _ _ _ _ _ _ (T90.setTop (mkF m 35 #[.val (.ref a), .val (.long xx), .second, .val (.long x83), .second] [(.long x83), (.ref o)]))
              refine Gl.back (fun _ k => X90.ldc2Long hx hown (mvT hZ (hw _ (List.mem_of_getElem? (i := 37) rfl))) (g := (mkF m 35 #[.val (.ref a), .val (.long xx), .second, .val (.long x83), .second] [(.long x83), (.ref o)])) rfl (hb hby d6_35) _ k) ?_
              show Gl _ _ _ _ _ _ _ (T90.setTop (mkF m 38 #[.val (.ref a), .val (.long xx), .second, .val (.long x83), .second] [(.long (128 : Int64)), (.long x83), (.ref o)]))
              refine Gl.back (fun _ k => XS.lrem X90.here hx rfl (hb hby d6_38) rfl (by decide) k) ?_
              show Gl _ _ _ _ _ _ _ (T90.setTop (mkF m 39 #[.val (.ref a), .val (.long xx), .second, .val (.long x83), .second] [(.long (x83 - (x83 / (128 : Int64)) * (128 : Int64))), (.ref o)]))
              refine Gl.back (fun _ k => XS.l2i X90.here hx rfl (hb hby d6_39) rfl k) ?_
              show Gl _ _ _ _ _ _ _ (T90.setTop (mkF m 40 #[.val (.ref a), .val (.long xx), .second, .val (.long x83), .second] [(.int ((x83 - (x83 / (128 : Int64)) * (128 : Int64)).toInt32)), (.ref o)]))
              refine Gl.back (fun _ k => XS.sipush X90.here hx rfl (hb hby d6_40) k) ?_
              show Gl _ _ _ _ _ _ _ (T90.setTop (mkF m 43 #[.val (.ref a), .val (.long xx), .second, .val (.long x83), .second] [(.int (128 : Int32)), (.int ((x83 - (x83 / (128 : Int64)) * (128 : Int64)).toInt32)), (.ref o)]))
              refine Gl.back (fun _ k => XS.iadd X90.here hx rfl (hb hby d6_43) rfl k) ?_
              show Gl _ _ _ _ _ _ _ (T90.setTop (mkF m 44 #[.val (.ref a), .val (.long xx), .second, .val (.long x83), .second] [(.int (((x83 - (x83 / (128 : Int64)) * (128 : Int64)).toInt32) + (128 : Int32))), (.ref o)]))
              have f92 := (f82.keep Kq81)
              obtain ⟨cq91, kq91, q91a, q91b, q91c⟩ := isOf hZ e90 f92
              obtain ⟨_, _, ⟨T91, L91, k91, n91⟩, -, X91, ⟨Lc91, hQ91, l91, y91, z91⟩, st91⟩ := X90.virtualBack hx (y := (⟨"java/io/ByteArrayOutputStream", "write", "(I)V"⟩ : MethodName)) (z := (⟨"java/io/ByteArrayOutputStream", "write", "(I)V"⟩ : MethodName)) hown (mvT hZ (hw _ (List.mem_of_getElem? (i := 38) rfl))) (mvT hZ (hw _ (List.mem_of_getElem? (i := 39) rfl))) (notFace_of_selects (args := #[]) (mvT hZ (hw _ (List.mem_of_getElem? (i := 41) rfl)))) (mvT hZ (hw _ (List.mem_of_getElem? (i := 41) rfl))) (mvT hZ (hw _ (List.mem_of_getElem? (i := 40) rfl))) (by decide) (own_backOfY (W := 0) (rmwr l Z a0 hw [] o (((x83 - (x83 / (128 : Int64)) * (128 : Int64)).toInt32) + (128 : Int32)) t k_t vs81 c81 T81.heap n0 Zc81 g_o g_t Uq81 f92 Fb81 Fc81 V81 hot (own_32 hc81 (by omega)) (I81).2.2) hZ (hw _ (List.mem_of_getElem? (i := 42) rfl)) (hw _ (List.mem_of_getElem? (i := 40) rfl)) (hw _ (List.mem_of_getElem? (i := 12) rfl)) (by decide) (by decide)) q91a q91c (g := (mkF m 44 #[.val (.ref a), .val (.long xx), .second, .val (.long x83), .second] [(.int (((x83 - (x83 / (128 : Int64)) * (128 : Int64)).toInt32) + (128 : Int32))), (.ref o)])) rfl (by rw [hml]; rfl) (Steps.refl _) (argsL := [(.int (((x83 - (x83 / (128 : Int64)) * (128 : Int64)).toInt32) + (128 : Int32)))]) (rest := []) (lenOf pd__I_V rfl) rfl (by show 2 * 0 + _ ≤ _; exact Nat.le_of_eq rfl) (hb hby d6_44) (fun _ _ => ⟨rfl, e90, (by decide : 0 + 0 ≤ _), (by decide : 0 + 0 ≤ _)⟩)
              dsimp only [Pt.U, Pt.locs, Pt.cells, Pt.slots] at X91 l91 y91 z91 st91 hQ91
              replace l91 := Eq.symm l91
              replace y91 := Eq.symm y91
              replace z91 := Eq.symm z91
              subst l91 y91 z91
              obtain ⟨Nq91, rfl, Kq91, Fb91, Fc91, V91, Uq91⟩ := hQ91
              have N91 := Fr.app N81 Nq91
              have Kc91 := Keep.trans Kc81 Kq91 (allS (Or.inl (List.mem_of_getElem? (i := 0) rfl)) (allS (Or.inl (List.mem_of_getElem? (i := 1) rfl)) all0))
              have Zc91 : n0 ≤ T91.heap.size := Nat.le_trans Zc81 Kq91.1
              have I91 := own_I1 I81 hc81 (by omega) hx83
              have hc91 := own_cs1 hc81 (by omega)
              obtain ⟨vs91, ev91⟩ : ∃ z, z = (vs81.set c81.toNatClampNeg (.int (nar .byte (((((x83 - (x83 / (128 : Int64)) * (128 : Int64)).toInt32) + (128 : Int32))).toInt8.toInt32)))) := ⟨_, rfl⟩
              rw [← ev91] at V91 I91
              obtain ⟨c91, ec91⟩ : ∃ z, z = (c81 + (1 : Int32)) := ⟨_, rfl⟩
              rw [← ec91] at Fc91 hc91
              refine Gl.back (fun _ k => st91.trans k) ?_
              show Gl _ _ _ _ _ _ _ (T91.setTop (mkF m 47 #[.val (.ref a), .val (.long xx), .second, .val (.long x83), .second] []))
              refine Gl.back (fun _ k => XS.lloadN X91.here hx rfl (hb hby d6_47) rfl k) ?_
              show Gl _ _ _ _ _ _ _ (T91.setTop (mkF m 48 #[.val (.ref a), .val (.long xx), .second, .val (.long x83), .second] [(.long x83)]))
              refine Gl.back (fun _ k => XS.bipush X91.here hx rfl (hb hby d6_48) k) ?_
              show Gl _ _ _ _ _ _ _ (T91.setTop (mkF m 50 #[.val (.ref a), .val (.long xx), .second, .val (.long x83), .second] [(.int (7 : Int32)), (.long x83)]))
              refine Gl.back (fun _ k => XS.lushr X91.here hx rfl (hb hby d6_50) rfl k) ?_
              show Gl _ _ _ _ _ _ _ (T91.setTop (mkF m 51 #[.val (.ref a), .val (.long xx), .second, .val (.long x83), .second] [(.long ((x83.toUInt64 >>> ((7 : Int32) &&& 0x3f).toInt64.toUInt64).toInt64))]))
              have hx93 := own_shift hx83
              generalize ((x83.toUInt64 >>> ((7 : Int32) &&& 0x3f).toInt64.toUInt64).toInt64) = x93 at hx93 ⊢
              show Gl _ _ _ _ _ _ _ (T91.setTop (mkF m 51 #[.val (.ref a), .val (.long xx), .second, .val (.long x83), .second] [(.long x93)]))
              refine Gl.back (fun _ k => XS.lstoreN X91.here hx rfl (hb hby d6_51) rfl (l' := #[.val (.ref a), .val (.long xx), .second, .val (.long x93), .second]) rfl k) ?_
              show Gl _ _ _ _ _ _ _ (T91.setTop (mkF m 52 #[.val (.ref a), .val (.long xx), .second, .val (.long x93), .second] []))
              refine Gl.back (fun _ k => XS.goto X91.here hx rfl (pc0 := 52) (pc' := 22) rfl (hb hby d6_52) (by decide) (by decide) k) ?_
              show Gl _ _ _ _ _ _ _ (T91.setTop (mkF m 22 #[.val (.ref a), .val (.long xx), .second, .val (.long x93), .second] []))
              refine Gl.back (fun _ k => XS.lloadN X91.here hx rfl (hb hby d6_22) rfl k) ?_
              show Gl _ _ _ _ _ _ _ (T91.setTop (mkF m 23 #[.val (.ref a), .val (.long xx), .second, .val (.long x93), .second] [(.long x93)]))
              refine Gl.back (fun _ k => X91.ldc2Long hx hown (mvT hZ (hw _ (List.mem_of_getElem? (i := 37) rfl))) (g := (mkF m 23 #[.val (.ref a), .val (.long xx), .second, .val (.long x93), .second] [(.long x93)])) rfl (hb hby d6_23) _ k) ?_
              show Gl _ _ _ _ _ _ _ (T91.setTop (mkF m 26 #[.val (.ref a), .val (.long xx), .second, .val (.long x93), .second] [(.long (128 : Int64)), (.long x93)]))
              refine Gl.back (fun _ k => XS.lcmp X91.here hx rfl (hb hby d6_26) rfl k) ?_
              show Gl _ _ _ _ _ _ _ (T91.setTop (mkF m 27 #[.val (.ref a), .val (.long xx), .second, .val (.long x93), .second] [(.int (lcmpW x93 (128 : Int64)))]))
              by_cases hc27_94 : x93 < (128 : Int64)
              · refine Gl.back (fun _ k => XS.ifYes X91.here hx rfl (pc0 := 27) (pc' := 55) rfl (hb hby d6_27) rfl ((if0 _ _).trans (tlt (own_lcL hc27_94)).1) (by decide) (by decide) k) ?_
                show Gl _ _ _ _ _ _ _ (T91.setTop (mkF m 55 #[.val (.ref a), .val (.long xx), .second, .val (.long x93), .second] []))
                refine Gl.back (fun _ k => XS.aloadN X91.here hx rfl (hb hby d6_55) rfl rfl k) ?_
                show Gl _ _ _ _ _ _ _ (T91.setTop (mkF m 56 #[.val (.ref a), .val (.long xx), .second, .val (.long x93), .second] [(.ref a)]))
                have f95 := (f89.keep Kq91 (ninS hao (ninS hta nin0)))
                obtain ⟨T96, X96, e96, st96⟩ := getF X91 hx hZ hown (host := "") (Or.inl (hw _ (List.mem_of_getElem? (i := 30) rfl))) Via.refl rfl f95 (g := (mkF m 56 #[.val (.ref a), .val (.long xx), .second, .val (.long x93), .second] [(.ref a)])) rfl rfl (hb hby d6_56)
                refine Gl.back (fun _ k => st96 _ k) ?_
                show Gl _ _ _ _ _ _ _ (T96.setTop (mkF m 59 #[.val (.ref a), .val (.long xx), .second, .val (.long x93), .second] [(.ref o)]))
                refine Gl.back (fun _ k => XS.lloadN X96.here hx rfl (hb hby d6_59) rfl k) ?_
                show Gl _ _ _ _ _ _ _ (T96.setTop (mkF m 60 #[.val (.ref a), .val (.long xx), .second, .val (.long x93), .second] [(.long x93), (.ref o)]))
                refine Gl.back (fun _ k => XS.l2i X96.here hx rfl (hb hby d6_60) rfl k) ?_
                show Gl _ _ _ _ _ _ _ (T96.setTop (mkF m 61 #[.val (.ref a), .val (.long xx), .second, .val (.long x93), .second] [(.int (x93.toInt32)), (.ref o)]))
                have f98 := (f92.keep Kq91)
                obtain ⟨cq97, kq97, q97a, q97b, q97c⟩ := isOf hZ e96 f98
                obtain ⟨_, _, ⟨T97, L97, k97, n97⟩, -, X97, ⟨Lc97, hQ97, l97, y97, z97⟩, st97⟩ := X96.virtualBack hx (y := (⟨"java/io/ByteArrayOutputStream", "write", "(I)V"⟩ : MethodName)) (z := (⟨"java/io/ByteArrayOutputStream", "write", "(I)V"⟩ : MethodName)) hown (mvT hZ (hw _ (List.mem_of_getElem? (i := 38) rfl))) (mvT hZ (hw _ (List.mem_of_getElem? (i := 39) rfl))) (notFace_of_selects (args := #[]) (mvT hZ (hw _ (List.mem_of_getElem? (i := 41) rfl)))) (mvT hZ (hw _ (List.mem_of_getElem? (i := 41) rfl))) (mvT hZ (hw _ (List.mem_of_getElem? (i := 40) rfl))) (by decide) (own_backOfY (W := 0) (rmwr l Z a0 hw [] o (x93.toInt32) t k_t vs91 c91 T91.heap n0 Zc91 g_o g_t Uq91 f98 Fb91 Fc91 V91 hot (own_32 hc91 (by omega)) (I91).2.2) hZ (hw _ (List.mem_of_getElem? (i := 42) rfl)) (hw _ (List.mem_of_getElem? (i := 40) rfl)) (hw _ (List.mem_of_getElem? (i := 12) rfl)) (by decide) (by decide)) q97a q97c (g := (mkF m 61 #[.val (.ref a), .val (.long xx), .second, .val (.long x93), .second] [(.int (x93.toInt32)), (.ref o)])) rfl (by rw [hml]; rfl) (Steps.refl _) (argsL := [(.int (x93.toInt32))]) (rest := []) (lenOf pd__I_V rfl) rfl (by show 2 * 0 + _ ≤ _; exact Nat.le_of_eq rfl) (hb hby d6_61) (fun _ _ => ⟨rfl, e96, (by decide : 0 + 0 ≤ _), (by decide : 0 + 0 ≤ _)⟩)
                dsimp only [Pt.U, Pt.locs, Pt.cells, Pt.slots] at X97 l97 y97 z97 st97 hQ97
                replace l97 := Eq.symm l97
                replace y97 := Eq.symm y97
                replace z97 := Eq.symm z97
                subst l97 y97 z97
                obtain ⟨Nq97, rfl, Kq97, Fb97, Fc97, V97, Uq97⟩ := hQ97
                have N97 := Fr.app N91 Nq97
                have Kc97 := Keep.trans Kc91 Kq97 (allS (Or.inl (List.mem_of_getElem? (i := 0) rfl)) (allS (Or.inl (List.mem_of_getElem? (i := 1) rfl)) all0))
                have Zc97 : n0 ≤ T97.heap.size := Nat.le_trans Zc91 Kq97.1
                have I97 := own_I2 I91 hc91 (by omega) hx93 hc27_94
                have hc97 := own_cs1 hc91 (by omega)
                obtain ⟨vs97, ev97⟩ : ∃ z, z = (vs91.set c91.toNatClampNeg (.int (nar .byte (((x93.toInt32)).toInt8.toInt32)))) := ⟨_, rfl⟩
                rw [← ev97] at V97 I97
                obtain ⟨c97, ec97⟩ : ∃ z, z = (c91 + (1 : Int32)) := ⟨_, rfl⟩
                rw [← ec97] at Fc97 hc97
                refine Gl.back (fun _ k => st97.trans k) ?_
                show Gl _ _ _ _ _ _ _ (T97.setTop (mkF m 64 #[.val (.ref a), .val (.long xx), .second, .val (.long x93), .second] []))
                refine Gl.back (fun _ k => XS.aloadN X97.here hx rfl (hb hby d6_64) rfl rfl k) ?_
                show Gl _ _ _ _ _ _ _ (T97.setTop (mkF m 65 #[.val (.ref a), .val (.long xx), .second, .val (.long x93), .second] [(.ref a)]))
                exact Gl.ret X97 rfl (v := (some (.ref a))) (fun h => by rw [Bd.returns] at h; cases h) Bd.notSynchronized (fun fs hr => retOut X97 hx (w := (.ref a)) Bd.returns rfl (Or.inr (Or.inr (Or.inr (Or.inr ⟨rfl, rfl, rfl⟩)))) (hb hby d6_65) hr) ⟨N97, 7, _, _, rfl, Kc97, Fb97, Fc97, V97, Uq97, I97, by rw [hc97, hn]; rfl, by decide, by decide, own_bound hx93 hc27_94⟩ (by decide) (by decide)
              · refine Gl.back (fun _ k => XS.ifNo X91.here hx rfl (hb hby d6_27) rfl ((if0 _ _).trans (flt (own_lcLn hc27_94)).1) k) ?_
                show Gl _ _ _ _ _ _ _ (T91.setTop (mkF m 30 #[.val (.ref a), .val (.long xx), .second, .val (.long x93), .second] []))
                refine Gl.back (fun _ k => XS.aloadN X91.here hx rfl (hb hby d6_30) rfl rfl k) ?_
                show Gl _ _ _ _ _ _ _ (T91.setTop (mkF m 31 #[.val (.ref a), .val (.long xx), .second, .val (.long x93), .second] [(.ref a)]))
                have f99 := (f89.keep Kq91 (ninS hao (ninS hta nin0)))
                obtain ⟨T100, X100, e100, st100⟩ := getF X91 hx hZ hown (host := "") (Or.inl (hw _ (List.mem_of_getElem? (i := 30) rfl))) Via.refl rfl f99 (g := (mkF m 31 #[.val (.ref a), .val (.long xx), .second, .val (.long x93), .second] [(.ref a)])) rfl rfl (hb hby d6_31)
                refine Gl.back (fun _ k => st100 _ k) ?_
                show Gl _ _ _ _ _ _ _ (T100.setTop (mkF m 34 #[.val (.ref a), .val (.long xx), .second, .val (.long x93), .second] [(.ref o)]))
                refine Gl.back (fun _ k => XS.lloadN X100.here hx rfl (hb hby d6_34) rfl k) ?_
                show Gl _ _ _ _ _ _ _ (T100.setTop (mkF m 35 #[.val (.ref a), .val (.long xx), .second, .val (.long x93), .second] [(.long x93), (.ref o)]))
                refine Gl.back (fun _ k => X100.ldc2Long hx hown (mvT hZ (hw _ (List.mem_of_getElem? (i := 37) rfl))) (g := (mkF m 35 #[.val (.ref a), .val (.long xx), .second, .val (.long x93), .second] [(.long x93), (.ref o)])) rfl (hb hby d6_35) _ k) ?_
                show Gl _ _ _ _ _ _ _ (T100.setTop (mkF m 38 #[.val (.ref a), .val (.long xx), .second, .val (.long x93), .second] [(.long (128 : Int64)), (.long x93), (.ref o)]))
                refine Gl.back (fun _ k => XS.lrem X100.here hx rfl (hb hby d6_38) rfl (by decide) k) ?_
                show Gl _ _ _ _ _ _ _ (T100.setTop (mkF m 39 #[.val (.ref a), .val (.long xx), .second, .val (.long x93), .second] [(.long (x93 - (x93 / (128 : Int64)) * (128 : Int64))), (.ref o)]))
                refine Gl.back (fun _ k => XS.l2i X100.here hx rfl (hb hby d6_39) rfl k) ?_
                show Gl _ _ _ _ _ _ _ (T100.setTop (mkF m 40 #[.val (.ref a), .val (.long xx), .second, .val (.long x93), .second] [(.int ((x93 - (x93 / (128 : Int64)) * (128 : Int64)).toInt32)), (.ref o)]))
                refine Gl.back (fun _ k => XS.sipush X100.here hx rfl (hb hby d6_40) k) ?_
                show Gl _ _ _ _ _ _ _ (T100.setTop (mkF m 43 #[.val (.ref a), .val (.long xx), .second, .val (.long x93), .second] [(.int (128 : Int32)), (.int ((x93 - (x93 / (128 : Int64)) * (128 : Int64)).toInt32)), (.ref o)]))
                refine Gl.back (fun _ k => XS.iadd X100.here hx rfl (hb hby d6_43) rfl k) ?_
                show Gl _ _ _ _ _ _ _ (T100.setTop (mkF m 44 #[.val (.ref a), .val (.long xx), .second, .val (.long x93), .second] [(.int (((x93 - (x93 / (128 : Int64)) * (128 : Int64)).toInt32) + (128 : Int32))), (.ref o)]))
                have f102 := (f92.keep Kq91)
                obtain ⟨cq101, kq101, q101a, q101b, q101c⟩ := isOf hZ e100 f102
                obtain ⟨_, _, ⟨T101, L101, k101, n101⟩, -, X101, ⟨Lc101, hQ101, l101, y101, z101⟩, st101⟩ := X100.virtualBack hx (y := (⟨"java/io/ByteArrayOutputStream", "write", "(I)V"⟩ : MethodName)) (z := (⟨"java/io/ByteArrayOutputStream", "write", "(I)V"⟩ : MethodName)) hown (mvT hZ (hw _ (List.mem_of_getElem? (i := 38) rfl))) (mvT hZ (hw _ (List.mem_of_getElem? (i := 39) rfl))) (notFace_of_selects (args := #[]) (mvT hZ (hw _ (List.mem_of_getElem? (i := 41) rfl)))) (mvT hZ (hw _ (List.mem_of_getElem? (i := 41) rfl))) (mvT hZ (hw _ (List.mem_of_getElem? (i := 40) rfl))) (by decide) (own_backOfY (W := 0) (rmwr l Z a0 hw [] o (((x93 - (x93 / (128 : Int64)) * (128 : Int64)).toInt32) + (128 : Int32)) t k_t vs91 c91 T91.heap n0 Zc91 g_o g_t Uq91 f102 Fb91 Fc91 V91 hot (own_32 hc91 (by omega)) (I91).2.2) hZ (hw _ (List.mem_of_getElem? (i := 42) rfl)) (hw _ (List.mem_of_getElem? (i := 40) rfl)) (hw _ (List.mem_of_getElem? (i := 12) rfl)) (by decide) (by decide)) q101a q101c (g := (mkF m 44 #[.val (.ref a), .val (.long xx), .second, .val (.long x93), .second] [(.int (((x93 - (x93 / (128 : Int64)) * (128 : Int64)).toInt32) + (128 : Int32))), (.ref o)])) rfl (by rw [hml]; rfl) (Steps.refl _) (argsL := [(.int (((x93 - (x93 / (128 : Int64)) * (128 : Int64)).toInt32) + (128 : Int32)))]) (rest := []) (lenOf pd__I_V rfl) rfl (by show 2 * 0 + _ ≤ _; exact Nat.le_of_eq rfl) (hb hby d6_44) (fun _ _ => ⟨rfl, e100, (by decide : 0 + 0 ≤ _), (by decide : 0 + 0 ≤ _)⟩)
                dsimp only [Pt.U, Pt.locs, Pt.cells, Pt.slots] at X101 l101 y101 z101 st101 hQ101
                replace l101 := Eq.symm l101
                replace y101 := Eq.symm y101
                replace z101 := Eq.symm z101
                subst l101 y101 z101
                obtain ⟨Nq101, rfl, Kq101, Fb101, Fc101, V101, Uq101⟩ := hQ101
                have N101 := Fr.app N91 Nq101
                have Kc101 := Keep.trans Kc91 Kq101 (allS (Or.inl (List.mem_of_getElem? (i := 0) rfl)) (allS (Or.inl (List.mem_of_getElem? (i := 1) rfl)) all0))
                have Zc101 : n0 ≤ T101.heap.size := Nat.le_trans Zc91 Kq101.1
                have I101 := own_I1 I91 hc91 (by omega) hx93
                have hc101 := own_cs1 hc91 (by omega)
                obtain ⟨vs101, ev101⟩ : ∃ z, z = (vs91.set c91.toNatClampNeg (.int (nar .byte (((((x93 - (x93 / (128 : Int64)) * (128 : Int64)).toInt32) + (128 : Int32))).toInt8.toInt32)))) := ⟨_, rfl⟩
                rw [← ev101] at V101 I101
                obtain ⟨c101, ec101⟩ : ∃ z, z = (c91 + (1 : Int32)) := ⟨_, rfl⟩
                rw [← ec101] at Fc101 hc101
                refine Gl.back (fun _ k => st101.trans k) ?_
                show Gl _ _ _ _ _ _ _ (T101.setTop (mkF m 47 #[.val (.ref a), .val (.long xx), .second, .val (.long x93), .second] []))
                refine Gl.back (fun _ k => XS.lloadN X101.here hx rfl (hb hby d6_47) rfl k) ?_
                show Gl _ _ _ _ _ _ _ (T101.setTop (mkF m 48 #[.val (.ref a), .val (.long xx), .second, .val (.long x93), .second] [(.long x93)]))
                refine Gl.back (fun _ k => XS.bipush X101.here hx rfl (hb hby d6_48) k) ?_
                show Gl _ _ _ _ _ _ _ (T101.setTop (mkF m 50 #[.val (.ref a), .val (.long xx), .second, .val (.long x93), .second] [(.int (7 : Int32)), (.long x93)]))
                refine Gl.back (fun _ k => XS.lushr X101.here hx rfl (hb hby d6_50) rfl k) ?_
                show Gl _ _ _ _ _ _ _ (T101.setTop (mkF m 51 #[.val (.ref a), .val (.long xx), .second, .val (.long x93), .second] [(.long ((x93.toUInt64 >>> ((7 : Int32) &&& 0x3f).toInt64.toUInt64).toInt64))]))
                have hx103 := own_shift hx93
                generalize ((x93.toUInt64 >>> ((7 : Int32) &&& 0x3f).toInt64.toUInt64).toInt64) = x103 at hx103 ⊢
                show Gl _ _ _ _ _ _ _ (T101.setTop (mkF m 51 #[.val (.ref a), .val (.long xx), .second, .val (.long x93), .second] [(.long x103)]))
                refine Gl.back (fun _ k => XS.lstoreN X101.here hx rfl (hb hby d6_51) rfl (l' := #[.val (.ref a), .val (.long xx), .second, .val (.long x103), .second]) rfl k) ?_
                show Gl _ _ _ _ _ _ _ (T101.setTop (mkF m 52 #[.val (.ref a), .val (.long xx), .second, .val (.long x103), .second] []))
                refine Gl.back (fun _ k => XS.goto X101.here hx rfl (pc0 := 52) (pc' := 22) rfl (hb hby d6_52) (by decide) (by decide) k) ?_
                show Gl _ _ _ _ _ _ _ (T101.setTop (mkF m 22 #[.val (.ref a), .val (.long xx), .second, .val (.long x103), .second] []))
                refine Gl.back (fun _ k => XS.lloadN X101.here hx rfl (hb hby d6_22) rfl k) ?_
                show Gl _ _ _ _ _ _ _ (T101.setTop (mkF m 23 #[.val (.ref a), .val (.long xx), .second, .val (.long x103), .second] [(.long x103)]))
                refine Gl.back (fun _ k => X101.ldc2Long hx hown (mvT hZ (hw _ (List.mem_of_getElem? (i := 37) rfl))) (g := (mkF m 23 #[.val (.ref a), .val (.long xx), .second, .val (.long x103), .second] [(.long x103)])) rfl (hb hby d6_23) _ k) ?_
                show Gl _ _ _ _ _ _ _ (T101.setTop (mkF m 26 #[.val (.ref a), .val (.long xx), .second, .val (.long x103), .second] [(.long (128 : Int64)), (.long x103)]))
                refine Gl.back (fun _ k => XS.lcmp X101.here hx rfl (hb hby d6_26) rfl k) ?_
                show Gl _ _ _ _ _ _ _ (T101.setTop (mkF m 27 #[.val (.ref a), .val (.long xx), .second, .val (.long x103), .second] [(.int (lcmpW x103 (128 : Int64)))]))
                by_cases hc27_104 : x103 < (128 : Int64)
                · refine Gl.back (fun _ k => XS.ifYes X101.here hx rfl (pc0 := 27) (pc' := 55) rfl (hb hby d6_27) rfl ((if0 _ _).trans (tlt (own_lcL hc27_104)).1) (by decide) (by decide) k) ?_
                  show Gl _ _ _ _ _ _ _ (T101.setTop (mkF m 55 #[.val (.ref a), .val (.long xx), .second, .val (.long x103), .second] []))
                  refine Gl.back (fun _ k => XS.aloadN X101.here hx rfl (hb hby d6_55) rfl rfl k) ?_
                  show Gl _ _ _ _ _ _ _ (T101.setTop (mkF m 56 #[.val (.ref a), .val (.long xx), .second, .val (.long x103), .second] [(.ref a)]))
                  have f105 := (f99.keep Kq101 (ninS hao (ninS hta nin0)))
                  obtain ⟨T106, X106, e106, st106⟩ := getF X101 hx hZ hown (host := "") (Or.inl (hw _ (List.mem_of_getElem? (i := 30) rfl))) Via.refl rfl f105 (g := (mkF m 56 #[.val (.ref a), .val (.long xx), .second, .val (.long x103), .second] [(.ref a)])) rfl rfl (hb hby d6_56)
                  refine Gl.back (fun _ k => st106 _ k) ?_
                  show Gl _ _ _ _ _ _ _ (T106.setTop (mkF m 59 #[.val (.ref a), .val (.long xx), .second, .val (.long x103), .second] [(.ref o)]))
                  refine Gl.back (fun _ k => XS.lloadN X106.here hx rfl (hb hby d6_59) rfl k) ?_
                  show Gl _ _ _ _ _ _ _ (T106.setTop (mkF m 60 #[.val (.ref a), .val (.long xx), .second, .val (.long x103), .second] [(.long x103), (.ref o)]))
                  refine Gl.back (fun _ k => XS.l2i X106.here hx rfl (hb hby d6_60) rfl k) ?_
                  show Gl _ _ _ _ _ _ _ (T106.setTop (mkF m 61 #[.val (.ref a), .val (.long xx), .second, .val (.long x103), .second] [(.int (x103.toInt32)), (.ref o)]))
                  have f108 := (f102.keep Kq101)
                  obtain ⟨cq107, kq107, q107a, q107b, q107c⟩ := isOf hZ e106 f108
                  obtain ⟨_, _, ⟨T107, L107, k107, n107⟩, -, X107, ⟨Lc107, hQ107, l107, y107, z107⟩, st107⟩ := X106.virtualBack hx (y := (⟨"java/io/ByteArrayOutputStream", "write", "(I)V"⟩ : MethodName)) (z := (⟨"java/io/ByteArrayOutputStream", "write", "(I)V"⟩ : MethodName)) hown (mvT hZ (hw _ (List.mem_of_getElem? (i := 38) rfl))) (mvT hZ (hw _ (List.mem_of_getElem? (i := 39) rfl))) (notFace_of_selects (args := #[]) (mvT hZ (hw _ (List.mem_of_getElem? (i := 41) rfl)))) (mvT hZ (hw _ (List.mem_of_getElem? (i := 41) rfl))) (mvT hZ (hw _ (List.mem_of_getElem? (i := 40) rfl))) (by decide) (own_backOfY (W := 0) (rmwr l Z a0 hw [] o (x103.toInt32) t k_t vs101 c101 T101.heap n0 Zc101 g_o g_t Uq101 f108 Fb101 Fc101 V101 hot (own_32 hc101 (by omega)) (I101).2.2) hZ (hw _ (List.mem_of_getElem? (i := 42) rfl)) (hw _ (List.mem_of_getElem? (i := 40) rfl)) (hw _ (List.mem_of_getElem? (i := 12) rfl)) (by decide) (by decide)) q107a q107c (g := (mkF m 61 #[.val (.ref a), .val (.long xx), .second, .val (.long x103), .second] [(.int (x103.toInt32)), (.ref o)])) rfl (by rw [hml]; rfl) (Steps.refl _) (argsL := [(.int (x103.toInt32))]) (rest := []) (lenOf pd__I_V rfl) rfl (by show 2 * 0 + _ ≤ _; exact Nat.le_of_eq rfl) (hb hby d6_61) (fun _ _ => ⟨rfl, e106, (by decide : 0 + 0 ≤ _), (by decide : 0 + 0 ≤ _)⟩)
                  dsimp only [Pt.U, Pt.locs, Pt.cells, Pt.slots] at X107 l107 y107 z107 st107 hQ107
                  replace l107 := Eq.symm l107
                  replace y107 := Eq.symm y107
                  replace z107 := Eq.symm z107
                  subst l107 y107 z107
                  obtain ⟨Nq107, rfl, Kq107, Fb107, Fc107, V107, Uq107⟩ := hQ107
                  have N107 := Fr.app N101 Nq107
                  have Kc107 := Keep.trans Kc101 Kq107 (allS (Or.inl (List.mem_of_getElem? (i := 0) rfl)) (allS (Or.inl (List.mem_of_getElem? (i := 1) rfl)) all0))
                  have Zc107 : n0 ≤ T107.heap.size := Nat.le_trans Zc101 Kq107.1
                  have I107 := own_I2 I101 hc101 (by omega) hx103 hc27_104
                  have hc107 := own_cs1 hc101 (by omega)
                  obtain ⟨vs107, ev107⟩ : ∃ z, z = (vs101.set c101.toNatClampNeg (.int (nar .byte (((x103.toInt32)).toInt8.toInt32)))) := ⟨_, rfl⟩
                  rw [← ev107] at V107 I107
                  obtain ⟨c107, ec107⟩ : ∃ z, z = (c101 + (1 : Int32)) := ⟨_, rfl⟩
                  rw [← ec107] at Fc107 hc107
                  refine Gl.back (fun _ k => st107.trans k) ?_
                  show Gl _ _ _ _ _ _ _ (T107.setTop (mkF m 64 #[.val (.ref a), .val (.long xx), .second, .val (.long x103), .second] []))
                  refine Gl.back (fun _ k => XS.aloadN X107.here hx rfl (hb hby d6_64) rfl rfl k) ?_
                  show Gl _ _ _ _ _ _ _ (T107.setTop (mkF m 65 #[.val (.ref a), .val (.long xx), .second, .val (.long x103), .second] [(.ref a)]))
                  exact Gl.ret X107 rfl (v := (some (.ref a))) (fun h => by rw [Bd.returns] at h; cases h) Bd.notSynchronized (fun fs hr => retOut X107 hx (w := (.ref a)) Bd.returns rfl (Or.inr (Or.inr (Or.inr (Or.inr ⟨rfl, rfl, rfl⟩)))) (hb hby d6_65) hr) ⟨N107, 8, _, _, rfl, Kc107, Fb107, Fc107, V107, Uq107, I107, by rw [hc107, hn]; rfl, by decide, by decide, own_bound hx103 hc27_104⟩ (by decide) (by decide)
                · refine Gl.back (fun _ k => XS.ifNo X101.here hx rfl (hb hby d6_27) rfl ((if0 _ _).trans (flt (own_lcLn hc27_104)).1) k) ?_
                  show Gl _ _ _ _ _ _ _ (T101.setTop (mkF m 30 #[.val (.ref a), .val (.long xx), .second, .val (.long x103), .second] []))
                  refine Gl.back (fun _ k => XS.aloadN X101.here hx rfl (hb hby d6_30) rfl rfl k) ?_
                  show Gl _ _ _ _ _ _ _ (T101.setTop (mkF m 31 #[.val (.ref a), .val (.long xx), .second, .val (.long x103), .second] [(.ref a)]))
                  have f109 := (f99.keep Kq101 (ninS hao (ninS hta nin0)))
                  obtain ⟨T110, X110, e110, st110⟩ := getF X101 hx hZ hown (host := "") (Or.inl (hw _ (List.mem_of_getElem? (i := 30) rfl))) Via.refl rfl f109 (g := (mkF m 31 #[.val (.ref a), .val (.long xx), .second, .val (.long x103), .second] [(.ref a)])) rfl rfl (hb hby d6_31)
                  refine Gl.back (fun _ k => st110 _ k) ?_
                  show Gl _ _ _ _ _ _ _ (T110.setTop (mkF m 34 #[.val (.ref a), .val (.long xx), .second, .val (.long x103), .second] [(.ref o)]))
                  refine Gl.back (fun _ k => XS.lloadN X110.here hx rfl (hb hby d6_34) rfl k) ?_
                  show Gl _ _ _ _ _ _ _ (T110.setTop (mkF m 35 #[.val (.ref a), .val (.long xx), .second, .val (.long x103), .second] [(.long x103), (.ref o)]))
                  refine Gl.back (fun _ k => X110.ldc2Long hx hown (mvT hZ (hw _ (List.mem_of_getElem? (i := 37) rfl))) (g := (mkF m 35 #[.val (.ref a), .val (.long xx), .second, .val (.long x103), .second] [(.long x103), (.ref o)])) rfl (hb hby d6_35) _ k) ?_
                  show Gl _ _ _ _ _ _ _ (T110.setTop (mkF m 38 #[.val (.ref a), .val (.long xx), .second, .val (.long x103), .second] [(.long (128 : Int64)), (.long x103), (.ref o)]))
                  refine Gl.back (fun _ k => XS.lrem X110.here hx rfl (hb hby d6_38) rfl (by decide) k) ?_
                  show Gl _ _ _ _ _ _ _ (T110.setTop (mkF m 39 #[.val (.ref a), .val (.long xx), .second, .val (.long x103), .second] [(.long (x103 - (x103 / (128 : Int64)) * (128 : Int64))), (.ref o)]))
                  refine Gl.back (fun _ k => XS.l2i X110.here hx rfl (hb hby d6_39) rfl k) ?_
                  show Gl _ _ _ _ _ _ _ (T110.setTop (mkF m 40 #[.val (.ref a), .val (.long xx), .second, .val (.long x103), .second] [(.int ((x103 - (x103 / (128 : Int64)) * (128 : Int64)).toInt32)), (.ref o)]))
                  refine Gl.back (fun _ k => XS.sipush X110.here hx rfl (hb hby d6_40) k) ?_
                  show Gl _ _ _ _ _ _ _ (T110.setTop (mkF m 43 #[.val (.ref a), .val (.long xx), .second, .val (.long x103), .second] [(.int (128 : Int32)), (.int ((x103 - (x103 / (128 : Int64)) * (128 : Int64)).toInt32)), (.ref o)]))
                  refine Gl.back (fun _ k => XS.iadd X110.here hx rfl (hb hby d6_43) rfl k) ?_
                  show Gl _ _ _ _ _ _ _ (T110.setTop (mkF m 44 #[.val (.ref a), .val (.long xx), .second, .val (.long x103), .second] [(.int (((x103 - (x103 / (128 : Int64)) * (128 : Int64)).toInt32) + (128 : Int32))), (.ref o)]))
                  have f112 := (f102.keep Kq101)
                  obtain ⟨cq111, kq111, q111a, q111b, q111c⟩ := isOf hZ e110 f112
                  obtain ⟨_, _, ⟨T111, L111, k111, n111⟩, -, X111, ⟨Lc111, hQ111, l111, y111, z111⟩, st111⟩ := X110.virtualBack hx (y := (⟨"java/io/ByteArrayOutputStream", "write", "(I)V"⟩ : MethodName)) (z := (⟨"java/io/ByteArrayOutputStream", "write", "(I)V"⟩ : MethodName)) hown (mvT hZ (hw _ (List.mem_of_getElem? (i := 38) rfl))) (mvT hZ (hw _ (List.mem_of_getElem? (i := 39) rfl))) (notFace_of_selects (args := #[]) (mvT hZ (hw _ (List.mem_of_getElem? (i := 41) rfl)))) (mvT hZ (hw _ (List.mem_of_getElem? (i := 41) rfl))) (mvT hZ (hw _ (List.mem_of_getElem? (i := 40) rfl))) (by decide) (own_backOfY (W := 0) (rmwr l Z a0 hw [] o (((x103 - (x103 / (128 : Int64)) * (128 : Int64)).toInt32) + (128 : Int32)) t k_t vs101 c101 T101.heap n0 Zc101 g_o g_t Uq101 f112 Fb101 Fc101 V101 hot (own_32 hc101 (by omega)) (I101).2.2) hZ (hw _ (List.mem_of_getElem? (i := 42) rfl)) (hw _ (List.mem_of_getElem? (i := 40) rfl)) (hw _ (List.mem_of_getElem? (i := 12) rfl)) (by decide) (by decide)) q111a q111c (g := (mkF m 44 #[.val (.ref a), .val (.long xx), .second, .val (.long x103), .second] [(.int (((x103 - (x103 / (128 : Int64)) * (128 : Int64)).toInt32) + (128 : Int32))), (.ref o)])) rfl (by rw [hml]; rfl) (Steps.refl _) (argsL := [(.int (((x103 - (x103 / (128 : Int64)) * (128 : Int64)).toInt32) + (128 : Int32)))]) (rest := []) (lenOf pd__I_V rfl) rfl (by show 2 * 0 + _ ≤ _; exact Nat.le_of_eq rfl) (hb hby d6_44) (fun _ _ => ⟨rfl, e110, (by decide : 0 + 0 ≤ _), (by decide : 0 + 0 ≤ _)⟩)
                  dsimp only [Pt.U, Pt.locs, Pt.cells, Pt.slots] at X111 l111 y111 z111 st111 hQ111
                  replace l111 := Eq.symm l111
                  replace y111 := Eq.symm y111
                  replace z111 := Eq.symm z111
                  subst l111 y111 z111
                  obtain ⟨Nq111, rfl, Kq111, Fb111, Fc111, V111, Uq111⟩ := hQ111
                  have N111 := Fr.app N101 Nq111
                  have Kc111 := Keep.trans Kc101 Kq111 (allS (Or.inl (List.mem_of_getElem? (i := 0) rfl)) (allS (Or.inl (List.mem_of_getElem? (i := 1) rfl)) all0))
                  have Zc111 : n0 ≤ T111.heap.size := Nat.le_trans Zc101 Kq111.1
                  have I111 := own_I1 I101 hc101 (by omega) hx103
                  have hc111 := own_cs1 hc101 (by omega)
                  obtain ⟨vs111, ev111⟩ : ∃ z, z = (vs101.set c101.toNatClampNeg (.int (nar .byte (((((x103 - (x103 / (128 : Int64)) * (128 : Int64)).toInt32) + (128 : Int32))).toInt8.toInt32)))) := ⟨_, rfl⟩
                  rw [← ev111] at V111 I111
                  obtain ⟨c111, ec111⟩ : ∃ z, z = (c101 + (1 : Int32)) := ⟨_, rfl⟩
                  rw [← ec111] at Fc111 hc111
                  refine Gl.back (fun _ k => st111.trans k) ?_
                  show Gl _ _ _ _ _ _ _ (T111.setTop (mkF m 47 #[.val (.ref a), .val (.long xx), .second, .val (.long x103), .second] []))
                  refine Gl.back (fun _ k => XS.lloadN X111.here hx rfl (hb hby d6_47) rfl k) ?_
                  show Gl _ _ _ _ _ _ _ (T111.setTop (mkF m 48 #[.val (.ref a), .val (.long xx), .second, .val (.long x103), .second] [(.long x103)]))
                  refine Gl.back (fun _ k => XS.bipush X111.here hx rfl (hb hby d6_48) k) ?_
                  show Gl _ _ _ _ _ _ _ (T111.setTop (mkF m 50 #[.val (.ref a), .val (.long xx), .second, .val (.long x103), .second] [(.int (7 : Int32)), (.long x103)]))
                  refine Gl.back (fun _ k => XS.lushr X111.here hx rfl (hb hby d6_50) rfl k) ?_
                  show Gl _ _ _ _ _ _ _ (T111.setTop (mkF m 51 #[.val (.ref a), .val (.long xx), .second, .val (.long x103), .second] [(.long ((x103.toUInt64 >>> ((7 : Int32) &&& 0x3f).toInt64.toUInt64).toInt64))]))
                  have hx113 := own_shift hx103
                  generalize ((x103.toUInt64 >>> ((7 : Int32) &&& 0x3f).toInt64.toUInt64).toInt64) = x113 at hx113 ⊢
                  show Gl _ _ _ _ _ _ _ (T111.setTop (mkF m 51 #[.val (.ref a), .val (.long xx), .second, .val (.long x103), .second] [(.long x113)]))
                  refine Gl.back (fun _ k => XS.lstoreN X111.here hx rfl (hb hby d6_51) rfl (l' := #[.val (.ref a), .val (.long xx), .second, .val (.long x113), .second]) rfl k) ?_
                  show Gl _ _ _ _ _ _ _ (T111.setTop (mkF m 52 #[.val (.ref a), .val (.long xx), .second, .val (.long x113), .second] []))
                  refine Gl.back (fun _ k => XS.goto X111.here hx rfl (pc0 := 52) (pc' := 22) rfl (hb hby d6_52) (by decide) (by decide) k) ?_
                  show Gl _ _ _ _ _ _ _ (T111.setTop (mkF m 22 #[.val (.ref a), .val (.long xx), .second, .val (.long x113), .second] []))
                  refine Gl.back (fun _ k => XS.lloadN X111.here hx rfl (hb hby d6_22) rfl k) ?_
                  show Gl _ _ _ _ _ _ _ (T111.setTop (mkF m 23 #[.val (.ref a), .val (.long xx), .second, .val (.long x113), .second] [(.long x113)]))
                  refine Gl.back (fun _ k => X111.ldc2Long hx hown (mvT hZ (hw _ (List.mem_of_getElem? (i := 37) rfl))) (g := (mkF m 23 #[.val (.ref a), .val (.long xx), .second, .val (.long x113), .second] [(.long x113)])) rfl (hb hby d6_23) _ k) ?_
                  show Gl _ _ _ _ _ _ _ (T111.setTop (mkF m 26 #[.val (.ref a), .val (.long xx), .second, .val (.long x113), .second] [(.long (128 : Int64)), (.long x113)]))
                  refine Gl.back (fun _ k => XS.lcmp X111.here hx rfl (hb hby d6_26) rfl k) ?_
                  show Gl _ _ _ _ _ _ _ (T111.setTop (mkF m 27 #[.val (.ref a), .val (.long xx), .second, .val (.long x113), .second] [(.int (lcmpW x113 (128 : Int64)))]))
                  have hlast := own_last (own_x63 hX) hx113
                  refine Gl.back (fun _ k => XS.ifYes X111.here hx rfl (pc0 := 27) (pc' := 55) rfl (hb hby d6_27) rfl ((if0 _ _).trans (tlt (own_lcL (hlast : x113 < (128 : Int64)))).1) (by decide) (by decide) k) ?_
                  show Gl _ _ _ _ _ _ _ (T111.setTop (mkF m 55 #[.val (.ref a), .val (.long xx), .second, .val (.long x113), .second] []))
                  refine Gl.back (fun _ k => XS.aloadN X111.here hx rfl (hb hby d6_55) rfl rfl k) ?_
                  show Gl _ _ _ _ _ _ _ (T111.setTop (mkF m 56 #[.val (.ref a), .val (.long xx), .second, .val (.long x113), .second] [(.ref a)]))
                  have f114 := (f109.keep Kq111 (ninS hao (ninS hta nin0)))
                  obtain ⟨T115, X115, e115, st115⟩ := getF X111 hx hZ hown (host := "") (Or.inl (hw _ (List.mem_of_getElem? (i := 30) rfl))) Via.refl rfl f114 (g := (mkF m 56 #[.val (.ref a), .val (.long xx), .second, .val (.long x113), .second] [(.ref a)])) rfl rfl (hb hby d6_56)
                  refine Gl.back (fun _ k => st115 _ k) ?_
                  show Gl _ _ _ _ _ _ _ (T115.setTop (mkF m 59 #[.val (.ref a), .val (.long xx), .second, .val (.long x113), .second] [(.ref o)]))
                  refine Gl.back (fun _ k => XS.lloadN X115.here hx rfl (hb hby d6_59) rfl k) ?_
                  show Gl _ _ _ _ _ _ _ (T115.setTop (mkF m 60 #[.val (.ref a), .val (.long xx), .second, .val (.long x113), .second] [(.long x113), (.ref o)]))
                  refine Gl.back (fun _ k => XS.l2i X115.here hx rfl (hb hby d6_60) rfl k) ?_
                  show Gl _ _ _ _ _ _ _ (T115.setTop (mkF m 61 #[.val (.ref a), .val (.long xx), .second, .val (.long x113), .second] [(.int (x113.toInt32)), (.ref o)]))
                  have f117 := (f112.keep Kq111)
                  obtain ⟨cq116, kq116, q116a, q116b, q116c⟩ := isOf hZ e115 f117
                  obtain ⟨_, _, ⟨T116, L116, k116, n116⟩, -, X116, ⟨Lc116, hQ116, l116, y116, z116⟩, st116⟩ := X115.virtualBack hx (y := (⟨"java/io/ByteArrayOutputStream", "write", "(I)V"⟩ : MethodName)) (z := (⟨"java/io/ByteArrayOutputStream", "write", "(I)V"⟩ : MethodName)) hown (mvT hZ (hw _ (List.mem_of_getElem? (i := 38) rfl))) (mvT hZ (hw _ (List.mem_of_getElem? (i := 39) rfl))) (notFace_of_selects (args := #[]) (mvT hZ (hw _ (List.mem_of_getElem? (i := 41) rfl)))) (mvT hZ (hw _ (List.mem_of_getElem? (i := 41) rfl))) (mvT hZ (hw _ (List.mem_of_getElem? (i := 40) rfl))) (by decide) (own_backOfY (W := 0) (rmwr l Z a0 hw [] o (x113.toInt32) t k_t vs111 c111 T111.heap n0 Zc111 g_o g_t Uq111 f117 Fb111 Fc111 V111 hot (own_32 hc111 (by omega)) (I111).2.2) hZ (hw _ (List.mem_of_getElem? (i := 42) rfl)) (hw _ (List.mem_of_getElem? (i := 40) rfl)) (hw _ (List.mem_of_getElem? (i := 12) rfl)) (by decide) (by decide)) q116a q116c (g := (mkF m 61 #[.val (.ref a), .val (.long xx), .second, .val (.long x113), .second] [(.int (x113.toInt32)), (.ref o)])) rfl (by rw [hml]; rfl) (Steps.refl _) (argsL := [(.int (x113.toInt32))]) (rest := []) (lenOf pd__I_V rfl) rfl (by show 2 * 0 + _ ≤ _; exact Nat.le_of_eq rfl) (hb hby d6_61) (fun _ _ => ⟨rfl, e115, (by decide : 0 + 0 ≤ _), (by decide : 0 + 0 ≤ _)⟩)
                  dsimp only [Pt.U, Pt.locs, Pt.cells, Pt.slots] at X116 l116 y116 z116 st116 hQ116
                  replace l116 := Eq.symm l116
                  replace y116 := Eq.symm y116
                  replace z116 := Eq.symm z116
                  subst l116 y116 z116
                  obtain ⟨Nq116, rfl, Kq116, Fb116, Fc116, V116, Uq116⟩ := hQ116
                  have N116 := Fr.app N111 Nq116
                  have Kc116 := Keep.trans Kc111 Kq116 (allS (Or.inl (List.mem_of_getElem? (i := 0) rfl)) (allS (Or.inl (List.mem_of_getElem? (i := 1) rfl)) all0))
                  have Zc116 : n0 ≤ T116.heap.size := Nat.le_trans Zc111 Kq116.1
                  have I116 := own_I2 I111 hc111 (by omega) hx113 hlast
                  have hc116 := own_cs1 hc111 (by omega)
                  obtain ⟨vs116, ev116⟩ : ∃ z, z = (vs111.set c111.toNatClampNeg (.int (nar .byte (((x113.toInt32)).toInt8.toInt32)))) := ⟨_, rfl⟩
                  rw [← ev116] at V116 I116
                  obtain ⟨c116, ec116⟩ : ∃ z, z = (c111 + (1 : Int32)) := ⟨_, rfl⟩
                  rw [← ec116] at Fc116 hc116
                  refine Gl.back (fun _ k => st116.trans k) ?_
                  show Gl _ _ _ _ _ _ _ (T116.setTop (mkF m 64 #[.val (.ref a), .val (.long xx), .second, .val (.long x113), .second] []))
                  refine Gl.back (fun _ k => XS.aloadN X116.here hx rfl (hb hby d6_64) rfl rfl k) ?_
                  show Gl _ _ _ _ _ _ _ (T116.setTop (mkF m 65 #[.val (.ref a), .val (.long xx), .second, .val (.long x113), .second] [(.ref a)]))
                  exact Gl.ret X116 rfl (v := (some (.ref a))) (fun h => by rw [Bd.returns] at h; cases h) Bd.notSynchronized (fun fs hr => retOut X116 hx (w := (.ref a)) Bd.returns rfl (Or.inr (Or.inr (Or.inr (Or.inr ⟨rfl, rfl, rfl⟩)))) (hb hby d6_65) hr) ⟨N116, 9, _, _, rfl, Kc116, Fb116, Fc116, V116, Uq116, I116, by rw [hc116, hn]; rfl, by decide, by decide, own_bound hx113 hlast⟩ (by decide) (by decide)
theorem d12_0 : decode jdk_29_method_69_code 0 = .ok (.iload_n 0, 1) := by decide +kernel
theorem d12_1 : decode jdk_29_method_69_code 1 = .ok (.iload_n 1, 1) := by decide +kernel
theorem d12_2 : decode jdk_29_method_69_code 2 = .ok (.if_icmp .gt 7, 3) := by decide +kernel
theorem d12_9 : decode jdk_29_method_69_code 9 = .ok (.iload_n 1, 1) := by decide +kernel
theorem d12_10 : decode jdk_29_method_69_code 10 = .ok (.ireturn, 1) := by decide +kernel
theorem ef_mn (m : MethodId) (x1 : Int32) : entryFrame m #[(.int (32 : Int32)), (.int x1)] 2 = mkF m 0 #[.val (.int (32 : Int32)), .val (.int x1)] [] := by first | (simp [entryFrame, mkF, argsToLocals, Value.category]; done) | rfl
def Qmn (Z : State) (nn : Int32) (h0 : Heap) (n0 : Nat) (v : Option Value) (h : Heap) (L : List Loc) : Prop := Fr n0 L ∧ (v = some (.int nn) ∧ h = h0)
set_option maxRecDepth 65536 in
set_option maxHeartbeats 40000000 in
theorem rmmn (l : Launch) (Z : State) (a0 : Array Value) (hw : ∀ d ∈ tables_1, d.before a0 Z = true) (ws : List Jvm.Cond) (nn : Int32) (h0 : Heap) (n0 : Nat) (Z0 : n0 ≤ h0.size) (hlt : nn < 32) :
    MetFree l (⟨"java/lang/Math", "min", "(II)I"⟩ : MethodName) (head1 (Jvm.Cond.code (⟨"java/lang/Math", "min", "(II)I"⟩ : MethodName) jdk_29_method_69_code 2 (some .int) :: ws) ({ frames := 0, cells := 0, slots := 0, locals := 0 } : Room)) (fun as0 U => as0 = #[(.int (32 : Int32)), (.int nn)] ∧ Z.Warmed39 U.vm ∧ U.heap = h0) (fun _ _ _ _ _ => True) (fun _ U oc0 U' => ∃ v L, oc0 = .returned v ∧ Qmn Z nn h0 n0 v U'.heap L ∧ FrameEnd U oc0 U' L ({ frames := 0, cells := 0, slots := 0, locals := 0 } : Room).cells ({ frames := 0, cells := 0, slots := 0, locals := 0 } : Room).slots) := by
  refine MetFree.of_bodySF (Jvm.Free.JP.mathPlain rfl (by decide +kernel)) hisR ?_
  intro p e s m args below meth c s₁ Bd hml0 hP hK
  obtain ⟨rfl, hZ, hh⟩ := hP
  have hx := Bd.exec
  have hby := Bd.bytes
  have hml : c.maxLocals = 2 := hml0
  have hown : s.vm.findClass "java/lang/Math" = some m.cls := findClass_of_methodNamed Bd.named
  have hnm := (name_of_methodNamed Bd.named Bd.method).1
  have X0 : Stand p l e ({ frames := 0, cells := 0, slots := 0, locals := 0 } : Room) s m #[(.int (32 : Int32)), (.int nn)] below meth c s₁ [] 0 0 := Stand.of_body Bd
  have e0 : s₁.heap = h0 := by rw [← hh, Bd.state]; rfl
  have N0 := Fr.nil n0
  show Gl p e below s (Qmn Z nn h0 n0) ({ frames := 0, cells := 0, slots := 0, locals := 0 } : Room).cells ({ frames := 0, cells := 0, slots := 0, locals := 0 } : Room).slots (s₁.setTop (entryFrame m #[(.int (32 : Int32)), (.int nn)] 2))
  refine Gl.back (fun _ k => castTop (ef_mn m nn) k) ?_
  show Gl _ _ _ _ _ _ _ (s₁.setTop (mkF m 0 #[.val (.int (32 : Int32)), .val (.int nn)] []))
  refine Gl.back (fun _ k => XS.iloadN X0.here hx rfl (hb hby d12_0) rfl k) ?_
  show Gl _ _ _ _ _ _ _ (s₁.setTop (mkF m 1 #[.val (.int (32 : Int32)), .val (.int nn)] [(.int (32 : Int32))]))
  refine Gl.back (fun _ k => XS.iloadN X0.here hx rfl (hb hby d12_1) rfl k) ?_
  show Gl _ _ _ _ _ _ _ (s₁.setTop (mkF m 2 #[.val (.int (32 : Int32)), .val (.int nn)] [(.int nn), (.int (32 : Int32))]))
  refine Gl.back (fun _ k => XS.icmpYes X0.here hx rfl (pc0 := 2) (pc' := 9) rfl (hb hby d12_2) rfl (tlt (hlt : nn < (32 : Int32))).2.2.1 (by decide) (by decide) k) ?_
  show Gl _ _ _ _ _ _ _ (s₁.setTop (mkF m 9 #[.val (.int (32 : Int32)), .val (.int nn)] []))
  refine Gl.back (fun _ k => XS.iloadN X0.here hx rfl (hb hby d12_9) rfl k) ?_
  show Gl _ _ _ _ _ _ _ (s₁.setTop (mkF m 10 #[.val (.int (32 : Int32)), .val (.int nn)] [(.int nn)]))
  exact Gl.ret X0 e0 (v := (some (.int nn))) (fun h => by rw [Bd.returns] at h; cases h) Bd.notSynchronized (fun fs hr => retOut X0 hx (w := (.int nn)) Bd.returns rfl (Or.inl ⟨rfl, Or.inl rfl, _, rfl⟩) (hb hby d12_10) hr) ⟨N0, rfl, rfl⟩ (by decide) (by decide)
theorem d11_0 : decode jdk_65_method_121_code 0 = .ok (.iload_n 1, 1) := by decide +kernel
theorem d11_1 : decode jdk_65_method_121_code 1 = .ok (.aload_n 0, 1) := by decide +kernel
theorem d11_2 : decode jdk_65_method_121_code 2 = .ok (.arraylength, 1) := by decide +kernel
theorem d11_3 : decode jdk_65_method_121_code 3 = .ok (.if_icmp .ne 11, 3) := by decide +kernel
theorem d11_14 : decode jdk_65_method_121_code 14 = .ok (.iload_n 1, 1) := by decide +kernel
theorem d11_15 : decode jdk_65_method_121_code 15 = .ok (.newarray .byte, 2) := by decide +kernel
theorem d11_17 : decode jdk_65_method_121_code 17 = .ok (.astore_n 2, 1) := by decide +kernel
theorem d11_18 : decode jdk_65_method_121_code 18 = .ok (.aload_n 0, 1) := by decide +kernel
theorem d11_19 : decode jdk_65_method_121_code 19 = .ok (.iconst 0, 1) := by decide +kernel
theorem d11_20 : decode jdk_65_method_121_code 20 = .ok (.aload_n 2, 1) := by decide +kernel
theorem d11_21 : decode jdk_65_method_121_code 21 = .ok (.iconst 0, 1) := by decide +kernel
theorem d11_22 : decode jdk_65_method_121_code 22 = .ok (.aload_n 0, 1) := by decide +kernel
theorem d11_23 : decode jdk_65_method_121_code 23 = .ok (.arraylength, 1) := by decide +kernel
theorem d11_24 : decode jdk_65_method_121_code 24 = .ok (.iload_n 1, 1) := by decide +kernel
theorem d11_25 : decode jdk_65_method_121_code 25 = .ok (.invokestatic 304, 3) := by decide +kernel
theorem pd__II_I : parseMethodDescriptor "(II)I" = some ⟨[.int, .int], some .int⟩ := by decide +kernel
theorem d11_28 : decode jdk_65_method_121_code 28 = .ok (.invokestatic 150, 3) := by decide +kernel
theorem d11_31 : decode jdk_65_method_121_code 31 = .ok (.aload_n 2, 1) := by decide +kernel
theorem d11_32 : decode jdk_65_method_121_code 32 = .ok (.areturn, 1) := by decide +kernel
theorem pn_java_util_Arrays : plainName "java/util/Arrays" = true := by first | (simp [plainName, overriddenIn]; done) | decide +kernel
theorem ef_cp (m : MethodId) (x0 : Addr) (x1 : Int32) : entryFrame m #[(.ref x0), (.int x1)] 3 = mkF m 0 #[.val (.ref x0), .val (.int x1), .unset] [] := by first | (simp [entryFrame, mkF, argsToLocals, Value.category]; done) | rfl
def Qcp (Z : State) (t : Addr) (nn : Int32) (k_t : ClassId) (vs : List Value) (h0 : Heap) (n0 : Nat) (v : Option Value) (h : Heap) (L : List Loc) : Prop := Fr n0 L ∧ (∃ (r : Addr) (k : ClassId) (us : List Value), v = some (.ref r) ∧ Keep h0 h [] ∧ h0.size ≤ r ∧ n0 ≤ r ∧ Arv Z h r k .byte nn us (.int (0 : Int32)) ∧ (∀ i, i < nn.toNatClampNeg → us.getD i (.int 0) = vs.getD i (.int 0)))
set_option maxRecDepth 65536 in
set_option maxHeartbeats 40000000 in
theorem rmcp (l : Launch) (Z : State) (a0 : Array Value) (hw : ∀ d ∈ tables_1, d.before a0 Z = true) (ws : List Jvm.Cond) (t : Addr) (nn : Int32) (k_t : ClassId) (vs : List Value) (h0 : Heap) (n0 : Nat) (Z0 : n0 ≤ h0.size) (V_t : Arv Z h0 t k_t .byte (32 : Int32) vs (.int (0 : Int32))) (hn : ¬ nn < 0 ∧ nn < 19) :
    MetFree l (⟨"java/util/Arrays", "copyOf", "([BI)[B"⟩ : MethodName) (head1 (Jvm.Cond.code (⟨"java/util/Arrays", "copyOf", "([BI)[B"⟩ : MethodName) jdk_65_method_121_code 3 (some (.array .byte)) :: ws) ({ frames := 1, cells := 1, slots := 18, locals := 40 } : Room)) (fun as0 U => as0 = #[(.ref t), (.int nn)] ∧ Z.Warmed39 U.vm ∧ U.heap = h0) (fun _ _ _ _ _ => True) (fun _ U oc0 U' => ∃ v L, oc0 = .returned v ∧ Qcp Z t nn k_t vs h0 n0 v U'.heap L ∧ FrameEnd U oc0 U' L ({ frames := 1, cells := 1, slots := 18, locals := 40 } : Room).cells ({ frames := 1, cells := 1, slots := 18, locals := 40 } : Room).slots) := by
  refine MetFree.of_bodySF (plainFor_of_name pn_java_util_Arrays) hisR ?_
  intro p e s m args below meth c s₁ Bd hml0 hP hK
  obtain ⟨rfl, hZ, hh⟩ := hP
  have hx := Bd.exec
  have hby := Bd.bytes
  have hml : c.maxLocals = 3 := hml0
  have hown : s.vm.findClass "java/util/Arrays" = some m.cls := findClass_of_methodNamed Bd.named
  have hnm := (name_of_methodNamed Bd.named Bd.method).1
  have X0 : Stand p l e ({ frames := 1, cells := 1, slots := 18, locals := 40 } : Room) s m #[(.ref t), (.int nn)] below meth c s₁ [] 0 0 := Stand.of_body Bd
  have e0 : s₁.heap = h0 := by rw [← hh, Bd.state]; rfl
  have N0 := Fr.nil n0
  show Gl p e below s (Qcp Z t nn k_t vs h0 n0) ({ frames := 1, cells := 1, slots := 18, locals := 40 } : Room).cells ({ frames := 1, cells := 1, slots := 18, locals := 40 } : Room).slots (s₁.setTop (entryFrame m #[(.ref t), (.int nn)] 3))
  refine Gl.back (fun _ k => castTop (ef_cp m t nn) k) ?_
  show Gl _ _ _ _ _ _ _ (s₁.setTop (mkF m 0 #[.val (.ref t), .val (.int nn), .unset] []))
  refine Gl.back (fun _ k => XS.iloadN X0.here hx rfl (hb hby d11_0) rfl k) ?_
  show Gl _ _ _ _ _ _ _ (s₁.setTop (mkF m 1 #[.val (.ref t), .val (.int nn), .unset] [(.int nn)]))
  refine Gl.back (fun _ k => XS.aloadN X0.here hx rfl (hb hby d11_1) rfl rfl k) ?_
  show Gl _ _ _ _ _ _ _ (s₁.setTop (mkF m 2 #[.val (.ref t), .val (.int nn), .unset] [(.ref t), (.int nn)]))
  obtain ⟨cl118, Ar118, -, Sz118, Nn118, -, -⟩ := id V_t
  refine Gl.back (fun _ k => X0.arraylength hx (by rw [e0]; exact Ar118.1) (State.isArrayOf_alike hZ.alike Ar118.2.1) (g := (mkF m 2 #[.val (.ref t), .val (.int nn), .unset] [(.ref t), (.int nn)])) rfl rfl (hb hby d11_2) _ k) ?_
  rw [len_of Sz118 Nn118]
  show Gl _ _ _ _ _ _ _ (s₁.setTop (mkF m 3 #[.val (.ref t), .val (.int nn), .unset] [(.int (32 : Int32)), (.int nn)]))
  refine Gl.back (fun _ k => XS.icmpYes X0.here hx rfl (pc0 := 3) (pc' := 14) rfl (hb hby d11_3) rfl (feq (own_n32 hn : ¬ nn = (32 : Int32))).2 (by decide) (by decide) k) ?_
  show Gl _ _ _ _ _ _ _ (s₁.setTop (mkF m 14 #[.val (.ref t), .val (.int nn), .unset] []))
  refine Gl.back (fun _ k => XS.iloadN X0.here hx rfl (hb hby d11_14) rfl k) ?_
  show Gl _ _ _ _ _ _ _ (s₁.setTop (mkF m 15 #[.val (.ref t), .val (.int nn), .unset] [(.int nn)]))
  obtain ⟨T119, h119, k119, X119, e119, E119, A119, st119⟩ := newP X0 hx hZ (hw _ (List.mem_of_getElem? (i := 27) rfl)) e0 (g := (mkF m 15 #[.val (.ref t), .val (.int nn), .unset] [(.int nn)])) rfl (hb hby d11_15) rfl hn.1 (cap := 18) (own_c18 hn) (by decide) (by decide) (by decide)
  obtain ⟨b119, g119⟩ : ∃ z, z = h0.size := ⟨_, rfl⟩
  rw [← g119] at A119 st119
  have V119 := (Arv.new A119 hn.1).pad (pad_rep [] (.int (0 : Int32)) (nn).toNatClampNeg)
  have ne_t_b119 : t ≠ b119 := Nat.ne_of_lt (Nat.lt_of_lt_of_le V_t.lt (Nat.le_of_eq g119.symm))
  have g_b119 : n0 ≤ b119 := Nat.le_trans Z0 (Nat.le_of_eq g119.symm)
  have sz_b119 : h0.size ≤ b119 := Nat.le_trans (Keep.refl h0 []).1 (Nat.le_of_eq g119.symm)
  have Z119 : n0 ≤ h119.size := Nat.le_trans Z0 E119.1
  have K119 := Keep.ext (Keep.refl h0 []) E119
  refine Gl.back (fun _ k => st119 _ k) ?_
  show Gl _ _ _ _ _ _ _ (T119.setTop (mkF m 17 #[.val (.ref t), .val (.int nn), .unset] [(.ref b119)]))
  refine Gl.back (fun _ k => XS.astoreN X119.here hx rfl (hb hby d11_17) rfl rfl (l' := #[.val (.ref t), .val (.int nn), .val (.ref b119)]) rfl k) ?_
  show Gl _ _ _ _ _ _ _ (T119.setTop (mkF m 18 #[.val (.ref t), .val (.int nn), .val (.ref b119)] []))
  refine Gl.back (fun _ k => XS.aloadN X119.here hx rfl (hb hby d11_18) rfl rfl k) ?_
  show Gl _ _ _ _ _ _ _ (T119.setTop (mkF m 19 #[.val (.ref t), .val (.int nn), .val (.ref b119)] [(.ref t)]))
  refine Gl.back (fun _ k => XS.iconst X119.here hx rfl (hb hby d11_19) k) ?_
  show Gl _ _ _ _ _ _ _ (T119.setTop (mkF m 20 #[.val (.ref t), .val (.int nn), .val (.ref b119)] [(.int (0 : Int32)), (.ref t)]))
  refine Gl.back (fun _ k => XS.aloadN X119.here hx rfl (hb hby d11_20) rfl rfl k) ?_
  show Gl _ _ _ _ _ _ _ (T119.setTop (mkF m 21 #[.val (.ref t), .val (.int nn), .val (.ref b119)] [(.ref b119), (.int (0 : Int32)), (.ref t)]))
  refine Gl.back (fun _ k => XS.iconst X119.here hx rfl (hb hby d11_21) k) ?_
  show Gl _ _ _ _ _ _ _ (T119.setTop (mkF m 22 #[.val (.ref t), .val (.int nn), .val (.ref b119)] [(.int (0 : Int32)), (.ref b119), (.int (0 : Int32)), (.ref t)]))
  refine Gl.back (fun _ k => XS.aloadN X119.here hx rfl (hb hby d11_22) rfl rfl k) ?_
  show Gl _ _ _ _ _ _ _ (T119.setTop (mkF m 23 #[.val (.ref t), .val (.int nn), .val (.ref b119)] [(.ref t), (.int (0 : Int32)), (.ref b119), (.int (0 : Int32)), (.ref t)]))
  have f120 := (V_t.ext E119)
  obtain ⟨cl121, Ar121, -, Sz121, Nn121, -, -⟩ := id f120
  refine Gl.back (fun _ k => X119.arraylength hx (by rw [e119]; exact Ar121.1) (State.isArrayOf_alike hZ.alike Ar121.2.1) (g := (mkF m 23 #[.val (.ref t), .val (.int nn), .val (.ref b119)] [(.ref t), (.int (0 : Int32)), (.ref b119), (.int (0 : Int32)), (.ref t)])) rfl rfl (hb hby d11_23) _ k) ?_
  rw [len_of Sz121 Nn121]
  show Gl _ _ _ _ _ _ _ (T119.setTop (mkF m 24 #[.val (.ref t), .val (.int nn), .val (.ref b119)] [(.int (32 : Int32)), (.int (0 : Int32)), (.ref b119), (.int (0 : Int32)), (.ref t)]))
  refine Gl.back (fun _ k => XS.iloadN X119.here hx rfl (hb hby d11_24) rfl k) ?_
  show Gl _ _ _ _ _ _ _ (T119.setTop (mkF m 25 #[.val (.ref t), .val (.int nn), .val (.ref b119)] [(.int nn), (.int (32 : Int32)), (.int (0 : Int32)), (.ref b119), (.int (0 : Int32)), (.ref t)]))
  obtain ⟨_, _, ⟨T122, L122, k122, n122⟩, -, X122, ⟨Lc122, hQ122, l122, y122, z122⟩, st122⟩ := Jvm.LawKit.callS X119 hx (y := (⟨"java/lang/Math", "min", "(II)I"⟩ : MethodName)) hown (mvT hZ (hw _ (List.mem_of_getElem? (i := 64) rfl))) (mvT hZ (hw _ (List.mem_of_getElem? (i := 65) rfl))) (mvT hZ (hw _ (List.mem_of_getElem? (i := 66) rfl))) (mvT hZ (hw _ (List.mem_of_getElem? (i := 67) rfl))) (by decide) (backOf (W := 4) (rmmn l Z a0 hw [] nn  h119 n0 Z119 (own_n19 hn)) hZ (hw _ (List.mem_of_getElem? (i := 67) rfl)) (hw _ (List.mem_of_getElem? (i := 66) rfl)) (by decide) (by decide)) (g := (mkF m 25 #[.val (.ref t), .val (.int nn), .val (.ref b119)] [(.int nn), (.int (32 : Int32)), (.int (0 : Int32)), (.ref b119), (.int (0 : Int32)), (.ref t)])) rfl (by rw [hml]; rfl) (argsL := [(.int (32 : Int32)), (.int nn)]) (rest := [(.int (0 : Int32)), (.ref b119), (.int (0 : Int32)), (.ref t)]) (lenOf pd__II_I rfl) rfl (by show 2 * 0 + _ ≤ _; exact Nat.le_of_eq rfl) (hb hby d11_25) (fun _ _ => ⟨rfl, e119, (by decide : 1 + 0 ≤ _), (by decide : 18 + 0 ≤ _)⟩)
  dsimp only [Pt.U, Pt.locs, Pt.cells, Pt.slots] at X122 l122 y122 z122 st122 hQ122
  replace l122 := Eq.symm l122
  replace y122 := Eq.symm y122
  replace z122 := Eq.symm z122
  subst l122 y122 z122
  obtain ⟨Nq122, rfl, eh122⟩ := hQ122
  have N122 := Fr.app N0 Nq122
  refine Gl.back (fun _ k => st122 _ k) ?_
  show Gl _ _ _ _ _ _ _ (T122.setTop (mkF m 28 #[.val (.ref t), .val (.int nn), .val (.ref b119)] [(.int nn), (.int (0 : Int32)), (.ref b119), (.int (0 : Int32)), (.ref t)]))
  obtain ⟨T123, h123, L123, X123, e123, N123, Kq123, V123, st123⟩ := cpA X122 hx hZ hown (hw _ (List.mem_of_getElem? (i := 68) rfl)) (hw _ (List.mem_of_getElem? (i := 71) rfl)) (hw _ (List.mem_of_getElem? (i := 69) rfl)) (hw _ (List.mem_of_getElem? (i := 70) rfl)) eh122 f120 V119 (Or.inl ⟨rfl, rfl⟩) (by decide) (by decide) hn.1 (own_cp4 hn) (own_cp5 hn) rfl (own_cpl hn) N122 g_b119 (g := (mkF m 28 #[.val (.ref t), .val (.int nn), .val (.ref b119)] [(.int nn), (.int (0 : Int32)), (.ref b119), (.int (0 : Int32)), (.ref t)])) rfl (by rw [hml]; rfl) rfl (hb hby d11_28) (by decide) (W := 0) (by show 2 * 0 + _ ≤ _; exact Nat.le_of_eq rfl) (by decide)
  have K123 := Keep.trans K119 Kq123 (allS (Or.inr sz_b119) all0)
  have Z123 : n0 ≤ h123.size := Nat.le_trans Z119 Kq123.1
  refine Gl.back (fun _ k => st123 _ k) ?_
  show Gl _ _ _ _ _ _ _ (T123.setTop (mkF m 31 #[.val (.ref t), .val (.int nn), .val (.ref b119)] []))
  refine Gl.back (fun _ k => XS.aloadN X123.here hx rfl (hb hby d11_31) rfl rfl k) ?_
  show Gl _ _ _ _ _ _ _ (T123.setTop (mkF m 32 #[.val (.ref t), .val (.int nn), .val (.ref b119)] [(.ref b119)]))
  exact Gl.ret X123 e123 (v := (some (.ref b119))) (fun h => by rw [Bd.returns] at h; cases h) Bd.notSynchronized (fun fs hr => retOut X123 hx (w := (.ref b119)) Bd.returns rfl (Or.inr (Or.inr (Or.inr (Or.inr ⟨rfl, rfl, rfl⟩)))) (hb hby d11_32) hr) ⟨N123, b119, k119, _, rfl, K123, sz_b119, g_b119, V123, own_cp hn⟩ (by decide) (by decide)
theorem d10_0 : decode jdk_2005_method_9_code 0 = .ok (.aload_n 0, 1) := by decide +kernel
theorem d10_1 : decode jdk_2005_method_9_code 1 = .ok (.getfield 33, 3) := by decide +kernel
theorem d10_4 : decode jdk_2005_method_9_code 4 = .ok (.aload_n 0, 1) := by decide +kernel
theorem d10_5 : decode jdk_2005_method_9_code 5 = .ok (.getfield 49, 3) := by decide +kernel
theorem d10_8 : decode jdk_2005_method_9_code 8 = .ok (.invokestatic 43, 3) := by decide +kernel
theorem pd___BI__B : parseMethodDescriptor "([BI)[B" = some ⟨[(.array .byte), .int], some (.array .byte)⟩ := by decide +kernel
theorem d10_11 : decode jdk_2005_method_9_code 11 = .ok (.areturn, 1) := by decide +kernel
theorem ef_tb (m : MethodId) (x0 : Addr) : entryFrame m #[(.ref x0)] 1 = mkF m 0 #[.val (.ref x0)] [] := by first | (simp [entryFrame, mkF, argsToLocals, Value.category]; done) | rfl
def Qtb (Z : State) (a : Addr) (t : Addr) (k_t : ClassId) (vs : List Value) (nn : Int32) (h0 : Heap) (n0 : Nat) (v : Option Value) (h : Heap) (L : List Loc) : Prop := Fr n0 L ∧ (∃ (r : Addr) (k : ClassId) (us : List Value), v = some (.ref r) ∧ Keep h0 h [a] ∧ h0.size ≤ r ∧ n0 ≤ r ∧ Arv Z h r k .byte nn us (.int (0 : Int32)) ∧ (∀ i, i < nn.toNatClampNeg → us.getD i (.int 0) = vs.getD i (.int 0)))
set_option maxRecDepth 65536 in
set_option maxHeartbeats 40000000 in
theorem rmtb (l : Launch) (Z : State) (a0 : Array Value) (hw : ∀ d ∈ tables_1, d.before a0 Z = true) (ws : List Jvm.Cond) (a : Addr) (t : Addr) (k_t : ClassId) (vs : List Value) (nn : Int32) (h0 : Heap) (n0 : Nat) (Z0 : n0 ≤ h0.size) (g_a : n0 ≤ a) (U_a : Unt h0 a) (E_a : Exa Z h0 a "java/io/ByteArrayOutputStream") (F_buf : Fld Z h0 a "java/io/ByteArrayOutputStream" "buf" "[B" (.ref t)) (F_count : Fld Z h0 a "java/io/ByteArrayOutputStream" "count" "I" (.int nn)) (V_t : Arv Z h0 t k_t .byte (32 : Int32) vs (.int (0 : Int32))) (hn : ¬ nn < 0 ∧ nn < 19) :
    MetFree l (⟨"java/io/ByteArrayOutputStream", "toByteArray", "()[B"⟩ : MethodName) (head1 (Jvm.Cond.codeSync (⟨"java/io/ByteArrayOutputStream", "toByteArray", "()[B"⟩ : MethodName) jdk_2005_method_9_code 1 (some (.array .byte)) :: Jvm.Cond.instanceMethod (⟨"java/io/ByteArrayOutputStream", "toByteArray", "()[B"⟩ : MethodName) :: ws) ({ frames := 2, cells := 1, slots := 18, locals := 56 } : Room)) (fun as0 U => as0 = #[(.ref a)] ∧ Z.Warmed39 U.vm ∧ U.heap = h0) (fun _ _ _ _ _ => True) (fun _ U oc0 U' => ∃ v L, oc0 = .returned v ∧ Qtb Z a t k_t vs nn h0 n0 v U'.heap L ∧ FrameEnd U oc0 U' L ({ frames := 2, cells := 1, slots := 18, locals := 56 } : Room).cells ({ frames := 2, cells := 1, slots := 18, locals := 56 } : Room).slots) := by
  obtain ⟨clU, u1, u2, u3⟩ := id U_a
  refine MetFree.of_bodySync (plainFor_of_name pn_java_io_ByteArrayOutputStream) (hisS (List.mem_cons_self ..)) (fun _ s0 _ ⟨h1, _, h2⟩ => ⟨a, clU, by rw [h1]; rfl, by rw [h2]; exact u1, by rw [Cell.enterable, u3]; simp⟩) ?_
  intro p e s m args below meth c a' cell s₁ Bd hml0 hP hK
  obtain ⟨rfl, hZ0, hh⟩ := hP
  cases Bd.receiver
  have hx := Bd.exec
  have hby := Bd.bytes
  have hml : c.maxLocals = 1 := hml0
  have hown : (s.setCell a (cell.withEntry s.cur)).vm.findClass "java/io/ByteArrayOutputStream" = some m.cls := (findClass_of_methodNamed Bd.named :)
  have hnm := (name_of_methodNamed Bd.named Bd.method).1
  have X0 : Stand p l e ({ frames := 2, cells := 1, slots := 18, locals := 56 } : Room) (s.setCell a (cell.withEntry s.cur)) m #[(.ref a)] below meth c s₁ [] 0 0 := Stand.of_bodySync Bd
  have hZ : Z.Warmed39 (s.setCell a (cell.withEntry s.cur)).vm := hZ0
  obtain ⟨hE, e0⟩ : ∃ z, s₁.heap = z := ⟨_, rfl⟩
  have L0 : Lft h0 hE a := by rw [← e0, ← hh, Bd.state]; exact ⟨cell, _, Bd.object, rfl⟩
  have hU : Unt s.heap a := by rw [hh]; exact U_a
  have N0 := Fr.nil n0
  have ZE : n0 ≤ hE.size := by rw [L0.mon.1]; exact Z0
  show Gl p e below s (Qtb Z a t k_t vs nn h0 n0) ({ frames := 2, cells := 1, slots := 18, locals := 56 } : Room).cells ({ frames := 2, cells := 1, slots := 18, locals := 56 } : Room).slots (s₁.setTop (mkL a m 0 #[.val (.ref a)] []))
  have E_a_e := Exa.mon L0.mon E_a
  have F_buf_e := Fld.mon L0.mon F_buf
  have F_count_e := Fld.mon L0.mon F_count
  have V_t_e := own_arv_mon L0.mon V_t
  show Gl _ _ _ _ _ _ _ (s₁.setTop (mkL a m 0 #[.val (.ref a)] []))
  refine Gl.back (fun _ k => XS.aloadN X0.here hx rfl (hb hby d10_0) rfl rfl k) ?_
  show Gl _ _ _ _ _ _ _ (s₁.setTop (mkL a m 1 #[.val (.ref a)] [(.ref a)]))
  obtain ⟨T124, X124, e124, st124⟩ := getF X0 hx hZ hown (host := "") (Or.inl (hw _ (List.mem_of_getElem? (i := 28) rfl))) Via.refl e0 F_buf_e (g := (mkL a m 1 #[.val (.ref a)] [(.ref a)])) rfl rfl (hb hby d10_1)
  refine Gl.back (fun _ k => st124 _ k) ?_
  show Gl _ _ _ _ _ _ _ (T124.setTop (mkL a m 4 #[.val (.ref a)] [(.ref t)]))
  refine Gl.back (fun _ k => XS.aloadN X124.here hx rfl (hb hby d10_4) rfl rfl k) ?_
  show Gl _ _ _ _ _ _ _ (T124.setTop (mkL a m 5 #[.val (.ref a)] [(.ref a), (.ref t)]))
  obtain ⟨T125, X125, e125, st125⟩ := getF X124 hx hZ hown (host := "") (Or.inl (hw _ (List.mem_of_getElem? (i := 43) rfl))) Via.refl e124 F_count_e (g := (mkL a m 5 #[.val (.ref a)] [(.ref a), (.ref t)])) rfl rfl (hb hby d10_5)
  refine Gl.back (fun _ k => st125 _ k) ?_
  show Gl _ _ _ _ _ _ _ (T125.setTop (mkL a m 8 #[.val (.ref a)] [(.int nn), (.ref t)]))
  obtain ⟨_, _, ⟨T126, L126, k126, n126⟩, -, X126, ⟨Lc126, hQ126, l126, y126, z126⟩, st126⟩ := Jvm.LawKit.callS X125 hx (y := (⟨"java/util/Arrays", "copyOf", "([BI)[B"⟩ : MethodName)) hown (mvT hZ (hw _ (List.mem_of_getElem? (i := 60) rfl))) (mvT hZ (hw _ (List.mem_of_getElem? (i := 61) rfl))) (mvT hZ (hw _ (List.mem_of_getElem? (i := 62) rfl))) (mvT hZ (hw _ (List.mem_of_getElem? (i := 63) rfl))) (by decide) (backOf (W := 2) (rmcp l Z a0 hw [] t nn k_t vs hE n0 ZE V_t_e hn) hZ (hw _ (List.mem_of_getElem? (i := 63) rfl)) (hw _ (List.mem_of_getElem? (i := 62) rfl)) (by decide) (by decide)) (g := (mkL a m 8 #[.val (.ref a)] [(.int nn), (.ref t)])) rfl (by rw [hml]; rfl) (argsL := [(.ref t), (.int nn)]) (rest := []) (lenOf pd___BI__B rfl) rfl (by show 2 * 1 + _ ≤ _; exact Nat.le_of_eq rfl) (hb hby d10_8) (fun _ _ => ⟨rfl, e125, (by decide : 0 + 1 ≤ _), (by decide : 0 + 18 ≤ _)⟩)
  dsimp only [Pt.U, Pt.locs, Pt.cells, Pt.slots] at X126 l126 y126 z126 st126 hQ126
  replace l126 := Eq.symm l126
  replace y126 := Eq.symm y126
  replace z126 := Eq.symm z126
  subst l126 y126 z126
  obtain ⟨Nq126, rr126, kr126, us126, rfl, Kq126, Sz126, Gz126, V126, hu126⟩ := hQ126
  have N126 := Fr.app N0 Nq126
  have Kc126 := Keep.trans (Keep.refl hE [a]) Kq126 all0
  have Zc126 : n0 ≤ T126.heap.size := Nat.le_trans ZE Kq126.1
  have ne_a_rr126 : a ≠ rr126 := Nat.ne_of_lt (Nat.lt_of_lt_of_le (E_a_e).lt Sz126)
  have ne_t_rr126 : t ≠ rr126 := Nat.ne_of_lt (Nat.lt_of_lt_of_le (V_t_e).lt Sz126)
  have sz_rr126 : hE.size ≤ rr126 := Nat.le_trans (Keep.refl hE [a]).1 Sz126
  refine Gl.back (fun _ k => st126 _ k) ?_
  show Gl _ _ _ _ _ _ _ (T126.setTop (mkL a m 11 #[.val (.ref a)] [(.ref rr126)]))
  exact Gl.retS X126 rfl Bd.object Bd.enterable Bd.synchronized hU (v := (some (.ref rr126))) (fun h => by rw [Bd.returns] at h; cases h) (fun V hr => retS X126 hx (w := (.ref rr126)) Bd.returns rfl (Or.inr (Or.inr (Or.inr (Or.inr ⟨rfl, rfl, rfl⟩)))) (hb hby d10_11) hr) (fun h' Lh Uh => ⟨N126, rr126, kr126, _, rfl, own_keepS L0 Kc126 Lh (List.mem_of_getElem? (i := 0) rfl), (by rw [← L0.mon.1]; exact sz_rr126), Gz126, own_arv_mon Lh.mon V126, hu126⟩) (by decide) (by decide)
theorem d9_0 : decode prog_129_method_5_code 0 = .ok (.aload_n 0, 1) := by decide +kernel
theorem d9_1 : decode prog_129_method_5_code 1 = .ok (.getfield 12, 3) := by decide +kernel
theorem d9_4 : decode prog_129_method_5_code 4 = .ok (.invokevirtual 63, 3) := by decide +kernel
theorem pd____B : parseMethodDescriptor "()[B" = some ⟨[], some (.array .byte)⟩ := by decide +kernel
theorem d9_7 : decode prog_129_method_5_code 7 = .ok (.areturn, 1) := by decide +kernel
theorem ef_wb (m : MethodId) (x0 : Addr) : entryFrame m #[(.ref x0)] 1 = mkF m 0 #[.val (.ref x0)] [] := by first | (simp [entryFrame, mkF, argsToLocals, Value.category]; done) | rfl
def Qwb (Z : State) (a : Addr) (o t : Addr) (k_t : ClassId) (vs : List Value) (nn : Int32) (h0 : Heap) (n0 : Nat) (v : Option Value) (h : Heap) (L : List Loc) : Prop := Fr n0 L ∧ (∃ (r : Addr) (k : ClassId) (us : List Value), v = some (.ref r) ∧ Keep h0 h [o] ∧ h0.size ≤ r ∧ n0 ≤ r ∧ Arv Z h r k .byte nn us (.int (0 : Int32)) ∧ (∀ i, i < nn.toNatClampNeg → us.getD i (.int 0) = vs.getD i (.int 0)))
set_option maxRecDepth 65536 in
set_option maxHeartbeats 40000000 in
theorem rmwb (l : Launch) (Z : State) (a0 : Array Value) (hw : ∀ d ∈ tables_1, d.before a0 Z = true) (ws : List Jvm.Cond) (a : Addr) (o t : Addr) (k_t : ClassId) (vs : List Value) (nn : Int32) (h0 : Heap) (n0 : Nat) (Z0 : n0 ≤ h0.size) (g_o : n0 ≤ o) (F_p : Fld Z h0 a "com/example/harbourlink/harbourlink/scratch/Packing$Writer" "packed" "Ljava/io/ByteArrayOutputStream;" (.ref o)) (U_o : Unt h0 o) (E_o : Exa Z h0 o "java/io/ByteArrayOutputStream") (F_buf : Fld Z h0 o "java/io/ByteArrayOutputStream" "buf" "[B" (.ref t)) (F_count : Fld Z h0 o "java/io/ByteArrayOutputStream" "count" "I" (.int nn)) (V_t : Arv Z h0 t k_t .byte (32 : Int32) vs (.int (0 : Int32))) (hn : ¬ nn < 0 ∧ nn < 19) :
    MetFree l (⟨"com/example/harbourlink/harbourlink/scratch/Packing$Writer", "bytes", "()[B"⟩ : MethodName) (head1 (Jvm.Cond.code (⟨"com/example/harbourlink/harbourlink/scratch/Packing$Writer", "bytes", "()[B"⟩ : MethodName) prog_129_method_5_code 1 (some (.array .byte)) :: ws) ({ frames := 3, cells := 1, slots := 18, locals := 68 } : Room)) (fun as0 U => as0 = #[(.ref a)] ∧ Z.Warmed39 U.vm ∧ U.heap = h0) (fun _ _ _ _ _ => True) (fun _ U oc0 U' => ∃ v L, oc0 = .returned v ∧ Qwb Z a o t k_t vs nn h0 n0 v U'.heap L ∧ FrameEnd U oc0 U' L ({ frames := 3, cells := 1, slots := 18, locals := 68 } : Room).cells ({ frames := 3, cells := 1, slots := 18, locals := 68 } : Room).slots) := by
  refine MetFree.of_bodySF (plainFor_of_name pn_com_example_harbourlink_harbourlink_scratch_Packing_Writer) hisR ?_
  intro p e s m args below meth c s₁ Bd hml0 hP hK
  obtain ⟨rfl, hZ, hh⟩ := hP
  have hx := Bd.exec
  have hby := Bd.bytes
  have hml : c.maxLocals = 1 := hml0
  have hown : s.vm.findClass "com/example/harbourlink/harbourlink/scratch/Packing$Writer" = some m.cls := findClass_of_methodNamed Bd.named
  have hnm := (name_of_methodNamed Bd.named Bd.method).1
  have X0 : Stand p l e ({ frames := 3, cells := 1, slots := 18, locals := 68 } : Room) s m #[(.ref a)] below meth c s₁ [] 0 0 := Stand.of_body Bd
  have e0 : s₁.heap = h0 := by rw [← hh, Bd.state]; rfl
  have N0 := Fr.nil n0
  show Gl p e below s (Qwb Z a o t k_t vs nn h0 n0) ({ frames := 3, cells := 1, slots := 18, locals := 68 } : Room).cells ({ frames := 3, cells := 1, slots := 18, locals := 68 } : Room).slots (s₁.setTop (entryFrame m #[(.ref a)] 1))
  refine Gl.back (fun _ k => castTop (ef_wb m a) k) ?_
  show Gl _ _ _ _ _ _ _ (s₁.setTop (mkF m 0 #[.val (.ref a)] []))
  refine Gl.back (fun _ k => XS.aloadN X0.here hx rfl (hb hby d9_0) rfl rfl k) ?_
  show Gl _ _ _ _ _ _ _ (s₁.setTop (mkF m 1 #[.val (.ref a)] [(.ref a)]))
  obtain ⟨T127, X127, e127, st127⟩ := getF X0 hx hZ hown (host := "") (Or.inl (hw _ (List.mem_of_getElem? (i := 30) rfl))) Via.refl e0 F_p (g := (mkF m 1 #[.val (.ref a)] [(.ref a)])) rfl rfl (hb hby d9_1)
  refine Gl.back (fun _ k => st127 _ k) ?_
  show Gl _ _ _ _ _ _ _ (T127.setTop (mkF m 4 #[.val (.ref a)] [(.ref o)]))
  obtain ⟨cq128, kq128, q128a, q128b, q128c⟩ := isOf hZ e127 E_o
  obtain ⟨_, _, ⟨T128, L128, k128, n128⟩, -, X128, ⟨Lc128, hQ128, l128, y128, z128⟩, st128⟩ := X127.virtualBack hx (y := (⟨"java/io/ByteArrayOutputStream", "toByteArray", "()[B"⟩ : MethodName)) (z := (⟨"java/io/ByteArrayOutputStream", "toByteArray", "()[B"⟩ : MethodName)) hown (mvT hZ (hw _ (List.mem_of_getElem? (i := 55) rfl))) (mvT hZ (hw _ (List.mem_of_getElem? (i := 56) rfl))) (notFace_of_selects (args := #[]) (mvT hZ (hw _ (List.mem_of_getElem? (i := 58) rfl)))) (mvT hZ (hw _ (List.mem_of_getElem? (i := 58) rfl))) (mvT hZ (hw _ (List.mem_of_getElem? (i := 57) rfl))) (by decide) (own_backOfY (W := 0) (rmtb l Z a0 hw [] o t k_t vs nn h0 n0 Z0 g_o U_o E_o F_buf F_count V_t hn) hZ (hw _ (List.mem_of_getElem? (i := 59) rfl)) (hw _ (List.mem_of_getElem? (i := 57) rfl)) (hw _ (List.mem_of_getElem? (i := 12) rfl)) (by decide) (by decide)) q128a q128c (g := (mkF m 4 #[.val (.ref a)] [(.ref o)])) rfl (by rw [hml]; rfl) (Steps.refl _) (argsL := []) (rest := []) (lenOf pd____B rfl) rfl (by show 2 * 0 + _ ≤ _; exact Nat.le_of_eq rfl) (hb hby d9_4) (fun _ _ => ⟨rfl, e127, (by decide : 0 + 1 ≤ _), (by decide : 0 + 18 ≤ _)⟩)
  dsimp only [Pt.U, Pt.locs, Pt.cells, Pt.slots] at X128 l128 y128 z128 st128 hQ128
  replace l128 := Eq.symm l128
  replace y128 := Eq.symm y128
  replace z128 := Eq.symm z128
  subst l128 y128 z128
  obtain ⟨Nq128, rr128, kr128, us128, rfl, Kq128, Sz128, Gz128, V128, hu128⟩ := hQ128
  have N128 := Fr.app N0 Nq128
  have Kc128 := Keep.trans (Keep.refl h0 [o]) Kq128 (allS (Or.inl (List.mem_of_getElem? (i := 0) rfl)) all0)
  have Zc128 : n0 ≤ T128.heap.size := Nat.le_trans Z0 Kq128.1
  have ne_a_rr128 : a ≠ rr128 := Nat.ne_of_lt (Nat.lt_of_lt_of_le (F_p).lt Sz128)
  have ne_o_rr128 : o ≠ rr128 := Nat.ne_of_lt (Nat.lt_of_lt_of_le (E_o).lt Sz128)
  have ne_t_rr128 : t ≠ rr128 := Nat.ne_of_lt (Nat.lt_of_lt_of_le (V_t).lt Sz128)
  have sz_rr128 : h0.size ≤ rr128 := Nat.le_trans (Keep.refl h0 [o]).1 Sz128
  refine Gl.back (fun _ k => st128.trans k) ?_
  show Gl _ _ _ _ _ _ _ (T128.setTop (mkF m 7 #[.val (.ref a)] [(.ref rr128)]))
  exact Gl.ret X128 rfl (v := (some (.ref rr128))) (fun h => by rw [Bd.returns] at h; cases h) Bd.notSynchronized (fun fs hr => retOut X128 hx (w := (.ref rr128)) Bd.returns rfl (Or.inr (Or.inr (Or.inr (Or.inr ⟨rfl, rfl, rfl⟩)))) (hb hby d9_7) hr) ⟨N128, rr128, kr128, _, rfl, Kc128, sz_rr128, Gz128, V128, hu128⟩ (by decide) (by decide)
theorem d13_0 : decode prog_128_method_1_code 0 = .ok (.aload_n 0, 1) := by decide +kernel
theorem d13_1 : decode prog_128_method_1_code 1 = .ok (.invokespecial 3, 3) := by decide +kernel
theorem d13_4 : decode prog_128_method_1_code 4 = .ok (.aload_n 0, 1) := by decide +kernel
theorem d13_5 : decode prog_128_method_1_code 5 = .ok (.aload_n 1, 1) := by decide +kernel
theorem d13_6 : decode prog_128_method_1_code 6 = .ok (.putfield 9, 3) := by decide +kernel
theorem d13_9 : decode prog_128_method_1_code 9 = .ok (.aload_n 0, 1) := by decide +kernel
theorem d13_10 : decode prog_128_method_1_code 10 = .ok (.iload_n 2, 1) := by decide +kernel
theorem d13_11 : decode prog_128_method_1_code 11 = .ok (.putfield 15, 3) := by decide +kernel
theorem d13_14 : decode prog_128_method_1_code 14 = .ok (.return_, 1) := by decide +kernel
theorem pn_com_example_harbourlink_harbourlink_scratch_Packing_Reader : plainName "com/example/harbourlink/harbourlink/scratch/Packing$Reader" = true := by first | (simp [plainName, overriddenIn]; done) | decide +kernel
theorem ef_ri (m : MethodId) (x0 : Addr) (x1 : Addr) (x2 : Int32) : entryFrame m #[(.ref x0), (.ref x1), (.int x2)] 3 = mkF m 0 #[.val (.ref x0), .val (.ref x1), .val (.int x2)] [] := by first | (simp [entryFrame, mkF, argsToLocals, Value.category]; done) | rfl
def Qri (Z : State) (a : Addr) (t : Addr) (cc : Int32) (h0 : Heap) (n0 : Nat) (v : Option Value) (h : Heap) (L : List Loc) : Prop := Fr n0 L ∧ (v = none ∧ Keep h0 h [a] ∧ Fld Z h a "com/example/harbourlink/harbourlink/scratch/Packing$Reader" "bytes" "[B" (.ref t) ∧ Fld Z h a "com/example/harbourlink/harbourlink/scratch/Packing$Reader" "at" "I" (.int cc))
set_option maxRecDepth 65536 in
set_option maxHeartbeats 40000000 in
theorem rmri (l : Launch) (Z : State) (a0 : Array Value) (hw : ∀ d ∈ tables_1, d.before a0 Z = true) (ws : List Jvm.Cond) (a : Addr) (t : Addr) (cc : Int32) (h0 : Heap) (n0 : Nat) (Z0 : n0 ≤ h0.size) (g_a : n0 ≤ a) (E_a : Exa Z h0 a "com/example/harbourlink/harbourlink/scratch/Packing$Reader") (F_b : Fld Z h0 a "com/example/harbourlink/harbourlink/scratch/Packing$Reader" "bytes" "[B" .null) (F_at : Fld Z h0 a "com/example/harbourlink/harbourlink/scratch/Packing$Reader" "at" "I" (.int 0)) :
    MetFree l (⟨"com/example/harbourlink/harbourlink/scratch/Packing$Reader", "<init>", "([BI)V"⟩ : MethodName) (head1 (Jvm.Cond.code (⟨"com/example/harbourlink/harbourlink/scratch/Packing$Reader", "<init>", "([BI)V"⟩ : MethodName) prog_128_method_1_code 3 none :: ws) ({ frames := 1, cells := 0, slots := 0, locals := 12 } : Room)) (fun as0 U => as0 = #[(.ref a), (.ref t), (.int cc)] ∧ Z.Warmed39 U.vm ∧ U.heap = h0) (fun _ _ _ _ _ => True) (fun _ U oc0 U' => ∃ v L, oc0 = .returned v ∧ Qri Z a t cc h0 n0 v U'.heap L ∧ FrameEnd U oc0 U' L ({ frames := 1, cells := 0, slots := 0, locals := 12 } : Room).cells ({ frames := 1, cells := 0, slots := 0, locals := 12 } : Room).slots) := by
  refine MetFree.of_bodySF (plainFor_of_name pn_com_example_harbourlink_harbourlink_scratch_Packing_Reader) hisR ?_
  intro p e s m args below meth c s₁ Bd hml0 hP hK
  obtain ⟨rfl, hZ, hh⟩ := hP
  have hx := Bd.exec
  have hby := Bd.bytes
  have hml : c.maxLocals = 3 := hml0
  have hown : s.vm.findClass "com/example/harbourlink/harbourlink/scratch/Packing$Reader" = some m.cls := findClass_of_methodNamed Bd.named
  have hnm := (name_of_methodNamed Bd.named Bd.method).1
  have X0 : Stand p l e ({ frames := 1, cells := 0, slots := 0, locals := 12 } : Room) s m #[(.ref a), (.ref t), (.int cc)] below meth c s₁ [] 0 0 := Stand.of_body Bd
  have e0 : s₁.heap = h0 := by rw [← hh, Bd.state]; rfl
  have N0 := Fr.nil n0
  show Gl p e below s (Qri Z a t cc h0 n0) ({ frames := 1, cells := 0, slots := 0, locals := 12 } : Room).cells ({ frames := 1, cells := 0, slots := 0, locals := 12 } : Room).slots (s₁.setTop (entryFrame m #[(.ref a), (.ref t), (.int cc)] 3))
  refine Gl.back (fun _ k => castTop (ef_ri m a t cc) k) ?_
  show Gl _ _ _ _ _ _ _ (s₁.setTop (mkF m 0 #[.val (.ref a), .val (.ref t), .val (.int cc)] []))
  refine Gl.back (fun _ k => XS.aloadN X0.here hx rfl (hb hby d13_0) rfl rfl k) ?_
  show Gl _ _ _ _ _ _ _ (s₁.setTop (mkF m 1 #[.val (.ref a), .val (.ref t), .val (.int cc)] [(.ref a)]))
  obtain ⟨T129, X129, e129, st129⟩ := initO X0 hx hZ hown (hw _ (List.mem_of_getElem? (i := 78) rfl)) (hw _ (List.mem_of_getElem? (i := 8) rfl)) (hw _ (List.mem_of_getElem? (i := 9) rfl)) e0 (g := (mkF m 1 #[.val (.ref a), .val (.ref t), .val (.int cc)] [(.ref a)])) rfl (by rw [hml]; rfl) rfl (hb hby d13_1) (by decide) (W := 0) (by show 2 * 0 + _ ≤ _; exact Nat.le_of_eq rfl) (by decide)
  refine Gl.back (fun _ k => st129 _ k) ?_
  show Gl _ _ _ _ _ _ _ (T129.setTop (mkF m 4 #[.val (.ref a), .val (.ref t), .val (.int cc)] []))
  refine Gl.back (fun _ k => XS.aloadN X129.here hx rfl (hb hby d13_4) rfl rfl k) ?_
  show Gl _ _ _ _ _ _ _ (T129.setTop (mkF m 5 #[.val (.ref a), .val (.ref t), .val (.int cc)] [(.ref a)]))
  refine Gl.back (fun _ k => XS.aloadN X129.here hx rfl (hb hby d13_5) rfl rfl k) ?_
  show Gl _ _ _ _ _ _ _ (T129.setTop (mkF m 6 #[.val (.ref a), .val (.ref t), .val (.int cc)] [(.ref t), (.ref a)]))
  obtain ⟨T130, h130, X130, e130, W130, st130⟩ := putF X129 hx hZ hown (host := "") (Or.inl (hw _ (List.mem_of_getElem? (i := 79) rfl))) Via.refl e129 F_b E_a (Or.inr ⟨(hw _ (List.mem_of_getElem? (i := 80) rfl)), rfl, hnm⟩) (hw _ (List.mem_of_getElem? (i := 73) rfl)) (ty := (.array .byte)) (by decide) rfl rfl (g := (mkF m 6 #[.val (.ref a), .val (.ref t), .val (.int cc)] [(.ref t), (.ref a)])) rfl rfl (hb hby d13_6)
  have Fw130 := F_b.same W130
  have K130 := Keep.wr (Keep.refl h0 [a]) W130 (Or.inl (List.mem_of_getElem? (i := 0) rfl))
  have Z130 : n0 ≤ h130.size := Nat.le_trans Z0 (Keep.of_wr W130).1
  have N130 := Fr.snoc X130 N0 g_a
  refine Gl.back (fun _ k => st130 _ k) ?_
  show Gl _ _ _ _ _ _ _ (T130.setTop (mkF m 9 #[.val (.ref a), .val (.ref t), .val (.int cc)] []))
  refine Gl.back (fun _ k => XS.aloadN X130.here hx rfl (hb hby d13_9) rfl rfl k) ?_
  show Gl _ _ _ _ _ _ _ (T130.setTop (mkF m 10 #[.val (.ref a), .val (.ref t), .val (.int cc)] [(.ref a)]))
  refine Gl.back (fun _ k => XS.iloadN X130.here hx rfl (hb hby d13_10) rfl k) ?_
  show Gl _ _ _ _ _ _ _ (T130.setTop (mkF m 11 #[.val (.ref a), .val (.ref t), .val (.int cc)] [(.int cc), (.ref a)]))
  have f131 := (E_a.wr W130)
  have f132 := (F_at.other W130 (Or.inr (slot_ne (Or.inl (hw _ (List.mem_of_getElem? (i := 82) rfl))) (Or.inr (hw _ (List.mem_of_getElem? (i := 80) rfl))) (by decide) (t := .int) (t' := (.array .byte)) (by decide) (by decide))))
  obtain ⟨T133, h133, X133, e133, W133, st133⟩ := putF X130 hx hZ hown (host := "") (Or.inl (hw _ (List.mem_of_getElem? (i := 81) rfl))) Via.refl e130 f132 f131 (Or.inl (hw _ (List.mem_of_getElem? (i := 82) rfl))) (hw _ (List.mem_of_getElem? (i := 73) rfl)) (ty := .int) (by decide) rfl rfl (g := (mkF m 11 #[.val (.ref a), .val (.ref t), .val (.int cc)] [(.int cc), (.ref a)])) rfl rfl (hb hby d13_11)
  have Fw133 := f132.same W133
  have K133 := Keep.wr K130 W133 (Or.inl (List.mem_of_getElem? (i := 0) rfl))
  have Z133 : n0 ≤ h133.size := Nat.le_trans Z130 (Keep.of_wr W133).1
  have N133 := Fr.snoc X133 N130 g_a
  refine Gl.back (fun _ k => st133 _ k) ?_
  show Gl _ _ _ _ _ _ _ (T133.setTop (mkF m 14 #[.val (.ref a), .val (.ref t), .val (.int cc)] []))
  have f134 := (Fw130.other W133 (Or.inr (slot_ne (Or.inr (hw _ (List.mem_of_getElem? (i := 80) rfl))) (Or.inl (hw _ (List.mem_of_getElem? (i := 82) rfl))) (by decide) (t := (.array .byte)) (t' := .int) (by decide) (by decide))))
  exact Gl.ret X133 e133 (v := none) (fun _ => rfl) Bd.notSynchronized (fun fs hr => X133.returnOut hx Bd.returns (hb hby d13_14) hr) ⟨N133, rfl, K133, f134, Fw133⟩ (by decide) (by decide)
theorem d14_0 : decode prog_128_method_2_code 0 = .ok (.lconst 0, 1) := by decide +kernel
theorem d14_1 : decode prog_128_method_2_code 1 = .ok (.lstore_n 1, 1) := by decide +kernel
theorem d14_2 : decode prog_128_method_2_code 2 = .ok (.iconst 0, 1) := by decide +kernel
theorem d14_3 : decode prog_128_method_2_code 3 = .ok (.istore_n 3, 1) := by decide +kernel
theorem d14_4 : decode prog_128_method_2_code 4 = .ok (.aload_n 0, 1) := by decide +kernel
theorem d14_5 : decode prog_128_method_2_code 5 = .ok (.getfield 9, 3) := by decide +kernel
theorem d14_8 : decode prog_128_method_2_code 8 = .ok (.aload_n 0, 1) := by decide +kernel
theorem d14_9 : decode prog_128_method_2_code 9 = .ok (.dup, 1) := by decide +kernel
theorem d14_10 : decode prog_128_method_2_code 10 = .ok (.getfield 15, 3) := by decide +kernel
theorem d14_13 : decode prog_128_method_2_code 13 = .ok (.dup_x1, 1) := by decide +kernel
theorem d14_14 : decode prog_128_method_2_code 14 = .ok (.iconst 1, 1) := by decide +kernel
theorem d14_15 : decode prog_128_method_2_code 15 = .ok (.iadd, 1) := by decide +kernel
theorem d14_16 : decode prog_128_method_2_code 16 = .ok (.putfield 15, 3) := by decide +kernel
theorem d14_19 : decode prog_128_method_2_code 19 = .ok (.baload, 1) := by decide +kernel
theorem d14_20 : decode prog_128_method_2_code 20 = .ok (.sipush 255, 3) := by decide +kernel
theorem d14_23 : decode prog_128_method_2_code 23 = .ok (.iand, 1) := by decide +kernel
theorem d14_24 : decode prog_128_method_2_code 24 = .ok (.istore 4, 2) := by decide +kernel
theorem d14_26 : decode prog_128_method_2_code 26 = .ok (.lload_n 1, 1) := by decide +kernel
theorem d14_27 : decode prog_128_method_2_code 27 = .ok (.iload 4, 2) := by decide +kernel
theorem d14_29 : decode prog_128_method_2_code 29 = .ok (.sipush 128, 3) := by decide +kernel
theorem d14_32 : decode prog_128_method_2_code 32 = .ok (.irem, 1) := by decide +kernel
theorem d14_33 : decode prog_128_method_2_code 33 = .ok (.i2l, 1) := by decide +kernel
theorem d14_34 : decode prog_128_method_2_code 34 = .ok (.iload_n 3, 1) := by decide +kernel
theorem d14_35 : decode prog_128_method_2_code 35 = .ok (.lshl, 1) := by decide +kernel
theorem d14_36 : decode prog_128_method_2_code 36 = .ok (.lor, 1) := by decide +kernel
theorem d14_37 : decode prog_128_method_2_code 37 = .ok (.lstore_n 1, 1) := by decide +kernel
theorem d14_38 : decode prog_128_method_2_code 38 = .ok (.iload 4, 2) := by decide +kernel
theorem d14_40 : decode prog_128_method_2_code 40 = .ok (.sipush 128, 3) := by decide +kernel
theorem d14_43 : decode prog_128_method_2_code 43 = .ok (.if_icmp .ge 5, 3) := by decide +kernel
theorem d14_46 : decode prog_128_method_2_code 46 = .ok (.lload_n 1, 1) := by decide +kernel
theorem d14_47 : decode prog_128_method_2_code 47 = .ok (.lreturn, 1) := by decide +kernel
theorem d14_48 : decode prog_128_method_2_code 48 = .ok (.iinc 3 7, 3) := by decide +kernel
theorem d14_51 : decode prog_128_method_2_code 51 = .ok (.goto (-47), 3) := by decide +kernel
theorem ef_rn (m : MethodId) (x0 : Addr) : entryFrame m #[(.ref x0)] 5 = mkF m 0 #[.val (.ref x0), .unset, .unset, .unset, .unset] [] := by first | (simp [entryFrame, mkF, argsToLocals, Value.category]; done) | rfl
def Qrn (Z : State) (a : Addr) (t : Addr) (k_t : ClassId) (vs : List Value) (ll cc : Int32) (an : Nat) (ff : Nat → Nat) (mm : Nat) (h0 : Heap) (n0 : Nat) (v : Option Value) (h : Heap) (L : List Loc) : Prop := Fr n0 L ∧ (∃ cn : Int32, v = some (.long (own_acc ff mm)) ∧ Keep h0 h [a] ∧ Fld Z h a "com/example/harbourlink/harbourlink/scratch/Packing$Reader" "bytes" "[B" (.ref t) ∧ Fld Z h a "com/example/harbourlink/harbourlink/scratch/Packing$Reader" "at" "I" (.int cn) ∧ cn.toInt = ((an + mm : Nat) : Int))
set_option maxRecDepth 65536 in
set_option maxHeartbeats 40000000 in
theorem rmrn (l : Launch) (Z : State) (a0 : Array Value) (hw : ∀ d ∈ tables_1, d.before a0 Z = true) (ws : List Jvm.Cond) (a : Addr) (t : Addr) (k_t : ClassId) (vs : List Value) (ll cc : Int32) (an : Nat) (ff : Nat → Nat) (mm : Nat) (h0 : Heap) (n0 : Nat) (Z0 : n0 ≤ h0.size) (g_a : n0 ≤ a) (E_a : Exa Z h0 a "com/example/harbourlink/harbourlink/scratch/Packing$Reader") (F_b : Fld Z h0 a "com/example/harbourlink/harbourlink/scratch/Packing$Reader" "bytes" "[B" (.ref t)) (F_at : Fld Z h0 a "com/example/harbourlink/harbourlink/scratch/Packing$Reader" "at" "I" (.int cc)) (V_t : Arv Z h0 t k_t .byte ll vs (.int (0 : Int32))) (hat : a ≠ t) (hcc : cc.toInt = ((an : Nat) : Int)) (hll : ((an + mm : Nat) : Int) ≤ ll.toInt) (hv : ∀ i, i < mm → vs.getD (an + i) (.int 0) = .int (own_lo (ff i))) (hf : ∀ i, i < mm → ff i < 256) (hlo : ∀ i, i + 1 < mm → 128 ≤ ff i) (hhi : ff (mm - 1) < 128) (hm : 1 ≤ mm ∧ mm ≤ 9) :
    MetFree l (⟨"com/example/harbourlink/harbourlink/scratch/Packing$Reader", "number", "()J"⟩ : MethodName) (head1 (Jvm.Cond.code (⟨"com/example/harbourlink/harbourlink/scratch/Packing$Reader", "number", "()J"⟩ : MethodName) prog_128_method_2_code 5 (some .long) :: ws) ({ frames := 0, cells := 0, slots := 0, locals := 0 } : Room)) (fun as0 U => as0 = #[(.ref a)] ∧ Z.Warmed39 U.vm ∧ U.heap = h0) (fun _ _ _ _ _ => True) (fun _ U oc0 U' => ∃ v L, oc0 = .returned v ∧ Qrn Z a t k_t vs ll cc an ff mm h0 n0 v U'.heap L ∧ FrameEnd U oc0 U' L ({ frames := 0, cells := 0, slots := 0, locals := 0 } : Room).cells ({ frames := 0, cells := 0, slots := 0, locals := 0 } : Room).slots) := by
  refine MetFree.of_bodySF (plainFor_of_name pn_com_example_harbourlink_harbourlink_scratch_Packing_Reader) hisR ?_
  intro p e s m args below meth c s₁ Bd hml0 hP hK
  obtain ⟨rfl, hZ, hh⟩ := hP
  have hx := Bd.exec
  have hby := Bd.bytes
  have hml : c.maxLocals = 5 := hml0
  have hown : s.vm.findClass "com/example/harbourlink/harbourlink/scratch/Packing$Reader" = some m.cls := findClass_of_methodNamed Bd.named
  have hnm := (name_of_methodNamed Bd.named Bd.method).1
  have X0 : Stand p l e ({ frames := 0, cells := 0, slots := 0, locals := 0 } : Room) s m #[(.ref a)] below meth c s₁ [] 0 0 := Stand.of_body Bd
  have e0 : s₁.heap = h0 := by rw [← hh, Bd.state]; rfl
  have N0 := Fr.nil n0
  show Gl p e below s (Qrn Z a t k_t vs ll cc an ff mm h0 n0) ({ frames := 0, cells := 0, slots := 0, locals := 0 } : Room).cells ({ frames := 0, cells := 0, slots := 0, locals := 0 } : Room).slots (s₁.setTop (entryFrame m #[(.ref a)] 5))
  refine Gl.back (fun _ k => castTop (ef_rn m a) k) ?_
  show Gl _ _ _ _ _ _ _ (s₁.setTop (mkF m 0 #[.val (.ref a), .unset, .unset, .unset, .unset] []))
  refine Gl.back (fun _ k => XS.lconst X0.here hx rfl (hb hby d14_0) k) ?_
  show Gl _ _ _ _ _ _ _ (s₁.setTop (mkF m 1 #[.val (.ref a), .unset, .unset, .unset, .unset] [(.long (0 : Int64))]))
  refine Gl.back (fun _ k => XS.lstoreN X0.here hx rfl (hb hby d14_1) rfl (l' := #[.val (.ref a), .val (.long (0 : Int64)), .second, .unset, .unset]) rfl k) ?_
  show Gl _ _ _ _ _ _ _ (s₁.setTop (mkF m 2 #[.val (.ref a), .val (.long (0 : Int64)), .second, .unset, .unset] []))
  refine Gl.back (fun _ k => XS.iconst X0.here hx rfl (hb hby d14_2) k) ?_
  show Gl _ _ _ _ _ _ _ (s₁.setTop (mkF m 3 #[.val (.ref a), .val (.long (0 : Int64)), .second, .unset, .unset] [(.int (0 : Int32))]))
  refine Gl.back (fun _ k => XS.istoreN X0.here hx rfl (hb hby d14_3) rfl (l' := #[.val (.ref a), .val (.long (0 : Int64)), .second, .val (.int (0 : Int32)), .unset]) rfl k) ?_
  show Gl _ _ _ _ _ _ _ (s₁.setTop (mkF m 4 #[.val (.ref a), .val (.long (0 : Int64)), .second, .val (.int (0 : Int32)), .unset] []))
  have him0 : 0 < mm := hm.1
  have hc0 : cc.toInt = ((an + 0 : Nat) : Int) := hcc
  refine Gl.back (fun _ k => XS.aloadN X0.here hx rfl (hb hby d14_4) rfl rfl k) ?_
  show Gl _ _ _ _ _ _ _ (s₁.setTop (mkF m 5 #[.val (.ref a), .val (.long (0 : Int64)), .second, .val (.int (0 : Int32)), .unset] [(.ref a)]))
  obtain ⟨T135, X135, e135, st135⟩ := getF X0 hx hZ hown (host := "") (Or.inl (hw _ (List.mem_of_getElem? (i := 79) rfl))) Via.refl e0 F_b (g := (mkF m 5 #[.val (.ref a), .val (.long (0 : Int64)), .second, .val (.int (0 : Int32)), .unset] [(.ref a)])) rfl rfl (hb hby d14_5)
  refine Gl.back (fun _ k => st135 _ k) ?_
  show Gl _ _ _ _ _ _ _ (T135.setTop (mkF m 8 #[.val (.ref a), .val (.long (0 : Int64)), .second, .val (.int (0 : Int32)), .unset] [(.ref t)]))
  refine Gl.back (fun _ k => XS.aloadN X135.here hx rfl (hb hby d14_8) rfl rfl k) ?_
  show Gl _ _ _ _ _ _ _ (T135.setTop (mkF m 9 #[.val (.ref a), .val (.long (0 : Int64)), .second, .val (.int (0 : Int32)), .unset] [(.ref a), (.ref t)]))
  refine Gl.back (fun _ k => XS.dup X135.here hx rfl (hb hby d14_9) rfl rfl k) ?_
  show Gl _ _ _ _ _ _ _ (T135.setTop (mkF m 10 #[.val (.ref a), .val (.long (0 : Int64)), .second, .val (.int (0 : Int32)), .unset] [(.ref a), (.ref a), (.ref t)]))
  obtain ⟨T136, X136, e136, st136⟩ := getF X135 hx hZ hown (host := "") (Or.inl (hw _ (List.mem_of_getElem? (i := 81) rfl))) Via.refl e135 F_at (g := (mkF m 10 #[.val (.ref a), .val (.long (0 : Int64)), .second, .val (.int (0 : Int32)), .unset] [(.ref a), (.ref a), (.ref t)])) rfl rfl (hb hby d14_10)
  refine Gl.back (fun _ k => st136 _ k) ?_
  show Gl _ _ _ _ _ _ _ (T136.setTop (mkF m 13 #[.val (.ref a), .val (.long (0 : Int64)), .second, .val (.int (0 : Int32)), .unset] [(.int cc), (.ref a), (.ref t)]))
  refine Gl.back (fun _ k => XS.dupX1 X136.here hx rfl (hb hby d14_13) rfl rfl rfl k) ?_
  show Gl _ _ _ _ _ _ _ (T136.setTop (mkF m 14 #[.val (.ref a), .val (.long (0 : Int64)), .second, .val (.int (0 : Int32)), .unset] [(.int cc), (.ref a), (.int cc), (.ref t)]))
  refine Gl.back (fun _ k => XS.iconst X136.here hx rfl (hb hby d14_14) k) ?_
  show Gl _ _ _ _ _ _ _ (T136.setTop (mkF m 15 #[.val (.ref a), .val (.long (0 : Int64)), .second, .val (.int (0 : Int32)), .unset] [(.int (1 : Int32)), (.int cc), (.ref a), (.int cc), (.ref t)]))
  refine Gl.back (fun _ k => XS.iadd X136.here hx rfl (hb hby d14_15) rfl k) ?_
  show Gl _ _ _ _ _ _ _ (T136.setTop (mkF m 16 #[.val (.ref a), .val (.long (0 : Int64)), .second, .val (.int (0 : Int32)), .unset] [(.int (cc + (1 : Int32))), (.ref a), (.int cc), (.ref t)]))
  obtain ⟨T137, h137, X137, e137, W137, st137⟩ := putF X136 hx hZ hown (host := "") (Or.inl (hw _ (List.mem_of_getElem? (i := 81) rfl))) Via.refl e136 F_at E_a (Or.inl (hw _ (List.mem_of_getElem? (i := 82) rfl))) (hw _ (List.mem_of_getElem? (i := 73) rfl)) (ty := .int) (by decide) rfl rfl (g := (mkF m 16 #[.val (.ref a), .val (.long (0 : Int64)), .second, .val (.int (0 : Int32)), .unset] [(.int (cc + (1 : Int32))), (.ref a), (.int cc), (.ref t)])) rfl rfl (hb hby d14_16)
  have Fw137 := F_at.same W137
  have K137 := Keep.wr (Keep.refl h0 [a]) W137 (Or.inl (List.mem_of_getElem? (i := 0) rfl))
  have Z137 : n0 ≤ h137.size := Nat.le_trans Z0 (Keep.of_wr W137).1
  have N137 := Fr.snoc X137 N0 g_a
  refine Gl.back (fun _ k => st137 _ k) ?_
  show Gl _ _ _ _ _ _ _ (T137.setTop (mkF m 19 #[.val (.ref a), .val (.long (0 : Int64)), .second, .val (.int (0 : Int32)), .unset] [(.int cc), (.ref t)]))
  have f138 := (V_t.other W137 (Ne.symm hat))
  obtain ⟨cl139, Ar139, q139, Sz139, Nn139, Hs139, Gf139⟩ := id f138
  have hin139 : ¬ (cc < 0 ∨ cl139.slots.size ≤ (cc).toNatClampNeg) := inb_of Sz139 (own_inb hc0 him0 hll)
  have hat139 : cl139.slots[(cc).toNatClampNeg]? = some (.int (own_lo (ff 0))) := Hs139.at hin139 (own_gD hc0 (hv 0 him0))
  refine Gl.back (fun _ k => X137.baloadBytes hx (j := cc) (v := (.int (own_lo (ff 0)))) (by rw [e137]; exact Ar139.1) (State.isArrayOf_alike hZ.alike Ar139.2.1) Ar139.2.2 hin139 hat139 (g := (mkF m 19 #[.val (.ref a), .val (.long (0 : Int64)), .second, .val (.int (0 : Int32)), .unset] [(.int cc), (.ref t)])) rfl rfl (hb hby d14_19) _ k) ?_
  show Gl _ _ _ _ _ _ _ (T137.setTop (mkF m 20 #[.val (.ref a), .val (.long (0 : Int64)), .second, .val (.int (0 : Int32)), .unset] [(.int (own_lo (ff 0)))]))
  refine Gl.back (fun _ k => XS.sipush X137.here hx rfl (hb hby d14_20) k) ?_
  show Gl _ _ _ _ _ _ _ (T137.setTop (mkF m 23 #[.val (.ref a), .val (.long (0 : Int64)), .second, .val (.int (0 : Int32)), .unset] [(.int (255 : Int32)), (.int (own_lo (ff 0)))]))
  refine Gl.back (fun _ k => XS.iand X137.here hx rfl (hb hby d14_23) rfl k) ?_
  show Gl _ _ _ _ _ _ _ (T137.setTop (mkF m 24 #[.val (.ref a), .val (.long (0 : Int64)), .second, .val (.int (0 : Int32)), .unset] [(.int ((own_lo (ff 0)) &&& (255 : Int32)))]))
  rw [own_rd (hf 0 him0)]
  show Gl _ _ _ _ _ _ _ (T137.setTop (mkF m 24 #[.val (.ref a), .val (.long (0 : Int64)), .second, .val (.int (0 : Int32)), .unset] [(.int (Int32.ofNat (ff 0)))]))
  refine Gl.back (fun _ k => XS.istore X137.here hx rfl (hb hby d14_24) rfl (l' := #[.val (.ref a), .val (.long (0 : Int64)), .second, .val (.int (0 : Int32)), .val (.int (Int32.ofNat (ff 0)))]) rfl k) ?_
  show Gl _ _ _ _ _ _ _ (T137.setTop (mkF m 26 #[.val (.ref a), .val (.long (0 : Int64)), .second, .val (.int (0 : Int32)), .val (.int (Int32.ofNat (ff 0)))] []))
  refine Gl.back (fun _ k => XS.lloadN X137.here hx rfl (hb hby d14_26) rfl k) ?_
  show Gl _ _ _ _ _ _ _ (T137.setTop (mkF m 27 #[.val (.ref a), .val (.long (0 : Int64)), .second, .val (.int (0 : Int32)), .val (.int (Int32.ofNat (ff 0)))] [(.long (0 : Int64))]))
  refine Gl.back (fun _ k => XS.iload X137.here hx rfl (hb hby d14_27) rfl k) ?_
  show Gl _ _ _ _ _ _ _ (T137.setTop (mkF m 29 #[.val (.ref a), .val (.long (0 : Int64)), .second, .val (.int (0 : Int32)), .val (.int (Int32.ofNat (ff 0)))] [(.int (Int32.ofNat (ff 0))), (.long (0 : Int64))]))
  refine Gl.back (fun _ k => XS.sipush X137.here hx rfl (hb hby d14_29) k) ?_
  show Gl _ _ _ _ _ _ _ (T137.setTop (mkF m 32 #[.val (.ref a), .val (.long (0 : Int64)), .second, .val (.int (0 : Int32)), .val (.int (Int32.ofNat (ff 0)))] [(.int (128 : Int32)), (.int (Int32.ofNat (ff 0))), (.long (0 : Int64))]))
  refine Gl.back (fun _ k => iremM X137 hx rfl (hb hby d14_32) rfl (by decide) k) ?_
  show Gl _ _ _ _ _ _ _ (T137.setTop (mkF m 33 #[.val (.ref a), .val (.long (0 : Int64)), .second, .val (.int (0 : Int32)), .val (.int (Int32.ofNat (ff 0)))] [(.int ((Int32.ofNat (ff 0)) % (128 : Int32))), (.long (0 : Int64))]))
  refine Gl.back (fun _ k => XS.i2l X137.here hx rfl (hb hby d14_33) rfl k) ?_
  show Gl _ _ _ _ _ _ _ (T137.setTop (mkF m 34 #[.val (.ref a), .val (.long (0 : Int64)), .second, .val (.int (0 : Int32)), .val (.int (Int32.ofNat (ff 0)))] [(.long (((Int32.ofNat (ff 0)) % (128 : Int32)).toInt64)), (.long (0 : Int64))]))
  refine Gl.back (fun _ k => XS.iloadN X137.here hx rfl (hb hby d14_34) rfl k) ?_
  show Gl _ _ _ _ _ _ _ (T137.setTop (mkF m 35 #[.val (.ref a), .val (.long (0 : Int64)), .second, .val (.int (0 : Int32)), .val (.int (Int32.ofNat (ff 0)))] [(.int (0 : Int32)), (.long (((Int32.ofNat (ff 0)) % (128 : Int32)).toInt64)), (.long (0 : Int64))]))
  refine Gl.back (fun _ k => XS.lshl X137.here hx rfl (hb hby d14_35) rfl k) ?_
  show Gl _ _ _ _ _ _ _ (T137.setTop (mkF m 36 #[.val (.ref a), .val (.long (0 : Int64)), .second, .val (.int (0 : Int32)), .val (.int (Int32.ofNat (ff 0)))] [(.long ((((Int32.ofNat (ff 0)) % (128 : Int32)).toInt64) <<< ((0 : Int32) &&& 0x3f).toInt64)), (.long (0 : Int64))]))
  refine Gl.back (fun _ k => XS.lor X137.here hx rfl (hb hby d14_36) rfl k) ?_
  show Gl _ _ _ _ _ _ _ (T137.setTop (mkF m 37 #[.val (.ref a), .val (.long (0 : Int64)), .second, .val (.int (0 : Int32)), .val (.int (Int32.ofNat (ff 0)))] [(.long ((0 : Int64) ||| ((((Int32.ofNat (ff 0)) % (128 : Int32)).toInt64) <<< ((0 : Int32) &&& 0x3f).toInt64)))]))
  rw [show ((0 : Int64) ||| ((((Int32.ofNat (ff 0)) % (128 : Int32)).toInt64) <<< ((0 : Int32) &&& 0x3f).toInt64)) = own_acc ff 1 from own_acS rfl rfl]
  show Gl _ _ _ _ _ _ _ (T137.setTop (mkF m 37 #[.val (.ref a), .val (.long (0 : Int64)), .second, .val (.int (0 : Int32)), .val (.int (Int32.ofNat (ff 0)))] [(.long (own_acc ff 1))]))
  refine Gl.back (fun _ k => XS.lstoreN X137.here hx rfl (hb hby d14_37) rfl (l' := #[.val (.ref a), .val (.long (own_acc ff 1)), .second, .val (.int (0 : Int32)), .val (.int (Int32.ofNat (ff 0)))]) rfl k) ?_
  show Gl _ _ _ _ _ _ _ (T137.setTop (mkF m 38 #[.val (.ref a), .val (.long (own_acc ff 1)), .second, .val (.int (0 : Int32)), .val (.int (Int32.ofNat (ff 0)))] []))
  refine Gl.back (fun _ k => XS.iload X137.here hx rfl (hb hby d14_38) rfl k) ?_
  show Gl _ _ _ _ _ _ _ (T137.setTop (mkF m 40 #[.val (.ref a), .val (.long (own_acc ff 1)), .second, .val (.int (0 : Int32)), .val (.int (Int32.ofNat (ff 0)))] [(.int (Int32.ofNat (ff 0)))]))
  refine Gl.back (fun _ k => XS.sipush X137.here hx rfl (hb hby d14_40) k) ?_
  show Gl _ _ _ _ _ _ _ (T137.setTop (mkF m 43 #[.val (.ref a), .val (.long (own_acc ff 1)), .second, .val (.int (0 : Int32)), .val (.int (Int32.ofNat (ff 0)))] [(.int (128 : Int32)), (.int (Int32.ofNat (ff 0)))]))
  by_cases hc43_140 : (Int32.ofNat (ff 0)) < (128 : Int32)
  · refine Gl.back (fun _ k => XS.icmpNo X137.here hx rfl (hb hby d14_43) rfl (tlt hc43_140).2.1 k) ?_
    show Gl _ _ _ _ _ _ _ (T137.setTop (mkF m 46 #[.val (.ref a), .val (.long (own_acc ff 1)), .second, .val (.int (0 : Int32)), .val (.int (Int32.ofNat (ff 0)))] []))
    refine Gl.back (fun _ k => XS.lloadN X137.here hx rfl (hb hby d14_46) rfl k) ?_
    show Gl _ _ _ _ _ _ _ (T137.setTop (mkF m 47 #[.val (.ref a), .val (.long (own_acc ff 1)), .second, .val (.int (0 : Int32)), .val (.int (Int32.ofNat (ff 0)))] [(.long (own_acc ff 1))]))
    have f141 := (F_b.other W137 (Or.inr (slot_ne (Or.inr (hw _ (List.mem_of_getElem? (i := 80) rfl))) (Or.inl (hw _ (List.mem_of_getElem? (i := 82) rfl))) (by decide) (t := (.array .byte)) (t' := .int) (by decide) (by decide))))
    exact Gl.ret X137 e137 (v := (some (.long (own_acc ff 1)))) (fun h => by rw [Bd.returns] at h; cases h) Bd.notSynchronized (fun fs hr => retOut X137 hx (w := (.long (own_acc ff 1))) Bd.returns rfl (Or.inr (Or.inl ⟨rfl, rfl, _, rfl⟩)) (hb hby d14_47) hr) ⟨N137, _, congrArg (fun z => some (Value.long (own_acc ff z))) (own_ex him0 (hf 0 him0) hlo hc43_140).symm, K137, f141, Fw137, own_end (own_cs2 hc0 him0 hll) (own_ex him0 (hf 0 him0) hlo hc43_140)⟩ (by decide) (by decide)
  · refine Gl.back (fun _ k => XS.icmpYes X137.here hx rfl (pc0 := 43) (pc' := 48) rfl (hb hby d14_43) rfl (flt hc43_140).2.1 (by decide) (by decide) k) ?_
    show Gl _ _ _ _ _ _ _ (T137.setTop (mkF m 48 #[.val (.ref a), .val (.long (own_acc ff 1)), .second, .val (.int (0 : Int32)), .val (.int (Int32.ofNat (ff 0)))] []))
    have him142 := own_nx him0 (hf 0 him0) hhi hc43_140
    have hc142 := own_cs2 hc0 him0 hll
    refine Gl.back (fun _ k => XS.iinc X137.here hx rfl (hb hby d14_48) rfl (l' := #[.val (.ref a), .val (.long (own_acc ff 1)), .second, .val (.int (7 : Int32)), .val (.int (Int32.ofNat (ff 0)))]) rfl k) ?_
    show Gl _ _ _ _ _ _ _ (T137.setTop (mkF m 51 #[.val (.ref a), .val (.long (own_acc ff 1)), .second, .val (.int (7 : Int32)), .val (.int (Int32.ofNat (ff 0)))] []))
    refine Gl.back (fun _ k => XS.goto X137.here hx rfl (pc0 := 51) (pc' := 4) rfl (hb hby d14_51) (by decide) (by decide) k) ?_
    show Gl _ _ _ _ _ _ _ (T137.setTop (mkF m 4 #[.val (.ref a), .val (.long (own_acc ff 1)), .second, .val (.int (7 : Int32)), .val (.int (Int32.ofNat (ff 0)))] []))
    refine Gl.back (fun _ k => XS.aloadN X137.here hx rfl (hb hby d14_4) rfl rfl k) ?_
    show Gl _ _ _ _ _ _ _ (T137.setTop (mkF m 5 #[.val (.ref a), .val (.long (own_acc ff 1)), .second, .val (.int (7 : Int32)), .val (.int (Int32.ofNat (ff 0)))] [(.ref a)]))
    have f143 := (F_b.other W137 (Or.inr (slot_ne (Or.inr (hw _ (List.mem_of_getElem? (i := 80) rfl))) (Or.inl (hw _ (List.mem_of_getElem? (i := 82) rfl))) (by decide) (t := (.array .byte)) (t' := .int) (by decide) (by decide))))
    obtain ⟨T144, X144, e144, st144⟩ := getF X137 hx hZ hown (host := "") (Or.inl (hw _ (List.mem_of_getElem? (i := 79) rfl))) Via.refl e137 f143 (g := (mkF m 5 #[.val (.ref a), .val (.long (own_acc ff 1)), .second, .val (.int (7 : Int32)), .val (.int (Int32.ofNat (ff 0)))] [(.ref a)])) rfl rfl (hb hby d14_5)
    refine Gl.back (fun _ k => st144 _ k) ?_
    show Gl _ _ _ _ _ _ _ (T144.setTop (mkF m 8 #[.val (.ref a), .val (.long (own_acc ff 1)), .second, .val (.int (7 : Int32)), .val (.int (Int32.ofNat (ff 0)))] [(.ref t)]))
    refine Gl.back (fun _ k => XS.aloadN X144.here hx rfl (hb hby d14_8) rfl rfl k) ?_
    show Gl _ _ _ _ _ _ _ (T144.setTop (mkF m 9 #[.val (.ref a), .val (.long (own_acc ff 1)), .second, .val (.int (7 : Int32)), .val (.int (Int32.ofNat (ff 0)))] [(.ref a), (.ref t)]))
    refine Gl.back (fun _ k => XS.dup X144.here hx rfl (hb hby d14_9) rfl rfl k) ?_
    show Gl _ _ _ _ _ _ _ (T144.setTop (mkF m 10 #[.val (.ref a), .val (.long (own_acc ff 1)), .second, .val (.int (7 : Int32)), .val (.int (Int32.ofNat (ff 0)))] [(.ref a), (.ref a), (.ref t)]))
    obtain ⟨T145, X145, e145, st145⟩ := getF X144 hx hZ hown (host := "") (Or.inl (hw _ (List.mem_of_getElem? (i := 81) rfl))) Via.refl e144 Fw137 (g := (mkF m 10 #[.val (.ref a), .val (.long (own_acc ff 1)), .second, .val (.int (7 : Int32)), .val (.int (Int32.ofNat (ff 0)))] [(.ref a), (.ref a), (.ref t)])) rfl rfl (hb hby d14_10)
    refine Gl.back (fun _ k => st145 _ k) ?_
    show Gl _ _ _ _ _ _ _ (T145.setTop (mkF m 13 #[.val (.ref a), .val (.long (own_acc ff 1)), .second, .val (.int (7 : Int32)), .val (.int (Int32.ofNat (ff 0)))] [(.int (cc + (1 : Int32))), (.ref a), (.ref t)]))
    refine Gl.back (fun _ k => XS.dupX1 X145.here hx rfl (hb hby d14_13) rfl rfl rfl k) ?_
    show Gl _ _ _ _ _ _ _ (T145.setTop (mkF m 14 #[.val (.ref a), .val (.long (own_acc ff 1)), .second, .val (.int (7 : Int32)), .val (.int (Int32.ofNat (ff 0)))] [(.int (cc + (1 : Int32))), (.ref a), (.int (cc + (1 : Int32))), (.ref t)]))
    refine Gl.back (fun _ k => XS.iconst X145.here hx rfl (hb hby d14_14) k) ?_
    show Gl _ _ _ _ _ _ _ (T145.setTop (mkF m 15 #[.val (.ref a), .val (.long (own_acc ff 1)), .second, .val (.int (7 : Int32)), .val (.int (Int32.ofNat (ff 0)))] [(.int (1 : Int32)), (.int (cc + (1 : Int32))), (.ref a), (.int (cc + (1 : Int32))), (.ref t)]))
    refine Gl.back (fun _ k => XS.iadd X145.here hx rfl (hb hby d14_15) rfl k) ?_
    show Gl _ _ _ _ _ _ _ (T145.setTop (mkF m 16 #[.val (.ref a), .val (.long (own_acc ff 1)), .second, .val (.int (7 : Int32)), .val (.int (Int32.ofNat (ff 0)))] [(.int ((cc + (1 : Int32)) + (1 : Int32))), (.ref a), (.int (cc + (1 : Int32))), (.ref t)]))
    have f146 := (E_a.wr W137)
    obtain ⟨T147, h147, X147, e147, W147, st147⟩ := putF X145 hx hZ hown (host := "") (Or.inl (hw _ (List.mem_of_getElem? (i := 81) rfl))) Via.refl e145 Fw137 f146 (Or.inl (hw _ (List.mem_of_getElem? (i := 82) rfl))) (hw _ (List.mem_of_getElem? (i := 73) rfl)) (ty := .int) (by decide) rfl rfl (g := (mkF m 16 #[.val (.ref a), .val (.long (own_acc ff 1)), .second, .val (.int (7 : Int32)), .val (.int (Int32.ofNat (ff 0)))] [(.int ((cc + (1 : Int32)) + (1 : Int32))), (.ref a), (.int (cc + (1 : Int32))), (.ref t)])) rfl rfl (hb hby d14_16)
    have Fw147 := Fw137.same W147
    have K147 := Keep.wr K137 W147 (Or.inl (List.mem_of_getElem? (i := 0) rfl))
    have Z147 : n0 ≤ h147.size := Nat.le_trans Z137 (Keep.of_wr W147).1
    have N147 := Fr.snoc X147 N137 g_a
    refine Gl.back (fun _ k => st147 _ k) ?_
    show Gl _ _ _ _ _ _ _ (T147.setTop (mkF m 19 #[.val (.ref a), .val (.long (own_acc ff 1)), .second, .val (.int (7 : Int32)), .val (.int (Int32.ofNat (ff 0)))] [(.int (cc + (1 : Int32))), (.ref t)]))
    have f148 := (f138.other W147 (Ne.symm hat))
    obtain ⟨cl149, Ar149, q149, Sz149, Nn149, Hs149, Gf149⟩ := id f148
    have hin149 : ¬ ((cc + (1 : Int32)) < 0 ∨ cl149.slots.size ≤ ((cc + (1 : Int32))).toNatClampNeg) := inb_of Sz149 (own_inb hc142 him142 hll)
    have hat149 : cl149.slots[((cc + (1 : Int32))).toNatClampNeg]? = some (.int (own_lo (ff 1))) := Hs149.at hin149 (own_gD hc142 (hv 1 him142))
    refine Gl.back (fun _ k => X147.baloadBytes hx (j := (cc + (1 : Int32))) (v := (.int (own_lo (ff 1)))) (by rw [e147]; exact Ar149.1) (State.isArrayOf_alike hZ.alike Ar149.2.1) Ar149.2.2 hin149 hat149 (g := (mkF m 19 #[.val (.ref a), .val (.long (own_acc ff 1)), .second, .val (.int (7 : Int32)), .val (.int (Int32.ofNat (ff 0)))] [(.int (cc + (1 : Int32))), (.ref t)])) rfl rfl (hb hby d14_19) _ k) ?_
    show Gl _ _ _ _ _ _ _ (T147.setTop (mkF m 20 #[.val (.ref a), .val (.long (own_acc ff 1)), .second, .val (.int (7 : Int32)), .val (.int (Int32.ofNat (ff 0)))] [(.int (own_lo (ff 1)))]))
    refine Gl.back (fun _ k => XS.sipush X147.here hx rfl (hb hby d14_20) k) ?_
    show Gl _ _ _ _ _ _ _ (T147.setTop (mkF m 23 #[.val (.ref a), .val (.long (own_acc ff 1)), .second, .val (.int (7 : Int32)), .val (.int (Int32.ofNat (ff 0)))] [(.int (255 : Int32)), (.int (own_lo (ff 1)))]))
    refine Gl.back (fun _ k => XS.iand X147.here hx rfl (hb hby d14_23) rfl k) ?_
    show Gl _ _ _ _ _ _ _ (T147.setTop (mkF m 24 #[.val (.ref a), .val (.long (own_acc ff 1)), .second, .val (.int (7 : Int32)), .val (.int (Int32.ofNat (ff 0)))] [(.int ((own_lo (ff 1)) &&& (255 : Int32)))]))
    rw [own_rd (hf 1 him142)]
    show Gl _ _ _ _ _ _ _ (T147.setTop (mkF m 24 #[.val (.ref a), .val (.long (own_acc ff 1)), .second, .val (.int (7 : Int32)), .val (.int (Int32.ofNat (ff 0)))] [(.int (Int32.ofNat (ff 1)))]))
    refine Gl.back (fun _ k => XS.istore X147.here hx rfl (hb hby d14_24) rfl (l' := #[.val (.ref a), .val (.long (own_acc ff 1)), .second, .val (.int (7 : Int32)), .val (.int (Int32.ofNat (ff 1)))]) rfl k) ?_
    show Gl _ _ _ _ _ _ _ (T147.setTop (mkF m 26 #[.val (.ref a), .val (.long (own_acc ff 1)), .second, .val (.int (7 : Int32)), .val (.int (Int32.ofNat (ff 1)))] []))
    refine Gl.back (fun _ k => XS.lloadN X147.here hx rfl (hb hby d14_26) rfl k) ?_
    show Gl _ _ _ _ _ _ _ (T147.setTop (mkF m 27 #[.val (.ref a), .val (.long (own_acc ff 1)), .second, .val (.int (7 : Int32)), .val (.int (Int32.ofNat (ff 1)))] [(.long (own_acc ff 1))]))
    refine Gl.back (fun _ k => XS.iload X147.here hx rfl (hb hby d14_27) rfl k) ?_
    show Gl _ _ _ _ _ _ _ (T147.setTop (mkF m 29 #[.val (.ref a), .val (.long (own_acc ff 1)), .second, .val (.int (7 : Int32)), .val (.int (Int32.ofNat (ff 1)))] [(.int (Int32.ofNat (ff 1))), (.long (own_acc ff 1))]))
    refine Gl.back (fun _ k => XS.sipush X147.here hx rfl (hb hby d14_29) k) ?_
    show Gl _ _ _ _ _ _ _ (T147.setTop (mkF m 32 #[.val (.ref a), .val (.long (own_acc ff 1)), .second, .val (.int (7 : Int32)), .val (.int (Int32.ofNat (ff 1)))] [(.int (128 : Int32)), (.int (Int32.ofNat (ff 1))), (.long (own_acc ff 1))]))
    refine Gl.back (fun _ k => iremM X147 hx rfl (hb hby d14_32) rfl (by decide) k) ?_
    show Gl _ _ _ _ _ _ _ (T147.setTop (mkF m 33 #[.val (.ref a), .val (.long (own_acc ff 1)), .second, .val (.int (7 : Int32)), .val (.int (Int32.ofNat (ff 1)))] [(.int ((Int32.ofNat (ff 1)) % (128 : Int32))), (.long (own_acc ff 1))]))
    refine Gl.back (fun _ k => XS.i2l X147.here hx rfl (hb hby d14_33) rfl k) ?_
    show Gl _ _ _ _ _ _ _ (T147.setTop (mkF m 34 #[.val (.ref a), .val (.long (own_acc ff 1)), .second, .val (.int (7 : Int32)), .val (.int (Int32.ofNat (ff 1)))] [(.long (((Int32.ofNat (ff 1)) % (128 : Int32)).toInt64)), (.long (own_acc ff 1))]))
    refine Gl.back (fun _ k => XS.iloadN X147.here hx rfl (hb hby d14_34) rfl k) ?_
    show Gl _ _ _ _ _ _ _ (T147.setTop (mkF m 35 #[.val (.ref a), .val (.long (own_acc ff 1)), .second, .val (.int (7 : Int32)), .val (.int (Int32.ofNat (ff 1)))] [(.int (7 : Int32)), (.long (((Int32.ofNat (ff 1)) % (128 : Int32)).toInt64)), (.long (own_acc ff 1))]))
    refine Gl.back (fun _ k => XS.lshl X147.here hx rfl (hb hby d14_35) rfl k) ?_
    show Gl _ _ _ _ _ _ _ (T147.setTop (mkF m 36 #[.val (.ref a), .val (.long (own_acc ff 1)), .second, .val (.int (7 : Int32)), .val (.int (Int32.ofNat (ff 1)))] [(.long ((((Int32.ofNat (ff 1)) % (128 : Int32)).toInt64) <<< ((7 : Int32) &&& 0x3f).toInt64)), (.long (own_acc ff 1))]))
    refine Gl.back (fun _ k => XS.lor X147.here hx rfl (hb hby d14_36) rfl k) ?_
    show Gl _ _ _ _ _ _ _ (T147.setTop (mkF m 37 #[.val (.ref a), .val (.long (own_acc ff 1)), .second, .val (.int (7 : Int32)), .val (.int (Int32.ofNat (ff 1)))] [(.long ((own_acc ff 1) ||| ((((Int32.ofNat (ff 1)) % (128 : Int32)).toInt64) <<< ((7 : Int32) &&& 0x3f).toInt64)))]))
    rw [show ((own_acc ff 1) ||| ((((Int32.ofNat (ff 1)) % (128 : Int32)).toInt64) <<< ((7 : Int32) &&& 0x3f).toInt64)) = own_acc ff 2 from own_acS rfl rfl]
    show Gl _ _ _ _ _ _ _ (T147.setTop (mkF m 37 #[.val (.ref a), .val (.long (own_acc ff 1)), .second, .val (.int (7 : Int32)), .val (.int (Int32.ofNat (ff 1)))] [(.long (own_acc ff 2))]))
    refine Gl.back (fun _ k => XS.lstoreN X147.here hx rfl (hb hby d14_37) rfl (l' := #[.val (.ref a), .val (.long (own_acc ff 2)), .second, .val (.int (7 : Int32)), .val (.int (Int32.ofNat (ff 1)))]) rfl k) ?_
    show Gl _ _ _ _ _ _ _ (T147.setTop (mkF m 38 #[.val (.ref a), .val (.long (own_acc ff 2)), .second, .val (.int (7 : Int32)), .val (.int (Int32.ofNat (ff 1)))] []))
    refine Gl.back (fun _ k => XS.iload X147.here hx rfl (hb hby d14_38) rfl k) ?_
    show Gl _ _ _ _ _ _ _ (T147.setTop (mkF m 40 #[.val (.ref a), .val (.long (own_acc ff 2)), .second, .val (.int (7 : Int32)), .val (.int (Int32.ofNat (ff 1)))] [(.int (Int32.ofNat (ff 1)))]))
    refine Gl.back (fun _ k => XS.sipush X147.here hx rfl (hb hby d14_40) k) ?_
    show Gl _ _ _ _ _ _ _ (T147.setTop (mkF m 43 #[.val (.ref a), .val (.long (own_acc ff 2)), .second, .val (.int (7 : Int32)), .val (.int (Int32.ofNat (ff 1)))] [(.int (128 : Int32)), (.int (Int32.ofNat (ff 1)))]))
    by_cases hc43_150 : (Int32.ofNat (ff 1)) < (128 : Int32)
    · refine Gl.back (fun _ k => XS.icmpNo X147.here hx rfl (hb hby d14_43) rfl (tlt hc43_150).2.1 k) ?_
      show Gl _ _ _ _ _ _ _ (T147.setTop (mkF m 46 #[.val (.ref a), .val (.long (own_acc ff 2)), .second, .val (.int (7 : Int32)), .val (.int (Int32.ofNat (ff 1)))] []))
      refine Gl.back (fun _ k => XS.lloadN X147.here hx rfl (hb hby d14_46) rfl k) ?_
      show Gl _ _ _ _ _ _ _ (T147.setTop (mkF m 47 #[.val (.ref a), .val (.long (own_acc ff 2)), .second, .val (.int (7 : Int32)), .val (.int (Int32.ofNat (ff 1)))] [(.long (own_acc ff 2))]))
      have f151 := (f143.other W147 (Or.inr (slot_ne (Or.inr (hw _ (List.mem_of_getElem? (i := 80) rfl))) (Or.inl (hw _ (List.mem_of_getElem? (i := 82) rfl))) (by decide) (t := (.array .byte)) (t' := .int) (by decide) (by decide))))
      exact Gl.ret X147 e147 (v := (some (.long (own_acc ff 2)))) (fun h => by rw [Bd.returns] at h; cases h) Bd.notSynchronized (fun fs hr => retOut X147 hx (w := (.long (own_acc ff 2))) Bd.returns rfl (Or.inr (Or.inl ⟨rfl, rfl, _, rfl⟩)) (hb hby d14_47) hr) ⟨N147, _, congrArg (fun z => some (Value.long (own_acc ff z))) (own_ex him142 (hf 1 him142) hlo hc43_150).symm, K147, f151, Fw147, own_end (own_cs2 hc142 him142 hll) (own_ex him142 (hf 1 him142) hlo hc43_150)⟩ (by decide) (by decide)
    · refine Gl.back (fun _ k => XS.icmpYes X147.here hx rfl (pc0 := 43) (pc' := 48) rfl (hb hby d14_43) rfl (flt hc43_150).2.1 (by decide) (by decide) k) ?_
      show Gl _ _ _ _ _ _ _ (T147.setTop (mkF m 48 #[.val (.ref a), .val (.long (own_acc ff 2)), .second, .val (.int (7 : Int32)), .val (.int (Int32.ofNat (ff 1)))] []))
      have him152 := own_nx him142 (hf 1 him142) hhi hc43_150
      have hc152 := own_cs2 hc142 him142 hll
      refine Gl.back (fun _ k => XS.iinc X147.here hx rfl (hb hby d14_48) rfl (l' := #[.val (.ref a), .val (.long (own_acc ff 2)), .second, .val (.int (14 : Int32)), .val (.int (Int32.ofNat (ff 1)))]) rfl k) ?_
      show Gl _ _ _ _ _ _ _ (T147.setTop (mkF m 51 #[.val (.ref a), .val (.long (own_acc ff 2)), .second, .val (.int (14 : Int32)), .val (.int (Int32.ofNat (ff 1)))] []))
      refine Gl.back (fun _ k => XS.goto X147.here hx rfl (pc0 := 51) (pc' := 4) rfl (hb hby d14_51) (by decide) (by decide) k) ?_
      show Gl _ _ _ _ _ _ _ (T147.setTop (mkF m 4 #[.val (.ref a), .val (.long (own_acc ff 2)), .second, .val (.int (14 : Int32)), .val (.int (Int32.ofNat (ff 1)))] []))
      refine Gl.back (fun _ k => XS.aloadN X147.here hx rfl (hb hby d14_4) rfl rfl k) ?_
      show Gl _ _ _ _ _ _ _ (T147.setTop (mkF m 5 #[.val (.ref a), .val (.long (own_acc ff 2)), .second, .val (.int (14 : Int32)), .val (.int (Int32.ofNat (ff 1)))] [(.ref a)]))
      have f153 := (f143.other W147 (Or.inr (slot_ne (Or.inr (hw _ (List.mem_of_getElem? (i := 80) rfl))) (Or.inl (hw _ (List.mem_of_getElem? (i := 82) rfl))) (by decide) (t := (.array .byte)) (t' := .int) (by decide) (by decide))))
      obtain ⟨T154, X154, e154, st154⟩ := getF X147 hx hZ hown (host := "") (Or.inl (hw _ (List.mem_of_getElem? (i := 79) rfl))) Via.refl e147 f153 (g := (mkF m 5 #[.val (.ref a), .val (.long (own_acc ff 2)), .second, .val (.int (14 : Int32)), .val (.int (Int32.ofNat (ff 1)))] [(.ref a)])) rfl rfl (hb hby d14_5)
      refine Gl.back (fun _ k => st154 _ k) ?_
      show Gl _ _ _ _ _ _ _ (T154.setTop (mkF m 8 #[.val (.ref a), .val (.long (own_acc ff 2)), .second, .val (.int (14 : Int32)), .val (.int (Int32.ofNat (ff 1)))] [(.ref t)]))
      refine Gl.back (fun _ k => XS.aloadN X154.here hx rfl (hb hby d14_8) rfl rfl k) ?_
      show Gl _ _ _ _ _ _ _ (T154.setTop (mkF m 9 #[.val (.ref a), .val (.long (own_acc ff 2)), .second, .val (.int (14 : Int32)), .val (.int (Int32.ofNat (ff 1)))] [(.ref a), (.ref t)]))
      refine Gl.back (fun _ k => XS.dup X154.here hx rfl (hb hby d14_9) rfl rfl k) ?_
      show Gl _ _ _ _ _ _ _ (T154.setTop (mkF m 10 #[.val (.ref a), .val (.long (own_acc ff 2)), .second, .val (.int (14 : Int32)), .val (.int (Int32.ofNat (ff 1)))] [(.ref a), (.ref a), (.ref t)]))
      obtain ⟨T155, X155, e155, st155⟩ := getF X154 hx hZ hown (host := "") (Or.inl (hw _ (List.mem_of_getElem? (i := 81) rfl))) Via.refl e154 Fw147 (g := (mkF m 10 #[.val (.ref a), .val (.long (own_acc ff 2)), .second, .val (.int (14 : Int32)), .val (.int (Int32.ofNat (ff 1)))] [(.ref a), (.ref a), (.ref t)])) rfl rfl (hb hby d14_10)
      refine Gl.back (fun _ k => st155 _ k) ?_
      show Gl _ _ _ _ _ _ _ (T155.setTop (mkF m 13 #[.val (.ref a), .val (.long (own_acc ff 2)), .second, .val (.int (14 : Int32)), .val (.int (Int32.ofNat (ff 1)))] [(.int ((cc + (1 : Int32)) + (1 : Int32))), (.ref a), (.ref t)]))
      refine Gl.back (fun _ k => XS.dupX1 X155.here hx rfl (hb hby d14_13) rfl rfl rfl k) ?_
      show Gl _ _ _ _ _ _ _ (T155.setTop (mkF m 14 #[.val (.ref a), .val (.long (own_acc ff 2)), .second, .val (.int (14 : Int32)), .val (.int (Int32.ofNat (ff 1)))] [(.int ((cc + (1 : Int32)) + (1 : Int32))), (.ref a), (.int ((cc + (1 : Int32)) + (1 : Int32))), (.ref t)]))
      refine Gl.back (fun _ k => XS.iconst X155.here hx rfl (hb hby d14_14) k) ?_
      show Gl _ _ _ _ _ _ _ (T155.setTop (mkF m 15 #[.val (.ref a), .val (.long (own_acc ff 2)), .second, .val (.int (14 : Int32)), .val (.int (Int32.ofNat (ff 1)))] [(.int (1 : Int32)), (.int ((cc + (1 : Int32)) + (1 : Int32))), (.ref a), (.int ((cc + (1 : Int32)) + (1 : Int32))), (.ref t)]))
      refine Gl.back (fun _ k => XS.iadd X155.here hx rfl (hb hby d14_15) rfl k) ?_
      show Gl _ _ _ _ _ _ _ (T155.setTop (mkF m 16 #[.val (.ref a), .val (.long (own_acc ff 2)), .second, .val (.int (14 : Int32)), .val (.int (Int32.ofNat (ff 1)))] [(.int (((cc + (1 : Int32)) + (1 : Int32)) + (1 : Int32))), (.ref a), (.int ((cc + (1 : Int32)) + (1 : Int32))), (.ref t)]))
      have f156 := (f146.wr W147)
      obtain ⟨T157, h157, X157, e157, W157, st157⟩ := putF X155 hx hZ hown (host := "") (Or.inl (hw _ (List.mem_of_getElem? (i := 81) rfl))) Via.refl e155 Fw147 f156 (Or.inl (hw _ (List.mem_of_getElem? (i := 82) rfl))) (hw _ (List.mem_of_getElem? (i := 73) rfl)) (ty := .int) (by decide) rfl rfl (g := (mkF m 16 #[.val (.ref a), .val (.long (own_acc ff 2)), .second, .val (.int (14 : Int32)), .val (.int (Int32.ofNat (ff 1)))] [(.int (((cc + (1 : Int32)) + (1 : Int32)) + (1 : Int32))), (.ref a), (.int ((cc + (1 : Int32)) + (1 : Int32))), (.ref t)])) rfl rfl (hb hby d14_16)
      have Fw157 := Fw147.same W157
      have K157 := Keep.wr K147 W157 (Or.inl (List.mem_of_getElem? (i := 0) rfl))
      have Z157 : n0 ≤ h157.size := Nat.le_trans Z147 (Keep.of_wr W157).1
      have N157 := Fr.snoc X157 N147 g_a
      refine Gl.back (fun _ k => st157 _ k) ?_
      show Gl _ _ _ _ _ _ _ (T157.setTop (mkF m 19 #[.val (.ref a), .val (.long (own_acc ff 2)), .second, .val (.int (14 : Int32)), .val (.int (Int32.ofNat (ff 1)))] [(.int ((cc + (1 : Int32)) + (1 : Int32))), (.ref t)]))
      have f158 := (f148.other W157 (Ne.symm hat))
      obtain ⟨cl159, Ar159, q159, Sz159, Nn159, Hs159, Gf159⟩ := id f158
      have hin159 : ¬ (((cc + (1 : Int32)) + (1 : Int32)) < 0 ∨ cl159.slots.size ≤ (((cc + (1 : Int32)) + (1 : Int32))).toNatClampNeg) := inb_of Sz159 (own_inb hc152 him152 hll)
      have hat159 : cl159.slots[(((cc + (1 : Int32)) + (1 : Int32))).toNatClampNeg]? = some (.int (own_lo (ff 2))) := Hs159.at hin159 (own_gD hc152 (hv 2 him152))
      refine Gl.back (fun _ k => X157.baloadBytes hx (j := ((cc + (1 : Int32)) + (1 : Int32))) (v := (.int (own_lo (ff 2)))) (by rw [e157]; exact Ar159.1) (State.isArrayOf_alike hZ.alike Ar159.2.1) Ar159.2.2 hin159 hat159 (g := (mkF m 19 #[.val (.ref a), .val (.long (own_acc ff 2)), .second, .val (.int (14 : Int32)), .val (.int (Int32.ofNat (ff 1)))] [(.int ((cc + (1 : Int32)) + (1 : Int32))), (.ref t)])) rfl rfl (hb hby d14_19) _ k) ?_
      show Gl _ _ _ _ _ _ _ (T157.setTop (mkF m 20 #[.val (.ref a), .val (.long (own_acc ff 2)), .second, .val (.int (14 : Int32)), .val (.int (Int32.ofNat (ff 1)))] [(.int (own_lo (ff 2)))]))
      refine Gl.back (fun _ k => XS.sipush X157.here hx rfl (hb hby d14_20) k) ?_
      show Gl _ _ _ _ _ _ _ (T157.setTop (mkF m 23 #[.val (.ref a), .val (.long (own_acc ff 2)), .second, .val (.int (14 : Int32)), .val (.int (Int32.ofNat (ff 1)))] [(.int (255 : Int32)), (.int (own_lo (ff 2)))]))
      refine Gl.back (fun _ k => XS.iand X157.here hx rfl (hb hby d14_23) rfl k) ?_
      show Gl _ _ _ _ _ _ _ (T157.setTop (mkF m 24 #[.val (.ref a), .val (.long (own_acc ff 2)), .second, .val (.int (14 : Int32)), .val (.int (Int32.ofNat (ff 1)))] [(.int ((own_lo (ff 2)) &&& (255 : Int32)))]))
      rw [own_rd (hf 2 him152)]
      show Gl _ _ _ _ _ _ _ (T157.setTop (mkF m 24 #[.val (.ref a), .val (.long (own_acc ff 2)), .second, .val (.int (14 : Int32)), .val (.int (Int32.ofNat (ff 1)))] [(.int (Int32.ofNat (ff 2)))]))
      refine Gl.back (fun _ k => XS.istore X157.here hx rfl (hb hby d14_24) rfl (l' := #[.val (.ref a), .val (.long (own_acc ff 2)), .second, .val (.int (14 : Int32)), .val (.int (Int32.ofNat (ff 2)))]) rfl k) ?_
      show Gl _ _ _ _ _ _ _ (T157.setTop (mkF m 26 #[.val (.ref a), .val (.long (own_acc ff 2)), .second, .val (.int (14 : Int32)), .val (.int (Int32.ofNat (ff 2)))] []))
      refine Gl.back (fun _ k => XS.lloadN X157.here hx rfl (hb hby d14_26) rfl k) ?_
      show Gl _ _ _ _ _ _ _ (T157.setTop (mkF m 27 #[.val (.ref a), .val (.long (own_acc ff 2)), .second, .val (.int (14 : Int32)), .val (.int (Int32.ofNat (ff 2)))] [(.long (own_acc ff 2))]))
      refine Gl.back (fun _ k => XS.iload X157.here hx rfl (hb hby d14_27) rfl k) ?_
      show Gl _ _ _ _ _ _ _ (T157.setTop (mkF m 29 #[.val (.ref a), .val (.long (own_acc ff 2)), .second, .val (.int (14 : Int32)), .val (.int (Int32.ofNat (ff 2)))] [(.int (Int32.ofNat (ff 2))), (.long (own_acc ff 2))]))
      refine Gl.back (fun _ k => XS.sipush X157.here hx rfl (hb hby d14_29) k) ?_
      show Gl _ _ _ _ _ _ _ (T157.setTop (mkF m 32 #[.val (.ref a), .val (.long (own_acc ff 2)), .second, .val (.int (14 : Int32)), .val (.int (Int32.ofNat (ff 2)))] [(.int (128 : Int32)), (.int (Int32.ofNat (ff 2))), (.long (own_acc ff 2))]))
      refine Gl.back (fun _ k => iremM X157 hx rfl (hb hby d14_32) rfl (by decide) k) ?_
      show Gl _ _ _ _ _ _ _ (T157.setTop (mkF m 33 #[.val (.ref a), .val (.long (own_acc ff 2)), .second, .val (.int (14 : Int32)), .val (.int (Int32.ofNat (ff 2)))] [(.int ((Int32.ofNat (ff 2)) % (128 : Int32))), (.long (own_acc ff 2))]))
      refine Gl.back (fun _ k => XS.i2l X157.here hx rfl (hb hby d14_33) rfl k) ?_
      show Gl _ _ _ _ _ _ _ (T157.setTop (mkF m 34 #[.val (.ref a), .val (.long (own_acc ff 2)), .second, .val (.int (14 : Int32)), .val (.int (Int32.ofNat (ff 2)))] [(.long (((Int32.ofNat (ff 2)) % (128 : Int32)).toInt64)), (.long (own_acc ff 2))]))
      refine Gl.back (fun _ k => XS.iloadN X157.here hx rfl (hb hby d14_34) rfl k) ?_
      show Gl _ _ _ _ _ _ _ (T157.setTop (mkF m 35 #[.val (.ref a), .val (.long (own_acc ff 2)), .second, .val (.int (14 : Int32)), .val (.int (Int32.ofNat (ff 2)))] [(.int (14 : Int32)), (.long (((Int32.ofNat (ff 2)) % (128 : Int32)).toInt64)), (.long (own_acc ff 2))]))
      refine Gl.back (fun _ k => XS.lshl X157.here hx rfl (hb hby d14_35) rfl k) ?_
      show Gl _ _ _ _ _ _ _ (T157.setTop (mkF m 36 #[.val (.ref a), .val (.long (own_acc ff 2)), .second, .val (.int (14 : Int32)), .val (.int (Int32.ofNat (ff 2)))] [(.long ((((Int32.ofNat (ff 2)) % (128 : Int32)).toInt64) <<< ((14 : Int32) &&& 0x3f).toInt64)), (.long (own_acc ff 2))]))
      refine Gl.back (fun _ k => XS.lor X157.here hx rfl (hb hby d14_36) rfl k) ?_
      show Gl _ _ _ _ _ _ _ (T157.setTop (mkF m 37 #[.val (.ref a), .val (.long (own_acc ff 2)), .second, .val (.int (14 : Int32)), .val (.int (Int32.ofNat (ff 2)))] [(.long ((own_acc ff 2) ||| ((((Int32.ofNat (ff 2)) % (128 : Int32)).toInt64) <<< ((14 : Int32) &&& 0x3f).toInt64)))]))
      rw [show ((own_acc ff 2) ||| ((((Int32.ofNat (ff 2)) % (128 : Int32)).toInt64) <<< ((14 : Int32) &&& 0x3f).toInt64)) = own_acc ff 3 from own_acS rfl rfl]
      show Gl _ _ _ _ _ _ _ (T157.setTop (mkF m 37 #[.val (.ref a), .val (.long (own_acc ff 2)), .second, .val (.int (14 : Int32)), .val (.int (Int32.ofNat (ff 2)))] [(.long (own_acc ff 3))]))
      refine Gl.back (fun _ k => XS.lstoreN X157.here hx rfl (hb hby d14_37) rfl (l' := #[.val (.ref a), .val (.long (own_acc ff 3)), .second, .val (.int (14 : Int32)), .val (.int (Int32.ofNat (ff 2)))]) rfl k) ?_
      show Gl _ _ _ _ _ _ _ (T157.setTop (mkF m 38 #[.val (.ref a), .val (.long (own_acc ff 3)), .second, .val (.int (14 : Int32)), .val (.int (Int32.ofNat (ff 2)))] []))
      refine Gl.back (fun _ k => XS.iload X157.here hx rfl (hb hby d14_38) rfl k) ?_
      show Gl _ _ _ _ _ _ _ (T157.setTop (mkF m 40 #[.val (.ref a), .val (.long (own_acc ff 3)), .second, .val (.int (14 : Int32)), .val (.int (Int32.ofNat (ff 2)))] [(.int (Int32.ofNat (ff 2)))]))
      refine Gl.back (fun _ k => XS.sipush X157.here hx rfl (hb hby d14_40) k) ?_
      show Gl _ _ _ _ _ _ _ (T157.setTop (mkF m 43 #[.val (.ref a), .val (.long (own_acc ff 3)), .second, .val (.int (14 : Int32)), .val (.int (Int32.ofNat (ff 2)))] [(.int (128 : Int32)), (.int (Int32.ofNat (ff 2)))]))
      by_cases hc43_160 : (Int32.ofNat (ff 2)) < (128 : Int32)
      · refine Gl.back (fun _ k => XS.icmpNo X157.here hx rfl (hb hby d14_43) rfl (tlt hc43_160).2.1 k) ?_
        show Gl _ _ _ _ _ _ _ (T157.setTop (mkF m 46 #[.val (.ref a), .val (.long (own_acc ff 3)), .second, .val (.int (14 : Int32)), .val (.int (Int32.ofNat (ff 2)))] []))
        refine Gl.back (fun _ k => XS.lloadN X157.here hx rfl (hb hby d14_46) rfl k) ?_
        show Gl _ _ _ _ _ _ _ (T157.setTop (mkF m 47 #[.val (.ref a), .val (.long (own_acc ff 3)), .second, .val (.int (14 : Int32)), .val (.int (Int32.ofNat (ff 2)))] [(.long (own_acc ff 3))]))
        have f161 := (f153.other W157 (Or.inr (slot_ne (Or.inr (hw _ (List.mem_of_getElem? (i := 80) rfl))) (Or.inl (hw _ (List.mem_of_getElem? (i := 82) rfl))) (by decide) (t := (.array .byte)) (t' := .int) (by decide) (by decide))))
        exact Gl.ret X157 e157 (v := (some (.long (own_acc ff 3)))) (fun h => by rw [Bd.returns] at h; cases h) Bd.notSynchronized (fun fs hr => retOut X157 hx (w := (.long (own_acc ff 3))) Bd.returns rfl (Or.inr (Or.inl ⟨rfl, rfl, _, rfl⟩)) (hb hby d14_47) hr) ⟨N157, _, congrArg (fun z => some (Value.long (own_acc ff z))) (own_ex him152 (hf 2 him152) hlo hc43_160).symm, K157, f161, Fw157, own_end (own_cs2 hc152 him152 hll) (own_ex him152 (hf 2 him152) hlo hc43_160)⟩ (by decide) (by decide)
      · refine Gl.back (fun _ k => XS.icmpYes X157.here hx rfl (pc0 := 43) (pc' := 48) rfl (hb hby d14_43) rfl (flt hc43_160).2.1 (by decide) (by decide) k) ?_
        show Gl _ _ _ _ _ _ _ (T157.setTop (mkF m 48 #[.val (.ref a), .val (.long (own_acc ff 3)), .second, .val (.int (14 : Int32)), .val (.int (Int32.ofNat (ff 2)))] []))
        have him162 := own_nx him152 (hf 2 him152) hhi hc43_160
        have hc162 := own_cs2 hc152 him152 hll
        refine Gl.back (fun _ k => XS.iinc X157.here hx rfl (hb hby d14_48) rfl (l' := #[.val (.ref a), .val (.long (own_acc ff 3)), .second, .val (.int (21 : Int32)), .val (.int (Int32.ofNat (ff 2)))]) rfl k) ?_
        show Gl _ _ _ _ _ _ _ (T157.setTop (mkF m 51 #[.val (.ref a), .val (.long (own_acc ff 3)), .second, .val (.int (21 : Int32)), .val (.int (Int32.ofNat (ff 2)))] []))
        refine Gl.back (fun _ k => XS.goto X157.here hx rfl (pc0 := 51) (pc' := 4) rfl (hb hby d14_51) (by decide) (by decide) k) ?_
        show Gl _ _ _ _ _ _ _ (T157.setTop (mkF m 4 #[.val (.ref a), .val (.long (own_acc ff 3)), .second, .val (.int (21 : Int32)), .val (.int (Int32.ofNat (ff 2)))] []))
        refine Gl.back (fun _ k => XS.aloadN X157.here hx rfl (hb hby d14_4) rfl rfl k) ?_
        show Gl _ _ _ _ _ _ _ (T157.setTop (mkF m 5 #[.val (.ref a), .val (.long (own_acc ff 3)), .second, .val (.int (21 : Int32)), .val (.int (Int32.ofNat (ff 2)))] [(.ref a)]))
        have f163 := (f153.other W157 (Or.inr (slot_ne (Or.inr (hw _ (List.mem_of_getElem? (i := 80) rfl))) (Or.inl (hw _ (List.mem_of_getElem? (i := 82) rfl))) (by decide) (t := (.array .byte)) (t' := .int) (by decide) (by decide))))
        obtain ⟨T164, X164, e164, st164⟩ := getF X157 hx hZ hown (host := "") (Or.inl (hw _ (List.mem_of_getElem? (i := 79) rfl))) Via.refl e157 f163 (g := (mkF m 5 #[.val (.ref a), .val (.long (own_acc ff 3)), .second, .val (.int (21 : Int32)), .val (.int (Int32.ofNat (ff 2)))] [(.ref a)])) rfl rfl (hb hby d14_5)
        refine Gl.back (fun _ k => st164 _ k) ?_
        show Gl _ _ _ _ _ _ _ (T164.setTop (mkF m 8 #[.val (.ref a), .val (.long (own_acc ff 3)), .second, .val (.int (21 : Int32)), .val (.int (Int32.ofNat (ff 2)))] [(.ref t)]))
        refine Gl.back (fun _ k => XS.aloadN X164.here hx rfl (hb hby d14_8) rfl rfl k) ?_
        show Gl _ _ _ _ _ _ _ (T164.setTop (mkF m 9 #[.val (.ref a), .val (.long (own_acc ff 3)), .second, .val (.int (21 : Int32)), .val (.int (Int32.ofNat (ff 2)))] [(.ref a), (.ref t)]))
        refine Gl.back (fun _ k => XS.dup X164.here hx rfl (hb hby d14_9) rfl rfl k) ?_
        show Gl _ _ _ _ _ _ _ (T164.setTop (mkF m 10 #[.val (.ref a), .val (.long (own_acc ff 3)), .second, .val (.int (21 : Int32)), .val (.int (Int32.ofNat (ff 2)))] [(.ref a), (.ref a), (.ref t)]))
        obtain ⟨T165, X165, e165, st165⟩ := getF X164 hx hZ hown (host := "") (Or.inl (hw _ (List.mem_of_getElem? (i := 81) rfl))) Via.refl e164 Fw157 (g := (mkF m 10 #[.val (.ref a), .val (.long (own_acc ff 3)), .second, .val (.int (21 : Int32)), .val (.int (Int32.ofNat (ff 2)))] [(.ref a), (.ref a), (.ref t)])) rfl rfl (hb hby d14_10)
        refine Gl.back (fun _ k => st165 _ k) ?_
        show Gl _ _ _ _ _ _ _ (T165.setTop (mkF m 13 #[.val (.ref a), .val (.long (own_acc ff 3)), .second, .val (.int (21 : Int32)), .val (.int (Int32.ofNat (ff 2)))] [(.int (((cc + (1 : Int32)) + (1 : Int32)) + (1 : Int32))), (.ref a), (.ref t)]))
        refine Gl.back (fun _ k => XS.dupX1 X165.here hx rfl (hb hby d14_13) rfl rfl rfl k) ?_
        show Gl _ _ _ _ _ _ _ (T165.setTop (mkF m 14 #[.val (.ref a), .val (.long (own_acc ff 3)), .second, .val (.int (21 : Int32)), .val (.int (Int32.ofNat (ff 2)))] [(.int (((cc + (1 : Int32)) + (1 : Int32)) + (1 : Int32))), (.ref a), (.int (((cc + (1 : Int32)) + (1 : Int32)) + (1 : Int32))), (.ref t)]))
        refine Gl.back (fun _ k => XS.iconst X165.here hx rfl (hb hby d14_14) k) ?_
        show Gl _ _ _ _ _ _ _ (T165.setTop (mkF m 15 #[.val (.ref a), .val (.long (own_acc ff 3)), .second, .val (.int (21 : Int32)), .val (.int (Int32.ofNat (ff 2)))] [(.int (1 : Int32)), (.int (((cc + (1 : Int32)) + (1 : Int32)) + (1 : Int32))), (.ref a), (.int (((cc + (1 : Int32)) + (1 : Int32)) + (1 : Int32))), (.ref t)]))
        refine Gl.back (fun _ k => XS.iadd X165.here hx rfl (hb hby d14_15) rfl k) ?_
        show Gl _ _ _ _ _ _ _ (T165.setTop (mkF m 16 #[.val (.ref a), .val (.long (own_acc ff 3)), .second, .val (.int (21 : Int32)), .val (.int (Int32.ofNat (ff 2)))] [(.int ((((cc + (1 : Int32)) + (1 : Int32)) + (1 : Int32)) + (1 : Int32))), (.ref a), (.int (((cc + (1 : Int32)) + (1 : Int32)) + (1 : Int32))), (.ref t)]))
        have f166 := (f156.wr W157)
        obtain ⟨T167, h167, X167, e167, W167, st167⟩ := putF X165 hx hZ hown (host := "") (Or.inl (hw _ (List.mem_of_getElem? (i := 81) rfl))) Via.refl e165 Fw157 f166 (Or.inl (hw _ (List.mem_of_getElem? (i := 82) rfl))) (hw _ (List.mem_of_getElem? (i := 73) rfl)) (ty := .int) (by decide) rfl rfl (g := (mkF m 16 #[.val (.ref a), .val (.long (own_acc ff 3)), .second, .val (.int (21 : Int32)), .val (.int (Int32.ofNat (ff 2)))] [(.int ((((cc + (1 : Int32)) + (1 : Int32)) + (1 : Int32)) + (1 : Int32))), (.ref a), (.int (((cc + (1 : Int32)) + (1 : Int32)) + (1 : Int32))), (.ref t)])) rfl rfl (hb hby d14_16)
        have Fw167 := Fw157.same W167
        have K167 := Keep.wr K157 W167 (Or.inl (List.mem_of_getElem? (i := 0) rfl))
        have Z167 : n0 ≤ h167.size := Nat.le_trans Z157 (Keep.of_wr W167).1
        have N167 := Fr.snoc X167 N157 g_a
        refine Gl.back (fun _ k => st167 _ k) ?_
        show Gl _ _ _ _ _ _ _ (T167.setTop (mkF m 19 #[.val (.ref a), .val (.long (own_acc ff 3)), .second, .val (.int (21 : Int32)), .val (.int (Int32.ofNat (ff 2)))] [(.int (((cc + (1 : Int32)) + (1 : Int32)) + (1 : Int32))), (.ref t)]))
        have f168 := (f158.other W167 (Ne.symm hat))
        obtain ⟨cl169, Ar169, q169, Sz169, Nn169, Hs169, Gf169⟩ := id f168
        have hin169 : ¬ ((((cc + (1 : Int32)) + (1 : Int32)) + (1 : Int32)) < 0 ∨ cl169.slots.size ≤ ((((cc + (1 : Int32)) + (1 : Int32)) + (1 : Int32))).toNatClampNeg) := inb_of Sz169 (own_inb hc162 him162 hll)
        have hat169 : cl169.slots[((((cc + (1 : Int32)) + (1 : Int32)) + (1 : Int32))).toNatClampNeg]? = some (.int (own_lo (ff 3))) := Hs169.at hin169 (own_gD hc162 (hv 3 him162))
        refine Gl.back (fun _ k => X167.baloadBytes hx (j := (((cc + (1 : Int32)) + (1 : Int32)) + (1 : Int32))) (v := (.int (own_lo (ff 3)))) (by rw [e167]; exact Ar169.1) (State.isArrayOf_alike hZ.alike Ar169.2.1) Ar169.2.2 hin169 hat169 (g := (mkF m 19 #[.val (.ref a), .val (.long (own_acc ff 3)), .second, .val (.int (21 : Int32)), .val (.int (Int32.ofNat (ff 2)))] [(.int (((cc + (1 : Int32)) + (1 : Int32)) + (1 : Int32))), (.ref t)])) rfl rfl (hb hby d14_19) _ k) ?_
        show Gl _ _ _ _ _ _ _ (T167.setTop (mkF m 20 #[.val (.ref a), .val (.long (own_acc ff 3)), .second, .val (.int (21 : Int32)), .val (.int (Int32.ofNat (ff 2)))] [(.int (own_lo (ff 3)))]))
        refine Gl.back (fun _ k => XS.sipush X167.here hx rfl (hb hby d14_20) k) ?_
        show Gl _ _ _ _ _ _ _ (T167.setTop (mkF m 23 #[.val (.ref a), .val (.long (own_acc ff 3)), .second, .val (.int (21 : Int32)), .val (.int (Int32.ofNat (ff 2)))] [(.int (255 : Int32)), (.int (own_lo (ff 3)))]))
        refine Gl.back (fun _ k => XS.iand X167.here hx rfl (hb hby d14_23) rfl k) ?_
        show Gl _ _ _ _ _ _ _ (T167.setTop (mkF m 24 #[.val (.ref a), .val (.long (own_acc ff 3)), .second, .val (.int (21 : Int32)), .val (.int (Int32.ofNat (ff 2)))] [(.int ((own_lo (ff 3)) &&& (255 : Int32)))]))
        rw [own_rd (hf 3 him162)]
        show Gl _ _ _ _ _ _ _ (T167.setTop (mkF m 24 #[.val (.ref a), .val (.long (own_acc ff 3)), .second, .val (.int (21 : Int32)), .val (.int (Int32.ofNat (ff 2)))] [(.int (Int32.ofNat (ff 3)))]))
        refine Gl.back (fun _ k => XS.istore X167.here hx rfl (hb hby d14_24) rfl (l' := #[.val (.ref a), .val (.long (own_acc ff 3)), .second, .val (.int (21 : Int32)), .val (.int (Int32.ofNat (ff 3)))]) rfl k) ?_
        show Gl _ _ _ _ _ _ _ (T167.setTop (mkF m 26 #[.val (.ref a), .val (.long (own_acc ff 3)), .second, .val (.int (21 : Int32)), .val (.int (Int32.ofNat (ff 3)))] []))
        refine Gl.back (fun _ k => XS.lloadN X167.here hx rfl (hb hby d14_26) rfl k) ?_
        show Gl _ _ _ _ _ _ _ (T167.setTop (mkF m 27 #[.val (.ref a), .val (.long (own_acc ff 3)), .second, .val (.int (21 : Int32)), .val (.int (Int32.ofNat (ff 3)))] [(.long (own_acc ff 3))]))
        refine Gl.back (fun _ k => XS.iload X167.here hx rfl (hb hby d14_27) rfl k) ?_
        show Gl _ _ _ _ _ _ _ (T167.setTop (mkF m 29 #[.val (.ref a), .val (.long (own_acc ff 3)), .second, .val (.int (21 : Int32)), .val (.int (Int32.ofNat (ff 3)))] [(.int (Int32.ofNat (ff 3))), (.long (own_acc ff 3))]))
        refine Gl.back (fun _ k => XS.sipush X167.here hx rfl (hb hby d14_29) k) ?_
        show Gl _ _ _ _ _ _ _ (T167.setTop (mkF m 32 #[.val (.ref a), .val (.long (own_acc ff 3)), .second, .val (.int (21 : Int32)), .val (.int (Int32.ofNat (ff 3)))] [(.int (128 : Int32)), (.int (Int32.ofNat (ff 3))), (.long (own_acc ff 3))]))
        refine Gl.back (fun _ k => iremM X167 hx rfl (hb hby d14_32) rfl (by decide) k) ?_
        show Gl _ _ _ _ _ _ _ (T167.setTop (mkF m 33 #[.val (.ref a), .val (.long (own_acc ff 3)), .second, .val (.int (21 : Int32)), .val (.int (Int32.ofNat (ff 3)))] [(.int ((Int32.ofNat (ff 3)) % (128 : Int32))), (.long (own_acc ff 3))]))
        refine Gl.back (fun _ k => XS.i2l X167.here hx rfl (hb hby d14_33) rfl k) ?_
        show Gl _ _ _ _ _ _ _ (T167.setTop (mkF m 34 #[.val (.ref a), .val (.long (own_acc ff 3)), .second, .val (.int (21 : Int32)), .val (.int (Int32.ofNat (ff 3)))] [(.long (((Int32.ofNat (ff 3)) % (128 : Int32)).toInt64)), (.long (own_acc ff 3))]))
        refine Gl.back (fun _ k => XS.iloadN X167.here hx rfl (hb hby d14_34) rfl k) ?_
        show Gl _ _ _ _ _ _ _ (T167.setTop (mkF m 35 #[.val (.ref a), .val (.long (own_acc ff 3)), .second, .val (.int (21 : Int32)), .val (.int (Int32.ofNat (ff 3)))] [(.int (21 : Int32)), (.long (((Int32.ofNat (ff 3)) % (128 : Int32)).toInt64)), (.long (own_acc ff 3))]))
        refine Gl.back (fun _ k => XS.lshl X167.here hx rfl (hb hby d14_35) rfl k) ?_
        show Gl _ _ _ _ _ _ _ (T167.setTop (mkF m 36 #[.val (.ref a), .val (.long (own_acc ff 3)), .second, .val (.int (21 : Int32)), .val (.int (Int32.ofNat (ff 3)))] [(.long ((((Int32.ofNat (ff 3)) % (128 : Int32)).toInt64) <<< ((21 : Int32) &&& 0x3f).toInt64)), (.long (own_acc ff 3))]))
        refine Gl.back (fun _ k => XS.lor X167.here hx rfl (hb hby d14_36) rfl k) ?_
        show Gl _ _ _ _ _ _ _ (T167.setTop (mkF m 37 #[.val (.ref a), .val (.long (own_acc ff 3)), .second, .val (.int (21 : Int32)), .val (.int (Int32.ofNat (ff 3)))] [(.long ((own_acc ff 3) ||| ((((Int32.ofNat (ff 3)) % (128 : Int32)).toInt64) <<< ((21 : Int32) &&& 0x3f).toInt64)))]))
        rw [show ((own_acc ff 3) ||| ((((Int32.ofNat (ff 3)) % (128 : Int32)).toInt64) <<< ((21 : Int32) &&& 0x3f).toInt64)) = own_acc ff 4 from own_acS rfl rfl]
        show Gl _ _ _ _ _ _ _ (T167.setTop (mkF m 37 #[.val (.ref a), .val (.long (own_acc ff 3)), .second, .val (.int (21 : Int32)), .val (.int (Int32.ofNat (ff 3)))] [(.long (own_acc ff 4))]))
        refine Gl.back (fun _ k => XS.lstoreN X167.here hx rfl (hb hby d14_37) rfl (l' := #[.val (.ref a), .val (.long (own_acc ff 4)), .second, .val (.int (21 : Int32)), .val (.int (Int32.ofNat (ff 3)))]) rfl k) ?_
        show Gl _ _ _ _ _ _ _ (T167.setTop (mkF m 38 #[.val (.ref a), .val (.long (own_acc ff 4)), .second, .val (.int (21 : Int32)), .val (.int (Int32.ofNat (ff 3)))] []))
        refine Gl.back (fun _ k => XS.iload X167.here hx rfl (hb hby d14_38) rfl k) ?_
        show Gl _ _ _ _ _ _ _ (T167.setTop (mkF m 40 #[.val (.ref a), .val (.long (own_acc ff 4)), .second, .val (.int (21 : Int32)), .val (.int (Int32.ofNat (ff 3)))] [(.int (Int32.ofNat (ff 3)))]))
        refine Gl.back (fun _ k => XS.sipush X167.here hx rfl (hb hby d14_40) k) ?_
        show Gl _ _ _ _ _ _ _ (T167.setTop (mkF m 43 #[.val (.ref a), .val (.long (own_acc ff 4)), .second, .val (.int (21 : Int32)), .val (.int (Int32.ofNat (ff 3)))] [(.int (128 : Int32)), (.int (Int32.ofNat (ff 3)))]))
        by_cases hc43_170 : (Int32.ofNat (ff 3)) < (128 : Int32)
        · refine Gl.back (fun _ k => XS.icmpNo X167.here hx rfl (hb hby d14_43) rfl (tlt hc43_170).2.1 k) ?_
          show Gl _ _ _ _ _ _ _ (T167.setTop (mkF m 46 #[.val (.ref a), .val (.long (own_acc ff 4)), .second, .val (.int (21 : Int32)), .val (.int (Int32.ofNat (ff 3)))] []))
          refine Gl.back (fun _ k => XS.lloadN X167.here hx rfl (hb hby d14_46) rfl k) ?_
          show Gl _ _ _ _ _ _ _ (T167.setTop (mkF m 47 #[.val (.ref a), .val (.long (own_acc ff 4)), .second, .val (.int (21 : Int32)), .val (.int (Int32.ofNat (ff 3)))] [(.long (own_acc ff 4))]))
          have f171 := (f163.other W167 (Or.inr (slot_ne (Or.inr (hw _ (List.mem_of_getElem? (i := 80) rfl))) (Or.inl (hw _ (List.mem_of_getElem? (i := 82) rfl))) (by decide) (t := (.array .byte)) (t' := .int) (by decide) (by decide))))
          exact Gl.ret X167 e167 (v := (some (.long (own_acc ff 4)))) (fun h => by rw [Bd.returns] at h; cases h) Bd.notSynchronized (fun fs hr => retOut X167 hx (w := (.long (own_acc ff 4))) Bd.returns rfl (Or.inr (Or.inl ⟨rfl, rfl, _, rfl⟩)) (hb hby d14_47) hr) ⟨N167, _, congrArg (fun z => some (Value.long (own_acc ff z))) (own_ex him162 (hf 3 him162) hlo hc43_170).symm, K167, f171, Fw167, own_end (own_cs2 hc162 him162 hll) (own_ex him162 (hf 3 him162) hlo hc43_170)⟩ (by decide) (by decide)
        · refine Gl.back (fun _ k => XS.icmpYes X167.here hx rfl (pc0 := 43) (pc' := 48) rfl (hb hby d14_43) rfl (flt hc43_170).2.1 (by decide) (by decide) k) ?_
          show Gl _ _ _ _ _ _ _ (T167.setTop (mkF m 48 #[.val (.ref a), .val (.long (own_acc ff 4)), .second, .val (.int (21 : Int32)), .val (.int (Int32.ofNat (ff 3)))] []))
          have him172 := own_nx him162 (hf 3 him162) hhi hc43_170
          have hc172 := own_cs2 hc162 him162 hll
          refine Gl.back (fun _ k => XS.iinc X167.here hx rfl (hb hby d14_48) rfl (l' := #[.val (.ref a), .val (.long (own_acc ff 4)), .second, .val (.int (28 : Int32)), .val (.int (Int32.ofNat (ff 3)))]) rfl k) ?_
          show Gl _ _ _ _ _ _ _ (T167.setTop (mkF m 51 #[.val (.ref a), .val (.long (own_acc ff 4)), .second, .val (.int (28 : Int32)), .val (.int (Int32.ofNat (ff 3)))] []))
          refine Gl.back (fun _ k => XS.goto X167.here hx rfl (pc0 := 51) (pc' := 4) rfl (hb hby d14_51) (by decide) (by decide) k) ?_
          show Gl _ _ _ _ _ _ _ (T167.setTop (mkF m 4 #[.val (.ref a), .val (.long (own_acc ff 4)), .second, .val (.int (28 : Int32)), .val (.int (Int32.ofNat (ff 3)))] []))
          refine Gl.back (fun _ k => XS.aloadN X167.here hx rfl (hb hby d14_4) rfl rfl k) ?_
          show Gl _ _ _ _ _ _ _ (T167.setTop (mkF m 5 #[.val (.ref a), .val (.long (own_acc ff 4)), .second, .val (.int (28 : Int32)), .val (.int (Int32.ofNat (ff 3)))] [(.ref a)]))
          have f173 := (f163.other W167 (Or.inr (slot_ne (Or.inr (hw _ (List.mem_of_getElem? (i := 80) rfl))) (Or.inl (hw _ (List.mem_of_getElem? (i := 82) rfl))) (by decide) (t := (.array .byte)) (t' := .int) (by decide) (by decide))))
          obtain ⟨T174, X174, e174, st174⟩ := getF X167 hx hZ hown (host := "") (Or.inl (hw _ (List.mem_of_getElem? (i := 79) rfl))) Via.refl e167 f173 (g := (mkF m 5 #[.val (.ref a), .val (.long (own_acc ff 4)), .second, .val (.int (28 : Int32)), .val (.int (Int32.ofNat (ff 3)))] [(.ref a)])) rfl rfl (hb hby d14_5)
          refine Gl.back (fun _ k => st174 _ k) ?_
          show Gl _ _ _ _ _ _ _ (T174.setTop (mkF m 8 #[.val (.ref a), .val (.long (own_acc ff 4)), .second, .val (.int (28 : Int32)), .val (.int (Int32.ofNat (ff 3)))] [(.ref t)]))
          refine Gl.back (fun _ k => XS.aloadN X174.here hx rfl (hb hby d14_8) rfl rfl k) ?_
          show Gl _ _ _ _ _ _ _ (T174.setTop (mkF m 9 #[.val (.ref a), .val (.long (own_acc ff 4)), .second, .val (.int (28 : Int32)), .val (.int (Int32.ofNat (ff 3)))] [(.ref a), (.ref t)]))
          refine Gl.back (fun _ k => XS.dup X174.here hx rfl (hb hby d14_9) rfl rfl k) ?_
          show Gl _ _ _ _ _ _ _ (T174.setTop (mkF m 10 #[.val (.ref a), .val (.long (own_acc ff 4)), .second, .val (.int (28 : Int32)), .val (.int (Int32.ofNat (ff 3)))] [(.ref a), (.ref a), (.ref t)]))
          obtain ⟨T175, X175, e175, st175⟩ := getF X174 hx hZ hown (host := "") (Or.inl (hw _ (List.mem_of_getElem? (i := 81) rfl))) Via.refl e174 Fw167 (g := (mkF m 10 #[.val (.ref a), .val (.long (own_acc ff 4)), .second, .val (.int (28 : Int32)), .val (.int (Int32.ofNat (ff 3)))] [(.ref a), (.ref a), (.ref t)])) rfl rfl (hb hby d14_10)
          refine Gl.back (fun _ k => st175 _ k) ?_
          show Gl _ _ _ _ _ _ _ (T175.setTop (mkF m 13 #[.val (.ref a), .val (.long (own_acc ff 4)), .second, .val (.int (28 : Int32)), .val (.int (Int32.ofNat (ff 3)))] [(.int ((((cc + (1 : Int32)) + (1 : Int32)) + (1 : Int32)) + (1 : Int32))), (.ref a), (.ref t)]))
          refine Gl.back (fun _ k => XS.dupX1 X175.here hx rfl (hb hby d14_13) rfl rfl rfl k) ?_
          show Gl _ _ _ _ _ _ _ (T175.setTop (mkF m 14 #[.val (.ref a), .val (.long (own_acc ff 4)), .second, .val (.int (28 : Int32)), .val (.int (Int32.ofNat (ff 3)))] [(.int ((((cc + (1 : Int32)) + (1 : Int32)) + (1 : Int32)) + (1 : Int32))), (.ref a), (.int ((((cc + (1 : Int32)) + (1 : Int32)) + (1 : Int32)) + (1 : Int32))), (.ref t)]))
          refine Gl.back (fun _ k => XS.iconst X175.here hx rfl (hb hby d14_14) k) ?_
          show Gl _ _ _ _ _ _ _ (T175.setTop (mkF m 15 #[.val (.ref a), .val (.long (own_acc ff 4)), .second, .val (.int (28 : Int32)), .val (.int (Int32.ofNat (ff 3)))] [(.int (1 : Int32)), (.int ((((cc + (1 : Int32)) + (1 : Int32)) + (1 : Int32)) + (1 : Int32))), (.ref a), (.int ((((cc + (1 : Int32)) + (1 : Int32)) + (1 : Int32)) + (1 : Int32))), (.ref t)]))
          refine Gl.back (fun _ k => XS.iadd X175.here hx rfl (hb hby d14_15) rfl k) ?_
          show Gl _ _ _ _ _ _ _ (T175.setTop (mkF m 16 #[.val (.ref a), .val (.long (own_acc ff 4)), .second, .val (.int (28 : Int32)), .val (.int (Int32.ofNat (ff 3)))] [(.int (((((cc + (1 : Int32)) + (1 : Int32)) + (1 : Int32)) + (1 : Int32)) + (1 : Int32))), (.ref a), (.int ((((cc + (1 : Int32)) + (1 : Int32)) + (1 : Int32)) + (1 : Int32))), (.ref t)]))
          have f176 := (f166.wr W167)
          obtain ⟨T177, h177, X177, e177, W177, st177⟩ := putF X175 hx hZ hown (host := "") (Or.inl (hw _ (List.mem_of_getElem? (i := 81) rfl))) Via.refl e175 Fw167 f176 (Or.inl (hw _ (List.mem_of_getElem? (i := 82) rfl))) (hw _ (List.mem_of_getElem? (i := 73) rfl)) (ty := .int) (by decide) rfl rfl (g := (mkF m 16 #[.val (.ref a), .val (.long (own_acc ff 4)), .second, .val (.int (28 : Int32)), .val (.int (Int32.ofNat (ff 3)))] [(.int (((((cc + (1 : Int32)) + (1 : Int32)) + (1 : Int32)) + (1 : Int32)) + (1 : Int32))), (.ref a), (.int ((((cc + (1 : Int32)) + (1 : Int32)) + (1 : Int32)) + (1 : Int32))), (.ref t)])) rfl rfl (hb hby d14_16)
          have Fw177 := Fw167.same W177
          have K177 := Keep.wr K167 W177 (Or.inl (List.mem_of_getElem? (i := 0) rfl))
          have Z177 : n0 ≤ h177.size := Nat.le_trans Z167 (Keep.of_wr W177).1
          have N177 := Fr.snoc X177 N167 g_a
          refine Gl.back (fun _ k => st177 _ k) ?_
          show Gl _ _ _ _ _ _ _ (T177.setTop (mkF m 19 #[.val (.ref a), .val (.long (own_acc ff 4)), .second, .val (.int (28 : Int32)), .val (.int (Int32.ofNat (ff 3)))] [(.int ((((cc + (1 : Int32)) + (1 : Int32)) + (1 : Int32)) + (1 : Int32))), (.ref t)]))
          have f178 := (f168.other W177 (Ne.symm hat))
          obtain ⟨cl179, Ar179, q179, Sz179, Nn179, Hs179, Gf179⟩ := id f178
          have hin179 : ¬ (((((cc + (1 : Int32)) + (1 : Int32)) + (1 : Int32)) + (1 : Int32)) < 0 ∨ cl179.slots.size ≤ (((((cc + (1 : Int32)) + (1 : Int32)) + (1 : Int32)) + (1 : Int32))).toNatClampNeg) := inb_of Sz179 (own_inb hc172 him172 hll)
          have hat179 : cl179.slots[(((((cc + (1 : Int32)) + (1 : Int32)) + (1 : Int32)) + (1 : Int32))).toNatClampNeg]? = some (.int (own_lo (ff 4))) := Hs179.at hin179 (own_gD hc172 (hv 4 him172))
          refine Gl.back (fun _ k => X177.baloadBytes hx (j := ((((cc + (1 : Int32)) + (1 : Int32)) + (1 : Int32)) + (1 : Int32))) (v := (.int (own_lo (ff 4)))) (by rw [e177]; exact Ar179.1) (State.isArrayOf_alike hZ.alike Ar179.2.1) Ar179.2.2 hin179 hat179 (g := (mkF m 19 #[.val (.ref a), .val (.long (own_acc ff 4)), .second, .val (.int (28 : Int32)), .val (.int (Int32.ofNat (ff 3)))] [(.int ((((cc + (1 : Int32)) + (1 : Int32)) + (1 : Int32)) + (1 : Int32))), (.ref t)])) rfl rfl (hb hby d14_19) _ k) ?_
          show Gl _ _ _ _ _ _ _ (T177.setTop (mkF m 20 #[.val (.ref a), .val (.long (own_acc ff 4)), .second, .val (.int (28 : Int32)), .val (.int (Int32.ofNat (ff 3)))] [(.int (own_lo (ff 4)))]))
          refine Gl.back (fun _ k => XS.sipush X177.here hx rfl (hb hby d14_20) k) ?_
          show Gl _ _ _ _ _ _ _ (T177.setTop (mkF m 23 #[.val (.ref a), .val (.long (own_acc ff 4)), .second, .val (.int (28 : Int32)), .val (.int (Int32.ofNat (ff 3)))] [(.int (255 : Int32)), (.int (own_lo (ff 4)))]))
          refine Gl.back (fun _ k => XS.iand X177.here hx rfl (hb hby d14_23) rfl k) ?_
          show Gl _ _ _ _ _ _ _ (T177.setTop (mkF m 24 #[.val (.ref a), .val (.long (own_acc ff 4)), .second, .val (.int (28 : Int32)), .val (.int (Int32.ofNat (ff 3)))] [(.int ((own_lo (ff 4)) &&& (255 : Int32)))]))
          rw [own_rd (hf 4 him172)]
          show Gl _ _ _ _ _ _ _ (T177.setTop (mkF m 24 #[.val (.ref a), .val (.long (own_acc ff 4)), .second, .val (.int (28 : Int32)), .val (.int (Int32.ofNat (ff 3)))] [(.int (Int32.ofNat (ff 4)))]))
          refine Gl.back (fun _ k => XS.istore X177.here hx rfl (hb hby d14_24) rfl (l' := #[.val (.ref a), .val (.long (own_acc ff 4)), .second, .val (.int (28 : Int32)), .val (.int (Int32.ofNat (ff 4)))]) rfl k) ?_
          show Gl _ _ _ _ _ _ _ (T177.setTop (mkF m 26 #[.val (.ref a), .val (.long (own_acc ff 4)), .second, .val (.int (28 : Int32)), .val (.int (Int32.ofNat (ff 4)))] []))
          refine Gl.back (fun _ k => XS.lloadN X177.here hx rfl (hb hby d14_26) rfl k) ?_
          show Gl _ _ _ _ _ _ _ (T177.setTop (mkF m 27 #[.val (.ref a), .val (.long (own_acc ff 4)), .second, .val (.int (28 : Int32)), .val (.int (Int32.ofNat (ff 4)))] [(.long (own_acc ff 4))]))
          refine Gl.back (fun _ k => XS.iload X177.here hx rfl (hb hby d14_27) rfl k) ?_
          show Gl _ _ _ _ _ _ _ (T177.setTop (mkF m 29 #[.val (.ref a), .val (.long (own_acc ff 4)), .second, .val (.int (28 : Int32)), .val (.int (Int32.ofNat (ff 4)))] [(.int (Int32.ofNat (ff 4))), (.long (own_acc ff 4))]))
          refine Gl.back (fun _ k => XS.sipush X177.here hx rfl (hb hby d14_29) k) ?_
          show Gl _ _ _ _ _ _ _ (T177.setTop (mkF m 32 #[.val (.ref a), .val (.long (own_acc ff 4)), .second, .val (.int (28 : Int32)), .val (.int (Int32.ofNat (ff 4)))] [(.int (128 : Int32)), (.int (Int32.ofNat (ff 4))), (.long (own_acc ff 4))]))
          refine Gl.back (fun _ k => iremM X177 hx rfl (hb hby d14_32) rfl (by decide) k) ?_
          show Gl _ _ _ _ _ _ _ (T177.setTop (mkF m 33 #[.val (.ref a), .val (.long (own_acc ff 4)), .second, .val (.int (28 : Int32)), .val (.int (Int32.ofNat (ff 4)))] [(.int ((Int32.ofNat (ff 4)) % (128 : Int32))), (.long (own_acc ff 4))]))
          refine Gl.back (fun _ k => XS.i2l X177.here hx rfl (hb hby d14_33) rfl k) ?_
          show Gl _ _ _ _ _ _ _ (T177.setTop (mkF m 34 #[.val (.ref a), .val (.long (own_acc ff 4)), .second, .val (.int (28 : Int32)), .val (.int (Int32.ofNat (ff 4)))] [(.long (((Int32.ofNat (ff 4)) % (128 : Int32)).toInt64)), (.long (own_acc ff 4))]))
          refine Gl.back (fun _ k => XS.iloadN X177.here hx rfl (hb hby d14_34) rfl k) ?_
          show Gl _ _ _ _ _ _ _ (T177.setTop (mkF m 35 #[.val (.ref a), .val (.long (own_acc ff 4)), .second, .val (.int (28 : Int32)), .val (.int (Int32.ofNat (ff 4)))] [(.int (28 : Int32)), (.long (((Int32.ofNat (ff 4)) % (128 : Int32)).toInt64)), (.long (own_acc ff 4))]))
          refine Gl.back (fun _ k => XS.lshl X177.here hx rfl (hb hby d14_35) rfl k) ?_
          show Gl _ _ _ _ _ _ _ (T177.setTop (mkF m 36 #[.val (.ref a), .val (.long (own_acc ff 4)), .second, .val (.int (28 : Int32)), .val (.int (Int32.ofNat (ff 4)))] [(.long ((((Int32.ofNat (ff 4)) % (128 : Int32)).toInt64) <<< ((28 : Int32) &&& 0x3f).toInt64)), (.long (own_acc ff 4))]))
          refine Gl.back (fun _ k => XS.lor X177.here hx rfl (hb hby d14_36) rfl k) ?_
          show Gl _ _ _ _ _ _ _ (T177.setTop (mkF m 37 #[.val (.ref a), .val (.long (own_acc ff 4)), .second, .val (.int (28 : Int32)), .val (.int (Int32.ofNat (ff 4)))] [(.long ((own_acc ff 4) ||| ((((Int32.ofNat (ff 4)) % (128 : Int32)).toInt64) <<< ((28 : Int32) &&& 0x3f).toInt64)))]))
          rw [show ((own_acc ff 4) ||| ((((Int32.ofNat (ff 4)) % (128 : Int32)).toInt64) <<< ((28 : Int32) &&& 0x3f).toInt64)) = own_acc ff 5 from own_acS rfl rfl]
          show Gl _ _ _ _ _ _ _ (T177.setTop (mkF m 37 #[.val (.ref a), .val (.long (own_acc ff 4)), .second, .val (.int (28 : Int32)), .val (.int (Int32.ofNat (ff 4)))] [(.long (own_acc ff 5))]))
          refine Gl.back (fun _ k => XS.lstoreN X177.here hx rfl (hb hby d14_37) rfl (l' := #[.val (.ref a), .val (.long (own_acc ff 5)), .second, .val (.int (28 : Int32)), .val (.int (Int32.ofNat (ff 4)))]) rfl k) ?_
          show Gl _ _ _ _ _ _ _ (T177.setTop (mkF m 38 #[.val (.ref a), .val (.long (own_acc ff 5)), .second, .val (.int (28 : Int32)), .val (.int (Int32.ofNat (ff 4)))] []))
          refine Gl.back (fun _ k => XS.iload X177.here hx rfl (hb hby d14_38) rfl k) ?_
          show Gl _ _ _ _ _ _ _ (T177.setTop (mkF m 40 #[.val (.ref a), .val (.long (own_acc ff 5)), .second, .val (.int (28 : Int32)), .val (.int (Int32.ofNat (ff 4)))] [(.int (Int32.ofNat (ff 4)))]))
          refine Gl.back (fun _ k => XS.sipush X177.here hx rfl (hb hby d14_40) k) ?_
          show Gl _ _ _ _ _ _ _ (T177.setTop (mkF m 43 #[.val (.ref a), .val (.long (own_acc ff 5)), .second, .val (.int (28 : Int32)), .val (.int (Int32.ofNat (ff 4)))] [(.int (128 : Int32)), (.int (Int32.ofNat (ff 4)))]))
          by_cases hc43_180 : (Int32.ofNat (ff 4)) < (128 : Int32)
          · refine Gl.back (fun _ k => XS.icmpNo X177.here hx rfl (hb hby d14_43) rfl (tlt hc43_180).2.1 k) ?_
            show Gl _ _ _ _ _ _ _ (T177.setTop (mkF m 46 #[.val (.ref a), .val (.long (own_acc ff 5)), .second, .val (.int (28 : Int32)), .val (.int (Int32.ofNat (ff 4)))] []))
            refine Gl.back (fun _ k => XS.lloadN X177.here hx rfl (hb hby d14_46) rfl k) ?_
            show Gl _ _ _ _ _ _ _ (T177.setTop (mkF m 47 #[.val (.ref a), .val (.long (own_acc ff 5)), .second, .val (.int (28 : Int32)), .val (.int (Int32.ofNat (ff 4)))] [(.long (own_acc ff 5))]))
            have f181 := (f173.other W177 (Or.inr (slot_ne (Or.inr (hw _ (List.mem_of_getElem? (i := 80) rfl))) (Or.inl (hw _ (List.mem_of_getElem? (i := 82) rfl))) (by decide) (t := (.array .byte)) (t' := .int) (by decide) (by decide))))
            exact Gl.ret X177 e177 (v := (some (.long (own_acc ff 5)))) (fun h => by rw [Bd.returns] at h; cases h) Bd.notSynchronized (fun fs hr => retOut X177 hx (w := (.long (own_acc ff 5))) Bd.returns rfl (Or.inr (Or.inl ⟨rfl, rfl, _, rfl⟩)) (hb hby d14_47) hr) ⟨N177, _, congrArg (fun z => some (Value.long (own_acc ff z))) (own_ex him172 (hf 4 him172) hlo hc43_180).symm, K177, f181, Fw177, own_end (own_cs2 hc172 him172 hll) (own_ex him172 (hf 4 him172) hlo hc43_180)⟩ (by decide) (by decide)
          · refine Gl.back (fun _ k => XS.icmpYes X177.here hx rfl (pc0 := 43) (pc' := 48) rfl (hb hby d14_43) rfl (flt hc43_180).2.1 (by decide) (by decide) k) ?_
            show Gl _ _ _ _ _ _ _ (T177.setTop (mkF m 48 #[.val (.ref a), .val (.long (own_acc ff 5)), .second, .val (.int (28 : Int32)), .val (.int (Int32.ofNat (ff 4)))] []))
            have him182 := own_nx him172 (hf 4 him172) hhi hc43_180
            have hc182 := own_cs2 hc172 him172 hll
            refine Gl.back (fun _ k => XS.iinc X177.here hx rfl (hb hby d14_48) rfl (l' := #[.val (.ref a), .val (.long (own_acc ff 5)), .second, .val (.int (35 : Int32)), .val (.int (Int32.ofNat (ff 4)))]) rfl k) ?_
            show Gl _ _ _ _ _ _ _ (T177.setTop (mkF m 51 #[.val (.ref a), .val (.long (own_acc ff 5)), .second, .val (.int (35 : Int32)), .val (.int (Int32.ofNat (ff 4)))] []))
            refine Gl.back (fun _ k => XS.goto X177.here hx rfl (pc0 := 51) (pc' := 4) rfl (hb hby d14_51) (by decide) (by decide) k) ?_
            show Gl _ _ _ _ _ _ _ (T177.setTop (mkF m 4 #[.val (.ref a), .val (.long (own_acc ff 5)), .second, .val (.int (35 : Int32)), .val (.int (Int32.ofNat (ff 4)))] []))
            refine Gl.back (fun _ k => XS.aloadN X177.here hx rfl (hb hby d14_4) rfl rfl k) ?_
            show Gl _ _ _ _ _ _ _ (T177.setTop (mkF m 5 #[.val (.ref a), .val (.long (own_acc ff 5)), .second, .val (.int (35 : Int32)), .val (.int (Int32.ofNat (ff 4)))] [(.ref a)]))
            have f183 := (f173.other W177 (Or.inr (slot_ne (Or.inr (hw _ (List.mem_of_getElem? (i := 80) rfl))) (Or.inl (hw _ (List.mem_of_getElem? (i := 82) rfl))) (by decide) (t := (.array .byte)) (t' := .int) (by decide) (by decide))))
            obtain ⟨T184, X184, e184, st184⟩ := getF X177 hx hZ hown (host := "") (Or.inl (hw _ (List.mem_of_getElem? (i := 79) rfl))) Via.refl e177 f183 (g := (mkF m 5 #[.val (.ref a), .val (.long (own_acc ff 5)), .second, .val (.int (35 : Int32)), .val (.int (Int32.ofNat (ff 4)))] [(.ref a)])) rfl rfl (hb hby d14_5)
            refine Gl.back (fun _ k => st184 _ k) ?_
            show Gl _ _ _ _ _ _ _ (T184.setTop (mkF m 8 #[.val (.ref a), .val (.long (own_acc ff 5)), .second, .val (.int (35 : Int32)), .val (.int (Int32.ofNat (ff 4)))] [(.ref t)]))
            refine Gl.back (fun _ k => XS.aloadN X184.here hx rfl (hb hby d14_8) rfl rfl k) ?_
            show Gl _ _ _ _ _ _ _ (T184.setTop (mkF m 9 #[.val (.ref a), .val (.long (own_acc ff 5)), .second, .val (.int (35 : Int32)), .val (.int (Int32.ofNat (ff 4)))] [(.ref a), (.ref t)]))
            refine Gl.back (fun _ k => XS.dup X184.here hx rfl (hb hby d14_9) rfl rfl k) ?_
            show Gl _ _ _ _ _ _ _ (T184.setTop (mkF m 10 #[.val (.ref a), .val (.long (own_acc ff 5)), .second, .val (.int (35 : Int32)), .val (.int (Int32.ofNat (ff 4)))] [(.ref a), (.ref a), (.ref t)]))
            obtain ⟨T185, X185, e185, st185⟩ := getF X184 hx hZ hown (host := "") (Or.inl (hw _ (List.mem_of_getElem? (i := 81) rfl))) Via.refl e184 Fw177 (g := (mkF m 10 #[.val (.ref a), .val (.long (own_acc ff 5)), .second, .val (.int (35 : Int32)), .val (.int (Int32.ofNat (ff 4)))] [(.ref a), (.ref a), (.ref t)])) rfl rfl (hb hby d14_10)
            refine Gl.back (fun _ k => st185 _ k) ?_
            show Gl _ _ _ _ _ _ _ (T185.setTop (mkF m 13 #[.val (.ref a), .val (.long (own_acc ff 5)), .second, .val (.int (35 : Int32)), .val (.int (Int32.ofNat (ff 4)))] [(.int (((((cc + (1 : Int32)) + (1 : Int32)) + (1 : Int32)) + (1 : Int32)) + (1 : Int32))), (.ref a), (.ref t)]))
            refine Gl.back (fun _ k => XS.dupX1 X185.here hx rfl (hb hby d14_13) rfl rfl rfl k) ?_
            show Gl _ _ _ _ _ _ _ (T185.setTop (mkF m 14 #[.val (.ref a), .val (.long (own_acc ff 5)), .second, .val (.int (35 : Int32)), .val (.int (Int32.ofNat (ff 4)))] [(.int (((((cc + (1 : Int32)) + (1 : Int32)) + (1 : Int32)) + (1 : Int32)) + (1 : Int32))), (.ref a), (.int (((((cc + (1 : Int32)) + (1 : Int32)) + (1 : Int32)) + (1 : Int32)) + (1 : Int32))), (.ref t)]))
            refine Gl.back (fun _ k => XS.iconst X185.here hx rfl (hb hby d14_14) k) ?_
            show Gl _ _ _ _ _ _ _ (T185.setTop (mkF m 15 #[.val (.ref a), .val (.long (own_acc ff 5)), .second, .val (.int (35 : Int32)), .val (.int (Int32.ofNat (ff 4)))] [(.int (1 : Int32)), (.int (((((cc + (1 : Int32)) + (1 : Int32)) + (1 : Int32)) + (1 : Int32)) + (1 : Int32))), (.ref a), (.int (((((cc + (1 : Int32)) + (1 : Int32)) + (1 : Int32)) + (1 : Int32)) + (1 : Int32))), (.ref t)]))
            refine Gl.back (fun _ k => XS.iadd X185.here hx rfl (hb hby d14_15) rfl k) ?_
            show Gl _ _ _ _ _ _ _ (T185.setTop (mkF m 16 #[.val (.ref a), .val (.long (own_acc ff 5)), .second, .val (.int (35 : Int32)), .val (.int (Int32.ofNat (ff 4)))] [(.int ((((((cc + (1 : Int32)) + (1 : Int32)) + (1 : Int32)) + (1 : Int32)) + (1 : Int32)) + (1 : Int32))), (.ref a), (.int (((((cc + (1 : Int32)) + (1 : Int32)) + (1 : Int32)) + (1 : Int32)) + (1 : Int32))), (.ref t)]))
            have f186 := (f176.wr W177)
            obtain ⟨T187, h187, X187, e187, W187, st187⟩ := putF X185 hx hZ hown (host := "") (Or.inl (hw _ (List.mem_of_getElem? (i := 81) rfl))) Via.refl e185 Fw177 f186 (Or.inl (hw _ (List.mem_of_getElem? (i := 82) rfl))) (hw _ (List.mem_of_getElem? (i := 73) rfl)) (ty := .int) (by decide) rfl rfl (g := (mkF m 16 #[.val (.ref a), .val (.long (own_acc ff 5)), .second, .val (.int (35 : Int32)), .val (.int (Int32.ofNat (ff 4)))] [(.int ((((((cc + (1 : Int32)) + (1 : Int32)) + (1 : Int32)) + (1 : Int32)) + (1 : Int32)) + (1 : Int32))), (.ref a), (.int (((((cc + (1 : Int32)) + (1 : Int32)) + (1 : Int32)) + (1 : Int32)) + (1 : Int32))), (.ref t)])) rfl rfl (hb hby d14_16)
            have Fw187 := Fw177.same W187
            have K187 := Keep.wr K177 W187 (Or.inl (List.mem_of_getElem? (i := 0) rfl))
            have Z187 : n0 ≤ h187.size := Nat.le_trans Z177 (Keep.of_wr W187).1
            have N187 := Fr.snoc X187 N177 g_a
            refine Gl.back (fun _ k => st187 _ k) ?_
            show Gl _ _ _ _ _ _ _ (T187.setTop (mkF m 19 #[.val (.ref a), .val (.long (own_acc ff 5)), .second, .val (.int (35 : Int32)), .val (.int (Int32.ofNat (ff 4)))] [(.int (((((cc + (1 : Int32)) + (1 : Int32)) + (1 : Int32)) + (1 : Int32)) + (1 : Int32))), (.ref t)]))
            have f188 := (f178.other W187 (Ne.symm hat))
            obtain ⟨cl189, Ar189, q189, Sz189, Nn189, Hs189, Gf189⟩ := id f188
            have hin189 : ¬ ((((((cc + (1 : Int32)) + (1 : Int32)) + (1 : Int32)) + (1 : Int32)) + (1 : Int32)) < 0 ∨ cl189.slots.size ≤ ((((((cc + (1 : Int32)) + (1 : Int32)) + (1 : Int32)) + (1 : Int32)) + (1 : Int32))).toNatClampNeg) := inb_of Sz189 (own_inb hc182 him182 hll)
            have hat189 : cl189.slots[((((((cc + (1 : Int32)) + (1 : Int32)) + (1 : Int32)) + (1 : Int32)) + (1 : Int32))).toNatClampNeg]? = some (.int (own_lo (ff 5))) := Hs189.at hin189 (own_gD hc182 (hv 5 him182))
            refine Gl.back (fun _ k => X187.baloadBytes hx (j := (((((cc + (1 : Int32)) + (1 : Int32)) + (1 : Int32)) + (1 : Int32)) + (1 : Int32))) (v := (.int (own_lo (ff 5)))) (by rw [e187]; exact Ar189.1) (State.isArrayOf_alike hZ.alike Ar189.2.1) Ar189.2.2 hin189 hat189 (g := (mkF m 19 #[.val (.ref a), .val (.long (own_acc ff 5)), .second, .val (.int (35 : Int32)), .val (.int (Int32.ofNat (ff 4)))] [(.int (((((cc + (1 : Int32)) + (1 : Int32)) + (1 : Int32)) + (1 : Int32)) + (1 : Int32))), (.ref t)])) rfl rfl (hb hby d14_19) _ k) ?_
            show Gl _ _ _ _ _ _ _ (T187.setTop (mkF m 20 #[.val (.ref a), .val (.long (own_acc ff 5)), .second, .val (.int (35 : Int32)), .val (.int (Int32.ofNat (ff 4)))] [(.int (own_lo (ff 5)))]))
            refine Gl.back (fun _ k => XS.sipush X187.here hx rfl (hb hby d14_20) k) ?_
            show Gl _ _ _ _ _ _ _ (T187.setTop (mkF m 23 #[.val (.ref a), .val (.long (own_acc ff 5)), .second, .val (.int (35 : Int32)), .val (.int (Int32.ofNat (ff 4)))] [(.int (255 : Int32)), (.int (own_lo (ff 5)))]))
            refine Gl.back (fun _ k => XS.iand X187.here hx rfl (hb hby d14_23) rfl k) ?_
            show Gl _ _ _ _ _ _ _ (T187.setTop (mkF m 24 #[.val (.ref a), .val (.long (own_acc ff 5)), .second, .val (.int (35 : Int32)), .val (.int (Int32.ofNat (ff 4)))] [(.int ((own_lo (ff 5)) &&& (255 : Int32)))]))
            rw [own_rd (hf 5 him182)]
            show Gl _ _ _ _ _ _ _ (T187.setTop (mkF m 24 #[.val (.ref a), .val (.long (own_acc ff 5)), .second, .val (.int (35 : Int32)), .val (.int (Int32.ofNat (ff 4)))] [(.int (Int32.ofNat (ff 5)))]))
            refine Gl.back (fun _ k => XS.istore X187.here hx rfl (hb hby d14_24) rfl (l' := #[.val (.ref a), .val (.long (own_acc ff 5)), .second, .val (.int (35 : Int32)), .val (.int (Int32.ofNat (ff 5)))]) rfl k) ?_
            show Gl _ _ _ _ _ _ _ (T187.setTop (mkF m 26 #[.val (.ref a), .val (.long (own_acc ff 5)), .second, .val (.int (35 : Int32)), .val (.int (Int32.ofNat (ff 5)))] []))
            refine Gl.back (fun _ k => XS.lloadN X187.here hx rfl (hb hby d14_26) rfl k) ?_
            show Gl _ _ _ _ _ _ _ (T187.setTop (mkF m 27 #[.val (.ref a), .val (.long (own_acc ff 5)), .second, .val (.int (35 : Int32)), .val (.int (Int32.ofNat (ff 5)))] [(.long (own_acc ff 5))]))
            refine Gl.back (fun _ k => XS.iload X187.here hx rfl (hb hby d14_27) rfl k) ?_
            show Gl _ _ _ _ _ _ _ (T187.setTop (mkF m 29 #[.val (.ref a), .val (.long (own_acc ff 5)), .second, .val (.int (35 : Int32)), .val (.int (Int32.ofNat (ff 5)))] [(.int (Int32.ofNat (ff 5))), (.long (own_acc ff 5))]))
            refine Gl.back (fun _ k => XS.sipush X187.here hx rfl (hb hby d14_29) k) ?_
            show Gl _ _ _ _ _ _ _ (T187.setTop (mkF m 32 #[.val (.ref a), .val (.long (own_acc ff 5)), .second, .val (.int (35 : Int32)), .val (.int (Int32.ofNat (ff 5)))] [(.int (128 : Int32)), (.int (Int32.ofNat (ff 5))), (.long (own_acc ff 5))]))
            refine Gl.back (fun _ k => iremM X187 hx rfl (hb hby d14_32) rfl (by decide) k) ?_
            show Gl _ _ _ _ _ _ _ (T187.setTop (mkF m 33 #[.val (.ref a), .val (.long (own_acc ff 5)), .second, .val (.int (35 : Int32)), .val (.int (Int32.ofNat (ff 5)))] [(.int ((Int32.ofNat (ff 5)) % (128 : Int32))), (.long (own_acc ff 5))]))
            refine Gl.back (fun _ k => XS.i2l X187.here hx rfl (hb hby d14_33) rfl k) ?_
            show Gl _ _ _ _ _ _ _ (T187.setTop (mkF m 34 #[.val (.ref a), .val (.long (own_acc ff 5)), .second, .val (.int (35 : Int32)), .val (.int (Int32.ofNat (ff 5)))] [(.long (((Int32.ofNat (ff 5)) % (128 : Int32)).toInt64)), (.long (own_acc ff 5))]))
            refine Gl.back (fun _ k => XS.iloadN X187.here hx rfl (hb hby d14_34) rfl k) ?_
            show Gl _ _ _ _ _ _ _ (T187.setTop (mkF m 35 #[.val (.ref a), .val (.long (own_acc ff 5)), .second, .val (.int (35 : Int32)), .val (.int (Int32.ofNat (ff 5)))] [(.int (35 : Int32)), (.long (((Int32.ofNat (ff 5)) % (128 : Int32)).toInt64)), (.long (own_acc ff 5))]))
            refine Gl.back (fun _ k => XS.lshl X187.here hx rfl (hb hby d14_35) rfl k) ?_
            show Gl _ _ _ _ _ _ _ (T187.setTop (mkF m 36 #[.val (.ref a), .val (.long (own_acc ff 5)), .second, .val (.int (35 : Int32)), .val (.int (Int32.ofNat (ff 5)))] [(.long ((((Int32.ofNat (ff 5)) % (128 : Int32)).toInt64) <<< ((35 : Int32) &&& 0x3f).toInt64)), (.long (own_acc ff 5))]))
            refine Gl.back (fun _ k => XS.lor X187.here hx rfl (hb hby d14_36) rfl k) ?_
            show Gl _ _ _ _ _ _ _ (T187.setTop (mkF m 37 #[.val (.ref a), .val (.long (own_acc ff 5)), .second, .val (.int (35 : Int32)), .val (.int (Int32.ofNat (ff 5)))] [(.long ((own_acc ff 5) ||| ((((Int32.ofNat (ff 5)) % (128 : Int32)).toInt64) <<< ((35 : Int32) &&& 0x3f).toInt64)))]))
            rw [show ((own_acc ff 5) ||| ((((Int32.ofNat (ff 5)) % (128 : Int32)).toInt64) <<< ((35 : Int32) &&& 0x3f).toInt64)) = own_acc ff 6 from own_acS rfl rfl]
            show Gl _ _ _ _ _ _ _ (T187.setTop (mkF m 37 #[.val (.ref a), .val (.long (own_acc ff 5)), .second, .val (.int (35 : Int32)), .val (.int (Int32.ofNat (ff 5)))] [(.long (own_acc ff 6))]))
            refine Gl.back (fun _ k => XS.lstoreN X187.here hx rfl (hb hby d14_37) rfl (l' := #[.val (.ref a), .val (.long (own_acc ff 6)), .second, .val (.int (35 : Int32)), .val (.int (Int32.ofNat (ff 5)))]) rfl k) ?_
            show Gl _ _ _ _ _ _ _ (T187.setTop (mkF m 38 #[.val (.ref a), .val (.long (own_acc ff 6)), .second, .val (.int (35 : Int32)), .val (.int (Int32.ofNat (ff 5)))] []))
            refine Gl.back (fun _ k => XS.iload X187.here hx rfl (hb hby d14_38) rfl k) ?_
            show Gl _ _ _ _ _ _ _ (T187.setTop (mkF m 40 #[.val (.ref a), .val (.long (own_acc ff 6)), .second, .val (.int (35 : Int32)), .val (.int (Int32.ofNat (ff 5)))] [(.int (Int32.ofNat (ff 5)))]))
            refine Gl.back (fun _ k => XS.sipush X187.here hx rfl (hb hby d14_40) k) ?_
            show Gl _ _ _ _ _ _ _ (T187.setTop (mkF m 43 #[.val (.ref a), .val (.long (own_acc ff 6)), .second, .val (.int (35 : Int32)), .val (.int (Int32.ofNat (ff 5)))] [(.int (128 : Int32)), (.int (Int32.ofNat (ff 5)))]))
            by_cases hc43_190 : (Int32.ofNat (ff 5)) < (128 : Int32)
            · refine Gl.back (fun _ k => XS.icmpNo X187.here hx rfl (hb hby d14_43) rfl (tlt hc43_190).2.1 k) ?_
              show Gl _ _ _ _ _ _ _ (T187.setTop (mkF m 46 #[.val (.ref a), .val (.long (own_acc ff 6)), .second, .val (.int (35 : Int32)), .val (.int (Int32.ofNat (ff 5)))] []))
              refine Gl.back (fun _ k => XS.lloadN X187.here hx rfl (hb hby d14_46) rfl k) ?_
              show Gl _ _ _ _ _ _ _ (T187.setTop (mkF m 47 #[.val (.ref a), .val (.long (own_acc ff 6)), .second, .val (.int (35 : Int32)), .val (.int (Int32.ofNat (ff 5)))] [(.long (own_acc ff 6))]))
              have f191 := (f183.other W187 (Or.inr (slot_ne (Or.inr (hw _ (List.mem_of_getElem? (i := 80) rfl))) (Or.inl (hw _ (List.mem_of_getElem? (i := 82) rfl))) (by decide) (t := (.array .byte)) (t' := .int) (by decide) (by decide))))
              exact Gl.ret X187 e187 (v := (some (.long (own_acc ff 6)))) (fun h => by rw [Bd.returns] at h; cases h) Bd.notSynchronized (fun fs hr => retOut X187 hx (w := (.long (own_acc ff 6))) Bd.returns rfl (Or.inr (Or.inl ⟨rfl, rfl, _, rfl⟩)) (hb hby d14_47) hr) ⟨N187, _, congrArg (fun z => some (Value.long (own_acc ff z))) (own_ex him182 (hf 5 him182) hlo hc43_190).symm, K187, f191, Fw187, own_end (own_cs2 hc182 him182 hll) (own_ex him182 (hf 5 him182) hlo hc43_190)⟩ (by decide) (by decide)
            · refine Gl.back (fun _ k => XS.icmpYes X187.here hx rfl (pc0 := 43) (pc' := 48) rfl (hb hby d14_43) rfl (flt hc43_190).2.1 (by decide) (by decide) k) ?_
              show Gl _ _ _ _ _ _ _ (T187.setTop (mkF m 48 #[.val (.ref a), .val (.long (own_acc ff 6)), .second, .val (.int (35 : Int32)), .val (.int (Int32.ofNat (ff 5)))] []))
              have him192 := own_nx him182 (hf 5 him182) hhi hc43_190
              have hc192 := own_cs2 hc182 him182 hll
              refine Gl.back (fun _ k => XS.iinc X187.here hx rfl (hb hby d14_48) rfl (l' := #[.val (.ref a), .val (.long (own_acc ff 6)), .second, .val (.int (42 : Int32)), .val (.int (Int32.ofNat (ff 5)))]) rfl k) ?_
              show Gl _ _ _ _ _ _ _ (T187.setTop (mkF m 51 #[.val (.ref a), .val (.long (own_acc ff 6)), .second, .val (.int (42 : Int32)), .val (.int (Int32.ofNat (ff 5)))] []))
              refine Gl.back (fun _ k => XS.goto X187.here hx rfl (pc0 := 51) (pc' := 4) rfl (hb hby d14_51) (by decide) (by decide) k) ?_
              show Gl _ _ _ _ _ _ _ (T187.setTop (mkF m 4 #[.val (.ref a), .val (.long (own_acc ff 6)), .second, .val (.int (42 : Int32)), .val (.int (Int32.ofNat (ff 5)))] []))
              refine Gl.back (fun _ k => XS.aloadN X187.here hx rfl (hb hby d14_4) rfl rfl k) ?_
              show Gl _ _ _ _ _ _ _ (T187.setTop (mkF m 5 #[.val (.ref a), .val (.long (own_acc ff 6)), .second, .val (.int (42 : Int32)), .val (.int (Int32.ofNat (ff 5)))] [(.ref a)]))
              have f193 := (f183.other W187 (Or.inr (slot_ne (Or.inr (hw _ (List.mem_of_getElem? (i := 80) rfl))) (Or.inl (hw _ (List.mem_of_getElem? (i := 82) rfl))) (by decide) (t := (.array .byte)) (t' := .int) (by decide) (by decide))))
              obtain ⟨T194, X194, e194, st194⟩ := getF X187 hx hZ hown (host := "") (Or.inl (hw _ (List.mem_of_getElem? (i := 79) rfl))) Via.refl e187 f193 (g := (mkF m 5 #[.val (.ref a), .val (.long (own_acc ff 6)), .second, .val (.int (42 : Int32)), .val (.int (Int32.ofNat (ff 5)))] [(.ref a)])) rfl rfl (hb hby d14_5)
              refine Gl.back (fun _ k => st194 _ k) ?_
              show Gl _ _ _ _ _ _ _ (T194.setTop (mkF m 8 #[.val (.ref a), .val (.long (own_acc ff 6)), .second, .val (.int (42 : Int32)), .val (.int (Int32.ofNat (ff 5)))] [(.ref t)]))
              refine Gl.back (fun _ k => XS.aloadN X194.here hx rfl (hb hby d14_8) rfl rfl k) ?_
              show Gl _ _ _ _ _ _ _ (T194.setTop (mkF m 9 #[.val (.ref a), .val (.long (own_acc ff 6)), .second, .val (.int (42 : Int32)), .val (.int (Int32.ofNat (ff 5)))] [(.ref a), (.ref t)]))
              refine Gl.back (fun _ k => XS.dup X194.here hx rfl (hb hby d14_9) rfl rfl k) ?_
              show Gl _ _ _ _ _ _ _ (T194.setTop (mkF m 10 #[.val (.ref a), .val (.long (own_acc ff 6)), .second, .val (.int (42 : Int32)), .val (.int (Int32.ofNat (ff 5)))] [(.ref a), (.ref a), (.ref t)]))
              obtain ⟨T195, X195, e195, st195⟩ := getF X194 hx hZ hown (host := "") (Or.inl (hw _ (List.mem_of_getElem? (i := 81) rfl))) Via.refl e194 Fw187 (g := (mkF m 10 #[.val (.ref a), .val (.long (own_acc ff 6)), .second, .val (.int (42 : Int32)), .val (.int (Int32.ofNat (ff 5)))] [(.ref a), (.ref a), (.ref t)])) rfl rfl (hb hby d14_10)
              refine Gl.back (fun _ k => st195 _ k) ?_
              show Gl _ _ _ _ _ _ _ (T195.setTop (mkF m 13 #[.val (.ref a), .val (.long (own_acc ff 6)), .second, .val (.int (42 : Int32)), .val (.int (Int32.ofNat (ff 5)))] [(.int ((((((cc + (1 : Int32)) + (1 : Int32)) + (1 : Int32)) + (1 : Int32)) + (1 : Int32)) + (1 : Int32))), (.ref a), (.ref t)]))
              refine Gl.back (fun _ k => XS.dupX1 X195.here hx rfl (hb hby d14_13) rfl rfl rfl k) ?_
              show Gl _ _ _ _ _ _ _ (T195.setTop (mkF m 14 #[.val (.ref a), .val (.long (own_acc ff 6)), .second, .val (.int (42 : Int32)), .val (.int (Int32.ofNat (ff 5)))] [(.int ((((((cc + (1 : Int32)) + (1 : Int32)) + (1 : Int32)) + (1 : Int32)) + (1 : Int32)) + (1 : Int32))), (.ref a), (.int ((((((cc + (1 : Int32)) + (1 : Int32)) + (1 : Int32)) + (1 : Int32)) + (1 : Int32)) + (1 : Int32))), (.ref t)]))
              refine Gl.back (fun _ k => XS.iconst X195.here hx rfl (hb hby d14_14) k) ?_
              show Gl _ _ _ _ _ _ _ (T195.setTop (mkF m 15 #[.val (.ref a), .val (.long (own_acc ff 6)), .second, .val (.int (42 : Int32)), .val (.int (Int32.ofNat (ff 5)))] [(.int (1 : Int32)), (.int ((((((cc + (1 : Int32)) + (1 : Int32)) + (1 : Int32)) + (1 : Int32)) + (1 : Int32)) + (1 : Int32))), (.ref a), (.int ((((((cc + (1 : Int32)) + (1 : Int32)) + (1 : Int32)) + (1 : Int32)) + (1 : Int32)) + (1 : Int32))), (.ref t)]))
              refine Gl.back (fun _ k => XS.iadd X195.here hx rfl (hb hby d14_15) rfl k) ?_
              show Gl _ _ _ _ _ _ _ (T195.setTop (mkF m 16 #[.val (.ref a), .val (.long (own_acc ff 6)), .second, .val (.int (42 : Int32)), .val (.int (Int32.ofNat (ff 5)))] [(.int (((((((cc + (1 : Int32)) + (1 : Int32)) + (1 : Int32)) + (1 : Int32)) + (1 : Int32)) + (1 : Int32)) + (1 : Int32))), (.ref a), (.int ((((((cc + (1 : Int32)) + (1 : Int32)) + (1 : Int32)) + (1 : Int32)) + (1 : Int32)) + (1 : Int32))), (.ref t)]))
              have f196 := (f186.wr W187)
              obtain ⟨T197, h197, X197, e197, W197, st197⟩ := putF X195 hx hZ hown (host := "") (Or.inl (hw _ (List.mem_of_getElem? (i := 81) rfl))) Via.refl e195 Fw187 f196 (Or.inl (hw _ (List.mem_of_getElem? (i := 82) rfl))) (hw _ (List.mem_of_getElem? (i := 73) rfl)) (ty := .int) (by decide) rfl rfl (g := (mkF m 16 #[.val (.ref a), .val (.long (own_acc ff 6)), .second, .val (.int (42 : Int32)), .val (.int (Int32.ofNat (ff 5)))] [(.int (((((((cc + (1 : Int32)) + (1 : Int32)) + (1 : Int32)) + (1 : Int32)) + (1 : Int32)) + (1 : Int32)) + (1 : Int32))), (.ref a), (.int ((((((cc + (1 : Int32)) + (1 : Int32)) + (1 : Int32)) + (1 : Int32)) + (1 : Int32)) + (1 : Int32))), (.ref t)])) rfl rfl (hb hby d14_16)
              have Fw197 := Fw187.same W197
              have K197 := Keep.wr K187 W197 (Or.inl (List.mem_of_getElem? (i := 0) rfl))
              have Z197 : n0 ≤ h197.size := Nat.le_trans Z187 (Keep.of_wr W197).1
              have N197 := Fr.snoc X197 N187 g_a
              refine Gl.back (fun _ k => st197 _ k) ?_
              show Gl _ _ _ _ _ _ _ (T197.setTop (mkF m 19 #[.val (.ref a), .val (.long (own_acc ff 6)), .second, .val (.int (42 : Int32)), .val (.int (Int32.ofNat (ff 5)))] [(.int ((((((cc + (1 : Int32)) + (1 : Int32)) + (1 : Int32)) + (1 : Int32)) + (1 : Int32)) + (1 : Int32))), (.ref t)]))
              have f198 := (f188.other W197 (Ne.symm hat))
              obtain ⟨cl199, Ar199, q199, Sz199, Nn199, Hs199, Gf199⟩ := id f198
              have hin199 : ¬ (((((((cc + (1 : Int32)) + (1 : Int32)) + (1 : Int32)) + (1 : Int32)) + (1 : Int32)) + (1 : Int32)) < 0 ∨ cl199.slots.size ≤ (((((((cc + (1 : Int32)) + (1 : Int32)) + (1 : Int32)) + (1 : Int32)) + (1 : Int32)) + (1 : Int32))).toNatClampNeg) := inb_of Sz199 (own_inb hc192 him192 hll)
              have hat199 : cl199.slots[(((((((cc + (1 : Int32)) + (1 : Int32)) + (1 : Int32)) + (1 : Int32)) + (1 : Int32)) + (1 : Int32))).toNatClampNeg]? = some (.int (own_lo (ff 6))) := Hs199.at hin199 (own_gD hc192 (hv 6 him192))
              refine Gl.back (fun _ k => X197.baloadBytes hx (j := ((((((cc + (1 : Int32)) + (1 : Int32)) + (1 : Int32)) + (1 : Int32)) + (1 : Int32)) + (1 : Int32))) (v := (.int (own_lo (ff 6)))) (by rw [e197]; exact Ar199.1) (State.isArrayOf_alike hZ.alike Ar199.2.1) Ar199.2.2 hin199 hat199 (g := (mkF m 19 #[.val (.ref a), .val (.long (own_acc ff 6)), .second, .val (.int (42 : Int32)), .val (.int (Int32.ofNat (ff 5)))] [(.int ((((((cc + (1 : Int32)) + (1 : Int32)) + (1 : Int32)) + (1 : Int32)) + (1 : Int32)) + (1 : Int32))), (.ref t)])) rfl rfl (hb hby d14_19) _ k) ?_
              show Gl _ _ _ _ _ _ _ (T197.setTop (mkF m 20 #[.val (.ref a), .val (.long (own_acc ff 6)), .second, .val (.int (42 : Int32)), .val (.int (Int32.ofNat (ff 5)))] [(.int (own_lo (ff 6)))]))
              refine Gl.back (fun _ k => XS.sipush X197.here hx rfl (hb hby d14_20) k) ?_
              show Gl _ _ _ _ _ _ _ (T197.setTop (mkF m 23 #[.val (.ref a), .val (.long (own_acc ff 6)), .second, .val (.int (42 : Int32)), .val (.int (Int32.ofNat (ff 5)))] [(.int (255 : Int32)), (.int (own_lo (ff 6)))]))
              refine Gl.back (fun _ k => XS.iand X197.here hx rfl (hb hby d14_23) rfl k) ?_
              show Gl _ _ _ _ _ _ _ (T197.setTop (mkF m 24 #[.val (.ref a), .val (.long (own_acc ff 6)), .second, .val (.int (42 : Int32)), .val (.int (Int32.ofNat (ff 5)))] [(.int ((own_lo (ff 6)) &&& (255 : Int32)))]))
              rw [own_rd (hf 6 him192)]
              show Gl _ _ _ _ _ _ _ (T197.setTop (mkF m 24 #[.val (.ref a), .val (.long (own_acc ff 6)), .second, .val (.int (42 : Int32)), .val (.int (Int32.ofNat (ff 5)))] [(.int (Int32.ofNat (ff 6)))]))
              refine Gl.back (fun _ k => XS.istore X197.here hx rfl (hb hby d14_24) rfl (l' := #[.val (.ref a), .val (.long (own_acc ff 6)), .second, .val (.int (42 : Int32)), .val (.int (Int32.ofNat (ff 6)))]) rfl k) ?_
              show Gl _ _ _ _ _ _ _ (T197.setTop (mkF m 26 #[.val (.ref a), .val (.long (own_acc ff 6)), .second, .val (.int (42 : Int32)), .val (.int (Int32.ofNat (ff 6)))] []))
              refine Gl.back (fun _ k => XS.lloadN X197.here hx rfl (hb hby d14_26) rfl k) ?_
              show Gl _ _ _ _ _ _ _ (T197.setTop (mkF m 27 #[.val (.ref a), .val (.long (own_acc ff 6)), .second, .val (.int (42 : Int32)), .val (.int (Int32.ofNat (ff 6)))] [(.long (own_acc ff 6))]))
              refine Gl.back (fun _ k => XS.iload X197.here hx rfl (hb hby d14_27) rfl k) ?_
              show Gl _ _ _ _ _ _ _ (T197.setTop (mkF m 29 #[.val (.ref a), .val (.long (own_acc ff 6)), .second, .val (.int (42 : Int32)), .val (.int (Int32.ofNat (ff 6)))] [(.int (Int32.ofNat (ff 6))), (.long (own_acc ff 6))]))
              refine Gl.back (fun _ k => XS.sipush X197.here hx rfl (hb hby d14_29) k) ?_
              show Gl _ _ _ _ _ _ _ (T197.setTop (mkF m 32 #[.val (.ref a), .val (.long (own_acc ff 6)), .second, .val (.int (42 : Int32)), .val (.int (Int32.ofNat (ff 6)))] [(.int (128 : Int32)), (.int (Int32.ofNat (ff 6))), (.long (own_acc ff 6))]))
              refine Gl.back (fun _ k => iremM X197 hx rfl (hb hby d14_32) rfl (by decide) k) ?_
              show Gl _ _ _ _ _ _ _ (T197.setTop (mkF m 33 #[.val (.ref a), .val (.long (own_acc ff 6)), .second, .val (.int (42 : Int32)), .val (.int (Int32.ofNat (ff 6)))] [(.int ((Int32.ofNat (ff 6)) % (128 : Int32))), (.long (own_acc ff 6))]))
              refine Gl.back (fun _ k => XS.i2l X197.here hx rfl (hb hby d14_33) rfl k) ?_
              show Gl _ _ _ _ _ _ _ (T197.setTop (mkF m 34 #[.val (.ref a), .val (.long (own_acc ff 6)), .second, .val (.int (42 : Int32)), .val (.int (Int32.ofNat (ff 6)))] [(.long (((Int32.ofNat (ff 6)) % (128 : Int32)).toInt64)), (.long (own_acc ff 6))]))
              refine Gl.back (fun _ k => XS.iloadN X197.here hx rfl (hb hby d14_34) rfl k) ?_
              show Gl _ _ _ _ _ _ _ (T197.setTop (mkF m 35 #[.val (.ref a), .val (.long (own_acc ff 6)), .second, .val (.int (42 : Int32)), .val (.int (Int32.ofNat (ff 6)))] [(.int (42 : Int32)), (.long (((Int32.ofNat (ff 6)) % (128 : Int32)).toInt64)), (.long (own_acc ff 6))]))
              refine Gl.back (fun _ k => XS.lshl X197.here hx rfl (hb hby d14_35) rfl k) ?_
              show Gl _ _ _ _ _ _ _ (T197.setTop (mkF m 36 #[.val (.ref a), .val (.long (own_acc ff 6)), .second, .val (.int (42 : Int32)), .val (.int (Int32.ofNat (ff 6)))] [(.long ((((Int32.ofNat (ff 6)) % (128 : Int32)).toInt64) <<< ((42 : Int32) &&& 0x3f).toInt64)), (.long (own_acc ff 6))]))
              refine Gl.back (fun _ k => XS.lor X197.here hx rfl (hb hby d14_36) rfl k) ?_
              show Gl _ _ _ _ _ _ _ (T197.setTop (mkF m 37 #[.val (.ref a), .val (.long (own_acc ff 6)), .second, .val (.int (42 : Int32)), .val (.int (Int32.ofNat (ff 6)))] [(.long ((own_acc ff 6) ||| ((((Int32.ofNat (ff 6)) % (128 : Int32)).toInt64) <<< ((42 : Int32) &&& 0x3f).toInt64)))]))
              rw [show ((own_acc ff 6) ||| ((((Int32.ofNat (ff 6)) % (128 : Int32)).toInt64) <<< ((42 : Int32) &&& 0x3f).toInt64)) = own_acc ff 7 from own_acS rfl rfl]
              show Gl _ _ _ _ _ _ _ (T197.setTop (mkF m 37 #[.val (.ref a), .val (.long (own_acc ff 6)), .second, .val (.int (42 : Int32)), .val (.int (Int32.ofNat (ff 6)))] [(.long (own_acc ff 7))]))
              refine Gl.back (fun _ k => XS.lstoreN X197.here hx rfl (hb hby d14_37) rfl (l' := #[.val (.ref a), .val (.long (own_acc ff 7)), .second, .val (.int (42 : Int32)), .val (.int (Int32.ofNat (ff 6)))]) rfl k) ?_
              show Gl _ _ _ _ _ _ _ (T197.setTop (mkF m 38 #[.val (.ref a), .val (.long (own_acc ff 7)), .second, .val (.int (42 : Int32)), .val (.int (Int32.ofNat (ff 6)))] []))
              refine Gl.back (fun _ k => XS.iload X197.here hx rfl (hb hby d14_38) rfl k) ?_
              show Gl _ _ _ _ _ _ _ (T197.setTop (mkF m 40 #[.val (.ref a), .val (.long (own_acc ff 7)), .second, .val (.int (42 : Int32)), .val (.int (Int32.ofNat (ff 6)))] [(.int (Int32.ofNat (ff 6)))]))
              refine Gl.back (fun _ k => XS.sipush X197.here hx rfl (hb hby d14_40) k) ?_
              show Gl _ _ _ _ _ _ _ (T197.setTop (mkF m 43 #[.val (.ref a), .val (.long (own_acc ff 7)), .second, .val (.int (42 : Int32)), .val (.int (Int32.ofNat (ff 6)))] [(.int (128 : Int32)), (.int (Int32.ofNat (ff 6)))]))
              by_cases hc43_200 : (Int32.ofNat (ff 6)) < (128 : Int32)
              · refine Gl.back (fun _ k => XS.icmpNo X197.here hx rfl (hb hby d14_43) rfl (tlt hc43_200).2.1 k) ?_
                show Gl _ _ _ _ _ _ _ (T197.setTop (mkF m 46 #[.val (.ref a), .val (.long (own_acc ff 7)), .second, .val (.int (42 : Int32)), .val (.int (Int32.ofNat (ff 6)))] []))
                refine Gl.back (fun _ k => XS.lloadN X197.here hx rfl (hb hby d14_46) rfl k) ?_
                show Gl _ _ _ _ _ _ _ (T197.setTop (mkF m 47 #[.val (.ref a), .val (.long (own_acc ff 7)), .second, .val (.int (42 : Int32)), .val (.int (Int32.ofNat (ff 6)))] [(.long (own_acc ff 7))]))
                have f201 := (f193.other W197 (Or.inr (slot_ne (Or.inr (hw _ (List.mem_of_getElem? (i := 80) rfl))) (Or.inl (hw _ (List.mem_of_getElem? (i := 82) rfl))) (by decide) (t := (.array .byte)) (t' := .int) (by decide) (by decide))))
                exact Gl.ret X197 e197 (v := (some (.long (own_acc ff 7)))) (fun h => by rw [Bd.returns] at h; cases h) Bd.notSynchronized (fun fs hr => retOut X197 hx (w := (.long (own_acc ff 7))) Bd.returns rfl (Or.inr (Or.inl ⟨rfl, rfl, _, rfl⟩)) (hb hby d14_47) hr) ⟨N197, _, congrArg (fun z => some (Value.long (own_acc ff z))) (own_ex him192 (hf 6 him192) hlo hc43_200).symm, K197, f201, Fw197, own_end (own_cs2 hc192 him192 hll) (own_ex him192 (hf 6 him192) hlo hc43_200)⟩ (by decide) (by decide)
              · refine Gl.back (fun _ k => XS.icmpYes X197.here hx rfl (pc0 := 43) (pc' := 48) rfl (hb hby d14_43) rfl (flt hc43_200).2.1 (by decide) (by decide) k) ?_
                show Gl _ _ _ _ _ _ _ (T197.setTop (mkF m 48 #[.val (.ref a), .val (.long (own_acc ff 7)), .second, .val (.int (42 : Int32)), .val (.int (Int32.ofNat (ff 6)))] []))
                have him202 := own_nx him192 (hf 6 him192) hhi hc43_200
                have hc202 := own_cs2 hc192 him192 hll
                refine Gl.back (fun _ k => XS.iinc X197.here hx rfl (hb hby d14_48) rfl (l' := #[.val (.ref a), .val (.long (own_acc ff 7)), .second, .val (.int (49 : Int32)), .val (.int (Int32.ofNat (ff 6)))]) rfl k) ?_
                show Gl _ _ _ _ _ _ _ (T197.setTop (mkF m 51 #[.val (.ref a), .val (.long (own_acc ff 7)), .second, .val (.int (49 : Int32)), .val (.int (Int32.ofNat (ff 6)))] []))
                refine Gl.back (fun _ k => XS.goto X197.here hx rfl (pc0 := 51) (pc' := 4) rfl (hb hby d14_51) (by decide) (by decide) k) ?_
                show Gl _ _ _ _ _ _ _ (T197.setTop (mkF m 4 #[.val (.ref a), .val (.long (own_acc ff 7)), .second, .val (.int (49 : Int32)), .val (.int (Int32.ofNat (ff 6)))] []))
                refine Gl.back (fun _ k => XS.aloadN X197.here hx rfl (hb hby d14_4) rfl rfl k) ?_
                show Gl _ _ _ _ _ _ _ (T197.setTop (mkF m 5 #[.val (.ref a), .val (.long (own_acc ff 7)), .second, .val (.int (49 : Int32)), .val (.int (Int32.ofNat (ff 6)))] [(.ref a)]))
                have f203 := (f193.other W197 (Or.inr (slot_ne (Or.inr (hw _ (List.mem_of_getElem? (i := 80) rfl))) (Or.inl (hw _ (List.mem_of_getElem? (i := 82) rfl))) (by decide) (t := (.array .byte)) (t' := .int) (by decide) (by decide))))
                obtain ⟨T204, X204, e204, st204⟩ := getF X197 hx hZ hown (host := "") (Or.inl (hw _ (List.mem_of_getElem? (i := 79) rfl))) Via.refl e197 f203 (g := (mkF m 5 #[.val (.ref a), .val (.long (own_acc ff 7)), .second, .val (.int (49 : Int32)), .val (.int (Int32.ofNat (ff 6)))] [(.ref a)])) rfl rfl (hb hby d14_5)
                refine Gl.back (fun _ k => st204 _ k) ?_
                show Gl _ _ _ _ _ _ _ (T204.setTop (mkF m 8 #[.val (.ref a), .val (.long (own_acc ff 7)), .second, .val (.int (49 : Int32)), .val (.int (Int32.ofNat (ff 6)))] [(.ref t)]))
                refine Gl.back (fun _ k => XS.aloadN X204.here hx rfl (hb hby d14_8) rfl rfl k) ?_
                show Gl _ _ _ _ _ _ _ (T204.setTop (mkF m 9 #[.val (.ref a), .val (.long (own_acc ff 7)), .second, .val (.int (49 : Int32)), .val (.int (Int32.ofNat (ff 6)))] [(.ref a), (.ref t)]))
                refine Gl.back (fun _ k => XS.dup X204.here hx rfl (hb hby d14_9) rfl rfl k) ?_
                show Gl _ _ _ _ _ _ _ (T204.setTop (mkF m 10 #[.val (.ref a), .val (.long (own_acc ff 7)), .second, .val (.int (49 : Int32)), .val (.int (Int32.ofNat (ff 6)))] [(.ref a), (.ref a), (.ref t)]))
                obtain ⟨T205, X205, e205, st205⟩ := getF X204 hx hZ hown (host := "") (Or.inl (hw _ (List.mem_of_getElem? (i := 81) rfl))) Via.refl e204 Fw197 (g := (mkF m 10 #[.val (.ref a), .val (.long (own_acc ff 7)), .second, .val (.int (49 : Int32)), .val (.int (Int32.ofNat (ff 6)))] [(.ref a), (.ref a), (.ref t)])) rfl rfl (hb hby d14_10)
                refine Gl.back (fun _ k => st205 _ k) ?_
                show Gl _ _ _ _ _ _ _ (T205.setTop (mkF m 13 #[.val (.ref a), .val (.long (own_acc ff 7)), .second, .val (.int (49 : Int32)), .val (.int (Int32.ofNat (ff 6)))] [(.int (((((((cc + (1 : Int32)) + (1 : Int32)) + (1 : Int32)) + (1 : Int32)) + (1 : Int32)) + (1 : Int32)) + (1 : Int32))), (.ref a), (.ref t)]))
                refine Gl.back (fun _ k => XS.dupX1 X205.here hx rfl (hb hby d14_13) rfl rfl rfl k) ?_
                show Gl _ _ _ _ _ _ _ (T205.setTop (mkF m 14 #[.val (.ref a), .val (.long (own_acc ff 7)), .second, .val (.int (49 : Int32)), .val (.int (Int32.ofNat (ff 6)))] [(.int (((((((cc + (1 : Int32)) + (1 : Int32)) + (1 : Int32)) + (1 : Int32)) + (1 : Int32)) + (1 : Int32)) + (1 : Int32))), (.ref a), (.int (((((((cc + (1 : Int32)) + (1 : Int32)) + (1 : Int32)) + (1 : Int32)) + (1 : Int32)) + (1 : Int32)) + (1 : Int32))), (.ref t)]))
                refine Gl.back (fun _ k => XS.iconst X205.here hx rfl (hb hby d14_14) k) ?_
                show Gl _ _ _ _ _ _ _ (T205.setTop (mkF m 15 #[.val (.ref a), .val (.long (own_acc ff 7)), .second, .val (.int (49 : Int32)), .val (.int (Int32.ofNat (ff 6)))] [(.int (1 : Int32)), (.int (((((((cc + (1 : Int32)) + (1 : Int32)) + (1 : Int32)) + (1 : Int32)) + (1 : Int32)) + (1 : Int32)) + (1 : Int32))), (.ref a), (.int (((((((cc + (1 : Int32)) + (1 : Int32)) + (1 : Int32)) + (1 : Int32)) + (1 : Int32)) + (1 : Int32)) + (1 : Int32))), (.ref t)]))
                refine Gl.back (fun _ k => XS.iadd X205.here hx rfl (hb hby d14_15) rfl k) ?_
                show Gl _ _ _ _ _ _ _ (T205.setTop (mkF m 16 #[.val (.ref a), .val (.long (own_acc ff 7)), .second, .val (.int (49 : Int32)), .val (.int (Int32.ofNat (ff 6)))] [(.int ((((((((cc + (1 : Int32)) + (1 : Int32)) + (1 : Int32)) + (1 : Int32)) + (1 : Int32)) + (1 : Int32)) + (1 : Int32)) + (1 : Int32))), (.ref a), (.int (((((((cc + (1 : Int32)) + (1 : Int32)) + (1 : Int32)) + (1 : Int32)) + (1 : Int32)) + (1 : Int32)) + (1 : Int32))), (.ref t)]))
                have f206 := (f196.wr W197)
                obtain ⟨T207, h207, X207, e207, W207, st207⟩ := putF X205 hx hZ hown (host := "") (Or.inl (hw _ (List.mem_of_getElem? (i := 81) rfl))) Via.refl e205 Fw197 f206 (Or.inl (hw _ (List.mem_of_getElem? (i := 82) rfl))) (hw _ (List.mem_of_getElem? (i := 73) rfl)) (ty := .int) (by decide) rfl rfl (g := (mkF m 16 #[.val (.ref a), .val (.long (own_acc ff 7)), .second, .val (.int (49 : Int32)), .val (.int (Int32.ofNat (ff 6)))] [(.int ((((((((cc + (1 : Int32)) + (1 : Int32)) + (1 : Int32)) + (1 : Int32)) + (1 : Int32)) + (1 : Int32)) + (1 : Int32)) + (1 : Int32))), (.ref a), (.int (((((((cc + (1 : Int32)) + (1 : Int32)) + (1 : Int32)) + (1 : Int32)) + (1 : Int32)) + (1 : Int32)) + (1 : Int32))), (.ref t)])) rfl rfl (hb hby d14_16)
                have Fw207 := Fw197.same W207
                have K207 := Keep.wr K197 W207 (Or.inl (List.mem_of_getElem? (i := 0) rfl))
                have Z207 : n0 ≤ h207.size := Nat.le_trans Z197 (Keep.of_wr W207).1
                have N207 := Fr.snoc X207 N197 g_a
                refine Gl.back (fun _ k => st207 _ k) ?_
                show Gl _ _ _ _ _ _ _ (T207.setTop (mkF m 19 #[.val (.ref a), .val (.long (own_acc ff 7)), .second, .val (.int (49 : Int32)), .val (.int (Int32.ofNat (ff 6)))] [(.int (((((((cc + (1 : Int32)) + (1 : Int32)) + (1 : Int32)) + (1 : Int32)) + (1 : Int32)) + (1 : Int32)) + (1 : Int32))), (.ref t)]))
                have f208 := (f198.other W207 (Ne.symm hat))
                obtain ⟨cl209, Ar209, q209, Sz209, Nn209, Hs209, Gf209⟩ := id f208
                have hin209 : ¬ ((((((((cc + (1 : Int32)) + (1 : Int32)) + (1 : Int32)) + (1 : Int32)) + (1 : Int32)) + (1 : Int32)) + (1 : Int32)) < 0 ∨ cl209.slots.size ≤ ((((((((cc + (1 : Int32)) + (1 : Int32)) + (1 : Int32)) + (1 : Int32)) + (1 : Int32)) + (1 : Int32)) + (1 : Int32))).toNatClampNeg) := inb_of Sz209 (own_inb hc202 him202 hll)
                have hat209 : cl209.slots[((((((((cc + (1 : Int32)) + (1 : Int32)) + (1 : Int32)) + (1 : Int32)) + (1 : Int32)) + (1 : Int32)) + (1 : Int32))).toNatClampNeg]? = some (.int (own_lo (ff 7))) := Hs209.at hin209 (own_gD hc202 (hv 7 him202))
                refine Gl.back (fun _ k => X207.baloadBytes hx (j := (((((((cc + (1 : Int32)) + (1 : Int32)) + (1 : Int32)) + (1 : Int32)) + (1 : Int32)) + (1 : Int32)) + (1 : Int32))) (v := (.int (own_lo (ff 7)))) (by rw [e207]; exact Ar209.1) (State.isArrayOf_alike hZ.alike Ar209.2.1) Ar209.2.2 hin209 hat209 (g := (mkF m 19 #[.val (.ref a), .val (.long (own_acc ff 7)), .second, .val (.int (49 : Int32)), .val (.int (Int32.ofNat (ff 6)))] [(.int (((((((cc + (1 : Int32)) + (1 : Int32)) + (1 : Int32)) + (1 : Int32)) + (1 : Int32)) + (1 : Int32)) + (1 : Int32))), (.ref t)])) rfl rfl (hb hby d14_19) _ k) ?_
                show Gl _ _ _ _ _ _ _ (T207.setTop (mkF m 20 #[.val (.ref a), .val (.long (own_acc ff 7)), .second, .val (.int (49 : Int32)), .val (.int (Int32.ofNat (ff 6)))] [(.int (own_lo (ff 7)))]))
                refine Gl.back (fun _ k => XS.sipush X207.here hx rfl (hb hby d14_20) k) ?_
                show Gl _ _ _ _ _ _ _ (T207.setTop (mkF m 23 #[.val (.ref a), .val (.long (own_acc ff 7)), .second, .val (.int (49 : Int32)), .val (.int (Int32.ofNat (ff 6)))] [(.int (255 : Int32)), (.int (own_lo (ff 7)))]))
                refine Gl.back (fun _ k => XS.iand X207.here hx rfl (hb hby d14_23) rfl k) ?_
                show Gl _ _ _ _ _ _ _ (T207.setTop (mkF m 24 #[.val (.ref a), .val (.long (own_acc ff 7)), .second, .val (.int (49 : Int32)), .val (.int (Int32.ofNat (ff 6)))] [(.int ((own_lo (ff 7)) &&& (255 : Int32)))]))
                rw [own_rd (hf 7 him202)]
                show Gl _ _ _ _ _ _ _ (T207.setTop (mkF m 24 #[.val (.ref a), .val (.long (own_acc ff 7)), .second, .val (.int (49 : Int32)), .val (.int (Int32.ofNat (ff 6)))] [(.int (Int32.ofNat (ff 7)))]))
                refine Gl.back (fun _ k => XS.istore X207.here hx rfl (hb hby d14_24) rfl (l' := #[.val (.ref a), .val (.long (own_acc ff 7)), .second, .val (.int (49 : Int32)), .val (.int (Int32.ofNat (ff 7)))]) rfl k) ?_
                show Gl _ _ _ _ _ _ _ (T207.setTop (mkF m 26 #[.val (.ref a), .val (.long (own_acc ff 7)), .second, .val (.int (49 : Int32)), .val (.int (Int32.ofNat (ff 7)))] []))
                refine Gl.back (fun _ k => XS.lloadN X207.here hx rfl (hb hby d14_26) rfl k) ?_
                show Gl _ _ _ _ _ _ _ (T207.setTop (mkF m 27 #[.val (.ref a), .val (.long (own_acc ff 7)), .second, .val (.int (49 : Int32)), .val (.int (Int32.ofNat (ff 7)))] [(.long (own_acc ff 7))]))
                refine Gl.back (fun _ k => XS.iload X207.here hx rfl (hb hby d14_27) rfl k) ?_
                show Gl _ _ _ _ _ _ _ (T207.setTop (mkF m 29 #[.val (.ref a), .val (.long (own_acc ff 7)), .second, .val (.int (49 : Int32)), .val (.int (Int32.ofNat (ff 7)))] [(.int (Int32.ofNat (ff 7))), (.long (own_acc ff 7))]))
                refine Gl.back (fun _ k => XS.sipush X207.here hx rfl (hb hby d14_29) k) ?_
                show Gl _ _ _ _ _ _ _ (T207.setTop (mkF m 32 #[.val (.ref a), .val (.long (own_acc ff 7)), .second, .val (.int (49 : Int32)), .val (.int (Int32.ofNat (ff 7)))] [(.int (128 : Int32)), (.int (Int32.ofNat (ff 7))), (.long (own_acc ff 7))]))
                refine Gl.back (fun _ k => iremM X207 hx rfl (hb hby d14_32) rfl (by decide) k) ?_
                show Gl _ _ _ _ _ _ _ (T207.setTop (mkF m 33 #[.val (.ref a), .val (.long (own_acc ff 7)), .second, .val (.int (49 : Int32)), .val (.int (Int32.ofNat (ff 7)))] [(.int ((Int32.ofNat (ff 7)) % (128 : Int32))), (.long (own_acc ff 7))]))
                refine Gl.back (fun _ k => XS.i2l X207.here hx rfl (hb hby d14_33) rfl k) ?_
                show Gl _ _ _ _ _ _ _ (T207.setTop (mkF m 34 #[.val (.ref a), .val (.long (own_acc ff 7)), .second, .val (.int (49 : Int32)), .val (.int (Int32.ofNat (ff 7)))] [(.long (((Int32.ofNat (ff 7)) % (128 : Int32)).toInt64)), (.long (own_acc ff 7))]))
                refine Gl.back (fun _ k => XS.iloadN X207.here hx rfl (hb hby d14_34) rfl k) ?_
                show Gl _ _ _ _ _ _ _ (T207.setTop (mkF m 35 #[.val (.ref a), .val (.long (own_acc ff 7)), .second, .val (.int (49 : Int32)), .val (.int (Int32.ofNat (ff 7)))] [(.int (49 : Int32)), (.long (((Int32.ofNat (ff 7)) % (128 : Int32)).toInt64)), (.long (own_acc ff 7))]))
                refine Gl.back (fun _ k => XS.lshl X207.here hx rfl (hb hby d14_35) rfl k) ?_
                show Gl _ _ _ _ _ _ _ (T207.setTop (mkF m 36 #[.val (.ref a), .val (.long (own_acc ff 7)), .second, .val (.int (49 : Int32)), .val (.int (Int32.ofNat (ff 7)))] [(.long ((((Int32.ofNat (ff 7)) % (128 : Int32)).toInt64) <<< ((49 : Int32) &&& 0x3f).toInt64)), (.long (own_acc ff 7))]))
                refine Gl.back (fun _ k => XS.lor X207.here hx rfl (hb hby d14_36) rfl k) ?_
                show Gl _ _ _ _ _ _ _ (T207.setTop (mkF m 37 #[.val (.ref a), .val (.long (own_acc ff 7)), .second, .val (.int (49 : Int32)), .val (.int (Int32.ofNat (ff 7)))] [(.long ((own_acc ff 7) ||| ((((Int32.ofNat (ff 7)) % (128 : Int32)).toInt64) <<< ((49 : Int32) &&& 0x3f).toInt64)))]))
                rw [show ((own_acc ff 7) ||| ((((Int32.ofNat (ff 7)) % (128 : Int32)).toInt64) <<< ((49 : Int32) &&& 0x3f).toInt64)) = own_acc ff 8 from own_acS rfl rfl]
                show Gl _ _ _ _ _ _ _ (T207.setTop (mkF m 37 #[.val (.ref a), .val (.long (own_acc ff 7)), .second, .val (.int (49 : Int32)), .val (.int (Int32.ofNat (ff 7)))] [(.long (own_acc ff 8))]))
                refine Gl.back (fun _ k => XS.lstoreN X207.here hx rfl (hb hby d14_37) rfl (l' := #[.val (.ref a), .val (.long (own_acc ff 8)), .second, .val (.int (49 : Int32)), .val (.int (Int32.ofNat (ff 7)))]) rfl k) ?_
                show Gl _ _ _ _ _ _ _ (T207.setTop (mkF m 38 #[.val (.ref a), .val (.long (own_acc ff 8)), .second, .val (.int (49 : Int32)), .val (.int (Int32.ofNat (ff 7)))] []))
                refine Gl.back (fun _ k => XS.iload X207.here hx rfl (hb hby d14_38) rfl k) ?_
                show Gl _ _ _ _ _ _ _ (T207.setTop (mkF m 40 #[.val (.ref a), .val (.long (own_acc ff 8)), .second, .val (.int (49 : Int32)), .val (.int (Int32.ofNat (ff 7)))] [(.int (Int32.ofNat (ff 7)))]))
                refine Gl.back (fun _ k => XS.sipush X207.here hx rfl (hb hby d14_40) k) ?_
                show Gl _ _ _ _ _ _ _ (T207.setTop (mkF m 43 #[.val (.ref a), .val (.long (own_acc ff 8)), .second, .val (.int (49 : Int32)), .val (.int (Int32.ofNat (ff 7)))] [(.int (128 : Int32)), (.int (Int32.ofNat (ff 7)))]))
                by_cases hc43_210 : (Int32.ofNat (ff 7)) < (128 : Int32)
                · refine Gl.back (fun _ k => XS.icmpNo X207.here hx rfl (hb hby d14_43) rfl (tlt hc43_210).2.1 k) ?_
                  show Gl _ _ _ _ _ _ _ (T207.setTop (mkF m 46 #[.val (.ref a), .val (.long (own_acc ff 8)), .second, .val (.int (49 : Int32)), .val (.int (Int32.ofNat (ff 7)))] []))
                  refine Gl.back (fun _ k => XS.lloadN X207.here hx rfl (hb hby d14_46) rfl k) ?_
                  show Gl _ _ _ _ _ _ _ (T207.setTop (mkF m 47 #[.val (.ref a), .val (.long (own_acc ff 8)), .second, .val (.int (49 : Int32)), .val (.int (Int32.ofNat (ff 7)))] [(.long (own_acc ff 8))]))
                  have f211 := (f203.other W207 (Or.inr (slot_ne (Or.inr (hw _ (List.mem_of_getElem? (i := 80) rfl))) (Or.inl (hw _ (List.mem_of_getElem? (i := 82) rfl))) (by decide) (t := (.array .byte)) (t' := .int) (by decide) (by decide))))
                  exact Gl.ret X207 e207 (v := (some (.long (own_acc ff 8)))) (fun h => by rw [Bd.returns] at h; cases h) Bd.notSynchronized (fun fs hr => retOut X207 hx (w := (.long (own_acc ff 8))) Bd.returns rfl (Or.inr (Or.inl ⟨rfl, rfl, _, rfl⟩)) (hb hby d14_47) hr) ⟨N207, _, congrArg (fun z => some (Value.long (own_acc ff z))) (own_ex him202 (hf 7 him202) hlo hc43_210).symm, K207, f211, Fw207, own_end (own_cs2 hc202 him202 hll) (own_ex him202 (hf 7 him202) hlo hc43_210)⟩ (by decide) (by decide)
                · refine Gl.back (fun _ k => XS.icmpYes X207.here hx rfl (pc0 := 43) (pc' := 48) rfl (hb hby d14_43) rfl (flt hc43_210).2.1 (by decide) (by decide) k) ?_
                  show Gl _ _ _ _ _ _ _ (T207.setTop (mkF m 48 #[.val (.ref a), .val (.long (own_acc ff 8)), .second, .val (.int (49 : Int32)), .val (.int (Int32.ofNat (ff 7)))] []))
                  have him212 := own_nx him202 (hf 7 him202) hhi hc43_210
                  have hc212 := own_cs2 hc202 him202 hll
                  refine Gl.back (fun _ k => XS.iinc X207.here hx rfl (hb hby d14_48) rfl (l' := #[.val (.ref a), .val (.long (own_acc ff 8)), .second, .val (.int (56 : Int32)), .val (.int (Int32.ofNat (ff 7)))]) rfl k) ?_
                  show Gl _ _ _ _ _ _ _ (T207.setTop (mkF m 51 #[.val (.ref a), .val (.long (own_acc ff 8)), .second, .val (.int (56 : Int32)), .val (.int (Int32.ofNat (ff 7)))] []))
                  refine Gl.back (fun _ k => XS.goto X207.here hx rfl (pc0 := 51) (pc' := 4) rfl (hb hby d14_51) (by decide) (by decide) k) ?_
                  show Gl _ _ _ _ _ _ _ (T207.setTop (mkF m 4 #[.val (.ref a), .val (.long (own_acc ff 8)), .second, .val (.int (56 : Int32)), .val (.int (Int32.ofNat (ff 7)))] []))
                  refine Gl.back (fun _ k => XS.aloadN X207.here hx rfl (hb hby d14_4) rfl rfl k) ?_
                  show Gl _ _ _ _ _ _ _ (T207.setTop (mkF m 5 #[.val (.ref a), .val (.long (own_acc ff 8)), .second, .val (.int (56 : Int32)), .val (.int (Int32.ofNat (ff 7)))] [(.ref a)]))
                  have f213 := (f203.other W207 (Or.inr (slot_ne (Or.inr (hw _ (List.mem_of_getElem? (i := 80) rfl))) (Or.inl (hw _ (List.mem_of_getElem? (i := 82) rfl))) (by decide) (t := (.array .byte)) (t' := .int) (by decide) (by decide))))
                  obtain ⟨T214, X214, e214, st214⟩ := getF X207 hx hZ hown (host := "") (Or.inl (hw _ (List.mem_of_getElem? (i := 79) rfl))) Via.refl e207 f213 (g := (mkF m 5 #[.val (.ref a), .val (.long (own_acc ff 8)), .second, .val (.int (56 : Int32)), .val (.int (Int32.ofNat (ff 7)))] [(.ref a)])) rfl rfl (hb hby d14_5)
                  refine Gl.back (fun _ k => st214 _ k) ?_
                  show Gl _ _ _ _ _ _ _ (T214.setTop (mkF m 8 #[.val (.ref a), .val (.long (own_acc ff 8)), .second, .val (.int (56 : Int32)), .val (.int (Int32.ofNat (ff 7)))] [(.ref t)]))
                  refine Gl.back (fun _ k => XS.aloadN X214.here hx rfl (hb hby d14_8) rfl rfl k) ?_
                  show Gl _ _ _ _ _ _ _ (T214.setTop (mkF m 9 #[.val (.ref a), .val (.long (own_acc ff 8)), .second, .val (.int (56 : Int32)), .val (.int (Int32.ofNat (ff 7)))] [(.ref a), (.ref t)]))
                  refine Gl.back (fun _ k => XS.dup X214.here hx rfl (hb hby d14_9) rfl rfl k) ?_
                  show Gl _ _ _ _ _ _ _ (T214.setTop (mkF m 10 #[.val (.ref a), .val (.long (own_acc ff 8)), .second, .val (.int (56 : Int32)), .val (.int (Int32.ofNat (ff 7)))] [(.ref a), (.ref a), (.ref t)]))
                  obtain ⟨T215, X215, e215, st215⟩ := getF X214 hx hZ hown (host := "") (Or.inl (hw _ (List.mem_of_getElem? (i := 81) rfl))) Via.refl e214 Fw207 (g := (mkF m 10 #[.val (.ref a), .val (.long (own_acc ff 8)), .second, .val (.int (56 : Int32)), .val (.int (Int32.ofNat (ff 7)))] [(.ref a), (.ref a), (.ref t)])) rfl rfl (hb hby d14_10)
                  refine Gl.back (fun _ k => st215 _ k) ?_
                  show Gl _ _ _ _ _ _ _ (T215.setTop (mkF m 13 #[.val (.ref a), .val (.long (own_acc ff 8)), .second, .val (.int (56 : Int32)), .val (.int (Int32.ofNat (ff 7)))] [(.int ((((((((cc + (1 : Int32)) + (1 : Int32)) + (1 : Int32)) + (1 : Int32)) + (1 : Int32)) + (1 : Int32)) + (1 : Int32)) + (1 : Int32))), (.ref a), (.ref t)]))
                  refine Gl.back (fun _ k => XS.dupX1 X215.here hx rfl (hb hby d14_13) rfl rfl rfl k) ?_
                  show Gl _ _ _ _ _ _ _ (T215.setTop (mkF m 14 #[.val (.ref a), .val (.long (own_acc ff 8)), .second, .val (.int (56 : Int32)), .val (.int (Int32.ofNat (ff 7)))] [(.int ((((((((cc + (1 : Int32)) + (1 : Int32)) + (1 : Int32)) + (1 : Int32)) + (1 : Int32)) + (1 : Int32)) + (1 : Int32)) + (1 : Int32))), (.ref a), (.int ((((((((cc + (1 : Int32)) + (1 : Int32)) + (1 : Int32)) + (1 : Int32)) + (1 : Int32)) + (1 : Int32)) + (1 : Int32)) + (1 : Int32))), (.ref t)]))
                  refine Gl.back (fun _ k => XS.iconst X215.here hx rfl (hb hby d14_14) k) ?_
                  show Gl _ _ _ _ _ _ _ (T215.setTop (mkF m 15 #[.val (.ref a), .val (.long (own_acc ff 8)), .second, .val (.int (56 : Int32)), .val (.int (Int32.ofNat (ff 7)))] [(.int (1 : Int32)), (.int ((((((((cc + (1 : Int32)) + (1 : Int32)) + (1 : Int32)) + (1 : Int32)) + (1 : Int32)) + (1 : Int32)) + (1 : Int32)) + (1 : Int32))), (.ref a), (.int ((((((((cc + (1 : Int32)) + (1 : Int32)) + (1 : Int32)) + (1 : Int32)) + (1 : Int32)) + (1 : Int32)) + (1 : Int32)) + (1 : Int32))), (.ref t)]))
                  refine Gl.back (fun _ k => XS.iadd X215.here hx rfl (hb hby d14_15) rfl k) ?_
                  show Gl _ _ _ _ _ _ _ (T215.setTop (mkF m 16 #[.val (.ref a), .val (.long (own_acc ff 8)), .second, .val (.int (56 : Int32)), .val (.int (Int32.ofNat (ff 7)))] [(.int (((((((((cc + (1 : Int32)) + (1 : Int32)) + (1 : Int32)) + (1 : Int32)) + (1 : Int32)) + (1 : Int32)) + (1 : Int32)) + (1 : Int32)) + (1 : Int32))), (.ref a), (.int ((((((((cc + (1 : Int32)) + (1 : Int32)) + (1 : Int32)) + (1 : Int32)) + (1 : Int32)) + (1 : Int32)) + (1 : Int32)) + (1 : Int32))), (.ref t)]))
                  have f216 := (f206.wr W207)
                  obtain ⟨T217, h217, X217, e217, W217, st217⟩ := putF X215 hx hZ hown (host := "") (Or.inl (hw _ (List.mem_of_getElem? (i := 81) rfl))) Via.refl e215 Fw207 f216 (Or.inl (hw _ (List.mem_of_getElem? (i := 82) rfl))) (hw _ (List.mem_of_getElem? (i := 73) rfl)) (ty := .int) (by decide) rfl rfl (g := (mkF m 16 #[.val (.ref a), .val (.long (own_acc ff 8)), .second, .val (.int (56 : Int32)), .val (.int (Int32.ofNat (ff 7)))] [(.int (((((((((cc + (1 : Int32)) + (1 : Int32)) + (1 : Int32)) + (1 : Int32)) + (1 : Int32)) + (1 : Int32)) + (1 : Int32)) + (1 : Int32)) + (1 : Int32))), (.ref a), (.int ((((((((cc + (1 : Int32)) + (1 : Int32)) + (1 : Int32)) + (1 : Int32)) + (1 : Int32)) + (1 : Int32)) + (1 : Int32)) + (1 : Int32))), (.ref t)])) rfl rfl (hb hby d14_16)
                  have Fw217 := Fw207.same W217
                  have K217 := Keep.wr K207 W217 (Or.inl (List.mem_of_getElem? (i := 0) rfl))
                  have Z217 : n0 ≤ h217.size := Nat.le_trans Z207 (Keep.of_wr W217).1
                  have N217 := Fr.snoc X217 N207 g_a
                  refine Gl.back (fun _ k => st217 _ k) ?_
                  show Gl _ _ _ _ _ _ _ (T217.setTop (mkF m 19 #[.val (.ref a), .val (.long (own_acc ff 8)), .second, .val (.int (56 : Int32)), .val (.int (Int32.ofNat (ff 7)))] [(.int ((((((((cc + (1 : Int32)) + (1 : Int32)) + (1 : Int32)) + (1 : Int32)) + (1 : Int32)) + (1 : Int32)) + (1 : Int32)) + (1 : Int32))), (.ref t)]))
                  have f218 := (f208.other W217 (Ne.symm hat))
                  obtain ⟨cl219, Ar219, q219, Sz219, Nn219, Hs219, Gf219⟩ := id f218
                  have hin219 : ¬ (((((((((cc + (1 : Int32)) + (1 : Int32)) + (1 : Int32)) + (1 : Int32)) + (1 : Int32)) + (1 : Int32)) + (1 : Int32)) + (1 : Int32)) < 0 ∨ cl219.slots.size ≤ (((((((((cc + (1 : Int32)) + (1 : Int32)) + (1 : Int32)) + (1 : Int32)) + (1 : Int32)) + (1 : Int32)) + (1 : Int32)) + (1 : Int32))).toNatClampNeg) := inb_of Sz219 (own_inb hc212 him212 hll)
                  have hat219 : cl219.slots[(((((((((cc + (1 : Int32)) + (1 : Int32)) + (1 : Int32)) + (1 : Int32)) + (1 : Int32)) + (1 : Int32)) + (1 : Int32)) + (1 : Int32))).toNatClampNeg]? = some (.int (own_lo (ff 8))) := Hs219.at hin219 (own_gD hc212 (hv 8 him212))
                  refine Gl.back (fun _ k => X217.baloadBytes hx (j := ((((((((cc + (1 : Int32)) + (1 : Int32)) + (1 : Int32)) + (1 : Int32)) + (1 : Int32)) + (1 : Int32)) + (1 : Int32)) + (1 : Int32))) (v := (.int (own_lo (ff 8)))) (by rw [e217]; exact Ar219.1) (State.isArrayOf_alike hZ.alike Ar219.2.1) Ar219.2.2 hin219 hat219 (g := (mkF m 19 #[.val (.ref a), .val (.long (own_acc ff 8)), .second, .val (.int (56 : Int32)), .val (.int (Int32.ofNat (ff 7)))] [(.int ((((((((cc + (1 : Int32)) + (1 : Int32)) + (1 : Int32)) + (1 : Int32)) + (1 : Int32)) + (1 : Int32)) + (1 : Int32)) + (1 : Int32))), (.ref t)])) rfl rfl (hb hby d14_19) _ k) ?_
                  show Gl _ _ _ _ _ _ _ (T217.setTop (mkF m 20 #[.val (.ref a), .val (.long (own_acc ff 8)), .second, .val (.int (56 : Int32)), .val (.int (Int32.ofNat (ff 7)))] [(.int (own_lo (ff 8)))]))
                  refine Gl.back (fun _ k => XS.sipush X217.here hx rfl (hb hby d14_20) k) ?_
                  show Gl _ _ _ _ _ _ _ (T217.setTop (mkF m 23 #[.val (.ref a), .val (.long (own_acc ff 8)), .second, .val (.int (56 : Int32)), .val (.int (Int32.ofNat (ff 7)))] [(.int (255 : Int32)), (.int (own_lo (ff 8)))]))
                  refine Gl.back (fun _ k => XS.iand X217.here hx rfl (hb hby d14_23) rfl k) ?_
                  show Gl _ _ _ _ _ _ _ (T217.setTop (mkF m 24 #[.val (.ref a), .val (.long (own_acc ff 8)), .second, .val (.int (56 : Int32)), .val (.int (Int32.ofNat (ff 7)))] [(.int ((own_lo (ff 8)) &&& (255 : Int32)))]))
                  rw [own_rd (hf 8 him212)]
                  show Gl _ _ _ _ _ _ _ (T217.setTop (mkF m 24 #[.val (.ref a), .val (.long (own_acc ff 8)), .second, .val (.int (56 : Int32)), .val (.int (Int32.ofNat (ff 7)))] [(.int (Int32.ofNat (ff 8)))]))
                  refine Gl.back (fun _ k => XS.istore X217.here hx rfl (hb hby d14_24) rfl (l' := #[.val (.ref a), .val (.long (own_acc ff 8)), .second, .val (.int (56 : Int32)), .val (.int (Int32.ofNat (ff 8)))]) rfl k) ?_
                  show Gl _ _ _ _ _ _ _ (T217.setTop (mkF m 26 #[.val (.ref a), .val (.long (own_acc ff 8)), .second, .val (.int (56 : Int32)), .val (.int (Int32.ofNat (ff 8)))] []))
                  refine Gl.back (fun _ k => XS.lloadN X217.here hx rfl (hb hby d14_26) rfl k) ?_
                  show Gl _ _ _ _ _ _ _ (T217.setTop (mkF m 27 #[.val (.ref a), .val (.long (own_acc ff 8)), .second, .val (.int (56 : Int32)), .val (.int (Int32.ofNat (ff 8)))] [(.long (own_acc ff 8))]))
                  refine Gl.back (fun _ k => XS.iload X217.here hx rfl (hb hby d14_27) rfl k) ?_
                  show Gl _ _ _ _ _ _ _ (T217.setTop (mkF m 29 #[.val (.ref a), .val (.long (own_acc ff 8)), .second, .val (.int (56 : Int32)), .val (.int (Int32.ofNat (ff 8)))] [(.int (Int32.ofNat (ff 8))), (.long (own_acc ff 8))]))
                  refine Gl.back (fun _ k => XS.sipush X217.here hx rfl (hb hby d14_29) k) ?_
                  show Gl _ _ _ _ _ _ _ (T217.setTop (mkF m 32 #[.val (.ref a), .val (.long (own_acc ff 8)), .second, .val (.int (56 : Int32)), .val (.int (Int32.ofNat (ff 8)))] [(.int (128 : Int32)), (.int (Int32.ofNat (ff 8))), (.long (own_acc ff 8))]))
                  refine Gl.back (fun _ k => iremM X217 hx rfl (hb hby d14_32) rfl (by decide) k) ?_
                  show Gl _ _ _ _ _ _ _ (T217.setTop (mkF m 33 #[.val (.ref a), .val (.long (own_acc ff 8)), .second, .val (.int (56 : Int32)), .val (.int (Int32.ofNat (ff 8)))] [(.int ((Int32.ofNat (ff 8)) % (128 : Int32))), (.long (own_acc ff 8))]))
                  refine Gl.back (fun _ k => XS.i2l X217.here hx rfl (hb hby d14_33) rfl k) ?_
                  show Gl _ _ _ _ _ _ _ (T217.setTop (mkF m 34 #[.val (.ref a), .val (.long (own_acc ff 8)), .second, .val (.int (56 : Int32)), .val (.int (Int32.ofNat (ff 8)))] [(.long (((Int32.ofNat (ff 8)) % (128 : Int32)).toInt64)), (.long (own_acc ff 8))]))
                  refine Gl.back (fun _ k => XS.iloadN X217.here hx rfl (hb hby d14_34) rfl k) ?_
                  show Gl _ _ _ _ _ _ _ (T217.setTop (mkF m 35 #[.val (.ref a), .val (.long (own_acc ff 8)), .second, .val (.int (56 : Int32)), .val (.int (Int32.ofNat (ff 8)))] [(.int (56 : Int32)), (.long (((Int32.ofNat (ff 8)) % (128 : Int32)).toInt64)), (.long (own_acc ff 8))]))
                  refine Gl.back (fun _ k => XS.lshl X217.here hx rfl (hb hby d14_35) rfl k) ?_
                  show Gl _ _ _ _ _ _ _ (T217.setTop (mkF m 36 #[.val (.ref a), .val (.long (own_acc ff 8)), .second, .val (.int (56 : Int32)), .val (.int (Int32.ofNat (ff 8)))] [(.long ((((Int32.ofNat (ff 8)) % (128 : Int32)).toInt64) <<< ((56 : Int32) &&& 0x3f).toInt64)), (.long (own_acc ff 8))]))
                  refine Gl.back (fun _ k => XS.lor X217.here hx rfl (hb hby d14_36) rfl k) ?_
                  show Gl _ _ _ _ _ _ _ (T217.setTop (mkF m 37 #[.val (.ref a), .val (.long (own_acc ff 8)), .second, .val (.int (56 : Int32)), .val (.int (Int32.ofNat (ff 8)))] [(.long ((own_acc ff 8) ||| ((((Int32.ofNat (ff 8)) % (128 : Int32)).toInt64) <<< ((56 : Int32) &&& 0x3f).toInt64)))]))
                  rw [show ((own_acc ff 8) ||| ((((Int32.ofNat (ff 8)) % (128 : Int32)).toInt64) <<< ((56 : Int32) &&& 0x3f).toInt64)) = own_acc ff 9 from own_acS rfl rfl]
                  show Gl _ _ _ _ _ _ _ (T217.setTop (mkF m 37 #[.val (.ref a), .val (.long (own_acc ff 8)), .second, .val (.int (56 : Int32)), .val (.int (Int32.ofNat (ff 8)))] [(.long (own_acc ff 9))]))
                  refine Gl.back (fun _ k => XS.lstoreN X217.here hx rfl (hb hby d14_37) rfl (l' := #[.val (.ref a), .val (.long (own_acc ff 9)), .second, .val (.int (56 : Int32)), .val (.int (Int32.ofNat (ff 8)))]) rfl k) ?_
                  show Gl _ _ _ _ _ _ _ (T217.setTop (mkF m 38 #[.val (.ref a), .val (.long (own_acc ff 9)), .second, .val (.int (56 : Int32)), .val (.int (Int32.ofNat (ff 8)))] []))
                  refine Gl.back (fun _ k => XS.iload X217.here hx rfl (hb hby d14_38) rfl k) ?_
                  show Gl _ _ _ _ _ _ _ (T217.setTop (mkF m 40 #[.val (.ref a), .val (.long (own_acc ff 9)), .second, .val (.int (56 : Int32)), .val (.int (Int32.ofNat (ff 8)))] [(.int (Int32.ofNat (ff 8)))]))
                  refine Gl.back (fun _ k => XS.sipush X217.here hx rfl (hb hby d14_40) k) ?_
                  show Gl _ _ _ _ _ _ _ (T217.setTop (mkF m 43 #[.val (.ref a), .val (.long (own_acc ff 9)), .second, .val (.int (56 : Int32)), .val (.int (Int32.ofNat (ff 8)))] [(.int (128 : Int32)), (.int (Int32.ofNat (ff 8)))]))
                  refine Gl.back (fun _ k => XS.icmpNo X217.here hx rfl (hb hby d14_43) rfl (tlt (own_l9 hf hhi hm.2 him212 : (Int32.ofNat (ff 8)) < (128 : Int32))).2.1 k) ?_
                  show Gl _ _ _ _ _ _ _ (T217.setTop (mkF m 46 #[.val (.ref a), .val (.long (own_acc ff 9)), .second, .val (.int (56 : Int32)), .val (.int (Int32.ofNat (ff 8)))] []))
                  refine Gl.back (fun _ k => XS.lloadN X217.here hx rfl (hb hby d14_46) rfl k) ?_
                  show Gl _ _ _ _ _ _ _ (T217.setTop (mkF m 47 #[.val (.ref a), .val (.long (own_acc ff 9)), .second, .val (.int (56 : Int32)), .val (.int (Int32.ofNat (ff 8)))] [(.long (own_acc ff 9))]))
                  have f220 := (f213.other W217 (Or.inr (slot_ne (Or.inr (hw _ (List.mem_of_getElem? (i := 80) rfl))) (Or.inl (hw _ (List.mem_of_getElem? (i := 82) rfl))) (by decide) (t := (.array .byte)) (t' := .int) (by decide) (by decide))))
                  exact Gl.ret X217 e217 (v := (some (.long (own_acc ff 9)))) (fun h => by rw [Bd.returns] at h; cases h) Bd.notSynchronized (fun fs hr => retOut X217 hx (w := (.long (own_acc ff 9))) Bd.returns rfl (Or.inr (Or.inl ⟨rfl, rfl, _, rfl⟩)) (hb hby d14_47) hr) ⟨N217, _, congrArg (fun z => some (Value.long (own_acc ff z))) (own_e9 hm.2 him212).symm, K217, f220, Fw217, own_end (own_cs2 hc212 him212 hll) (own_e9 hm.2 him212)⟩ (by decide) (by decide)
theorem d15_0 : decode method_2_code 0 = .ok (.iload_n 0, 1) := by decide +kernel
theorem d15_1 : decode method_2_code 1 = .ok (.bipush 127, 2) := by decide +kernel
theorem d15_3 : decode method_2_code 3 = .ok (.iand, 1) := by decide +kernel
theorem d15_4 : decode method_2_code 4 = .ok (.i2l, 1) := by decide +kernel
theorem d15_5 : decode method_2_code 5 = .ok (.lstore 4, 2) := by decide +kernel
theorem d15_7 : decode method_2_code 7 = .ok (.iload_n 0, 1) := by decide +kernel
theorem d15_8 : decode method_2_code 8 = .ok (.sipush 128, 3) := by decide +kernel
theorem d15_11 : decode method_2_code 11 = .ok (.if_icmp .ge 6, 3) := by decide +kernel
theorem d15_14 : decode method_2_code 14 = .ok (.lload 4, 2) := by decide +kernel
theorem d15_16 : decode method_2_code 16 = .ok (.lreturn, 1) := by decide +kernel
theorem d15_17 : decode method_2_code 17 = .ok (.lload 4, 2) := by decide +kernel
theorem d15_19 : decode method_2_code 19 = .ok (.iload_n 1, 1) := by decide +kernel
theorem d15_20 : decode method_2_code 20 = .ok (.bipush 127, 2) := by decide +kernel
theorem d15_22 : decode method_2_code 22 = .ok (.iand, 1) := by decide +kernel
theorem d15_23 : decode method_2_code 23 = .ok (.i2l, 1) := by decide +kernel
theorem d15_24 : decode method_2_code 24 = .ok (.bipush 7, 2) := by decide +kernel
theorem d15_26 : decode method_2_code 26 = .ok (.lshl, 1) := by decide +kernel
theorem d15_27 : decode method_2_code 27 = .ok (.lor, 1) := by decide +kernel
theorem d15_28 : decode method_2_code 28 = .ok (.lstore 4, 2) := by decide +kernel
theorem d15_30 : decode method_2_code 30 = .ok (.iload_n 1, 1) := by decide +kernel
theorem d15_31 : decode method_2_code 31 = .ok (.sipush 128, 3) := by decide +kernel
theorem d15_34 : decode method_2_code 34 = .ok (.if_icmp .ge 6, 3) := by decide +kernel
theorem d15_37 : decode method_2_code 37 = .ok (.lload 4, 2) := by decide +kernel
theorem d15_39 : decode method_2_code 39 = .ok (.lreturn, 1) := by decide +kernel
theorem d15_40 : decode method_2_code 40 = .ok (.lload 4, 2) := by decide +kernel
theorem d15_42 : decode method_2_code 42 = .ok (.iload_n 2, 1) := by decide +kernel
theorem d15_43 : decode method_2_code 43 = .ok (.bipush 127, 2) := by decide +kernel
theorem d15_45 : decode method_2_code 45 = .ok (.iand, 1) := by decide +kernel
theorem d15_46 : decode method_2_code 46 = .ok (.i2l, 1) := by decide +kernel
theorem d15_47 : decode method_2_code 47 = .ok (.bipush 14, 2) := by decide +kernel
theorem d15_49 : decode method_2_code 49 = .ok (.lshl, 1) := by decide +kernel
theorem d15_50 : decode method_2_code 50 = .ok (.lor, 1) := by decide +kernel
theorem d15_51 : decode method_2_code 51 = .ok (.lstore 4, 2) := by decide +kernel
theorem d15_53 : decode method_2_code 53 = .ok (.iload_n 2, 1) := by decide +kernel
theorem d15_54 : decode method_2_code 54 = .ok (.sipush 128, 3) := by decide +kernel
theorem d15_57 : decode method_2_code 57 = .ok (.if_icmp .ge 6, 3) := by decide +kernel
theorem d15_60 : decode method_2_code 60 = .ok (.lload 4, 2) := by decide +kernel
theorem d15_62 : decode method_2_code 62 = .ok (.lreturn, 1) := by decide +kernel
theorem d15_63 : decode method_2_code 63 = .ok (.lload 4, 2) := by decide +kernel
theorem d15_65 : decode method_2_code 65 = .ok (.iload_n 3, 1) := by decide +kernel
theorem d15_66 : decode method_2_code 66 = .ok (.bipush 127, 2) := by decide +kernel
theorem d15_68 : decode method_2_code 68 = .ok (.iand, 1) := by decide +kernel
theorem d15_69 : decode method_2_code 69 = .ok (.i2l, 1) := by decide +kernel
theorem d15_70 : decode method_2_code 70 = .ok (.bipush 21, 2) := by decide +kernel
theorem d15_72 : decode method_2_code 72 = .ok (.lshl, 1) := by decide +kernel
theorem d15_73 : decode method_2_code 73 = .ok (.lor, 1) := by decide +kernel
theorem d15_74 : decode method_2_code 74 = .ok (.lreturn, 1) := by decide +kernel
theorem pn_com_example_harbourlink_harbourlink_scratch_ReaderNumberPinLaw : plainName "com/example/harbourlink/harbourlink/scratch/ReaderNumberPinLaw" = true := by first | (simp [plainName, overriddenIn]; done) | decide +kernel
theorem ef_rf (m : MethodId) (x0 : Int32) (x1 : Int32) (x2 : Int32) (x3 : Int32) : entryFrame m #[(.int x0), (.int x1), (.int x2), (.int x3)] 6 = mkF m 0 #[.val (.int x0), .val (.int x1), .val (.int x2), .val (.int x3), .unset, .unset] [] := by first | (simp [entryFrame, mkF, argsToLocals, Value.category]; done) | rfl
def Qrf (Z : State) (p0 : Int32) (p1 : Int32) (p2 : Int32) (p3 : Int32) (ff : Nat → Nat) (mm : Nat) (h0 : Heap) (n0 : Nat) (v : Option Value) (h : Heap) (L : List Loc) : Prop := Fr n0 L ∧ (v = some (.long (own_acc ff mm)) ∧ h = h0)
set_option maxRecDepth 65536 in
set_option maxHeartbeats 40000000 in
theorem rmrf (l : Launch) (Z : State) (a0 : Array Value) (hw : ∀ d ∈ tables_1, d.before a0 Z = true) (ws : List Jvm.Cond) (p0 : Int32) (p1 : Int32) (p2 : Int32) (p3 : Int32) (ff : Nat → Nat) (mm : Nat) (h0 : Heap) (n0 : Nat) (Z0 : n0 ≤ h0.size) (ep0 : p0 = Int32.ofNat (ff 0)) (ep1 : p1 = Int32.ofNat (ff 1)) (ep2 : p2 = Int32.ofNat (ff 2)) (ep3 : p3 = Int32.ofNat (ff 3)) (hf : ∀ i, i < mm → ff i < 256) (hlo : ∀ i, i + 1 < mm → 128 ≤ ff i) (hhi : ff (mm - 1) < 128) (hm : 1 ≤ mm ∧ mm ≤ 4) :
    MetFree l (⟨"com/example/harbourlink/harbourlink/scratch/ReaderNumberPinLaw", "ref", "(IIII)J"⟩ : MethodName) (head1 (Jvm.Cond.code (⟨"com/example/harbourlink/harbourlink/scratch/ReaderNumberPinLaw", "ref", "(IIII)J"⟩ : MethodName) method_2_code 6 (some .long) :: ws) ({ frames := 0, cells := 0, slots := 0, locals := 0 } : Room)) (fun as0 U => as0 = #[(.int p0), (.int p1), (.int p2), (.int p3)] ∧ Z.Warmed39 U.vm ∧ U.heap = h0) (fun _ _ _ _ _ => True) (fun _ U oc0 U' => ∃ v L, oc0 = .returned v ∧ Qrf Z p0 p1 p2 p3 ff mm h0 n0 v U'.heap L ∧ FrameEnd U oc0 U' L ({ frames := 0, cells := 0, slots := 0, locals := 0 } : Room).cells ({ frames := 0, cells := 0, slots := 0, locals := 0 } : Room).slots) := by
  refine MetFree.of_bodySF (plainFor_of_name pn_com_example_harbourlink_harbourlink_scratch_ReaderNumberPinLaw) hisR ?_
  intro p e s m args below meth c s₁ Bd hml0 hP hK
  obtain ⟨rfl, hZ, hh⟩ := hP
  have hx := Bd.exec
  have hby := Bd.bytes
  have hml : c.maxLocals = 6 := hml0
  have hown : s.vm.findClass "com/example/harbourlink/harbourlink/scratch/ReaderNumberPinLaw" = some m.cls := findClass_of_methodNamed Bd.named
  have hnm := (name_of_methodNamed Bd.named Bd.method).1
  have X0 : Stand p l e ({ frames := 0, cells := 0, slots := 0, locals := 0 } : Room) s m #[(.int p0), (.int p1), (.int p2), (.int p3)] below meth c s₁ [] 0 0 := Stand.of_body Bd
  have e0 : s₁.heap = h0 := by rw [← hh, Bd.state]; rfl
  have N0 := Fr.nil n0
  show Gl p e below s (Qrf Z p0 p1 p2 p3 ff mm h0 n0) ({ frames := 0, cells := 0, slots := 0, locals := 0 } : Room).cells ({ frames := 0, cells := 0, slots := 0, locals := 0 } : Room).slots (s₁.setTop (entryFrame m #[(.int p0), (.int p1), (.int p2), (.int p3)] 6))
  refine Gl.back (fun _ k => castTop (ef_rf m p0 p1 p2 p3) k) ?_
  show Gl _ _ _ _ _ _ _ (s₁.setTop (mkF m 0 #[.val (.int p0), .val (.int p1), .val (.int p2), .val (.int p3), .unset, .unset] []))
  refine Gl.back (fun _ k => XS.iloadN X0.here hx rfl (hb hby d15_0) rfl k) ?_
  show Gl _ _ _ _ _ _ _ (s₁.setTop (mkF m 1 #[.val (.int p0), .val (.int p1), .val (.int p2), .val (.int p3), .unset, .unset] [(.int p0)]))
  refine Gl.back (fun _ k => XS.bipush X0.here hx rfl (hb hby d15_1) k) ?_
  show Gl _ _ _ _ _ _ _ (s₁.setTop (mkF m 3 #[.val (.int p0), .val (.int p1), .val (.int p2), .val (.int p3), .unset, .unset] [(.int (127 : Int32)), (.int p0)]))
  refine Gl.back (fun _ k => XS.iand X0.here hx rfl (hb hby d15_3) rfl k) ?_
  show Gl _ _ _ _ _ _ _ (s₁.setTop (mkF m 4 #[.val (.int p0), .val (.int p1), .val (.int p2), .val (.int p3), .unset, .unset] [(.int (p0 &&& (127 : Int32)))]))
  refine Gl.back (fun _ k => XS.i2l X0.here hx rfl (hb hby d15_4) rfl k) ?_
  show Gl _ _ _ _ _ _ _ (s₁.setTop (mkF m 5 #[.val (.int p0), .val (.int p1), .val (.int p2), .val (.int p3), .unset, .unset] [(.long ((p0 &&& (127 : Int32)).toInt64))]))
  refine Gl.back (fun _ k => XS.lstore X0.here hx rfl (hb hby d15_5) rfl (l' := #[.val (.int p0), .val (.int p1), .val (.int p2), .val (.int p3), .val (.long ((p0 &&& (127 : Int32)).toInt64)), .second]) rfl k) ?_
  show Gl _ _ _ _ _ _ _ (s₁.setTop (mkF m 7 #[.val (.int p0), .val (.int p1), .val (.int p2), .val (.int p3), .val (.long ((p0 &&& (127 : Int32)).toInt64)), .second] []))
  refine Gl.back (fun _ k => XS.iloadN X0.here hx rfl (hb hby d15_7) rfl k) ?_
  show Gl _ _ _ _ _ _ _ (s₁.setTop (mkF m 8 #[.val (.int p0), .val (.int p1), .val (.int p2), .val (.int p3), .val (.long ((p0 &&& (127 : Int32)).toInt64)), .second] [(.int p0)]))
  refine Gl.back (fun _ k => XS.sipush X0.here hx rfl (hb hby d15_8) k) ?_
  show Gl _ _ _ _ _ _ _ (s₁.setTop (mkF m 11 #[.val (.int p0), .val (.int p1), .val (.int p2), .val (.int p3), .val (.long ((p0 &&& (127 : Int32)).toInt64)), .second] [(.int (128 : Int32)), (.int p0)]))
  by_cases hc11_221 : p0 < (128 : Int32)
  · refine Gl.back (fun _ k => XS.icmpNo X0.here hx rfl (hb hby d15_11) rfl (tlt hc11_221).2.1 k) ?_
    show Gl _ _ _ _ _ _ _ (s₁.setTop (mkF m 14 #[.val (.int p0), .val (.int p1), .val (.int p2), .val (.int p3), .val (.long ((p0 &&& (127 : Int32)).toInt64)), .second] []))
    refine Gl.back (fun _ k => XS.lload X0.here hx rfl (hb hby d15_14) rfl k) ?_
    show Gl _ _ _ _ _ _ _ (s₁.setTop (mkF m 16 #[.val (.int p0), .val (.int p1), .val (.int p2), .val (.int p3), .val (.long ((p0 &&& (127 : Int32)).toInt64)), .second] [(.long ((p0 &&& (127 : Int32)).toInt64))]))
    have hi_m : 0 < mm := hm.1
    have em_m : mm = 1 := (own_exP ep0 hm.1 (hf 0 hm.1) hlo hc11_221)
    exact Gl.ret X0 e0 (v := (some (.long ((p0 &&& (127 : Int32)).toInt64)))) (fun h => by rw [Bd.returns] at h; cases h) Bd.notSynchronized (fun fs hr => retOut X0 hx (w := (.long ((p0 &&& (127 : Int32)).toInt64))) Bd.returns rfl (Or.inr (Or.inl ⟨rfl, rfl, _, rfl⟩)) (hb hby d15_16) hr) ⟨N0, congrArg (fun z => some (Value.long z)) ((own_r1 ep0 (hf 0 (by omega))).trans (congrArg (own_acc ff) em_m.symm)), rfl⟩ (by decide) (by decide)
  · refine Gl.back (fun _ k => XS.icmpYes X0.here hx rfl (pc0 := 11) (pc' := 17) rfl (hb hby d15_11) rfl (flt hc11_221).2.1 (by decide) (by decide) k) ?_
    show Gl _ _ _ _ _ _ _ (s₁.setTop (mkF m 17 #[.val (.int p0), .val (.int p1), .val (.int p2), .val (.int p3), .val (.long ((p0 &&& (127 : Int32)).toInt64)), .second] []))
    refine Gl.back (fun _ k => XS.lload X0.here hx rfl (hb hby d15_17) rfl k) ?_
    show Gl _ _ _ _ _ _ _ (s₁.setTop (mkF m 19 #[.val (.int p0), .val (.int p1), .val (.int p2), .val (.int p3), .val (.long ((p0 &&& (127 : Int32)).toInt64)), .second] [(.long ((p0 &&& (127 : Int32)).toInt64))]))
    refine Gl.back (fun _ k => XS.iloadN X0.here hx rfl (hb hby d15_19) rfl k) ?_
    show Gl _ _ _ _ _ _ _ (s₁.setTop (mkF m 20 #[.val (.int p0), .val (.int p1), .val (.int p2), .val (.int p3), .val (.long ((p0 &&& (127 : Int32)).toInt64)), .second] [(.int p1), (.long ((p0 &&& (127 : Int32)).toInt64))]))
    refine Gl.back (fun _ k => XS.bipush X0.here hx rfl (hb hby d15_20) k) ?_
    show Gl _ _ _ _ _ _ _ (s₁.setTop (mkF m 22 #[.val (.int p0), .val (.int p1), .val (.int p2), .val (.int p3), .val (.long ((p0 &&& (127 : Int32)).toInt64)), .second] [(.int (127 : Int32)), (.int p1), (.long ((p0 &&& (127 : Int32)).toInt64))]))
    refine Gl.back (fun _ k => XS.iand X0.here hx rfl (hb hby d15_22) rfl k) ?_
    show Gl _ _ _ _ _ _ _ (s₁.setTop (mkF m 23 #[.val (.int p0), .val (.int p1), .val (.int p2), .val (.int p3), .val (.long ((p0 &&& (127 : Int32)).toInt64)), .second] [(.int (p1 &&& (127 : Int32))), (.long ((p0 &&& (127 : Int32)).toInt64))]))
    refine Gl.back (fun _ k => XS.i2l X0.here hx rfl (hb hby d15_23) rfl k) ?_
    show Gl _ _ _ _ _ _ _ (s₁.setTop (mkF m 24 #[.val (.int p0), .val (.int p1), .val (.int p2), .val (.int p3), .val (.long ((p0 &&& (127 : Int32)).toInt64)), .second] [(.long ((p1 &&& (127 : Int32)).toInt64)), (.long ((p0 &&& (127 : Int32)).toInt64))]))
    refine Gl.back (fun _ k => XS.bipush X0.here hx rfl (hb hby d15_24) k) ?_
    show Gl _ _ _ _ _ _ _ (s₁.setTop (mkF m 26 #[.val (.int p0), .val (.int p1), .val (.int p2), .val (.int p3), .val (.long ((p0 &&& (127 : Int32)).toInt64)), .second] [(.int (7 : Int32)), (.long ((p1 &&& (127 : Int32)).toInt64)), (.long ((p0 &&& (127 : Int32)).toInt64))]))
    refine Gl.back (fun _ k => XS.lshl X0.here hx rfl (hb hby d15_26) rfl k) ?_
    show Gl _ _ _ _ _ _ _ (s₁.setTop (mkF m 27 #[.val (.int p0), .val (.int p1), .val (.int p2), .val (.int p3), .val (.long ((p0 &&& (127 : Int32)).toInt64)), .second] [(.long (((p1 &&& (127 : Int32)).toInt64) <<< ((7 : Int32) &&& 0x3f).toInt64)), (.long ((p0 &&& (127 : Int32)).toInt64))]))
    refine Gl.back (fun _ k => XS.lor X0.here hx rfl (hb hby d15_27) rfl k) ?_
    show Gl _ _ _ _ _ _ _ (s₁.setTop (mkF m 28 #[.val (.int p0), .val (.int p1), .val (.int p2), .val (.int p3), .val (.long ((p0 &&& (127 : Int32)).toInt64)), .second] [(.long (((p0 &&& (127 : Int32)).toInt64) ||| (((p1 &&& (127 : Int32)).toInt64) <<< ((7 : Int32) &&& 0x3f).toInt64)))]))
    refine Gl.back (fun _ k => XS.lstore X0.here hx rfl (hb hby d15_28) rfl (l' := #[.val (.int p0), .val (.int p1), .val (.int p2), .val (.int p3), .val (.long (((p0 &&& (127 : Int32)).toInt64) ||| (((p1 &&& (127 : Int32)).toInt64) <<< ((7 : Int32) &&& 0x3f).toInt64))), .second]) rfl k) ?_
    show Gl _ _ _ _ _ _ _ (s₁.setTop (mkF m 30 #[.val (.int p0), .val (.int p1), .val (.int p2), .val (.int p3), .val (.long (((p0 &&& (127 : Int32)).toInt64) ||| (((p1 &&& (127 : Int32)).toInt64) <<< ((7 : Int32) &&& 0x3f).toInt64))), .second] []))
    refine Gl.back (fun _ k => XS.iloadN X0.here hx rfl (hb hby d15_30) rfl k) ?_
    show Gl _ _ _ _ _ _ _ (s₁.setTop (mkF m 31 #[.val (.int p0), .val (.int p1), .val (.int p2), .val (.int p3), .val (.long (((p0 &&& (127 : Int32)).toInt64) ||| (((p1 &&& (127 : Int32)).toInt64) <<< ((7 : Int32) &&& 0x3f).toInt64))), .second] [(.int p1)]))
    refine Gl.back (fun _ k => XS.sipush X0.here hx rfl (hb hby d15_31) k) ?_
    show Gl _ _ _ _ _ _ _ (s₁.setTop (mkF m 34 #[.val (.int p0), .val (.int p1), .val (.int p2), .val (.int p3), .val (.long (((p0 &&& (127 : Int32)).toInt64) ||| (((p1 &&& (127 : Int32)).toInt64) <<< ((7 : Int32) &&& 0x3f).toInt64))), .second] [(.int (128 : Int32)), (.int p1)]))
    by_cases hc34_222 : p1 < (128 : Int32)
    · refine Gl.back (fun _ k => XS.icmpNo X0.here hx rfl (hb hby d15_34) rfl (tlt hc34_222).2.1 k) ?_
      show Gl _ _ _ _ _ _ _ (s₁.setTop (mkF m 37 #[.val (.int p0), .val (.int p1), .val (.int p2), .val (.int p3), .val (.long (((p0 &&& (127 : Int32)).toInt64) ||| (((p1 &&& (127 : Int32)).toInt64) <<< ((7 : Int32) &&& 0x3f).toInt64))), .second] []))
      refine Gl.back (fun _ k => XS.lload X0.here hx rfl (hb hby d15_37) rfl k) ?_
      show Gl _ _ _ _ _ _ _ (s₁.setTop (mkF m 39 #[.val (.int p0), .val (.int p1), .val (.int p2), .val (.int p3), .val (.long (((p0 &&& (127 : Int32)).toInt64) ||| (((p1 &&& (127 : Int32)).toInt64) <<< ((7 : Int32) &&& 0x3f).toInt64))), .second] [(.long (((p0 &&& (127 : Int32)).toInt64) ||| (((p1 &&& (127 : Int32)).toInt64) <<< ((7 : Int32) &&& 0x3f).toInt64)))]))
      have hi_m : 1 < mm := (own_nxP ep0 hm.1 (hf 0 hm.1) hhi hc11_221)
      have em_m : mm = 2 := (own_exP ep1 (own_nxP ep0 hm.1 (hf 0 hm.1) hhi hc11_221) (hf 1 (own_nxP ep0 hm.1 (hf 0 hm.1) hhi hc11_221)) hlo hc34_222)
      exact Gl.ret X0 e0 (v := (some (.long (((p0 &&& (127 : Int32)).toInt64) ||| (((p1 &&& (127 : Int32)).toInt64) <<< ((7 : Int32) &&& 0x3f).toInt64))))) (fun h => by rw [Bd.returns] at h; cases h) Bd.notSynchronized (fun fs hr => retOut X0 hx (w := (.long (((p0 &&& (127 : Int32)).toInt64) ||| (((p1 &&& (127 : Int32)).toInt64) <<< ((7 : Int32) &&& 0x3f).toInt64)))) Bd.returns rfl (Or.inr (Or.inl ⟨rfl, rfl, _, rfl⟩)) (hb hby d15_39) hr) ⟨N0, congrArg (fun z => some (Value.long z)) ((own_rS (own_r1 ep0 (hf 0 (by omega))) ep1 (hf 1 (by omega)) rfl).trans (congrArg (own_acc ff) em_m.symm)), rfl⟩ (by decide) (by decide)
    · refine Gl.back (fun _ k => XS.icmpYes X0.here hx rfl (pc0 := 34) (pc' := 40) rfl (hb hby d15_34) rfl (flt hc34_222).2.1 (by decide) (by decide) k) ?_
      show Gl _ _ _ _ _ _ _ (s₁.setTop (mkF m 40 #[.val (.int p0), .val (.int p1), .val (.int p2), .val (.int p3), .val (.long (((p0 &&& (127 : Int32)).toInt64) ||| (((p1 &&& (127 : Int32)).toInt64) <<< ((7 : Int32) &&& 0x3f).toInt64))), .second] []))
      refine Gl.back (fun _ k => XS.lload X0.here hx rfl (hb hby d15_40) rfl k) ?_
      show Gl _ _ _ _ _ _ _ (s₁.setTop (mkF m 42 #[.val (.int p0), .val (.int p1), .val (.int p2), .val (.int p3), .val (.long (((p0 &&& (127 : Int32)).toInt64) ||| (((p1 &&& (127 : Int32)).toInt64) <<< ((7 : Int32) &&& 0x3f).toInt64))), .second] [(.long (((p0 &&& (127 : Int32)).toInt64) ||| (((p1 &&& (127 : Int32)).toInt64) <<< ((7 : Int32) &&& 0x3f).toInt64)))]))
      refine Gl.back (fun _ k => XS.iloadN X0.here hx rfl (hb hby d15_42) rfl k) ?_
      show Gl _ _ _ _ _ _ _ (s₁.setTop (mkF m 43 #[.val (.int p0), .val (.int p1), .val (.int p2), .val (.int p3), .val (.long (((p0 &&& (127 : Int32)).toInt64) ||| (((p1 &&& (127 : Int32)).toInt64) <<< ((7 : Int32) &&& 0x3f).toInt64))), .second] [(.int p2), (.long (((p0 &&& (127 : Int32)).toInt64) ||| (((p1 &&& (127 : Int32)).toInt64) <<< ((7 : Int32) &&& 0x3f).toInt64)))]))
      refine Gl.back (fun _ k => XS.bipush X0.here hx rfl (hb hby d15_43) k) ?_
      show Gl _ _ _ _ _ _ _ (s₁.setTop (mkF m 45 #[.val (.int p0), .val (.int p1), .val (.int p2), .val (.int p3), .val (.long (((p0 &&& (127 : Int32)).toInt64) ||| (((p1 &&& (127 : Int32)).toInt64) <<< ((7 : Int32) &&& 0x3f).toInt64))), .second] [(.int (127 : Int32)), (.int p2), (.long (((p0 &&& (127 : Int32)).toInt64) ||| (((p1 &&& (127 : Int32)).toInt64) <<< ((7 : Int32) &&& 0x3f).toInt64)))]))
      refine Gl.back (fun _ k => XS.iand X0.here hx rfl (hb hby d15_45) rfl k) ?_
      show Gl _ _ _ _ _ _ _ (s₁.setTop (mkF m 46 #[.val (.int p0), .val (.int p1), .val (.int p2), .val (.int p3), .val (.long (((p0 &&& (127 : Int32)).toInt64) ||| (((p1 &&& (127 : Int32)).toInt64) <<< ((7 : Int32) &&& 0x3f).toInt64))), .second] [(.int (p2 &&& (127 : Int32))), (.long (((p0 &&& (127 : Int32)).toInt64) ||| (((p1 &&& (127 : Int32)).toInt64) <<< ((7 : Int32) &&& 0x3f).toInt64)))]))
      refine Gl.back (fun _ k => XS.i2l X0.here hx rfl (hb hby d15_46) rfl k) ?_
      show Gl _ _ _ _ _ _ _ (s₁.setTop (mkF m 47 #[.val (.int p0), .val (.int p1), .val (.int p2), .val (.int p3), .val (.long (((p0 &&& (127 : Int32)).toInt64) ||| (((p1 &&& (127 : Int32)).toInt64) <<< ((7 : Int32) &&& 0x3f).toInt64))), .second] [(.long ((p2 &&& (127 : Int32)).toInt64)), (.long (((p0 &&& (127 : Int32)).toInt64) ||| (((p1 &&& (127 : Int32)).toInt64) <<< ((7 : Int32) &&& 0x3f).toInt64)))]))
      refine Gl.back (fun _ k => XS.bipush X0.here hx rfl (hb hby d15_47) k) ?_
      show Gl _ _ _ _ _ _ _ (s₁.setTop (mkF m 49 #[.val (.int p0), .val (.int p1), .val (.int p2), .val (.int p3), .val (.long (((p0 &&& (127 : Int32)).toInt64) ||| (((p1 &&& (127 : Int32)).toInt64) <<< ((7 : Int32) &&& 0x3f).toInt64))), .second] [(.int (14 : Int32)), (.long ((p2 &&& (127 : Int32)).toInt64)), (.long (((p0 &&& (127 : Int32)).toInt64) ||| (((p1 &&& (127 : Int32)).toInt64) <<< ((7 : Int32) &&& 0x3f).toInt64)))]))
      refine Gl.back (fun _ k => XS.lshl X0.here hx rfl (hb hby d15_49) rfl k) ?_
      show Gl _ _ _ _ _ _ _ (s₁.setTop (mkF m 50 #[.val (.int p0), .val (.int p1), .val (.int p2), .val (.int p3), .val (.long (((p0 &&& (127 : Int32)).toInt64) ||| (((p1 &&& (127 : Int32)).toInt64) <<< ((7 : Int32) &&& 0x3f).toInt64))), .second] [(.long (((p2 &&& (127 : Int32)).toInt64) <<< ((14 : Int32) &&& 0x3f).toInt64)), (.long (((p0 &&& (127 : Int32)).toInt64) ||| (((p1 &&& (127 : Int32)).toInt64) <<< ((7 : Int32) &&& 0x3f).toInt64)))]))
      refine Gl.back (fun _ k => XS.lor X0.here hx rfl (hb hby d15_50) rfl k) ?_
      show Gl _ _ _ _ _ _ _ (s₁.setTop (mkF m 51 #[.val (.int p0), .val (.int p1), .val (.int p2), .val (.int p3), .val (.long (((p0 &&& (127 : Int32)).toInt64) ||| (((p1 &&& (127 : Int32)).toInt64) <<< ((7 : Int32) &&& 0x3f).toInt64))), .second] [(.long ((((p0 &&& (127 : Int32)).toInt64) ||| (((p1 &&& (127 : Int32)).toInt64) <<< ((7 : Int32) &&& 0x3f).toInt64)) ||| (((p2 &&& (127 : Int32)).toInt64) <<< ((14 : Int32) &&& 0x3f).toInt64)))]))
      refine Gl.back (fun _ k => XS.lstore X0.here hx rfl (hb hby d15_51) rfl (l' := #[.val (.int p0), .val (.int p1), .val (.int p2), .val (.int p3), .val (.long ((((p0 &&& (127 : Int32)).toInt64) ||| (((p1 &&& (127 : Int32)).toInt64) <<< ((7 : Int32) &&& 0x3f).toInt64)) ||| (((p2 &&& (127 : Int32)).toInt64) <<< ((14 : Int32) &&& 0x3f).toInt64))), .second]) rfl k) ?_
      show Gl _ _ _ _ _ _ _ (s₁.setTop (mkF m 53 #[.val (.int p0), .val (.int p1), .val (.int p2), .val (.int p3), .val (.long ((((p0 &&& (127 : Int32)).toInt64) ||| (((p1 &&& (127 : Int32)).toInt64) <<< ((7 : Int32) &&& 0x3f).toInt64)) ||| (((p2 &&& (127 : Int32)).toInt64) <<< ((14 : Int32) &&& 0x3f).toInt64))), .second] []))
      refine Gl.back (fun _ k => XS.iloadN X0.here hx rfl (hb hby d15_53) rfl k) ?_
      show Gl _ _ _ _ _ _ _ (s₁.setTop (mkF m 54 #[.val (.int p0), .val (.int p1), .val (.int p2), .val (.int p3), .val (.long ((((p0 &&& (127 : Int32)).toInt64) ||| (((p1 &&& (127 : Int32)).toInt64) <<< ((7 : Int32) &&& 0x3f).toInt64)) ||| (((p2 &&& (127 : Int32)).toInt64) <<< ((14 : Int32) &&& 0x3f).toInt64))), .second] [(.int p2)]))
      refine Gl.back (fun _ k => XS.sipush X0.here hx rfl (hb hby d15_54) k) ?_
      show Gl _ _ _ _ _ _ _ (s₁.setTop (mkF m 57 #[.val (.int p0), .val (.int p1), .val (.int p2), .val (.int p3), .val (.long ((((p0 &&& (127 : Int32)).toInt64) ||| (((p1 &&& (127 : Int32)).toInt64) <<< ((7 : Int32) &&& 0x3f).toInt64)) ||| (((p2 &&& (127 : Int32)).toInt64) <<< ((14 : Int32) &&& 0x3f).toInt64))), .second] [(.int (128 : Int32)), (.int p2)]))
      by_cases hc57_223 : p2 < (128 : Int32)
      · refine Gl.back (fun _ k => XS.icmpNo X0.here hx rfl (hb hby d15_57) rfl (tlt hc57_223).2.1 k) ?_
        show Gl _ _ _ _ _ _ _ (s₁.setTop (mkF m 60 #[.val (.int p0), .val (.int p1), .val (.int p2), .val (.int p3), .val (.long ((((p0 &&& (127 : Int32)).toInt64) ||| (((p1 &&& (127 : Int32)).toInt64) <<< ((7 : Int32) &&& 0x3f).toInt64)) ||| (((p2 &&& (127 : Int32)).toInt64) <<< ((14 : Int32) &&& 0x3f).toInt64))), .second] []))
        refine Gl.back (fun _ k => XS.lload X0.here hx rfl (hb hby d15_60) rfl k) ?_
        show Gl _ _ _ _ _ _ _ (s₁.setTop (mkF m 62 #[.val (.int p0), .val (.int p1), .val (.int p2), .val (.int p3), .val (.long ((((p0 &&& (127 : Int32)).toInt64) ||| (((p1 &&& (127 : Int32)).toInt64) <<< ((7 : Int32) &&& 0x3f).toInt64)) ||| (((p2 &&& (127 : Int32)).toInt64) <<< ((14 : Int32) &&& 0x3f).toInt64))), .second] [(.long ((((p0 &&& (127 : Int32)).toInt64) ||| (((p1 &&& (127 : Int32)).toInt64) <<< ((7 : Int32) &&& 0x3f).toInt64)) ||| (((p2 &&& (127 : Int32)).toInt64) <<< ((14 : Int32) &&& 0x3f).toInt64)))]))
        have hi_m : 2 < mm := (own_nxP ep1 (own_nxP ep0 hm.1 (hf 0 hm.1) hhi hc11_221) (hf 1 (own_nxP ep0 hm.1 (hf 0 hm.1) hhi hc11_221)) hhi hc34_222)
        have em_m : mm = 3 := (own_exP ep2 (own_nxP ep1 (own_nxP ep0 hm.1 (hf 0 hm.1) hhi hc11_221) (hf 1 (own_nxP ep0 hm.1 (hf 0 hm.1) hhi hc11_221)) hhi hc34_222) (hf 2 (own_nxP ep1 (own_nxP ep0 hm.1 (hf 0 hm.1) hhi hc11_221) (hf 1 (own_nxP ep0 hm.1 (hf 0 hm.1) hhi hc11_221)) hhi hc34_222)) hlo hc57_223)
        exact Gl.ret X0 e0 (v := (some (.long ((((p0 &&& (127 : Int32)).toInt64) ||| (((p1 &&& (127 : Int32)).toInt64) <<< ((7 : Int32) &&& 0x3f).toInt64)) ||| (((p2 &&& (127 : Int32)).toInt64) <<< ((14 : Int32) &&& 0x3f).toInt64))))) (fun h => by rw [Bd.returns] at h; cases h) Bd.notSynchronized (fun fs hr => retOut X0 hx (w := (.long ((((p0 &&& (127 : Int32)).toInt64) ||| (((p1 &&& (127 : Int32)).toInt64) <<< ((7 : Int32) &&& 0x3f).toInt64)) ||| (((p2 &&& (127 : Int32)).toInt64) <<< ((14 : Int32) &&& 0x3f).toInt64)))) Bd.returns rfl (Or.inr (Or.inl ⟨rfl, rfl, _, rfl⟩)) (hb hby d15_62) hr) ⟨N0, congrArg (fun z => some (Value.long z)) ((own_rS (own_rS (own_r1 ep0 (hf 0 (by omega))) ep1 (hf 1 (by omega)) rfl) ep2 (hf 2 (by omega)) rfl).trans (congrArg (own_acc ff) em_m.symm)), rfl⟩ (by decide) (by decide)
      · refine Gl.back (fun _ k => XS.icmpYes X0.here hx rfl (pc0 := 57) (pc' := 63) rfl (hb hby d15_57) rfl (flt hc57_223).2.1 (by decide) (by decide) k) ?_
        show Gl _ _ _ _ _ _ _ (s₁.setTop (mkF m 63 #[.val (.int p0), .val (.int p1), .val (.int p2), .val (.int p3), .val (.long ((((p0 &&& (127 : Int32)).toInt64) ||| (((p1 &&& (127 : Int32)).toInt64) <<< ((7 : Int32) &&& 0x3f).toInt64)) ||| (((p2 &&& (127 : Int32)).toInt64) <<< ((14 : Int32) &&& 0x3f).toInt64))), .second] []))
        refine Gl.back (fun _ k => XS.lload X0.here hx rfl (hb hby d15_63) rfl k) ?_
        show Gl _ _ _ _ _ _ _ (s₁.setTop (mkF m 65 #[.val (.int p0), .val (.int p1), .val (.int p2), .val (.int p3), .val (.long ((((p0 &&& (127 : Int32)).toInt64) ||| (((p1 &&& (127 : Int32)).toInt64) <<< ((7 : Int32) &&& 0x3f).toInt64)) ||| (((p2 &&& (127 : Int32)).toInt64) <<< ((14 : Int32) &&& 0x3f).toInt64))), .second] [(.long ((((p0 &&& (127 : Int32)).toInt64) ||| (((p1 &&& (127 : Int32)).toInt64) <<< ((7 : Int32) &&& 0x3f).toInt64)) ||| (((p2 &&& (127 : Int32)).toInt64) <<< ((14 : Int32) &&& 0x3f).toInt64)))]))
        refine Gl.back (fun _ k => XS.iloadN X0.here hx rfl (hb hby d15_65) rfl k) ?_
        show Gl _ _ _ _ _ _ _ (s₁.setTop (mkF m 66 #[.val (.int p0), .val (.int p1), .val (.int p2), .val (.int p3), .val (.long ((((p0 &&& (127 : Int32)).toInt64) ||| (((p1 &&& (127 : Int32)).toInt64) <<< ((7 : Int32) &&& 0x3f).toInt64)) ||| (((p2 &&& (127 : Int32)).toInt64) <<< ((14 : Int32) &&& 0x3f).toInt64))), .second] [(.int p3), (.long ((((p0 &&& (127 : Int32)).toInt64) ||| (((p1 &&& (127 : Int32)).toInt64) <<< ((7 : Int32) &&& 0x3f).toInt64)) ||| (((p2 &&& (127 : Int32)).toInt64) <<< ((14 : Int32) &&& 0x3f).toInt64)))]))
        refine Gl.back (fun _ k => XS.bipush X0.here hx rfl (hb hby d15_66) k) ?_
        show Gl _ _ _ _ _ _ _ (s₁.setTop (mkF m 68 #[.val (.int p0), .val (.int p1), .val (.int p2), .val (.int p3), .val (.long ((((p0 &&& (127 : Int32)).toInt64) ||| (((p1 &&& (127 : Int32)).toInt64) <<< ((7 : Int32) &&& 0x3f).toInt64)) ||| (((p2 &&& (127 : Int32)).toInt64) <<< ((14 : Int32) &&& 0x3f).toInt64))), .second] [(.int (127 : Int32)), (.int p3), (.long ((((p0 &&& (127 : Int32)).toInt64) ||| (((p1 &&& (127 : Int32)).toInt64) <<< ((7 : Int32) &&& 0x3f).toInt64)) ||| (((p2 &&& (127 : Int32)).toInt64) <<< ((14 : Int32) &&& 0x3f).toInt64)))]))
        refine Gl.back (fun _ k => XS.iand X0.here hx rfl (hb hby d15_68) rfl k) ?_
        show Gl _ _ _ _ _ _ _ (s₁.setTop (mkF m 69 #[.val (.int p0), .val (.int p1), .val (.int p2), .val (.int p3), .val (.long ((((p0 &&& (127 : Int32)).toInt64) ||| (((p1 &&& (127 : Int32)).toInt64) <<< ((7 : Int32) &&& 0x3f).toInt64)) ||| (((p2 &&& (127 : Int32)).toInt64) <<< ((14 : Int32) &&& 0x3f).toInt64))), .second] [(.int (p3 &&& (127 : Int32))), (.long ((((p0 &&& (127 : Int32)).toInt64) ||| (((p1 &&& (127 : Int32)).toInt64) <<< ((7 : Int32) &&& 0x3f).toInt64)) ||| (((p2 &&& (127 : Int32)).toInt64) <<< ((14 : Int32) &&& 0x3f).toInt64)))]))
        refine Gl.back (fun _ k => XS.i2l X0.here hx rfl (hb hby d15_69) rfl k) ?_
        show Gl _ _ _ _ _ _ _ (s₁.setTop (mkF m 70 #[.val (.int p0), .val (.int p1), .val (.int p2), .val (.int p3), .val (.long ((((p0 &&& (127 : Int32)).toInt64) ||| (((p1 &&& (127 : Int32)).toInt64) <<< ((7 : Int32) &&& 0x3f).toInt64)) ||| (((p2 &&& (127 : Int32)).toInt64) <<< ((14 : Int32) &&& 0x3f).toInt64))), .second] [(.long ((p3 &&& (127 : Int32)).toInt64)), (.long ((((p0 &&& (127 : Int32)).toInt64) ||| (((p1 &&& (127 : Int32)).toInt64) <<< ((7 : Int32) &&& 0x3f).toInt64)) ||| (((p2 &&& (127 : Int32)).toInt64) <<< ((14 : Int32) &&& 0x3f).toInt64)))]))
        refine Gl.back (fun _ k => XS.bipush X0.here hx rfl (hb hby d15_70) k) ?_
        show Gl _ _ _ _ _ _ _ (s₁.setTop (mkF m 72 #[.val (.int p0), .val (.int p1), .val (.int p2), .val (.int p3), .val (.long ((((p0 &&& (127 : Int32)).toInt64) ||| (((p1 &&& (127 : Int32)).toInt64) <<< ((7 : Int32) &&& 0x3f).toInt64)) ||| (((p2 &&& (127 : Int32)).toInt64) <<< ((14 : Int32) &&& 0x3f).toInt64))), .second] [(.int (21 : Int32)), (.long ((p3 &&& (127 : Int32)).toInt64)), (.long ((((p0 &&& (127 : Int32)).toInt64) ||| (((p1 &&& (127 : Int32)).toInt64) <<< ((7 : Int32) &&& 0x3f).toInt64)) ||| (((p2 &&& (127 : Int32)).toInt64) <<< ((14 : Int32) &&& 0x3f).toInt64)))]))
        refine Gl.back (fun _ k => XS.lshl X0.here hx rfl (hb hby d15_72) rfl k) ?_
        show Gl _ _ _ _ _ _ _ (s₁.setTop (mkF m 73 #[.val (.int p0), .val (.int p1), .val (.int p2), .val (.int p3), .val (.long ((((p0 &&& (127 : Int32)).toInt64) ||| (((p1 &&& (127 : Int32)).toInt64) <<< ((7 : Int32) &&& 0x3f).toInt64)) ||| (((p2 &&& (127 : Int32)).toInt64) <<< ((14 : Int32) &&& 0x3f).toInt64))), .second] [(.long (((p3 &&& (127 : Int32)).toInt64) <<< ((21 : Int32) &&& 0x3f).toInt64)), (.long ((((p0 &&& (127 : Int32)).toInt64) ||| (((p1 &&& (127 : Int32)).toInt64) <<< ((7 : Int32) &&& 0x3f).toInt64)) ||| (((p2 &&& (127 : Int32)).toInt64) <<< ((14 : Int32) &&& 0x3f).toInt64)))]))
        refine Gl.back (fun _ k => XS.lor X0.here hx rfl (hb hby d15_73) rfl k) ?_
        show Gl _ _ _ _ _ _ _ (s₁.setTop (mkF m 74 #[.val (.int p0), .val (.int p1), .val (.int p2), .val (.int p3), .val (.long ((((p0 &&& (127 : Int32)).toInt64) ||| (((p1 &&& (127 : Int32)).toInt64) <<< ((7 : Int32) &&& 0x3f).toInt64)) ||| (((p2 &&& (127 : Int32)).toInt64) <<< ((14 : Int32) &&& 0x3f).toInt64))), .second] [(.long (((((p0 &&& (127 : Int32)).toInt64) ||| (((p1 &&& (127 : Int32)).toInt64) <<< ((7 : Int32) &&& 0x3f).toInt64)) ||| (((p2 &&& (127 : Int32)).toInt64) <<< ((14 : Int32) &&& 0x3f).toInt64)) ||| (((p3 &&& (127 : Int32)).toInt64) <<< ((21 : Int32) &&& 0x3f).toInt64)))]))
        have hi_m : 3 < mm := (own_nxP ep2 (own_nxP ep1 (own_nxP ep0 hm.1 (hf 0 hm.1) hhi hc11_221) (hf 1 (own_nxP ep0 hm.1 (hf 0 hm.1) hhi hc11_221)) hhi hc34_222) (hf 2 (own_nxP ep1 (own_nxP ep0 hm.1 (hf 0 hm.1) hhi hc11_221) (hf 1 (own_nxP ep0 hm.1 (hf 0 hm.1) hhi hc11_221)) hhi hc34_222)) hhi hc57_223)
        have em_m : mm = 4 := (own_e4 hm.2 (own_nxP ep2 (own_nxP ep1 (own_nxP ep0 hm.1 (hf 0 hm.1) hhi hc11_221) (hf 1 (own_nxP ep0 hm.1 (hf 0 hm.1) hhi hc11_221)) hhi hc34_222) (hf 2 (own_nxP ep1 (own_nxP ep0 hm.1 (hf 0 hm.1) hhi hc11_221) (hf 1 (own_nxP ep0 hm.1 (hf 0 hm.1) hhi hc11_221)) hhi hc34_222)) hhi hc57_223))
        exact Gl.ret X0 e0 (v := (some (.long (((((p0 &&& (127 : Int32)).toInt64) ||| (((p1 &&& (127 : Int32)).toInt64) <<< ((7 : Int32) &&& 0x3f).toInt64)) ||| (((p2 &&& (127 : Int32)).toInt64) <<< ((14 : Int32) &&& 0x3f).toInt64)) ||| (((p3 &&& (127 : Int32)).toInt64) <<< ((21 : Int32) &&& 0x3f).toInt64))))) (fun h => by rw [Bd.returns] at h; cases h) Bd.notSynchronized (fun fs hr => retOut X0 hx (w := (.long (((((p0 &&& (127 : Int32)).toInt64) ||| (((p1 &&& (127 : Int32)).toInt64) <<< ((7 : Int32) &&& 0x3f).toInt64)) ||| (((p2 &&& (127 : Int32)).toInt64) <<< ((14 : Int32) &&& 0x3f).toInt64)) ||| (((p3 &&& (127 : Int32)).toInt64) <<< ((21 : Int32) &&& 0x3f).toInt64)))) Bd.returns rfl (Or.inr (Or.inl ⟨rfl, rfl, _, rfl⟩)) (hb hby d15_74) hr) ⟨N0, congrArg (fun z => some (Value.long z)) ((own_rS (own_rS (own_rS (own_r1 ep0 (hf 0 (by omega))) ep1 (hf 1 (by omega)) rfl) ep2 (hf 2 (by omega)) rfl) ep3 (hf 3 (by omega)) rfl).trans (congrArg (own_acc ff) em_m.symm)), rfl⟩ (by decide) (by decide)
theorem d16_0 : decode method_3_code 0 = .ok (.iload_n 0, 1) := by decide +kernel
theorem d16_1 : decode method_3_code 1 = .ok (.sipush 128, 3) := by decide +kernel
theorem d16_4 : decode method_3_code 4 = .ok (.if_icmp .ge 5, 3) := by decide +kernel
theorem d16_7 : decode method_3_code 7 = .ok (.iconst 1, 1) := by decide +kernel
theorem d16_8 : decode method_3_code 8 = .ok (.ireturn, 1) := by decide +kernel
theorem d16_9 : decode method_3_code 9 = .ok (.iload_n 1, 1) := by decide +kernel
theorem d16_10 : decode method_3_code 10 = .ok (.sipush 128, 3) := by decide +kernel
theorem d16_13 : decode method_3_code 13 = .ok (.if_icmp .ge 5, 3) := by decide +kernel
theorem d16_16 : decode method_3_code 16 = .ok (.iconst 2, 1) := by decide +kernel
theorem d16_17 : decode method_3_code 17 = .ok (.ireturn, 1) := by decide +kernel
theorem d16_18 : decode method_3_code 18 = .ok (.iload_n 2, 1) := by decide +kernel
theorem d16_19 : decode method_3_code 19 = .ok (.sipush 128, 3) := by decide +kernel
theorem d16_22 : decode method_3_code 22 = .ok (.if_icmp .ge 5, 3) := by decide +kernel
theorem d16_25 : decode method_3_code 25 = .ok (.iconst 3, 1) := by decide +kernel
theorem d16_26 : decode method_3_code 26 = .ok (.ireturn, 1) := by decide +kernel
theorem d16_27 : decode method_3_code 27 = .ok (.iconst 4, 1) := by decide +kernel
theorem d16_28 : decode method_3_code 28 = .ok (.ireturn, 1) := by decide +kernel
theorem ef_ln (m : MethodId) (x0 : Int32) (x1 : Int32) (x2 : Int32) : entryFrame m #[(.int x0), (.int x1), (.int x2)] 3 = mkF m 0 #[.val (.int x0), .val (.int x1), .val (.int x2)] [] := by first | (simp [entryFrame, mkF, argsToLocals, Value.category]; done) | rfl
def Qln (Z : State) (p0 : Int32) (p1 : Int32) (p2 : Int32) (ff : Nat → Nat) (mm : Nat) (h0 : Heap) (n0 : Nat) (v : Option Value) (h : Heap) (L : List Loc) : Prop := Fr n0 L ∧ (v = some (.int (Int32.ofNat mm)) ∧ h = h0)
set_option maxRecDepth 65536 in
set_option maxHeartbeats 40000000 in
theorem rmln (l : Launch) (Z : State) (a0 : Array Value) (hw : ∀ d ∈ tables_1, d.before a0 Z = true) (ws : List Jvm.Cond) (p0 : Int32) (p1 : Int32) (p2 : Int32) (ff : Nat → Nat) (mm : Nat) (h0 : Heap) (n0 : Nat) (Z0 : n0 ≤ h0.size) (ep0 : p0 = Int32.ofNat (ff 0)) (ep1 : p1 = Int32.ofNat (ff 1)) (ep2 : p2 = Int32.ofNat (ff 2)) (hf : ∀ i, i < mm → ff i < 256) (hlo : ∀ i, i + 1 < mm → 128 ≤ ff i) (hhi : ff (mm - 1) < 128) (hm : 1 ≤ mm ∧ mm ≤ 4) :
    MetFree l (⟨"com/example/harbourlink/harbourlink/scratch/ReaderNumberPinLaw", "len", "(III)I"⟩ : MethodName) (head1 (Jvm.Cond.code (⟨"com/example/harbourlink/harbourlink/scratch/ReaderNumberPinLaw", "len", "(III)I"⟩ : MethodName) method_3_code 3 (some .int) :: ws) ({ frames := 0, cells := 0, slots := 0, locals := 0 } : Room)) (fun as0 U => as0 = #[(.int p0), (.int p1), (.int p2)] ∧ Z.Warmed39 U.vm ∧ U.heap = h0) (fun _ _ _ _ _ => True) (fun _ U oc0 U' => ∃ v L, oc0 = .returned v ∧ Qln Z p0 p1 p2 ff mm h0 n0 v U'.heap L ∧ FrameEnd U oc0 U' L ({ frames := 0, cells := 0, slots := 0, locals := 0 } : Room).cells ({ frames := 0, cells := 0, slots := 0, locals := 0 } : Room).slots) := by
  refine MetFree.of_bodySF (plainFor_of_name pn_com_example_harbourlink_harbourlink_scratch_ReaderNumberPinLaw) hisR ?_
  intro p e s m args below meth c s₁ Bd hml0 hP hK
  obtain ⟨rfl, hZ, hh⟩ := hP
  have hx := Bd.exec
  have hby := Bd.bytes
  have hml : c.maxLocals = 3 := hml0
  have hown : s.vm.findClass "com/example/harbourlink/harbourlink/scratch/ReaderNumberPinLaw" = some m.cls := findClass_of_methodNamed Bd.named
  have hnm := (name_of_methodNamed Bd.named Bd.method).1
  have X0 : Stand p l e ({ frames := 0, cells := 0, slots := 0, locals := 0 } : Room) s m #[(.int p0), (.int p1), (.int p2)] below meth c s₁ [] 0 0 := Stand.of_body Bd
  have e0 : s₁.heap = h0 := by rw [← hh, Bd.state]; rfl
  have N0 := Fr.nil n0
  show Gl p e below s (Qln Z p0 p1 p2 ff mm h0 n0) ({ frames := 0, cells := 0, slots := 0, locals := 0 } : Room).cells ({ frames := 0, cells := 0, slots := 0, locals := 0 } : Room).slots (s₁.setTop (entryFrame m #[(.int p0), (.int p1), (.int p2)] 3))
  refine Gl.back (fun _ k => castTop (ef_ln m p0 p1 p2) k) ?_
  show Gl _ _ _ _ _ _ _ (s₁.setTop (mkF m 0 #[.val (.int p0), .val (.int p1), .val (.int p2)] []))
  refine Gl.back (fun _ k => XS.iloadN X0.here hx rfl (hb hby d16_0) rfl k) ?_
  show Gl _ _ _ _ _ _ _ (s₁.setTop (mkF m 1 #[.val (.int p0), .val (.int p1), .val (.int p2)] [(.int p0)]))
  refine Gl.back (fun _ k => XS.sipush X0.here hx rfl (hb hby d16_1) k) ?_
  show Gl _ _ _ _ _ _ _ (s₁.setTop (mkF m 4 #[.val (.int p0), .val (.int p1), .val (.int p2)] [(.int (128 : Int32)), (.int p0)]))
  by_cases hc4_224 : p0 < (128 : Int32)
  · refine Gl.back (fun _ k => XS.icmpNo X0.here hx rfl (hb hby d16_4) rfl (tlt hc4_224).2.1 k) ?_
    show Gl _ _ _ _ _ _ _ (s₁.setTop (mkF m 7 #[.val (.int p0), .val (.int p1), .val (.int p2)] []))
    refine Gl.back (fun _ k => XS.iconst X0.here hx rfl (hb hby d16_7) k) ?_
    show Gl _ _ _ _ _ _ _ (s₁.setTop (mkF m 8 #[.val (.int p0), .val (.int p1), .val (.int p2)] [(.int (1 : Int32))]))
    exact Gl.ret X0 e0 (v := (some (.int (1 : Int32)))) (fun h => by rw [Bd.returns] at h; cases h) Bd.notSynchronized (fun fs hr => retOut X0 hx (w := (.int (1 : Int32))) Bd.returns rfl (Or.inl ⟨rfl, Or.inl rfl, _, rfl⟩) (hb hby d16_8) hr) ⟨N0, congrArg (fun z => some (Value.int (Int32.ofNat z))) (Eq.symm (own_exP ep0 hm.1 (hf 0 hm.1) hlo hc4_224)), rfl⟩ (by decide) (by decide)
  · refine Gl.back (fun _ k => XS.icmpYes X0.here hx rfl (pc0 := 4) (pc' := 9) rfl (hb hby d16_4) rfl (flt hc4_224).2.1 (by decide) (by decide) k) ?_
    show Gl _ _ _ _ _ _ _ (s₁.setTop (mkF m 9 #[.val (.int p0), .val (.int p1), .val (.int p2)] []))
    refine Gl.back (fun _ k => XS.iloadN X0.here hx rfl (hb hby d16_9) rfl k) ?_
    show Gl _ _ _ _ _ _ _ (s₁.setTop (mkF m 10 #[.val (.int p0), .val (.int p1), .val (.int p2)] [(.int p1)]))
    refine Gl.back (fun _ k => XS.sipush X0.here hx rfl (hb hby d16_10) k) ?_
    show Gl _ _ _ _ _ _ _ (s₁.setTop (mkF m 13 #[.val (.int p0), .val (.int p1), .val (.int p2)] [(.int (128 : Int32)), (.int p1)]))
    by_cases hc13_225 : p1 < (128 : Int32)
    · refine Gl.back (fun _ k => XS.icmpNo X0.here hx rfl (hb hby d16_13) rfl (tlt hc13_225).2.1 k) ?_
      show Gl _ _ _ _ _ _ _ (s₁.setTop (mkF m 16 #[.val (.int p0), .val (.int p1), .val (.int p2)] []))
      refine Gl.back (fun _ k => XS.iconst X0.here hx rfl (hb hby d16_16) k) ?_
      show Gl _ _ _ _ _ _ _ (s₁.setTop (mkF m 17 #[.val (.int p0), .val (.int p1), .val (.int p2)] [(.int (2 : Int32))]))
      exact Gl.ret X0 e0 (v := (some (.int (2 : Int32)))) (fun h => by rw [Bd.returns] at h; cases h) Bd.notSynchronized (fun fs hr => retOut X0 hx (w := (.int (2 : Int32))) Bd.returns rfl (Or.inl ⟨rfl, Or.inl rfl, _, rfl⟩) (hb hby d16_17) hr) ⟨N0, congrArg (fun z => some (Value.int (Int32.ofNat z))) (Eq.symm (own_exP ep1 (own_nxP ep0 hm.1 (hf 0 hm.1) hhi hc4_224) (hf 1 (own_nxP ep0 hm.1 (hf 0 hm.1) hhi hc4_224)) hlo hc13_225)), rfl⟩ (by decide) (by decide)
    · refine Gl.back (fun _ k => XS.icmpYes X0.here hx rfl (pc0 := 13) (pc' := 18) rfl (hb hby d16_13) rfl (flt hc13_225).2.1 (by decide) (by decide) k) ?_
      show Gl _ _ _ _ _ _ _ (s₁.setTop (mkF m 18 #[.val (.int p0), .val (.int p1), .val (.int p2)] []))
      refine Gl.back (fun _ k => XS.iloadN X0.here hx rfl (hb hby d16_18) rfl k) ?_
      show Gl _ _ _ _ _ _ _ (s₁.setTop (mkF m 19 #[.val (.int p0), .val (.int p1), .val (.int p2)] [(.int p2)]))
      refine Gl.back (fun _ k => XS.sipush X0.here hx rfl (hb hby d16_19) k) ?_
      show Gl _ _ _ _ _ _ _ (s₁.setTop (mkF m 22 #[.val (.int p0), .val (.int p1), .val (.int p2)] [(.int (128 : Int32)), (.int p2)]))
      by_cases hc22_226 : p2 < (128 : Int32)
      · refine Gl.back (fun _ k => XS.icmpNo X0.here hx rfl (hb hby d16_22) rfl (tlt hc22_226).2.1 k) ?_
        show Gl _ _ _ _ _ _ _ (s₁.setTop (mkF m 25 #[.val (.int p0), .val (.int p1), .val (.int p2)] []))
        refine Gl.back (fun _ k => XS.iconst X0.here hx rfl (hb hby d16_25) k) ?_
        show Gl _ _ _ _ _ _ _ (s₁.setTop (mkF m 26 #[.val (.int p0), .val (.int p1), .val (.int p2)] [(.int (3 : Int32))]))
        exact Gl.ret X0 e0 (v := (some (.int (3 : Int32)))) (fun h => by rw [Bd.returns] at h; cases h) Bd.notSynchronized (fun fs hr => retOut X0 hx (w := (.int (3 : Int32))) Bd.returns rfl (Or.inl ⟨rfl, Or.inl rfl, _, rfl⟩) (hb hby d16_26) hr) ⟨N0, congrArg (fun z => some (Value.int (Int32.ofNat z))) (Eq.symm (own_exP ep2 (own_nxP ep1 (own_nxP ep0 hm.1 (hf 0 hm.1) hhi hc4_224) (hf 1 (own_nxP ep0 hm.1 (hf 0 hm.1) hhi hc4_224)) hhi hc13_225) (hf 2 (own_nxP ep1 (own_nxP ep0 hm.1 (hf 0 hm.1) hhi hc4_224) (hf 1 (own_nxP ep0 hm.1 (hf 0 hm.1) hhi hc4_224)) hhi hc13_225)) hlo hc22_226)), rfl⟩ (by decide) (by decide)
      · refine Gl.back (fun _ k => XS.icmpYes X0.here hx rfl (pc0 := 22) (pc' := 27) rfl (hb hby d16_22) rfl (flt hc22_226).2.1 (by decide) (by decide) k) ?_
        show Gl _ _ _ _ _ _ _ (s₁.setTop (mkF m 27 #[.val (.int p0), .val (.int p1), .val (.int p2)] []))
        refine Gl.back (fun _ k => XS.iconst X0.here hx rfl (hb hby d16_27) k) ?_
        show Gl _ _ _ _ _ _ _ (s₁.setTop (mkF m 28 #[.val (.int p0), .val (.int p1), .val (.int p2)] [(.int (4 : Int32))]))
        exact Gl.ret X0 e0 (v := (some (.int (4 : Int32)))) (fun h => by rw [Bd.returns] at h; cases h) Bd.notSynchronized (fun fs hr => retOut X0 hx (w := (.int (4 : Int32))) Bd.returns rfl (Or.inl ⟨rfl, Or.inl rfl, _, rfl⟩) (hb hby d16_28) hr) ⟨N0, congrArg (fun z => some (Value.int (Int32.ofNat z))) (Eq.symm (own_e4 hm.2 (own_nxP ep2 (own_nxP ep1 (own_nxP ep0 hm.1 (hf 0 hm.1) hhi hc4_224) (hf 1 (own_nxP ep0 hm.1 (hf 0 hm.1) hhi hc4_224)) hhi hc13_225) (hf 2 (own_nxP ep1 (own_nxP ep0 hm.1 (hf 0 hm.1) hhi hc4_224) (hf 1 (own_nxP ep0 hm.1 (hf 0 hm.1) hhi hc4_224)) hhi hc13_225)) hhi hc22_226))), rfl⟩ (by decide) (by decide)
theorem pd__J_Lcom_example_harbourlink_harbourlink_scratch_Packing_Writer_ : parseMethodDescriptor "(J)Lcom/example/harbourlink/harbourlink/scratch/Packing$Writer;" = some ⟨[.long], some (.object "com/example/harbourlink/harbourlink/scratch/Packing$Writer")⟩ := by decide +kernel
theorem pd___BI_V : parseMethodDescriptor "([BI)V" = some ⟨[(.array .byte), .int], none⟩ := by decide +kernel
theorem pd___J : parseMethodDescriptor "()J" = some ⟨[], some .long⟩ := by decide +kernel
theorem pd__IIII_J : parseMethodDescriptor "(IIII)J" = some ⟨[.int, .int, .int, .int], some .long⟩ := by decide +kernel
theorem pd__III_I : parseMethodDescriptor "(III)I" = some ⟨[.int, .int, .int], some .int⟩ := by decide +kernel
theorem ef_0 (m : MethodId) (x0 : Int64) (x1 : Int64) (x2 : Int32) (x3 : Int32) : entryFrame m #[(.long x0), (.long x1), (.int x2), (.int x3)] maxLocals = mkF m 0 #[.val (.long x0), .second, .val (.long x1), .second, .val (.int x2), .val (.int x3), .unset, .unset, .unset, .unset, .unset, .unset, .unset, .unset, .unset, .unset, .unset, .unset, .unset, .unset, .unset, .unset, .unset, .unset, .unset, .unset, .unset, .unset, .unset, .unset, .unset, .unset, .unset, .unset, .unset] [] := by first | (simp [entryFrame, mkF, argsToLocals, Value.category, maxLocals]; done) | rfl
def Q0 (Z : State) (j0 : Int64) (j1 : Int64) (i4 : Int32) (i5 : Int32) (h0 : Heap) (n0 : Nat) (v : Option Value) (h : Heap) (L : List Loc) : Prop := Fr n0 L ∧ (v = some (.int 1))
set_option maxRecDepth 65536 in
set_option maxHeartbeats 40000000 in
theorem rm0 (l : Launch) (Z : State) (a0 : Array Value) (hw : ∀ d ∈ tables_1, d.before a0 Z = true) (ws : List Jvm.Cond) (j0 : Int64) (j1 : Int64) (i4 : Int32) (i5 : Int32) (h0 : Heap) (n0 : Nat) (Z0 : n0 ≤ h0.size) :
    MetFree l x (head1 (Jvm.Cond.code x code maxLocals ret :: ws) room_1) (fun as0 U => as0 = #[(.long j0), (.long j1), (.int i4), (.int i5)] ∧ Z.Warmed39 U.vm ∧ U.heap = h0) (fun _ _ _ _ _ => True) (fun _ U oc0 U' => ∃ v L, oc0 = .returned v ∧ Q0 Z j0 j1 i4 i5 h0 n0 v U'.heap L ∧ FrameEnd U oc0 U' L room_1.cells room_1.slots) := by
  refine MetFree.of_bodySF (plainFor_of_name pn_com_example_harbourlink_harbourlink_scratch_ReaderNumberPinLaw) hisR ?_
  intro p e s m args below meth c s₁ Bd hml0 hP hK
  obtain ⟨rfl, hZ, hh⟩ := hP
  have hx := Bd.exec
  have hby := Bd.bytes
  have hml : c.maxLocals = 35 := hml0
  have hown : s.vm.findClass "com/example/harbourlink/harbourlink/scratch/ReaderNumberPinLaw" = some m.cls := findClass_of_methodNamed Bd.named
  have hnm := (name_of_methodNamed Bd.named Bd.method).1
  have X0 : Stand p l e room_1 s m #[(.long j0), (.long j1), (.int i4), (.int i5)] below meth c s₁ [] 0 0 := Stand.of_body Bd
  have e0 : s₁.heap = h0 := by rw [← hh, Bd.state]; rfl
  have N0 := Fr.nil n0
  show Gl p e below s (Q0 Z j0 j1 i4 i5 h0 n0) room_1.cells room_1.slots (s₁.setTop (entryFrame m #[(.long j0), (.long j1), (.int i4), (.int i5)] maxLocals))
  refine Gl.back (fun _ k => castTop (ef_0 m j0 j1 i4 i5) k) ?_
  show Gl _ _ _ _ _ _ _ (s₁.setTop (mkF m 0 #[.val (.long j0), .second, .val (.long j1), .second, .val (.int i4), .val (.int i5), .unset, .unset, .unset, .unset, .unset, .unset, .unset, .unset, .unset, .unset, .unset, .unset, .unset, .unset, .unset, .unset, .unset, .unset, .unset, .unset, .unset, .unset, .unset, .unset, .unset, .unset, .unset, .unset, .unset] []))
  refine Gl.back (fun _ k => XS.lloadN X0.here hx rfl (hb hby at_0) rfl k) ?_
  show Gl _ _ _ _ _ _ _ (s₁.setTop (mkF m 1 #[.val (.long j0), .second, .val (.long j1), .second, .val (.int i4), .val (.int i5), .unset, .unset, .unset, .unset, .unset, .unset, .unset, .unset, .unset, .unset, .unset, .unset, .unset, .unset, .unset, .unset, .unset, .unset, .unset, .unset, .unset, .unset, .unset, .unset, .unset, .unset, .unset, .unset, .unset] [(.long j0)]))
  refine Gl.back (fun _ k => X0.ldc2Long hx hown (mvT hZ (hw _ (List.mem_of_getElem? (i := 0) rfl))) (g := (mkF m 1 #[.val (.long j0), .second, .val (.long j1), .second, .val (.int i4), .val (.int i5), .unset, .unset, .unset, .unset, .unset, .unset, .unset, .unset, .unset, .unset, .unset, .unset, .unset, .unset, .unset, .unset, .unset, .unset, .unset, .unset, .unset, .unset, .unset, .unset, .unset, .unset, .unset, .unset, .unset] [(.long j0)])) rfl (hb hby at_1) _ k) ?_
  show Gl _ _ _ _ _ _ _ (s₁.setTop (mkF m 4 #[.val (.long j0), .second, .val (.long j1), .second, .val (.int i4), .val (.int i5), .unset, .unset, .unset, .unset, .unset, .unset, .unset, .unset, .unset, .unset, .unset, .unset, .unset, .unset, .unset, .unset, .unset, .unset, .unset, .unset, .unset, .unset, .unset, .unset, .unset, .unset, .unset, .unset, .unset] [(.long (9223372036854775807 : Int64)), (.long j0)]))
  refine Gl.back (fun _ k => XS.land X0.here hx rfl (hb hby at_4) rfl k) ?_
  show Gl _ _ _ _ _ _ _ (s₁.setTop (mkF m 5 #[.val (.long j0), .second, .val (.long j1), .second, .val (.int i4), .val (.int i5), .unset, .unset, .unset, .unset, .unset, .unset, .unset, .unset, .unset, .unset, .unset, .unset, .unset, .unset, .unset, .unset, .unset, .unset, .unset, .unset, .unset, .unset, .unset, .unset, .unset, .unset, .unset, .unset, .unset] [(.long (j0 &&& (9223372036854775807 : Int64)))]))
  refine Gl.back (fun _ k => XS.lstore X0.here hx rfl (hb hby at_5) rfl (l' := #[.val (.long j0), .second, .val (.long j1), .second, .val (.int i4), .val (.int i5), .val (.long (j0 &&& (9223372036854775807 : Int64))), .second, .unset, .unset, .unset, .unset, .unset, .unset, .unset, .unset, .unset, .unset, .unset, .unset, .unset, .unset, .unset, .unset, .unset, .unset, .unset, .unset, .unset, .unset, .unset, .unset, .unset, .unset, .unset]) rfl k) ?_
  show Gl _ _ _ _ _ _ _ (s₁.setTop (mkF m 7 #[.val (.long j0), .second, .val (.long j1), .second, .val (.int i4), .val (.int i5), .val (.long (j0 &&& (9223372036854775807 : Int64))), .second, .unset, .unset, .unset, .unset, .unset, .unset, .unset, .unset, .unset, .unset, .unset, .unset, .unset, .unset, .unset, .unset, .unset, .unset, .unset, .unset, .unset, .unset, .unset, .unset, .unset, .unset, .unset] []))
  refine Gl.back (fun _ k => XS.lloadN X0.here hx rfl (hb hby at_7) rfl k) ?_
  show Gl _ _ _ _ _ _ _ (s₁.setTop (mkF m 8 #[.val (.long j0), .second, .val (.long j1), .second, .val (.int i4), .val (.int i5), .val (.long (j0 &&& (9223372036854775807 : Int64))), .second, .unset, .unset, .unset, .unset, .unset, .unset, .unset, .unset, .unset, .unset, .unset, .unset, .unset, .unset, .unset, .unset, .unset, .unset, .unset, .unset, .unset, .unset, .unset, .unset, .unset, .unset, .unset] [(.long j1)]))
  refine Gl.back (fun _ k => X0.ldc2Long hx hown (mvT hZ (hw _ (List.mem_of_getElem? (i := 0) rfl))) (g := (mkF m 8 #[.val (.long j0), .second, .val (.long j1), .second, .val (.int i4), .val (.int i5), .val (.long (j0 &&& (9223372036854775807 : Int64))), .second, .unset, .unset, .unset, .unset, .unset, .unset, .unset, .unset, .unset, .unset, .unset, .unset, .unset, .unset, .unset, .unset, .unset, .unset, .unset, .unset, .unset, .unset, .unset, .unset, .unset, .unset, .unset] [(.long j1)])) rfl (hb hby at_8) _ k) ?_
  show Gl _ _ _ _ _ _ _ (s₁.setTop (mkF m 11 #[.val (.long j0), .second, .val (.long j1), .second, .val (.int i4), .val (.int i5), .val (.long (j0 &&& (9223372036854775807 : Int64))), .second, .unset, .unset, .unset, .unset, .unset, .unset, .unset, .unset, .unset, .unset, .unset, .unset, .unset, .unset, .unset, .unset, .unset, .unset, .unset, .unset, .unset, .unset, .unset, .unset, .unset, .unset, .unset] [(.long (9223372036854775807 : Int64)), (.long j1)]))
  refine Gl.back (fun _ k => XS.land X0.here hx rfl (hb hby at_11) rfl k) ?_
  show Gl _ _ _ _ _ _ _ (s₁.setTop (mkF m 12 #[.val (.long j0), .second, .val (.long j1), .second, .val (.int i4), .val (.int i5), .val (.long (j0 &&& (9223372036854775807 : Int64))), .second, .unset, .unset, .unset, .unset, .unset, .unset, .unset, .unset, .unset, .unset, .unset, .unset, .unset, .unset, .unset, .unset, .unset, .unset, .unset, .unset, .unset, .unset, .unset, .unset, .unset, .unset, .unset] [(.long (j1 &&& (9223372036854775807 : Int64)))]))
  refine Gl.back (fun _ k => XS.lstore X0.here hx rfl (hb hby at_12) rfl (l' := #[.val (.long j0), .second, .val (.long j1), .second, .val (.int i4), .val (.int i5), .val (.long (j0 &&& (9223372036854775807 : Int64))), .second, .val (.long (j1 &&& (9223372036854775807 : Int64))), .second, .unset, .unset, .unset, .unset, .unset, .unset, .unset, .unset, .unset, .unset, .unset, .unset, .unset, .unset, .unset, .unset, .unset, .unset, .unset, .unset, .unset, .unset, .unset, .unset, .unset]) rfl k) ?_
  show Gl _ _ _ _ _ _ _ (s₁.setTop (mkF m 14 #[.val (.long j0), .second, .val (.long j1), .second, .val (.int i4), .val (.int i5), .val (.long (j0 &&& (9223372036854775807 : Int64))), .second, .val (.long (j1 &&& (9223372036854775807 : Int64))), .second, .unset, .unset, .unset, .unset, .unset, .unset, .unset, .unset, .unset, .unset, .unset, .unset, .unset, .unset, .unset, .unset, .unset, .unset, .unset, .unset, .unset, .unset, .unset, .unset, .unset] []))
  have hp_xa : ¬ (j0 &&& (9223372036854775807 : Int64)) < 0 := own_mask _
  generalize (j0 &&& (9223372036854775807 : Int64)) = xa at hp_xa ⊢
  have hX_xa : xa.toInt = ((xa.toInt.toNat : Nat) : Int) := own_tn hp_xa
  have hp_xb : ¬ (j1 &&& (9223372036854775807 : Int64)) < 0 := own_mask _
  generalize (j1 &&& (9223372036854775807 : Int64)) = xb at hp_xb ⊢
  have hX_xb : xb.toInt = ((xb.toInt.toNat : Nat) : Int) := own_tn hp_xb
  show Gl _ _ _ _ _ _ _ (s₁.setTop (mkF m 14 #[.val (.long j0), .second, .val (.long j1), .second, .val (.int i4), .val (.int i5), .val (.long xa), .second, .val (.long xb), .second, .unset, .unset, .unset, .unset, .unset, .unset, .unset, .unset, .unset, .unset, .unset, .unset, .unset, .unset, .unset, .unset, .unset, .unset, .unset, .unset, .unset, .unset, .unset, .unset, .unset] []))
  obtain ⟨T227, h227, X227, e227, E227, A227, D227, -, st227⟩ := newO X0 hx hZ hown (hw _ (List.mem_of_getElem? (i := 1) rfl)) (hw _ (List.mem_of_getElem? (i := 2) rfl)) (hw _ (List.mem_of_getElem? (i := 3) rfl)) e0 (g := (mkF m 14 #[.val (.long j0), .second, .val (.long j1), .second, .val (.int i4), .val (.int i5), .val (.long xa), .second, .val (.long xb), .second, .unset, .unset, .unset, .unset, .unset, .unset, .unset, .unset, .unset, .unset, .unset, .unset, .unset, .unset, .unset, .unset, .unset, .unset, .unset, .unset, .unset, .unset, .unset, .unset, .unset] [])) rfl (hb hby at_14) (by decide) (by decide)
  obtain ⟨b227, g227⟩ : ∃ z, z = h0.size := ⟨_, rfl⟩
  rw [← g227] at A227 D227 st227
  have g_b227 : n0 ≤ b227 := Nat.le_trans Z0 (Nat.le_of_eq g227.symm)
  have sz_b227 : h0.size ≤ b227 := Nat.le_trans (Keep.refl h0 []).1 (Nat.le_of_eq g227.symm)
  have Z227 : n0 ≤ h227.size := Nat.le_trans Z0 E227.1
  have K227 := Keep.ext (Keep.refl h0 []) E227
  have F227_packed : Fld Z h227 b227 "com/example/harbourlink/harbourlink/scratch/Packing$Writer" "packed" "Ljava/io/ByteArrayOutputStream;" .null := D227 (Or.inr (hw _ (List.mem_of_getElem? (i := 31) rfl))) (ty := (.object "java/io/ByteArrayOutputStream")) (by decide)
  refine Gl.back (fun _ k => st227 _ k) ?_
  show Gl _ _ _ _ _ _ _ (T227.setTop (mkF m 17 #[.val (.long j0), .second, .val (.long j1), .second, .val (.int i4), .val (.int i5), .val (.long xa), .second, .val (.long xb), .second, .unset, .unset, .unset, .unset, .unset, .unset, .unset, .unset, .unset, .unset, .unset, .unset, .unset, .unset, .unset, .unset, .unset, .unset, .unset, .unset, .unset, .unset, .unset, .unset, .unset] [(.ref b227)]))
  refine Gl.back (fun _ k => XS.dup X227.here hx rfl (hb hby at_17) rfl rfl k) ?_
  show Gl _ _ _ _ _ _ _ (T227.setTop (mkF m 18 #[.val (.long j0), .second, .val (.long j1), .second, .val (.int i4), .val (.int i5), .val (.long xa), .second, .val (.long xb), .second, .unset, .unset, .unset, .unset, .unset, .unset, .unset, .unset, .unset, .unset, .unset, .unset, .unset, .unset, .unset, .unset, .unset, .unset, .unset, .unset, .unset, .unset, .unset, .unset, .unset] [(.ref b227), (.ref b227)]))
  obtain ⟨_, _, ⟨T228, L228, k228, n228⟩, -, X228, ⟨Lc228, hQ228, l228, y228, z228⟩, st228⟩ := X227.specialBack hx (y := (⟨"com/example/harbourlink/harbourlink/scratch/Packing$Writer", "<init>", "()V"⟩ : MethodName)) rfl hown (mvT hZ (hw _ (List.mem_of_getElem? (i := 4) rfl))) (mvT hZ (hw _ (List.mem_of_getElem? (i := 5) rfl))) (mvT hZ (hw _ (List.mem_of_getElem? (i := 6) rfl))) (by decide) (backOf (W := 1) (rmwi l Z a0 hw [] b227  h227 n0 Z227 g_b227 A227 F227_packed) hZ (hw _ (List.mem_of_getElem? (i := 6) rfl)) (hw _ (List.mem_of_getElem? (i := 3) rfl)) (by decide) (by decide)) (g := (mkF m 18 #[.val (.long j0), .second, .val (.long j1), .second, .val (.int i4), .val (.int i5), .val (.long xa), .second, .val (.long xb), .second, .unset, .unset, .unset, .unset, .unset, .unset, .unset, .unset, .unset, .unset, .unset, .unset, .unset, .unset, .unset, .unset, .unset, .unset, .unset, .unset, .unset, .unset, .unset, .unset, .unset] [(.ref b227), (.ref b227)])) rfl (by rw [hml]; rfl) (Steps.refl _) (a := b227) (argsL := []) (rest := [(.ref b227)]) (lenOf pd___V rfl) rfl (by show 2 * 0 + _ ≤ _; exact Nat.le_of_eq rfl) (hb hby at_18) (fun _ _ => ⟨rfl, e227, (by decide : 1 + 2 ≤ _), (by decide : 1 + 34 ≤ _)⟩)
  dsimp only [Pt.U, Pt.locs, Pt.cells, Pt.slots] at X228 l228 y228 z228 st228 hQ228
  replace l228 := Eq.symm l228
  replace y228 := Eq.symm y228
  replace z228 := Eq.symm z228
  subst l228 y228 z228
  obtain ⟨Nq228, rfl, Kq228, o228, t228, k0228, vs228, So228, Go228, Sz228, Gz228, hot228, Fp228, Eo228, Fb228, Fc228, V228, hl228, Uq228⟩ := hQ228
  have N228 := Fr.app N0 Nq228
  have Kc228 := Keep.trans K227 Kq228 (allS (Or.inr sz_b227) all0)
  have Zc228 : n0 ≤ T228.heap.size := Nat.le_trans Z227 Kq228.1
  have ne_b227_o228 : b227 ≠ o228 := Nat.ne_of_lt (Nat.lt_of_lt_of_le (A227).lt So228)
  have sz_o228 : h0.size ≤ o228 := Nat.le_trans K227.1 So228
  have ne_b227_t228 : b227 ≠ t228 := Nat.ne_of_lt (Nat.lt_of_lt_of_le (A227).lt Sz228)
  have sz_t228 : h0.size ≤ t228 := Nat.le_trans K227.1 Sz228
  refine Gl.back (fun _ k => st228.trans k) ?_
  show Gl _ _ _ _ _ _ _ (T228.setTop (mkF m 21 #[.val (.long j0), .second, .val (.long j1), .second, .val (.int i4), .val (.int i5), .val (.long xa), .second, .val (.long xb), .second, .unset, .unset, .unset, .unset, .unset, .unset, .unset, .unset, .unset, .unset, .unset, .unset, .unset, .unset, .unset, .unset, .unset, .unset, .unset, .unset, .unset, .unset, .unset, .unset, .unset] [(.ref b227)]))
  refine Gl.back (fun _ k => XS.astore X228.here hx rfl (hb hby at_21) rfl rfl (l' := #[.val (.long j0), .second, .val (.long j1), .second, .val (.int i4), .val (.int i5), .val (.long xa), .second, .val (.long xb), .second, .val (.ref b227), .unset, .unset, .unset, .unset, .unset, .unset, .unset, .unset, .unset, .unset, .unset, .unset, .unset, .unset, .unset, .unset, .unset, .unset, .unset, .unset, .unset, .unset, .unset, .unset]) rfl k) ?_
  show Gl _ _ _ _ _ _ _ (T228.setTop (mkF m 23 #[.val (.long j0), .second, .val (.long j1), .second, .val (.int i4), .val (.int i5), .val (.long xa), .second, .val (.long xb), .second, .val (.ref b227), .unset, .unset, .unset, .unset, .unset, .unset, .unset, .unset, .unset, .unset, .unset, .unset, .unset, .unset, .unset, .unset, .unset, .unset, .unset, .unset, .unset, .unset, .unset, .unset] []))
  refine Gl.back (fun _ k => XS.aload X228.here hx rfl (hb hby at_23) rfl rfl k) ?_
  show Gl _ _ _ _ _ _ _ (T228.setTop (mkF m 25 #[.val (.long j0), .second, .val (.long j1), .second, .val (.int i4), .val (.int i5), .val (.long xa), .second, .val (.long xb), .second, .val (.ref b227), .unset, .unset, .unset, .unset, .unset, .unset, .unset, .unset, .unset, .unset, .unset, .unset, .unset, .unset, .unset, .unset, .unset, .unset, .unset, .unset, .unset, .unset, .unset, .unset] [(.ref b227)]))
  refine Gl.back (fun _ k => XS.lload X228.here hx rfl (hb hby at_25) rfl k) ?_
  show Gl _ _ _ _ _ _ _ (T228.setTop (mkF m 27 #[.val (.long j0), .second, .val (.long j1), .second, .val (.int i4), .val (.int i5), .val (.long xa), .second, .val (.long xb), .second, .val (.ref b227), .unset, .unset, .unset, .unset, .unset, .unset, .unset, .unset, .unset, .unset, .unset, .unset, .unset, .unset, .unset, .unset, .unset, .unset, .unset, .unset, .unset, .unset, .unset, .unset] [(.long xa), (.ref b227)]))
  have f230 := (A227.keep Kq228)
  obtain ⟨cq229, kq229, q229a, q229b, q229c⟩ := isOf hZ rfl f230
  obtain ⟨_, _, ⟨T229, L229, k229, n229⟩, -, X229, ⟨Lc229, hQ229, l229, y229, z229⟩, st229⟩ := X228.virtualBack hx (y := (⟨"com/example/harbourlink/harbourlink/scratch/Packing$Writer", "number", "(J)Lcom/example/harbourlink/harbourlink/scratch/Packing$Writer;"⟩ : MethodName)) (z := (⟨"com/example/harbourlink/harbourlink/scratch/Packing$Writer", "number", "(J)Lcom/example/harbourlink/harbourlink/scratch/Packing$Writer;"⟩ : MethodName)) hown (mvT hZ (hw _ (List.mem_of_getElem? (i := 32) rfl))) (mvT hZ (hw _ (List.mem_of_getElem? (i := 33) rfl))) (notFace_of_selects (args := #[]) (mvT hZ (hw _ (List.mem_of_getElem? (i := 35) rfl)))) (mvT hZ (hw _ (List.mem_of_getElem? (i := 35) rfl))) (mvT hZ (hw _ (List.mem_of_getElem? (i := 34) rfl))) (by decide) (backOf (W := 0) (rmwn l Z a0 hw [] b227 xa o228 t228 k0228 vs228 (0 : Int32) 0 xa.toInt.toNat T228.heap n0 Zc228 Go228 Gz228 f230 Fp228 Uq228 Eo228 Fb228 Fc228 V228 (Ne.symm (Ne.symm hot228)) ne_b227_o228 ne_b227_t228 (by decide) (by decide) hl228 hp_xa hX_xa) hZ (hw _ (List.mem_of_getElem? (i := 36) rfl)) (hw _ (List.mem_of_getElem? (i := 3) rfl)) (by decide) (by decide)) q229a q229c (g := (mkF m 27 #[.val (.long j0), .second, .val (.long j1), .second, .val (.int i4), .val (.int i5), .val (.long xa), .second, .val (.long xb), .second, .val (.ref b227), .unset, .unset, .unset, .unset, .unset, .unset, .unset, .unset, .unset, .unset, .unset, .unset, .unset, .unset, .unset, .unset, .unset, .unset, .unset, .unset, .unset, .unset, .unset, .unset] [(.long xa), (.ref b227)])) rfl (by rw [hml]; rfl) (Steps.refl _) (argsL := [(.long xa)]) (rest := []) (lenOf pd__J_Lcom_example_harbourlink_harbourlink_scratch_Packing_Writer_ rfl) rfl (by show 2 * 0 + _ ≤ _; exact Nat.le_of_eq rfl) (hb hby at_27) (fun _ _ => ⟨rfl, rfl, (by decide : 3 + 0 ≤ _), (by decide : 35 + 0 ≤ _)⟩)
  dsimp only [Pt.U, Pt.locs, Pt.cells, Pt.slots] at X229 l229 y229 z229 st229 hQ229
  replace l229 := Eq.symm l229
  replace y229 := Eq.symm y229
  replace z229 := Eq.symm z229
  subst l229 y229 z229
  obtain ⟨Nq229, mq229, cn229, vs229, rfl, Kq229, Fb229, Fc229, V229, Uq229, D229, hcn229, m1229, m9229, hX229⟩ := hQ229
  have N229 := Fr.app N228 Nq229
  have Kc229 := Keep.trans Kc228 Kq229 (allS (Or.inr sz_o228) (allS (Or.inr sz_t228) all0))
  have Zc229 : n0 ≤ T229.heap.size := Nat.le_trans Zc228 Kq229.1
  refine Gl.back (fun _ k => st229.trans k) ?_
  show Gl _ _ _ _ _ _ _ (T229.setTop (mkF m 30 #[.val (.long j0), .second, .val (.long j1), .second, .val (.int i4), .val (.int i5), .val (.long xa), .second, .val (.long xb), .second, .val (.ref b227), .unset, .unset, .unset, .unset, .unset, .unset, .unset, .unset, .unset, .unset, .unset, .unset, .unset, .unset, .unset, .unset, .unset, .unset, .unset, .unset, .unset, .unset, .unset, .unset] [(.ref b227)]))
  refine Gl.back (fun _ k => XS.pop X229.here hx rfl (hb hby at_30) rfl rfl k) ?_
  show Gl _ _ _ _ _ _ _ (T229.setTop (mkF m 31 #[.val (.long j0), .second, .val (.long j1), .second, .val (.int i4), .val (.int i5), .val (.long xa), .second, .val (.long xb), .second, .val (.ref b227), .unset, .unset, .unset, .unset, .unset, .unset, .unset, .unset, .unset, .unset, .unset, .unset, .unset, .unset, .unset, .unset, .unset, .unset, .unset, .unset, .unset, .unset, .unset, .unset] []))
  refine Gl.back (fun _ k => XS.aload X229.here hx rfl (hb hby at_31) rfl rfl k) ?_
  show Gl _ _ _ _ _ _ _ (T229.setTop (mkF m 33 #[.val (.long j0), .second, .val (.long j1), .second, .val (.int i4), .val (.int i5), .val (.long xa), .second, .val (.long xb), .second, .val (.ref b227), .unset, .unset, .unset, .unset, .unset, .unset, .unset, .unset, .unset, .unset, .unset, .unset, .unset, .unset, .unset, .unset, .unset, .unset, .unset, .unset, .unset, .unset, .unset, .unset] [(.ref b227)]))
  refine Gl.back (fun _ k => XS.lload X229.here hx rfl (hb hby at_33) rfl k) ?_
  show Gl _ _ _ _ _ _ _ (T229.setTop (mkF m 35 #[.val (.long j0), .second, .val (.long j1), .second, .val (.int i4), .val (.int i5), .val (.long xa), .second, .val (.long xb), .second, .val (.ref b227), .unset, .unset, .unset, .unset, .unset, .unset, .unset, .unset, .unset, .unset, .unset, .unset, .unset, .unset, .unset, .unset, .unset, .unset, .unset, .unset, .unset, .unset, .unset, .unset] [(.long xb), (.ref b227)]))
  have f232 := (f230.keep Kq229)
  have f233 := (Fp228.keep Kq229 (ninS ne_b227_o228 (ninS ne_b227_t228 nin0)))
  have f234 := (Eo228.keep Kq229)
  obtain ⟨cq231, kq231, q231a, q231b, q231c⟩ := isOf hZ rfl f232
  obtain ⟨_, _, ⟨T231, L231, k231, n231⟩, -, X231, ⟨Lc231, hQ231, l231, y231, z231⟩, st231⟩ := X229.virtualBack hx (y := (⟨"com/example/harbourlink/harbourlink/scratch/Packing$Writer", "number", "(J)Lcom/example/harbourlink/harbourlink/scratch/Packing$Writer;"⟩ : MethodName)) (z := (⟨"com/example/harbourlink/harbourlink/scratch/Packing$Writer", "number", "(J)Lcom/example/harbourlink/harbourlink/scratch/Packing$Writer;"⟩ : MethodName)) hown (mvT hZ (hw _ (List.mem_of_getElem? (i := 32) rfl))) (mvT hZ (hw _ (List.mem_of_getElem? (i := 33) rfl))) (notFace_of_selects (args := #[]) (mvT hZ (hw _ (List.mem_of_getElem? (i := 35) rfl)))) (mvT hZ (hw _ (List.mem_of_getElem? (i := 35) rfl))) (mvT hZ (hw _ (List.mem_of_getElem? (i := 34) rfl))) (by decide) (backOf (W := 0) (rmwn l Z a0 hw [] b227 xb o228 t228 k0228 vs229 cn229 mq229 xb.toInt.toNat T229.heap n0 Zc229 Go228 Gz228 f232 f233 Uq229 f234 Fb229 Fc229 V229 (Ne.symm (Ne.symm hot228)) ne_b227_o228 ne_b227_t228 (own_hn1 hcn229) m9229 D229.2.2 hp_xb hX_xb) hZ (hw _ (List.mem_of_getElem? (i := 36) rfl)) (hw _ (List.mem_of_getElem? (i := 3) rfl)) (by decide) (by decide)) q231a q231c (g := (mkF m 35 #[.val (.long j0), .second, .val (.long j1), .second, .val (.int i4), .val (.int i5), .val (.long xa), .second, .val (.long xb), .second, .val (.ref b227), .unset, .unset, .unset, .unset, .unset, .unset, .unset, .unset, .unset, .unset, .unset, .unset, .unset, .unset, .unset, .unset, .unset, .unset, .unset, .unset, .unset, .unset, .unset, .unset] [(.long xb), (.ref b227)])) rfl (by rw [hml]; rfl) (Steps.refl _) (argsL := [(.long xb)]) (rest := []) (lenOf pd__J_Lcom_example_harbourlink_harbourlink_scratch_Packing_Writer_ rfl) rfl (by show 2 * 0 + _ ≤ _; exact Nat.le_of_eq rfl) (hb hby at_35) (fun _ _ => ⟨rfl, rfl, (by decide : 3 + 0 ≤ _), (by decide : 35 + 0 ≤ _)⟩)
  dsimp only [Pt.U, Pt.locs, Pt.cells, Pt.slots] at X231 l231 y231 z231 st231 hQ231
  replace l231 := Eq.symm l231
  replace y231 := Eq.symm y231
  replace z231 := Eq.symm z231
  subst l231 y231 z231
  obtain ⟨Nq231, mq231, cn231, vs231, rfl, Kq231, Fb231, Fc231, V231, Uq231, D231, hcn231, m1231, m9231, hX231⟩ := hQ231
  have N231 := Fr.app N229 Nq231
  have Kc231 := Keep.trans Kc229 Kq231 (allS (Or.inr sz_o228) (allS (Or.inr sz_t228) all0))
  have Zc231 : n0 ≤ T231.heap.size := Nat.le_trans Zc229 Kq231.1
  refine Gl.back (fun _ k => st231.trans k) ?_
  show Gl _ _ _ _ _ _ _ (T231.setTop (mkF m 38 #[.val (.long j0), .second, .val (.long j1), .second, .val (.int i4), .val (.int i5), .val (.long xa), .second, .val (.long xb), .second, .val (.ref b227), .unset, .unset, .unset, .unset, .unset, .unset, .unset, .unset, .unset, .unset, .unset, .unset, .unset, .unset, .unset, .unset, .unset, .unset, .unset, .unset, .unset, .unset, .unset, .unset] [(.ref b227)]))
  refine Gl.back (fun _ k => XS.pop X231.here hx rfl (hb hby at_38) rfl rfl k) ?_
  show Gl _ _ _ _ _ _ _ (T231.setTop (mkF m 39 #[.val (.long j0), .second, .val (.long j1), .second, .val (.int i4), .val (.int i5), .val (.long xa), .second, .val (.long xb), .second, .val (.ref b227), .unset, .unset, .unset, .unset, .unset, .unset, .unset, .unset, .unset, .unset, .unset, .unset, .unset, .unset, .unset, .unset, .unset, .unset, .unset, .unset, .unset, .unset, .unset, .unset] []))
  refine Gl.back (fun _ k => XS.aload X231.here hx rfl (hb hby at_39) rfl rfl k) ?_
  show Gl _ _ _ _ _ _ _ (T231.setTop (mkF m 41 #[.val (.long j0), .second, .val (.long j1), .second, .val (.int i4), .val (.int i5), .val (.long xa), .second, .val (.long xb), .second, .val (.ref b227), .unset, .unset, .unset, .unset, .unset, .unset, .unset, .unset, .unset, .unset, .unset, .unset, .unset, .unset, .unset, .unset, .unset, .unset, .unset, .unset, .unset, .unset, .unset, .unset] [(.ref b227)]))
  have hcn_t : cn231.toInt = ((mq229 + mq231 : Nat) : Int) := own_hn2 hcn229 hcn231
  have hcn_b := own_18 hcn_t m9229 m9231
  have f237 := (f232.keep Kq231)
  have f238 := (f234.keep Kq231)
  have f239 := (f233.keep Kq231 (ninS ne_b227_o228 (ninS ne_b227_t228 nin0)))
  obtain ⟨cq236, kq236, q236a, q236b, q236c⟩ := isOf hZ rfl f237
  obtain ⟨_, _, ⟨T236, L236, k236, n236⟩, -, X236, ⟨Lc236, hQ236, l236, y236, z236⟩, st236⟩ := X231.virtualBack hx (y := (⟨"com/example/harbourlink/harbourlink/scratch/Packing$Writer", "bytes", "()[B"⟩ : MethodName)) (z := (⟨"com/example/harbourlink/harbourlink/scratch/Packing$Writer", "bytes", "()[B"⟩ : MethodName)) hown (mvT hZ (hw _ (List.mem_of_getElem? (i := 50) rfl))) (mvT hZ (hw _ (List.mem_of_getElem? (i := 51) rfl))) (notFace_of_selects (args := #[]) (mvT hZ (hw _ (List.mem_of_getElem? (i := 53) rfl)))) (mvT hZ (hw _ (List.mem_of_getElem? (i := 53) rfl))) (mvT hZ (hw _ (List.mem_of_getElem? (i := 52) rfl))) (by decide) (backOf (W := 0) (rmwb l Z a0 hw [] b227 o228 t228 k0228 vs231 cn231 T231.heap n0 Zc231 Go228 f239 Uq231 f238 Fb231 Fc231 V231 hcn_b) hZ (hw _ (List.mem_of_getElem? (i := 54) rfl)) (hw _ (List.mem_of_getElem? (i := 3) rfl)) (by decide) (by decide)) q236a q236c (g := (mkF m 41 #[.val (.long j0), .second, .val (.long j1), .second, .val (.int i4), .val (.int i5), .val (.long xa), .second, .val (.long xb), .second, .val (.ref b227), .unset, .unset, .unset, .unset, .unset, .unset, .unset, .unset, .unset, .unset, .unset, .unset, .unset, .unset, .unset, .unset, .unset, .unset, .unset, .unset, .unset, .unset, .unset, .unset] [(.ref b227)])) rfl (by rw [hml]; rfl) (Steps.refl _) (argsL := []) (rest := []) (lenOf pd____B rfl) rfl (by show 2 * 0 + _ ≤ _; exact Nat.le_of_eq rfl) (hb hby at_41) (fun _ _ => ⟨rfl, rfl, (by decide : 3 + 1 ≤ _), (by decide : 35 + 18 ≤ _)⟩)
  dsimp only [Pt.U, Pt.locs, Pt.cells, Pt.slots] at X236 l236 y236 z236 st236 hQ236
  replace l236 := Eq.symm l236
  replace y236 := Eq.symm y236
  replace z236 := Eq.symm z236
  subst l236 y236 z236
  obtain ⟨Nq236, rr236, kr236, us236, rfl, Kq236, Sz236, Gz236, V236, hu236⟩ := hQ236
  have N236 := Fr.app N231 Nq236
  have Kc236 := Keep.trans Kc231 Kq236 (allS (Or.inr sz_o228) all0)
  have Zc236 : n0 ≤ T236.heap.size := Nat.le_trans Zc231 Kq236.1
  have ne_b227_rr236 : b227 ≠ rr236 := Nat.ne_of_lt (Nat.lt_of_lt_of_le (f237).lt Sz236)
  have ne_o228_rr236 : o228 ≠ rr236 := Nat.ne_of_lt (Nat.lt_of_lt_of_le (f238).lt Sz236)
  have ne_t228_rr236 : t228 ≠ rr236 := Nat.ne_of_lt (Nat.lt_of_lt_of_le (V231).lt Sz236)
  have sz_rr236 : h0.size ≤ rr236 := Nat.le_trans Kc231.1 Sz236
  refine Gl.back (fun _ k => st236.trans k) ?_
  show Gl _ _ _ _ _ _ _ (T236.setTop (mkF m 44 #[.val (.long j0), .second, .val (.long j1), .second, .val (.int i4), .val (.int i5), .val (.long xa), .second, .val (.long xb), .second, .val (.ref b227), .unset, .unset, .unset, .unset, .unset, .unset, .unset, .unset, .unset, .unset, .unset, .unset, .unset, .unset, .unset, .unset, .unset, .unset, .unset, .unset, .unset, .unset, .unset, .unset] [(.ref rr236)]))
  refine Gl.back (fun _ k => XS.astore X236.here hx rfl (hb hby at_44) rfl rfl (l' := #[.val (.long j0), .second, .val (.long j1), .second, .val (.int i4), .val (.int i5), .val (.long xa), .second, .val (.long xb), .second, .val (.ref b227), .val (.ref rr236), .unset, .unset, .unset, .unset, .unset, .unset, .unset, .unset, .unset, .unset, .unset, .unset, .unset, .unset, .unset, .unset, .unset, .unset, .unset, .unset, .unset, .unset, .unset]) rfl k) ?_
  show Gl _ _ _ _ _ _ _ (T236.setTop (mkF m 46 #[.val (.long j0), .second, .val (.long j1), .second, .val (.int i4), .val (.int i5), .val (.long xa), .second, .val (.long xb), .second, .val (.ref b227), .val (.ref rr236), .unset, .unset, .unset, .unset, .unset, .unset, .unset, .unset, .unset, .unset, .unset, .unset, .unset, .unset, .unset, .unset, .unset, .unset, .unset, .unset, .unset, .unset, .unset] []))
  obtain ⟨T240, h240, X240, e240, E240, A240, D240, -, st240⟩ := newO X236 hx hZ hown (hw _ (List.mem_of_getElem? (i := 72) rfl)) (hw _ (List.mem_of_getElem? (i := 73) rfl)) (hw _ (List.mem_of_getElem? (i := 74) rfl)) rfl (g := (mkF m 46 #[.val (.long j0), .second, .val (.long j1), .second, .val (.int i4), .val (.int i5), .val (.long xa), .second, .val (.long xb), .second, .val (.ref b227), .val (.ref rr236), .unset, .unset, .unset, .unset, .unset, .unset, .unset, .unset, .unset, .unset, .unset, .unset, .unset, .unset, .unset, .unset, .unset, .unset, .unset, .unset, .unset, .unset, .unset] [])) rfl (hb hby at_46) (by decide) (by decide)
  obtain ⟨b240, g240⟩ : ∃ z, z = T236.heap.size := ⟨_, rfl⟩
  rw [← g240] at A240 D240 st240
  have f241 := (f237.keep Kq236)
  have ne_b227_b240 : b227 ≠ b240 := Nat.ne_of_lt (Nat.lt_of_lt_of_le f241.lt (Nat.le_of_eq g240.symm))
  have f242 := (f238.keep Kq236)
  have ne_o228_b240 : o228 ≠ b240 := Nat.ne_of_lt (Nat.lt_of_lt_of_le f242.lt (Nat.le_of_eq g240.symm))
  have f243 := (V231.keep Kq236 (ninS (Ne.symm hot228) nin0))
  have ne_t228_b240 : t228 ≠ b240 := Nat.ne_of_lt (Nat.lt_of_lt_of_le f243.lt (Nat.le_of_eq g240.symm))
  have ne_rr236_b240 : rr236 ≠ b240 := Nat.ne_of_lt (Nat.lt_of_lt_of_le V236.lt (Nat.le_of_eq g240.symm))
  have g_b240 : n0 ≤ b240 := Nat.le_trans Zc236 (Nat.le_of_eq g240.symm)
  have sz_b240 : h0.size ≤ b240 := Nat.le_trans Kc236.1 (Nat.le_of_eq g240.symm)
  have Z240 : n0 ≤ h240.size := Nat.le_trans Zc236 E240.1
  have K240 := Keep.ext Kc236 E240
  have F240_bytes : Fld Z h240 b240 "com/example/harbourlink/harbourlink/scratch/Packing$Reader" "bytes" "[B" .null := D240 (Or.inr (hw _ (List.mem_of_getElem? (i := 80) rfl))) (ty := (.array .byte)) (by decide)
  have F240_at : Fld Z h240 b240 "com/example/harbourlink/harbourlink/scratch/Packing$Reader" "at" "I" (.int (0 : Int32)) := D240 (Or.inl (hw _ (List.mem_of_getElem? (i := 82) rfl))) (ty := .int) (by decide)
  refine Gl.back (fun _ k => st240 _ k) ?_
  show Gl _ _ _ _ _ _ _ (T240.setTop (mkF m 49 #[.val (.long j0), .second, .val (.long j1), .second, .val (.int i4), .val (.int i5), .val (.long xa), .second, .val (.long xb), .second, .val (.ref b227), .val (.ref rr236), .unset, .unset, .unset, .unset, .unset, .unset, .unset, .unset, .unset, .unset, .unset, .unset, .unset, .unset, .unset, .unset, .unset, .unset, .unset, .unset, .unset, .unset, .unset] [(.ref b240)]))
  refine Gl.back (fun _ k => XS.dup X240.here hx rfl (hb hby at_49) rfl rfl k) ?_
  show Gl _ _ _ _ _ _ _ (T240.setTop (mkF m 50 #[.val (.long j0), .second, .val (.long j1), .second, .val (.int i4), .val (.int i5), .val (.long xa), .second, .val (.long xb), .second, .val (.ref b227), .val (.ref rr236), .unset, .unset, .unset, .unset, .unset, .unset, .unset, .unset, .unset, .unset, .unset, .unset, .unset, .unset, .unset, .unset, .unset, .unset, .unset, .unset, .unset, .unset, .unset] [(.ref b240), (.ref b240)]))
  refine Gl.back (fun _ k => XS.aload X240.here hx rfl (hb hby at_50) rfl rfl k) ?_
  show Gl _ _ _ _ _ _ _ (T240.setTop (mkF m 52 #[.val (.long j0), .second, .val (.long j1), .second, .val (.int i4), .val (.int i5), .val (.long xa), .second, .val (.long xb), .second, .val (.ref b227), .val (.ref rr236), .unset, .unset, .unset, .unset, .unset, .unset, .unset, .unset, .unset, .unset, .unset, .unset, .unset, .unset, .unset, .unset, .unset, .unset, .unset, .unset, .unset, .unset, .unset] [(.ref rr236), (.ref b240), (.ref b240)]))
  refine Gl.back (fun _ k => XS.iconst X240.here hx rfl (hb hby at_52) k) ?_
  show Gl _ _ _ _ _ _ _ (T240.setTop (mkF m 53 #[.val (.long j0), .second, .val (.long j1), .second, .val (.int i4), .val (.int i5), .val (.long xa), .second, .val (.long xb), .second, .val (.ref b227), .val (.ref rr236), .unset, .unset, .unset, .unset, .unset, .unset, .unset, .unset, .unset, .unset, .unset, .unset, .unset, .unset, .unset, .unset, .unset, .unset, .unset, .unset, .unset, .unset, .unset] [(.int (0 : Int32)), (.ref rr236), (.ref b240), (.ref b240)]))
  obtain ⟨_, _, ⟨T244, L244, k244, n244⟩, -, X244, ⟨Lc244, hQ244, l244, y244, z244⟩, st244⟩ := X240.specialBack hx (y := (⟨"com/example/harbourlink/harbourlink/scratch/Packing$Reader", "<init>", "([BI)V"⟩ : MethodName)) rfl hown (mvT hZ (hw _ (List.mem_of_getElem? (i := 75) rfl))) (mvT hZ (hw _ (List.mem_of_getElem? (i := 76) rfl))) (mvT hZ (hw _ (List.mem_of_getElem? (i := 77) rfl))) (by decide) (backOf (W := 1) (rmri l Z a0 hw [] b240 rr236 (0 : Int32)  h240 n0 Z240 g_b240 A240 F240_bytes F240_at) hZ (hw _ (List.mem_of_getElem? (i := 77) rfl)) (hw _ (List.mem_of_getElem? (i := 74) rfl)) (by decide) (by decide)) (g := (mkF m 53 #[.val (.long j0), .second, .val (.long j1), .second, .val (.int i4), .val (.int i5), .val (.long xa), .second, .val (.long xb), .second, .val (.ref b227), .val (.ref rr236), .unset, .unset, .unset, .unset, .unset, .unset, .unset, .unset, .unset, .unset, .unset, .unset, .unset, .unset, .unset, .unset, .unset, .unset, .unset, .unset, .unset, .unset, .unset] [(.int (0 : Int32)), (.ref rr236), (.ref b240), (.ref b240)])) rfl (by rw [hml]; rfl) (Steps.refl _) (a := b240) (argsL := [(.ref rr236), (.int (0 : Int32))]) (rest := [(.ref b240)]) (lenOf pd___BI_V rfl) rfl (by show 2 * 0 + _ ≤ _; exact Nat.le_of_eq rfl) (hb hby at_53) (fun _ _ => ⟨rfl, e240, (by decide : 5 + 0 ≤ _), (by decide : 55 + 0 ≤ _)⟩)
  dsimp only [Pt.U, Pt.locs, Pt.cells, Pt.slots] at X244 l244 y244 z244 st244 hQ244
  replace l244 := Eq.symm l244
  replace y244 := Eq.symm y244
  replace z244 := Eq.symm z244
  subst l244 y244 z244
  obtain ⟨Nq244, rfl, Kq244, Fb244, Fa244⟩ := hQ244
  have N244 := Fr.app N236 Nq244
  have Kc244 := Keep.trans K240 Kq244 (allS (Or.inr sz_b240) all0)
  have Zc244 : n0 ≤ T244.heap.size := Nat.le_trans Z240 Kq244.1
  refine Gl.back (fun _ k => st244.trans k) ?_
  show Gl _ _ _ _ _ _ _ (T244.setTop (mkF m 56 #[.val (.long j0), .second, .val (.long j1), .second, .val (.int i4), .val (.int i5), .val (.long xa), .second, .val (.long xb), .second, .val (.ref b227), .val (.ref rr236), .unset, .unset, .unset, .unset, .unset, .unset, .unset, .unset, .unset, .unset, .unset, .unset, .unset, .unset, .unset, .unset, .unset, .unset, .unset, .unset, .unset, .unset, .unset] [(.ref b240)]))
  refine Gl.back (fun _ k => XS.astore X244.here hx rfl (hb hby at_56) rfl rfl (l' := #[.val (.long j0), .second, .val (.long j1), .second, .val (.int i4), .val (.int i5), .val (.long xa), .second, .val (.long xb), .second, .val (.ref b227), .val (.ref rr236), .val (.ref b240), .unset, .unset, .unset, .unset, .unset, .unset, .unset, .unset, .unset, .unset, .unset, .unset, .unset, .unset, .unset, .unset, .unset, .unset, .unset, .unset, .unset, .unset]) rfl k) ?_
  show Gl _ _ _ _ _ _ _ (T244.setTop (mkF m 58 #[.val (.long j0), .second, .val (.long j1), .second, .val (.int i4), .val (.int i5), .val (.long xa), .second, .val (.long xb), .second, .val (.ref b227), .val (.ref rr236), .val (.ref b240), .unset, .unset, .unset, .unset, .unset, .unset, .unset, .unset, .unset, .unset, .unset, .unset, .unset, .unset, .unset, .unset, .unset, .unset, .unset, .unset, .unset, .unset] []))
  refine Gl.back (fun _ k => XS.aload X244.here hx rfl (hb hby at_58) rfl rfl k) ?_
  show Gl _ _ _ _ _ _ _ (T244.setTop (mkF m 60 #[.val (.long j0), .second, .val (.long j1), .second, .val (.int i4), .val (.int i5), .val (.long xa), .second, .val (.long xb), .second, .val (.ref b227), .val (.ref rr236), .val (.ref b240), .unset, .unset, .unset, .unset, .unset, .unset, .unset, .unset, .unset, .unset, .unset, .unset, .unset, .unset, .unset, .unset, .unset, .unset, .unset, .unset, .unset, .unset] [(.ref b240)]))
  have f246 := (A240.keep Kq244)
  have f247 := ((V236.ext E240).keep Kq244 (ninS ne_rr236_b240 nin0))
  obtain ⟨cq245, kq245, q245a, q245b, q245c⟩ := isOf hZ rfl f246
  obtain ⟨_, _, ⟨T245, L245, k245, n245⟩, -, X245, ⟨Lc245, hQ245, l245, y245, z245⟩, st245⟩ := X244.virtualBack hx (y := (⟨"com/example/harbourlink/harbourlink/scratch/Packing$Reader", "number", "()J"⟩ : MethodName)) (z := (⟨"com/example/harbourlink/harbourlink/scratch/Packing$Reader", "number", "()J"⟩ : MethodName)) hown (mvT hZ (hw _ (List.mem_of_getElem? (i := 83) rfl))) (mvT hZ (hw _ (List.mem_of_getElem? (i := 84) rfl))) (notFace_of_selects (args := #[]) (mvT hZ (hw _ (List.mem_of_getElem? (i := 86) rfl)))) (mvT hZ (hw _ (List.mem_of_getElem? (i := 86) rfl))) (mvT hZ (hw _ (List.mem_of_getElem? (i := 85) rfl))) (by decide) (backOf (W := 0) (rmrn l Z a0 hw [] b240 rr236 kr236 us236 cn231 (0 : Int32) 0 (own_B xa.toInt.toNat mq229) mq229 T244.heap n0 Zc244 g_b240 f246 Fb244 Fa244 f247 (Ne.symm ne_rr236_b240) (by decide) (own_le0 hcn_t) (own_ua hu236 hcn_t D229 D231) (fun i _ => own_Blt _ _ i) (fun i hi => own_Bge _ hi) (own_Bl _ m1229) ⟨m1229, m9229⟩) hZ (hw _ (List.mem_of_getElem? (i := 87) rfl)) (hw _ (List.mem_of_getElem? (i := 74) rfl)) (by decide) (by decide)) q245a q245c (g := (mkF m 60 #[.val (.long j0), .second, .val (.long j1), .second, .val (.int i4), .val (.int i5), .val (.long xa), .second, .val (.long xb), .second, .val (.ref b227), .val (.ref rr236), .val (.ref b240), .unset, .unset, .unset, .unset, .unset, .unset, .unset, .unset, .unset, .unset, .unset, .unset, .unset, .unset, .unset, .unset, .unset, .unset, .unset, .unset, .unset, .unset] [(.ref b240)])) rfl (by rw [hml]; rfl) (Steps.refl _) (argsL := []) (rest := []) (lenOf pd___J rfl) rfl (by show 2 * 0 + _ ≤ _; exact Nat.le_of_eq rfl) (hb hby at_60) (fun _ _ => ⟨rfl, rfl, (by decide : 5 + 0 ≤ _), (by decide : 55 + 0 ≤ _)⟩)
  dsimp only [Pt.U, Pt.locs, Pt.cells, Pt.slots] at X245 l245 y245 z245 st245 hQ245
  replace l245 := Eq.symm l245
  replace y245 := Eq.symm y245
  replace z245 := Eq.symm z245
  subst l245 y245 z245
  obtain ⟨Nq245, cn245, rfl, Kq245, Fb245, Fa245, hca245⟩ := hQ245
  have N245 := Fr.app N244 Nq245
  have Kc245 := Keep.trans Kc244 Kq245 (allS (Or.inr sz_b240) all0)
  have Zc245 : n0 ≤ T245.heap.size := Nat.le_trans Zc244 Kq245.1
  rw [own_acc_enc hp_xa m9229 hX229] at st245
  refine Gl.back (fun _ k => st245.trans k) ?_
  show Gl _ _ _ _ _ _ _ (T245.setTop (mkF m 63 #[.val (.long j0), .second, .val (.long j1), .second, .val (.int i4), .val (.int i5), .val (.long xa), .second, .val (.long xb), .second, .val (.ref b227), .val (.ref rr236), .val (.ref b240), .unset, .unset, .unset, .unset, .unset, .unset, .unset, .unset, .unset, .unset, .unset, .unset, .unset, .unset, .unset, .unset, .unset, .unset, .unset, .unset, .unset, .unset] [(.long xa)]))
  refine Gl.back (fun _ k => XS.lstore X245.here hx rfl (hb hby at_63) rfl (l' := #[.val (.long j0), .second, .val (.long j1), .second, .val (.int i4), .val (.int i5), .val (.long xa), .second, .val (.long xb), .second, .val (.ref b227), .val (.ref rr236), .val (.ref b240), .val (.long xa), .second, .unset, .unset, .unset, .unset, .unset, .unset, .unset, .unset, .unset, .unset, .unset, .unset, .unset, .unset, .unset, .unset, .unset, .unset, .unset, .unset]) rfl k) ?_
  show Gl _ _ _ _ _ _ _ (T245.setTop (mkF m 65 #[.val (.long j0), .second, .val (.long j1), .second, .val (.int i4), .val (.int i5), .val (.long xa), .second, .val (.long xb), .second, .val (.ref b227), .val (.ref rr236), .val (.ref b240), .val (.long xa), .second, .unset, .unset, .unset, .unset, .unset, .unset, .unset, .unset, .unset, .unset, .unset, .unset, .unset, .unset, .unset, .unset, .unset, .unset, .unset, .unset] []))
  refine Gl.back (fun _ k => XS.aload X245.here hx rfl (hb hby at_65) rfl rfl k) ?_
  show Gl _ _ _ _ _ _ _ (T245.setTop (mkF m 67 #[.val (.long j0), .second, .val (.long j1), .second, .val (.int i4), .val (.int i5), .val (.long xa), .second, .val (.long xb), .second, .val (.ref b227), .val (.ref rr236), .val (.ref b240), .val (.long xa), .second, .unset, .unset, .unset, .unset, .unset, .unset, .unset, .unset, .unset, .unset, .unset, .unset, .unset, .unset, .unset, .unset, .unset, .unset, .unset, .unset] [(.ref b240)]))
  have f249 := (f246.keep Kq245)
  have f250 := (f247.keep Kq245 (ninS ne_rr236_b240 nin0))
  obtain ⟨cq248, kq248, q248a, q248b, q248c⟩ := isOf hZ rfl f249
  obtain ⟨_, _, ⟨T248, L248, k248, n248⟩, -, X248, ⟨Lc248, hQ248, l248, y248, z248⟩, st248⟩ := X245.virtualBack hx (y := (⟨"com/example/harbourlink/harbourlink/scratch/Packing$Reader", "number", "()J"⟩ : MethodName)) (z := (⟨"com/example/harbourlink/harbourlink/scratch/Packing$Reader", "number", "()J"⟩ : MethodName)) hown (mvT hZ (hw _ (List.mem_of_getElem? (i := 83) rfl))) (mvT hZ (hw _ (List.mem_of_getElem? (i := 84) rfl))) (notFace_of_selects (args := #[]) (mvT hZ (hw _ (List.mem_of_getElem? (i := 86) rfl)))) (mvT hZ (hw _ (List.mem_of_getElem? (i := 86) rfl))) (mvT hZ (hw _ (List.mem_of_getElem? (i := 85) rfl))) (by decide) (backOf (W := 0) (rmrn l Z a0 hw [] b240 rr236 kr236 us236 cn231 cn245 mq229 (own_B xb.toInt.toNat mq231) mq231 T245.heap n0 Zc245 g_b240 f249 Fb245 Fa245 f250 (Ne.symm ne_rr236_b240) (own_z hca245) (own_le1 hcn_t) (own_ub hu236 hcn_t D231) (fun i _ => own_Blt _ _ i) (fun i hi => own_Bge _ hi) (own_Bl _ m1231) ⟨m1231, m9231⟩) hZ (hw _ (List.mem_of_getElem? (i := 87) rfl)) (hw _ (List.mem_of_getElem? (i := 74) rfl)) (by decide) (by decide)) q248a q248c (g := (mkF m 67 #[.val (.long j0), .second, .val (.long j1), .second, .val (.int i4), .val (.int i5), .val (.long xa), .second, .val (.long xb), .second, .val (.ref b227), .val (.ref rr236), .val (.ref b240), .val (.long xa), .second, .unset, .unset, .unset, .unset, .unset, .unset, .unset, .unset, .unset, .unset, .unset, .unset, .unset, .unset, .unset, .unset, .unset, .unset, .unset, .unset] [(.ref b240)])) rfl (by rw [hml]; rfl) (Steps.refl _) (argsL := []) (rest := []) (lenOf pd___J rfl) rfl (by show 2 * 0 + _ ≤ _; exact Nat.le_of_eq rfl) (hb hby at_67) (fun _ _ => ⟨rfl, rfl, (by decide : 5 + 0 ≤ _), (by decide : 55 + 0 ≤ _)⟩)
  dsimp only [Pt.U, Pt.locs, Pt.cells, Pt.slots] at X248 l248 y248 z248 st248 hQ248
  replace l248 := Eq.symm l248
  replace y248 := Eq.symm y248
  replace z248 := Eq.symm z248
  subst l248 y248 z248
  obtain ⟨Nq248, cn248, rfl, Kq248, Fb248, Fa248, hca248⟩ := hQ248
  have N248 := Fr.app N245 Nq248
  have Kc248 := Keep.trans Kc245 Kq248 (allS (Or.inr sz_b240) all0)
  have Zc248 : n0 ≤ T248.heap.size := Nat.le_trans Zc245 Kq248.1
  rw [own_acc_enc hp_xb m9231 hX231] at st248
  refine Gl.back (fun _ k => st248.trans k) ?_
  show Gl _ _ _ _ _ _ _ (T248.setTop (mkF m 70 #[.val (.long j0), .second, .val (.long j1), .second, .val (.int i4), .val (.int i5), .val (.long xa), .second, .val (.long xb), .second, .val (.ref b227), .val (.ref rr236), .val (.ref b240), .val (.long xa), .second, .unset, .unset, .unset, .unset, .unset, .unset, .unset, .unset, .unset, .unset, .unset, .unset, .unset, .unset, .unset, .unset, .unset, .unset, .unset, .unset] [(.long xb)]))
  refine Gl.back (fun _ k => XS.lstore X248.here hx rfl (hb hby at_70) rfl (l' := #[.val (.long j0), .second, .val (.long j1), .second, .val (.int i4), .val (.int i5), .val (.long xa), .second, .val (.long xb), .second, .val (.ref b227), .val (.ref rr236), .val (.ref b240), .val (.long xa), .second, .val (.long xb), .second, .unset, .unset, .unset, .unset, .unset, .unset, .unset, .unset, .unset, .unset, .unset, .unset, .unset, .unset, .unset, .unset, .unset, .unset]) rfl k) ?_
  show Gl _ _ _ _ _ _ _ (T248.setTop (mkF m 72 #[.val (.long j0), .second, .val (.long j1), .second, .val (.int i4), .val (.int i5), .val (.long xa), .second, .val (.long xb), .second, .val (.ref b227), .val (.ref rr236), .val (.ref b240), .val (.long xa), .second, .val (.long xb), .second, .unset, .unset, .unset, .unset, .unset, .unset, .unset, .unset, .unset, .unset, .unset, .unset, .unset, .unset, .unset, .unset, .unset, .unset] []))
  refine Gl.back (fun _ k => XS.iload X248.here hx rfl (hb hby at_72) rfl k) ?_
  show Gl _ _ _ _ _ _ _ (T248.setTop (mkF m 74 #[.val (.long j0), .second, .val (.long j1), .second, .val (.int i4), .val (.int i5), .val (.long xa), .second, .val (.long xb), .second, .val (.ref b227), .val (.ref rr236), .val (.ref b240), .val (.long xa), .second, .val (.long xb), .second, .unset, .unset, .unset, .unset, .unset, .unset, .unset, .unset, .unset, .unset, .unset, .unset, .unset, .unset, .unset, .unset, .unset, .unset] [(.int i4)]))
  refine Gl.back (fun _ k => XS.bipush X248.here hx rfl (hb hby at_74) k) ?_
  show Gl _ _ _ _ _ _ _ (T248.setTop (mkF m 76 #[.val (.long j0), .second, .val (.long j1), .second, .val (.int i4), .val (.int i5), .val (.long xa), .second, .val (.long xb), .second, .val (.ref b227), .val (.ref rr236), .val (.ref b240), .val (.long xa), .second, .val (.long xb), .second, .unset, .unset, .unset, .unset, .unset, .unset, .unset, .unset, .unset, .unset, .unset, .unset, .unset, .unset, .unset, .unset, .unset, .unset] [(.int (24 : Int32)), (.int i4)]))
  refine Gl.back (fun _ k => XS.iushr X248.here hx rfl (hb hby at_76) rfl k) ?_
  show Gl _ _ _ _ _ _ _ (T248.setTop (mkF m 77 #[.val (.long j0), .second, .val (.long j1), .second, .val (.int i4), .val (.int i5), .val (.long xa), .second, .val (.long xb), .second, .val (.ref b227), .val (.ref rr236), .val (.ref b240), .val (.long xa), .second, .val (.long xb), .second, .unset, .unset, .unset, .unset, .unset, .unset, .unset, .unset, .unset, .unset, .unset, .unset, .unset, .unset, .unset, .unset, .unset, .unset] [(.int ((i4.toUInt32 >>> ((24 : Int32) &&& 31).toUInt32).toInt32))]))
  refine Gl.back (fun _ k => XS.sipush X248.here hx rfl (hb hby at_77) k) ?_
  show Gl _ _ _ _ _ _ _ (T248.setTop (mkF m 80 #[.val (.long j0), .second, .val (.long j1), .second, .val (.int i4), .val (.int i5), .val (.long xa), .second, .val (.long xb), .second, .val (.ref b227), .val (.ref rr236), .val (.ref b240), .val (.long xa), .second, .val (.long xb), .second, .unset, .unset, .unset, .unset, .unset, .unset, .unset, .unset, .unset, .unset, .unset, .unset, .unset, .unset, .unset, .unset, .unset, .unset] [(.int (255 : Int32)), (.int ((i4.toUInt32 >>> ((24 : Int32) &&& 31).toUInt32).toInt32))]))
  refine Gl.back (fun _ k => XS.iand X248.here hx rfl (hb hby at_80) rfl k) ?_
  show Gl _ _ _ _ _ _ _ (T248.setTop (mkF m 81 #[.val (.long j0), .second, .val (.long j1), .second, .val (.int i4), .val (.int i5), .val (.long xa), .second, .val (.long xb), .second, .val (.ref b227), .val (.ref rr236), .val (.ref b240), .val (.long xa), .second, .val (.long xb), .second, .unset, .unset, .unset, .unset, .unset, .unset, .unset, .unset, .unset, .unset, .unset, .unset, .unset, .unset, .unset, .unset, .unset, .unset] [(.int (((i4.toUInt32 >>> ((24 : Int32) &&& 31).toUInt32).toInt32) &&& (255 : Int32)))]))
  refine Gl.back (fun _ k => XS.istore X248.here hx rfl (hb hby at_81) rfl (l' := #[.val (.long j0), .second, .val (.long j1), .second, .val (.int i4), .val (.int i5), .val (.long xa), .second, .val (.long xb), .second, .val (.ref b227), .val (.ref rr236), .val (.ref b240), .val (.long xa), .second, .val (.long xb), .second, .val (.int (((i4.toUInt32 >>> ((24 : Int32) &&& 31).toUInt32).toInt32) &&& (255 : Int32))), .unset, .unset, .unset, .unset, .unset, .unset, .unset, .unset, .unset, .unset, .unset, .unset, .unset, .unset, .unset, .unset, .unset]) rfl k) ?_
  show Gl _ _ _ _ _ _ _ (T248.setTop (mkF m 83 #[.val (.long j0), .second, .val (.long j1), .second, .val (.int i4), .val (.int i5), .val (.long xa), .second, .val (.long xb), .second, .val (.ref b227), .val (.ref rr236), .val (.ref b240), .val (.long xa), .second, .val (.long xb), .second, .val (.int (((i4.toUInt32 >>> ((24 : Int32) &&& 31).toUInt32).toInt32) &&& (255 : Int32))), .unset, .unset, .unset, .unset, .unset, .unset, .unset, .unset, .unset, .unset, .unset, .unset, .unset, .unset, .unset, .unset, .unset] []))
  refine Gl.back (fun _ k => XS.iload X248.here hx rfl (hb hby at_83) rfl k) ?_
  show Gl _ _ _ _ _ _ _ (T248.setTop (mkF m 85 #[.val (.long j0), .second, .val (.long j1), .second, .val (.int i4), .val (.int i5), .val (.long xa), .second, .val (.long xb), .second, .val (.ref b227), .val (.ref rr236), .val (.ref b240), .val (.long xa), .second, .val (.long xb), .second, .val (.int (((i4.toUInt32 >>> ((24 : Int32) &&& 31).toUInt32).toInt32) &&& (255 : Int32))), .unset, .unset, .unset, .unset, .unset, .unset, .unset, .unset, .unset, .unset, .unset, .unset, .unset, .unset, .unset, .unset, .unset] [(.int i4)]))
  refine Gl.back (fun _ k => XS.sipush X248.here hx rfl (hb hby at_85) k) ?_
  show Gl _ _ _ _ _ _ _ (T248.setTop (mkF m 88 #[.val (.long j0), .second, .val (.long j1), .second, .val (.int i4), .val (.int i5), .val (.long xa), .second, .val (.long xb), .second, .val (.ref b227), .val (.ref rr236), .val (.ref b240), .val (.long xa), .second, .val (.long xb), .second, .val (.int (((i4.toUInt32 >>> ((24 : Int32) &&& 31).toUInt32).toInt32) &&& (255 : Int32))), .unset, .unset, .unset, .unset, .unset, .unset, .unset, .unset, .unset, .unset, .unset, .unset, .unset, .unset, .unset, .unset, .unset] [(.int (255 : Int32)), (.int i4)]))
  refine Gl.back (fun _ k => XS.iand X248.here hx rfl (hb hby at_88) rfl k) ?_
  show Gl _ _ _ _ _ _ _ (T248.setTop (mkF m 89 #[.val (.long j0), .second, .val (.long j1), .second, .val (.int i4), .val (.int i5), .val (.long xa), .second, .val (.long xb), .second, .val (.ref b227), .val (.ref rr236), .val (.ref b240), .val (.long xa), .second, .val (.long xb), .second, .val (.int (((i4.toUInt32 >>> ((24 : Int32) &&& 31).toUInt32).toInt32) &&& (255 : Int32))), .unset, .unset, .unset, .unset, .unset, .unset, .unset, .unset, .unset, .unset, .unset, .unset, .unset, .unset, .unset, .unset, .unset] [(.int (i4 &&& (255 : Int32)))]))
  refine Gl.back (fun _ k => XS.istore X248.here hx rfl (hb hby at_89) rfl (l' := #[.val (.long j0), .second, .val (.long j1), .second, .val (.int i4), .val (.int i5), .val (.long xa), .second, .val (.long xb), .second, .val (.ref b227), .val (.ref rr236), .val (.ref b240), .val (.long xa), .second, .val (.long xb), .second, .val (.int (((i4.toUInt32 >>> ((24 : Int32) &&& 31).toUInt32).toInt32) &&& (255 : Int32))), .val (.int (i4 &&& (255 : Int32))), .unset, .unset, .unset, .unset, .unset, .unset, .unset, .unset, .unset, .unset, .unset, .unset, .unset, .unset, .unset, .unset]) rfl k) ?_
  show Gl _ _ _ _ _ _ _ (T248.setTop (mkF m 91 #[.val (.long j0), .second, .val (.long j1), .second, .val (.int i4), .val (.int i5), .val (.long xa), .second, .val (.long xb), .second, .val (.ref b227), .val (.ref rr236), .val (.ref b240), .val (.long xa), .second, .val (.long xb), .second, .val (.int (((i4.toUInt32 >>> ((24 : Int32) &&& 31).toUInt32).toInt32) &&& (255 : Int32))), .val (.int (i4 &&& (255 : Int32))), .unset, .unset, .unset, .unset, .unset, .unset, .unset, .unset, .unset, .unset, .unset, .unset, .unset, .unset, .unset, .unset] []))
  refine Gl.back (fun _ k => XS.iload X248.here hx rfl (hb hby at_91) rfl k) ?_
  show Gl _ _ _ _ _ _ _ (T248.setTop (mkF m 93 #[.val (.long j0), .second, .val (.long j1), .second, .val (.int i4), .val (.int i5), .val (.long xa), .second, .val (.long xb), .second, .val (.ref b227), .val (.ref rr236), .val (.ref b240), .val (.long xa), .second, .val (.long xb), .second, .val (.int (((i4.toUInt32 >>> ((24 : Int32) &&& 31).toUInt32).toInt32) &&& (255 : Int32))), .val (.int (i4 &&& (255 : Int32))), .unset, .unset, .unset, .unset, .unset, .unset, .unset, .unset, .unset, .unset, .unset, .unset, .unset, .unset, .unset, .unset] [(.int i4)]))
  refine Gl.back (fun _ k => XS.bipush X248.here hx rfl (hb hby at_93) k) ?_
  show Gl _ _ _ _ _ _ _ (T248.setTop (mkF m 95 #[.val (.long j0), .second, .val (.long j1), .second, .val (.int i4), .val (.int i5), .val (.long xa), .second, .val (.long xb), .second, .val (.ref b227), .val (.ref rr236), .val (.ref b240), .val (.long xa), .second, .val (.long xb), .second, .val (.int (((i4.toUInt32 >>> ((24 : Int32) &&& 31).toUInt32).toInt32) &&& (255 : Int32))), .val (.int (i4 &&& (255 : Int32))), .unset, .unset, .unset, .unset, .unset, .unset, .unset, .unset, .unset, .unset, .unset, .unset, .unset, .unset, .unset, .unset] [(.int (8 : Int32)), (.int i4)]))
  refine Gl.back (fun _ k => XS.iushr X248.here hx rfl (hb hby at_95) rfl k) ?_
  show Gl _ _ _ _ _ _ _ (T248.setTop (mkF m 96 #[.val (.long j0), .second, .val (.long j1), .second, .val (.int i4), .val (.int i5), .val (.long xa), .second, .val (.long xb), .second, .val (.ref b227), .val (.ref rr236), .val (.ref b240), .val (.long xa), .second, .val (.long xb), .second, .val (.int (((i4.toUInt32 >>> ((24 : Int32) &&& 31).toUInt32).toInt32) &&& (255 : Int32))), .val (.int (i4 &&& (255 : Int32))), .unset, .unset, .unset, .unset, .unset, .unset, .unset, .unset, .unset, .unset, .unset, .unset, .unset, .unset, .unset, .unset] [(.int ((i4.toUInt32 >>> ((8 : Int32) &&& 31).toUInt32).toInt32))]))
  refine Gl.back (fun _ k => XS.sipush X248.here hx rfl (hb hby at_96) k) ?_
  show Gl _ _ _ _ _ _ _ (T248.setTop (mkF m 99 #[.val (.long j0), .second, .val (.long j1), .second, .val (.int i4), .val (.int i5), .val (.long xa), .second, .val (.long xb), .second, .val (.ref b227), .val (.ref rr236), .val (.ref b240), .val (.long xa), .second, .val (.long xb), .second, .val (.int (((i4.toUInt32 >>> ((24 : Int32) &&& 31).toUInt32).toInt32) &&& (255 : Int32))), .val (.int (i4 &&& (255 : Int32))), .unset, .unset, .unset, .unset, .unset, .unset, .unset, .unset, .unset, .unset, .unset, .unset, .unset, .unset, .unset, .unset] [(.int (255 : Int32)), (.int ((i4.toUInt32 >>> ((8 : Int32) &&& 31).toUInt32).toInt32))]))
  refine Gl.back (fun _ k => XS.iand X248.here hx rfl (hb hby at_99) rfl k) ?_
  show Gl _ _ _ _ _ _ _ (T248.setTop (mkF m 100 #[.val (.long j0), .second, .val (.long j1), .second, .val (.int i4), .val (.int i5), .val (.long xa), .second, .val (.long xb), .second, .val (.ref b227), .val (.ref rr236), .val (.ref b240), .val (.long xa), .second, .val (.long xb), .second, .val (.int (((i4.toUInt32 >>> ((24 : Int32) &&& 31).toUInt32).toInt32) &&& (255 : Int32))), .val (.int (i4 &&& (255 : Int32))), .unset, .unset, .unset, .unset, .unset, .unset, .unset, .unset, .unset, .unset, .unset, .unset, .unset, .unset, .unset, .unset] [(.int (((i4.toUInt32 >>> ((8 : Int32) &&& 31).toUInt32).toInt32) &&& (255 : Int32)))]))
  refine Gl.back (fun _ k => XS.istore X248.here hx rfl (hb hby at_100) rfl (l' := #[.val (.long j0), .second, .val (.long j1), .second, .val (.int i4), .val (.int i5), .val (.long xa), .second, .val (.long xb), .second, .val (.ref b227), .val (.ref rr236), .val (.ref b240), .val (.long xa), .second, .val (.long xb), .second, .val (.int (((i4.toUInt32 >>> ((24 : Int32) &&& 31).toUInt32).toInt32) &&& (255 : Int32))), .val (.int (i4 &&& (255 : Int32))), .val (.int (((i4.toUInt32 >>> ((8 : Int32) &&& 31).toUInt32).toInt32) &&& (255 : Int32))), .unset, .unset, .unset, .unset, .unset, .unset, .unset, .unset, .unset, .unset, .unset, .unset, .unset, .unset, .unset]) rfl k) ?_
  show Gl _ _ _ _ _ _ _ (T248.setTop (mkF m 102 #[.val (.long j0), .second, .val (.long j1), .second, .val (.int i4), .val (.int i5), .val (.long xa), .second, .val (.long xb), .second, .val (.ref b227), .val (.ref rr236), .val (.ref b240), .val (.long xa), .second, .val (.long xb), .second, .val (.int (((i4.toUInt32 >>> ((24 : Int32) &&& 31).toUInt32).toInt32) &&& (255 : Int32))), .val (.int (i4 &&& (255 : Int32))), .val (.int (((i4.toUInt32 >>> ((8 : Int32) &&& 31).toUInt32).toInt32) &&& (255 : Int32))), .unset, .unset, .unset, .unset, .unset, .unset, .unset, .unset, .unset, .unset, .unset, .unset, .unset, .unset, .unset] []))
  refine Gl.back (fun _ k => XS.iload X248.here hx rfl (hb hby at_102) rfl k) ?_
  show Gl _ _ _ _ _ _ _ (T248.setTop (mkF m 104 #[.val (.long j0), .second, .val (.long j1), .second, .val (.int i4), .val (.int i5), .val (.long xa), .second, .val (.long xb), .second, .val (.ref b227), .val (.ref rr236), .val (.ref b240), .val (.long xa), .second, .val (.long xb), .second, .val (.int (((i4.toUInt32 >>> ((24 : Int32) &&& 31).toUInt32).toInt32) &&& (255 : Int32))), .val (.int (i4 &&& (255 : Int32))), .val (.int (((i4.toUInt32 >>> ((8 : Int32) &&& 31).toUInt32).toInt32) &&& (255 : Int32))), .unset, .unset, .unset, .unset, .unset, .unset, .unset, .unset, .unset, .unset, .unset, .unset, .unset, .unset, .unset] [(.int i4)]))
  refine Gl.back (fun _ k => XS.bipush X248.here hx rfl (hb hby at_104) k) ?_
  show Gl _ _ _ _ _ _ _ (T248.setTop (mkF m 106 #[.val (.long j0), .second, .val (.long j1), .second, .val (.int i4), .val (.int i5), .val (.long xa), .second, .val (.long xb), .second, .val (.ref b227), .val (.ref rr236), .val (.ref b240), .val (.long xa), .second, .val (.long xb), .second, .val (.int (((i4.toUInt32 >>> ((24 : Int32) &&& 31).toUInt32).toInt32) &&& (255 : Int32))), .val (.int (i4 &&& (255 : Int32))), .val (.int (((i4.toUInt32 >>> ((8 : Int32) &&& 31).toUInt32).toInt32) &&& (255 : Int32))), .unset, .unset, .unset, .unset, .unset, .unset, .unset, .unset, .unset, .unset, .unset, .unset, .unset, .unset, .unset] [(.int (16 : Int32)), (.int i4)]))
  refine Gl.back (fun _ k => XS.iushr X248.here hx rfl (hb hby at_106) rfl k) ?_
  show Gl _ _ _ _ _ _ _ (T248.setTop (mkF m 107 #[.val (.long j0), .second, .val (.long j1), .second, .val (.int i4), .val (.int i5), .val (.long xa), .second, .val (.long xb), .second, .val (.ref b227), .val (.ref rr236), .val (.ref b240), .val (.long xa), .second, .val (.long xb), .second, .val (.int (((i4.toUInt32 >>> ((24 : Int32) &&& 31).toUInt32).toInt32) &&& (255 : Int32))), .val (.int (i4 &&& (255 : Int32))), .val (.int (((i4.toUInt32 >>> ((8 : Int32) &&& 31).toUInt32).toInt32) &&& (255 : Int32))), .unset, .unset, .unset, .unset, .unset, .unset, .unset, .unset, .unset, .unset, .unset, .unset, .unset, .unset, .unset] [(.int ((i4.toUInt32 >>> ((16 : Int32) &&& 31).toUInt32).toInt32))]))
  refine Gl.back (fun _ k => XS.sipush X248.here hx rfl (hb hby at_107) k) ?_
  show Gl _ _ _ _ _ _ _ (T248.setTop (mkF m 110 #[.val (.long j0), .second, .val (.long j1), .second, .val (.int i4), .val (.int i5), .val (.long xa), .second, .val (.long xb), .second, .val (.ref b227), .val (.ref rr236), .val (.ref b240), .val (.long xa), .second, .val (.long xb), .second, .val (.int (((i4.toUInt32 >>> ((24 : Int32) &&& 31).toUInt32).toInt32) &&& (255 : Int32))), .val (.int (i4 &&& (255 : Int32))), .val (.int (((i4.toUInt32 >>> ((8 : Int32) &&& 31).toUInt32).toInt32) &&& (255 : Int32))), .unset, .unset, .unset, .unset, .unset, .unset, .unset, .unset, .unset, .unset, .unset, .unset, .unset, .unset, .unset] [(.int (255 : Int32)), (.int ((i4.toUInt32 >>> ((16 : Int32) &&& 31).toUInt32).toInt32))]))
  refine Gl.back (fun _ k => XS.iand X248.here hx rfl (hb hby at_110) rfl k) ?_
  show Gl _ _ _ _ _ _ _ (T248.setTop (mkF m 111 #[.val (.long j0), .second, .val (.long j1), .second, .val (.int i4), .val (.int i5), .val (.long xa), .second, .val (.long xb), .second, .val (.ref b227), .val (.ref rr236), .val (.ref b240), .val (.long xa), .second, .val (.long xb), .second, .val (.int (((i4.toUInt32 >>> ((24 : Int32) &&& 31).toUInt32).toInt32) &&& (255 : Int32))), .val (.int (i4 &&& (255 : Int32))), .val (.int (((i4.toUInt32 >>> ((8 : Int32) &&& 31).toUInt32).toInt32) &&& (255 : Int32))), .unset, .unset, .unset, .unset, .unset, .unset, .unset, .unset, .unset, .unset, .unset, .unset, .unset, .unset, .unset] [(.int (((i4.toUInt32 >>> ((16 : Int32) &&& 31).toUInt32).toInt32) &&& (255 : Int32)))]))
  refine Gl.back (fun _ k => XS.istore X248.here hx rfl (hb hby at_111) rfl (l' := #[.val (.long j0), .second, .val (.long j1), .second, .val (.int i4), .val (.int i5), .val (.long xa), .second, .val (.long xb), .second, .val (.ref b227), .val (.ref rr236), .val (.ref b240), .val (.long xa), .second, .val (.long xb), .second, .val (.int (((i4.toUInt32 >>> ((24 : Int32) &&& 31).toUInt32).toInt32) &&& (255 : Int32))), .val (.int (i4 &&& (255 : Int32))), .val (.int (((i4.toUInt32 >>> ((8 : Int32) &&& 31).toUInt32).toInt32) &&& (255 : Int32))), .val (.int (((i4.toUInt32 >>> ((16 : Int32) &&& 31).toUInt32).toInt32) &&& (255 : Int32))), .unset, .unset, .unset, .unset, .unset, .unset, .unset, .unset, .unset, .unset, .unset, .unset, .unset, .unset]) rfl k) ?_
  show Gl _ _ _ _ _ _ _ (T248.setTop (mkF m 113 #[.val (.long j0), .second, .val (.long j1), .second, .val (.int i4), .val (.int i5), .val (.long xa), .second, .val (.long xb), .second, .val (.ref b227), .val (.ref rr236), .val (.ref b240), .val (.long xa), .second, .val (.long xb), .second, .val (.int (((i4.toUInt32 >>> ((24 : Int32) &&& 31).toUInt32).toInt32) &&& (255 : Int32))), .val (.int (i4 &&& (255 : Int32))), .val (.int (((i4.toUInt32 >>> ((8 : Int32) &&& 31).toUInt32).toInt32) &&& (255 : Int32))), .val (.int (((i4.toUInt32 >>> ((16 : Int32) &&& 31).toUInt32).toInt32) &&& (255 : Int32))), .unset, .unset, .unset, .unset, .unset, .unset, .unset, .unset, .unset, .unset, .unset, .unset, .unset, .unset] []))
  refine Gl.back (fun _ k => XS.iload X248.here hx rfl (hb hby at_113) rfl k) ?_
  show Gl _ _ _ _ _ _ _ (T248.setTop (mkF m 115 #[.val (.long j0), .second, .val (.long j1), .second, .val (.int i4), .val (.int i5), .val (.long xa), .second, .val (.long xb), .second, .val (.ref b227), .val (.ref rr236), .val (.ref b240), .val (.long xa), .second, .val (.long xb), .second, .val (.int (((i4.toUInt32 >>> ((24 : Int32) &&& 31).toUInt32).toInt32) &&& (255 : Int32))), .val (.int (i4 &&& (255 : Int32))), .val (.int (((i4.toUInt32 >>> ((8 : Int32) &&& 31).toUInt32).toInt32) &&& (255 : Int32))), .val (.int (((i4.toUInt32 >>> ((16 : Int32) &&& 31).toUInt32).toInt32) &&& (255 : Int32))), .unset, .unset, .unset, .unset, .unset, .unset, .unset, .unset, .unset, .unset, .unset, .unset, .unset, .unset] [(.int i5)]))
  refine Gl.back (fun _ k => XS.bipush X248.here hx rfl (hb hby at_115) k) ?_
  show Gl _ _ _ _ _ _ _ (T248.setTop (mkF m 117 #[.val (.long j0), .second, .val (.long j1), .second, .val (.int i4), .val (.int i5), .val (.long xa), .second, .val (.long xb), .second, .val (.ref b227), .val (.ref rr236), .val (.ref b240), .val (.long xa), .second, .val (.long xb), .second, .val (.int (((i4.toUInt32 >>> ((24 : Int32) &&& 31).toUInt32).toInt32) &&& (255 : Int32))), .val (.int (i4 &&& (255 : Int32))), .val (.int (((i4.toUInt32 >>> ((8 : Int32) &&& 31).toUInt32).toInt32) &&& (255 : Int32))), .val (.int (((i4.toUInt32 >>> ((16 : Int32) &&& 31).toUInt32).toInt32) &&& (255 : Int32))), .unset, .unset, .unset, .unset, .unset, .unset, .unset, .unset, .unset, .unset, .unset, .unset, .unset, .unset] [(.int (127 : Int32)), (.int i5)]))
  refine Gl.back (fun _ k => XS.iand X248.here hx rfl (hb hby at_117) rfl k) ?_
  show Gl _ _ _ _ _ _ _ (T248.setTop (mkF m 118 #[.val (.long j0), .second, .val (.long j1), .second, .val (.int i4), .val (.int i5), .val (.long xa), .second, .val (.long xb), .second, .val (.ref b227), .val (.ref rr236), .val (.ref b240), .val (.long xa), .second, .val (.long xb), .second, .val (.int (((i4.toUInt32 >>> ((24 : Int32) &&& 31).toUInt32).toInt32) &&& (255 : Int32))), .val (.int (i4 &&& (255 : Int32))), .val (.int (((i4.toUInt32 >>> ((8 : Int32) &&& 31).toUInt32).toInt32) &&& (255 : Int32))), .val (.int (((i4.toUInt32 >>> ((16 : Int32) &&& 31).toUInt32).toInt32) &&& (255 : Int32))), .unset, .unset, .unset, .unset, .unset, .unset, .unset, .unset, .unset, .unset, .unset, .unset, .unset, .unset] [(.int (i5 &&& (127 : Int32)))]))
  refine Gl.back (fun _ k => XS.istore X248.here hx rfl (hb hby at_118) rfl (l' := #[.val (.long j0), .second, .val (.long j1), .second, .val (.int i4), .val (.int i5), .val (.long xa), .second, .val (.long xb), .second, .val (.ref b227), .val (.ref rr236), .val (.ref b240), .val (.long xa), .second, .val (.long xb), .second, .val (.int (((i4.toUInt32 >>> ((24 : Int32) &&& 31).toUInt32).toInt32) &&& (255 : Int32))), .val (.int (i4 &&& (255 : Int32))), .val (.int (((i4.toUInt32 >>> ((8 : Int32) &&& 31).toUInt32).toInt32) &&& (255 : Int32))), .val (.int (((i4.toUInt32 >>> ((16 : Int32) &&& 31).toUInt32).toInt32) &&& (255 : Int32))), .val (.int (i5 &&& (127 : Int32))), .unset, .unset, .unset, .unset, .unset, .unset, .unset, .unset, .unset, .unset, .unset, .unset, .unset]) rfl k) ?_
  show Gl _ _ _ _ _ _ _ (T248.setTop (mkF m 120 #[.val (.long j0), .second, .val (.long j1), .second, .val (.int i4), .val (.int i5), .val (.long xa), .second, .val (.long xb), .second, .val (.ref b227), .val (.ref rr236), .val (.ref b240), .val (.long xa), .second, .val (.long xb), .second, .val (.int (((i4.toUInt32 >>> ((24 : Int32) &&& 31).toUInt32).toInt32) &&& (255 : Int32))), .val (.int (i4 &&& (255 : Int32))), .val (.int (((i4.toUInt32 >>> ((8 : Int32) &&& 31).toUInt32).toInt32) &&& (255 : Int32))), .val (.int (((i4.toUInt32 >>> ((16 : Int32) &&& 31).toUInt32).toInt32) &&& (255 : Int32))), .val (.int (i5 &&& (127 : Int32))), .unset, .unset, .unset, .unset, .unset, .unset, .unset, .unset, .unset, .unset, .unset, .unset, .unset] []))
  refine Gl.back (fun _ k => XS.iload X248.here hx rfl (hb hby at_120) rfl k) ?_
  show Gl _ _ _ _ _ _ _ (T248.setTop (mkF m 122 #[.val (.long j0), .second, .val (.long j1), .second, .val (.int i4), .val (.int i5), .val (.long xa), .second, .val (.long xb), .second, .val (.ref b227), .val (.ref rr236), .val (.ref b240), .val (.long xa), .second, .val (.long xb), .second, .val (.int (((i4.toUInt32 >>> ((24 : Int32) &&& 31).toUInt32).toInt32) &&& (255 : Int32))), .val (.int (i4 &&& (255 : Int32))), .val (.int (((i4.toUInt32 >>> ((8 : Int32) &&& 31).toUInt32).toInt32) &&& (255 : Int32))), .val (.int (((i4.toUInt32 >>> ((16 : Int32) &&& 31).toUInt32).toInt32) &&& (255 : Int32))), .val (.int (i5 &&& (127 : Int32))), .unset, .unset, .unset, .unset, .unset, .unset, .unset, .unset, .unset, .unset, .unset, .unset, .unset] [(.int i5)]))
  refine Gl.back (fun _ k => XS.bipush X248.here hx rfl (hb hby at_122) k) ?_
  show Gl _ _ _ _ _ _ _ (T248.setTop (mkF m 124 #[.val (.long j0), .second, .val (.long j1), .second, .val (.int i4), .val (.int i5), .val (.long xa), .second, .val (.long xb), .second, .val (.ref b227), .val (.ref rr236), .val (.ref b240), .val (.long xa), .second, .val (.long xb), .second, .val (.int (((i4.toUInt32 >>> ((24 : Int32) &&& 31).toUInt32).toInt32) &&& (255 : Int32))), .val (.int (i4 &&& (255 : Int32))), .val (.int (((i4.toUInt32 >>> ((8 : Int32) &&& 31).toUInt32).toInt32) &&& (255 : Int32))), .val (.int (((i4.toUInt32 >>> ((16 : Int32) &&& 31).toUInt32).toInt32) &&& (255 : Int32))), .val (.int (i5 &&& (127 : Int32))), .unset, .unset, .unset, .unset, .unset, .unset, .unset, .unset, .unset, .unset, .unset, .unset, .unset] [(.int (7 : Int32)), (.int i5)]))
  refine Gl.back (fun _ k => XS.iushr X248.here hx rfl (hb hby at_124) rfl k) ?_
  show Gl _ _ _ _ _ _ _ (T248.setTop (mkF m 125 #[.val (.long j0), .second, .val (.long j1), .second, .val (.int i4), .val (.int i5), .val (.long xa), .second, .val (.long xb), .second, .val (.ref b227), .val (.ref rr236), .val (.ref b240), .val (.long xa), .second, .val (.long xb), .second, .val (.int (((i4.toUInt32 >>> ((24 : Int32) &&& 31).toUInt32).toInt32) &&& (255 : Int32))), .val (.int (i4 &&& (255 : Int32))), .val (.int (((i4.toUInt32 >>> ((8 : Int32) &&& 31).toUInt32).toInt32) &&& (255 : Int32))), .val (.int (((i4.toUInt32 >>> ((16 : Int32) &&& 31).toUInt32).toInt32) &&& (255 : Int32))), .val (.int (i5 &&& (127 : Int32))), .unset, .unset, .unset, .unset, .unset, .unset, .unset, .unset, .unset, .unset, .unset, .unset, .unset] [(.int ((i5.toUInt32 >>> ((7 : Int32) &&& 31).toUInt32).toInt32))]))
  refine Gl.back (fun _ k => XS.bipush X248.here hx rfl (hb hby at_125) k) ?_
  show Gl _ _ _ _ _ _ _ (T248.setTop (mkF m 127 #[.val (.long j0), .second, .val (.long j1), .second, .val (.int i4), .val (.int i5), .val (.long xa), .second, .val (.long xb), .second, .val (.ref b227), .val (.ref rr236), .val (.ref b240), .val (.long xa), .second, .val (.long xb), .second, .val (.int (((i4.toUInt32 >>> ((24 : Int32) &&& 31).toUInt32).toInt32) &&& (255 : Int32))), .val (.int (i4 &&& (255 : Int32))), .val (.int (((i4.toUInt32 >>> ((8 : Int32) &&& 31).toUInt32).toInt32) &&& (255 : Int32))), .val (.int (((i4.toUInt32 >>> ((16 : Int32) &&& 31).toUInt32).toInt32) &&& (255 : Int32))), .val (.int (i5 &&& (127 : Int32))), .unset, .unset, .unset, .unset, .unset, .unset, .unset, .unset, .unset, .unset, .unset, .unset, .unset] [(.int (127 : Int32)), (.int ((i5.toUInt32 >>> ((7 : Int32) &&& 31).toUInt32).toInt32))]))
  refine Gl.back (fun _ k => XS.iand X248.here hx rfl (hb hby at_127) rfl k) ?_
  show Gl _ _ _ _ _ _ _ (T248.setTop (mkF m 128 #[.val (.long j0), .second, .val (.long j1), .second, .val (.int i4), .val (.int i5), .val (.long xa), .second, .val (.long xb), .second, .val (.ref b227), .val (.ref rr236), .val (.ref b240), .val (.long xa), .second, .val (.long xb), .second, .val (.int (((i4.toUInt32 >>> ((24 : Int32) &&& 31).toUInt32).toInt32) &&& (255 : Int32))), .val (.int (i4 &&& (255 : Int32))), .val (.int (((i4.toUInt32 >>> ((8 : Int32) &&& 31).toUInt32).toInt32) &&& (255 : Int32))), .val (.int (((i4.toUInt32 >>> ((16 : Int32) &&& 31).toUInt32).toInt32) &&& (255 : Int32))), .val (.int (i5 &&& (127 : Int32))), .unset, .unset, .unset, .unset, .unset, .unset, .unset, .unset, .unset, .unset, .unset, .unset, .unset] [(.int (((i5.toUInt32 >>> ((7 : Int32) &&& 31).toUInt32).toInt32) &&& (127 : Int32)))]))
  refine Gl.back (fun _ k => XS.istore X248.here hx rfl (hb hby at_128) rfl (l' := #[.val (.long j0), .second, .val (.long j1), .second, .val (.int i4), .val (.int i5), .val (.long xa), .second, .val (.long xb), .second, .val (.ref b227), .val (.ref rr236), .val (.ref b240), .val (.long xa), .second, .val (.long xb), .second, .val (.int (((i4.toUInt32 >>> ((24 : Int32) &&& 31).toUInt32).toInt32) &&& (255 : Int32))), .val (.int (i4 &&& (255 : Int32))), .val (.int (((i4.toUInt32 >>> ((8 : Int32) &&& 31).toUInt32).toInt32) &&& (255 : Int32))), .val (.int (((i4.toUInt32 >>> ((16 : Int32) &&& 31).toUInt32).toInt32) &&& (255 : Int32))), .val (.int (i5 &&& (127 : Int32))), .val (.int (((i5.toUInt32 >>> ((7 : Int32) &&& 31).toUInt32).toInt32) &&& (127 : Int32))), .unset, .unset, .unset, .unset, .unset, .unset, .unset, .unset, .unset, .unset, .unset, .unset]) rfl k) ?_
  show Gl _ _ _ _ _ _ _ (T248.setTop (mkF m 130 #[.val (.long j0), .second, .val (.long j1), .second, .val (.int i4), .val (.int i5), .val (.long xa), .second, .val (.long xb), .second, .val (.ref b227), .val (.ref rr236), .val (.ref b240), .val (.long xa), .second, .val (.long xb), .second, .val (.int (((i4.toUInt32 >>> ((24 : Int32) &&& 31).toUInt32).toInt32) &&& (255 : Int32))), .val (.int (i4 &&& (255 : Int32))), .val (.int (((i4.toUInt32 >>> ((8 : Int32) &&& 31).toUInt32).toInt32) &&& (255 : Int32))), .val (.int (((i4.toUInt32 >>> ((16 : Int32) &&& 31).toUInt32).toInt32) &&& (255 : Int32))), .val (.int (i5 &&& (127 : Int32))), .val (.int (((i5.toUInt32 >>> ((7 : Int32) &&& 31).toUInt32).toInt32) &&& (127 : Int32))), .unset, .unset, .unset, .unset, .unset, .unset, .unset, .unset, .unset, .unset, .unset, .unset] []))
  obtain ⟨bx17, lb17, eb17⟩ := own_and255 ((i4.toUInt32 >>> ((24 : Int32) &&& 31).toUInt32).toInt32)
  rw [eb17]
  obtain ⟨bx18, lb18, eb18⟩ := own_and255 i4
  rw [eb18]
  obtain ⟨bx19, lb19, eb19⟩ := own_and255 ((i4.toUInt32 >>> ((8 : Int32) &&& 31).toUInt32).toInt32)
  rw [eb19]
  obtain ⟨bx20, lb20, eb20⟩ := own_and255 ((i4.toUInt32 >>> ((16 : Int32) &&& 31).toUInt32).toInt32)
  rw [eb20]
  obtain ⟨bx21, lb21, eb21⟩ := own_and127 i5
  rw [eb21]
  obtain ⟨bx22, lb22, eb22⟩ := own_and127 ((i5.toUInt32 >>> ((7 : Int32) &&& 31).toUInt32).toInt32)
  rw [eb22]
  show Gl _ _ _ _ _ _ _ (T248.setTop (mkF m 130 #[.val (.long j0), .second, .val (.long j1), .second, .val (.int i4), .val (.int i5), .val (.long xa), .second, .val (.long xb), .second, .val (.ref b227), .val (.ref rr236), .val (.ref b240), .val (.long xa), .second, .val (.long xb), .second, .val (.int (Int32.ofNat bx17)), .val (.int (Int32.ofNat bx18)), .val (.int (Int32.ofNat bx19)), .val (.int (Int32.ofNat bx20)), .val (.int (Int32.ofNat bx21)), .val (.int (Int32.ofNat bx22)), .unset, .unset, .unset, .unset, .unset, .unset, .unset, .unset, .unset, .unset, .unset, .unset] []))
  refine Gl.back (fun _ k => XS.bipush X248.here hx rfl (hb hby at_130) k) ?_
  show Gl _ _ _ _ _ _ _ (T248.setTop (mkF m 132 #[.val (.long j0), .second, .val (.long j1), .second, .val (.int i4), .val (.int i5), .val (.long xa), .second, .val (.long xb), .second, .val (.ref b227), .val (.ref rr236), .val (.ref b240), .val (.long xa), .second, .val (.long xb), .second, .val (.int (Int32.ofNat bx17)), .val (.int (Int32.ofNat bx18)), .val (.int (Int32.ofNat bx19)), .val (.int (Int32.ofNat bx20)), .val (.int (Int32.ofNat bx21)), .val (.int (Int32.ofNat bx22)), .unset, .unset, .unset, .unset, .unset, .unset, .unset, .unset, .unset, .unset, .unset, .unset] [(.int (6 : Int32))]))
  obtain ⟨T251, h251, k251, X251, e251, E251, A251, st251⟩ := newP X248 hx hZ (hw _ (List.mem_of_getElem? (i := 27) rfl)) rfl (g := (mkF m 132 #[.val (.long j0), .second, .val (.long j1), .second, .val (.int i4), .val (.int i5), .val (.long xa), .second, .val (.long xb), .second, .val (.ref b227), .val (.ref rr236), .val (.ref b240), .val (.long xa), .second, .val (.long xb), .second, .val (.int (Int32.ofNat bx17)), .val (.int (Int32.ofNat bx18)), .val (.int (Int32.ofNat bx19)), .val (.int (Int32.ofNat bx20)), .val (.int (Int32.ofNat bx21)), .val (.int (Int32.ofNat bx22)), .unset, .unset, .unset, .unset, .unset, .unset, .unset, .unset, .unset, .unset, .unset, .unset] [(.int (6 : Int32))])) rfl (hb hby at_132) rfl (by decide) (cap := 6) (by decide) (by decide) (by decide) (by decide)
  obtain ⟨b251, g251⟩ : ∃ z, z = T248.heap.size := ⟨_, rfl⟩
  rw [← g251] at A251 st251
  have V251 : Arv Z h251 b251 k251 .byte (6 : Int32) [(.int (0 : Int32)), (.int (0 : Int32)), (.int (0 : Int32)), (.int (0 : Int32)), (.int (0 : Int32)), (.int (0 : Int32))] (.int (0 : Int32)) := (Arv.new A251 (by decide)).pad (pad_rep [] (.int (0 : Int32)) 6)
  have f252 := ((((f241.ext E240).keep Kq244).keep Kq245).keep Kq248)
  have ne_b227_b251 : b227 ≠ b251 := Nat.ne_of_lt (Nat.lt_of_lt_of_le f252.lt (Nat.le_of_eq g251.symm))
  have f253 := ((((f242.ext E240).keep Kq244).keep Kq245).keep Kq248)
  have ne_o228_b251 : o228 ≠ b251 := Nat.ne_of_lt (Nat.lt_of_lt_of_le f253.lt (Nat.le_of_eq g251.symm))
  have f254 := ((((f243.ext E240).keep Kq244 (ninS ne_t228_b240 nin0)).keep Kq245 (ninS ne_t228_b240 nin0)).keep Kq248 (ninS ne_t228_b240 nin0))
  have ne_t228_b251 : t228 ≠ b251 := Nat.ne_of_lt (Nat.lt_of_lt_of_le f254.lt (Nat.le_of_eq g251.symm))
  have f255 := (f250.keep Kq248 (ninS ne_rr236_b240 nin0))
  have ne_rr236_b251 : rr236 ≠ b251 := Nat.ne_of_lt (Nat.lt_of_lt_of_le f255.lt (Nat.le_of_eq g251.symm))
  have f256 := (f249.keep Kq248)
  have ne_b240_b251 : b240 ≠ b251 := Nat.ne_of_lt (Nat.lt_of_lt_of_le f256.lt (Nat.le_of_eq g251.symm))
  have g_b251 : n0 ≤ b251 := Nat.le_trans Zc248 (Nat.le_of_eq g251.symm)
  have sz_b251 : h0.size ≤ b251 := Nat.le_trans Kc248.1 (Nat.le_of_eq g251.symm)
  have Z251 : n0 ≤ h251.size := Nat.le_trans Zc248 E251.1
  have K251 := Keep.ext Kc248 E251
  refine Gl.back (fun _ k => st251 _ k) ?_
  show Gl _ _ _ _ _ _ _ (T251.setTop (mkF m 134 #[.val (.long j0), .second, .val (.long j1), .second, .val (.int i4), .val (.int i5), .val (.long xa), .second, .val (.long xb), .second, .val (.ref b227), .val (.ref rr236), .val (.ref b240), .val (.long xa), .second, .val (.long xb), .second, .val (.int (Int32.ofNat bx17)), .val (.int (Int32.ofNat bx18)), .val (.int (Int32.ofNat bx19)), .val (.int (Int32.ofNat bx20)), .val (.int (Int32.ofNat bx21)), .val (.int (Int32.ofNat bx22)), .unset, .unset, .unset, .unset, .unset, .unset, .unset, .unset, .unset, .unset, .unset, .unset] [(.ref b251)]))
  refine Gl.back (fun _ k => XS.dup X251.here hx rfl (hb hby at_134) rfl rfl k) ?_
  show Gl _ _ _ _ _ _ _ (T251.setTop (mkF m 135 #[.val (.long j0), .second, .val (.long j1), .second, .val (.int i4), .val (.int i5), .val (.long xa), .second, .val (.long xb), .second, .val (.ref b227), .val (.ref rr236), .val (.ref b240), .val (.long xa), .second, .val (.long xb), .second, .val (.int (Int32.ofNat bx17)), .val (.int (Int32.ofNat bx18)), .val (.int (Int32.ofNat bx19)), .val (.int (Int32.ofNat bx20)), .val (.int (Int32.ofNat bx21)), .val (.int (Int32.ofNat bx22)), .unset, .unset, .unset, .unset, .unset, .unset, .unset, .unset, .unset, .unset, .unset, .unset] [(.ref b251), (.ref b251)]))
  refine Gl.back (fun _ k => XS.iconst X251.here hx rfl (hb hby at_135) k) ?_
  show Gl _ _ _ _ _ _ _ (T251.setTop (mkF m 136 #[.val (.long j0), .second, .val (.long j1), .second, .val (.int i4), .val (.int i5), .val (.long xa), .second, .val (.long xb), .second, .val (.ref b227), .val (.ref rr236), .val (.ref b240), .val (.long xa), .second, .val (.long xb), .second, .val (.int (Int32.ofNat bx17)), .val (.int (Int32.ofNat bx18)), .val (.int (Int32.ofNat bx19)), .val (.int (Int32.ofNat bx20)), .val (.int (Int32.ofNat bx21)), .val (.int (Int32.ofNat bx22)), .unset, .unset, .unset, .unset, .unset, .unset, .unset, .unset, .unset, .unset, .unset, .unset] [(.int (0 : Int32)), (.ref b251), (.ref b251)]))
  refine Gl.back (fun _ k => XS.iload X251.here hx rfl (hb hby at_136) rfl k) ?_
  show Gl _ _ _ _ _ _ _ (T251.setTop (mkF m 138 #[.val (.long j0), .second, .val (.long j1), .second, .val (.int i4), .val (.int i5), .val (.long xa), .second, .val (.long xb), .second, .val (.ref b227), .val (.ref rr236), .val (.ref b240), .val (.long xa), .second, .val (.long xb), .second, .val (.int (Int32.ofNat bx17)), .val (.int (Int32.ofNat bx18)), .val (.int (Int32.ofNat bx19)), .val (.int (Int32.ofNat bx20)), .val (.int (Int32.ofNat bx21)), .val (.int (Int32.ofNat bx22)), .unset, .unset, .unset, .unset, .unset, .unset, .unset, .unset, .unset, .unset, .unset, .unset] [(.int (Int32.ofNat bx17)), (.int (0 : Int32)), (.ref b251), (.ref b251)]))
  refine Gl.back (fun _ k => XS.i2b X251.here hx rfl (hb hby at_138) rfl k) ?_
  show Gl _ _ _ _ _ _ _ (T251.setTop (mkF m 139 #[.val (.long j0), .second, .val (.long j1), .second, .val (.int i4), .val (.int i5), .val (.long xa), .second, .val (.long xb), .second, .val (.ref b227), .val (.ref rr236), .val (.ref b240), .val (.long xa), .second, .val (.long xb), .second, .val (.int (Int32.ofNat bx17)), .val (.int (Int32.ofNat bx18)), .val (.int (Int32.ofNat bx19)), .val (.int (Int32.ofNat bx20)), .val (.int (Int32.ofNat bx21)), .val (.int (Int32.ofNat bx22)), .unset, .unset, .unset, .unset, .unset, .unset, .unset, .unset, .unset, .unset, .unset, .unset] [(.int ((Int32.ofNat bx17).toInt8.toInt32)), (.int (0 : Int32)), (.ref b251), (.ref b251)]))
  obtain ⟨cl257, Ar257, q257, Sz257, Nn257, Hs257, Gf257⟩ := id V251
  have hin257 : ¬ ((0 : Int32) < 0 ∨ cl257.slots.size ≤ ((0 : Int32)).toNatClampNeg) := inb_of Sz257 ⟨by decide, by decide⟩
  obtain ⟨T258, h258, X258, e258, W258, st258⟩ := stB X251 hx hZ e251 Ar257 (j := (0 : Int32)) hin257 (g := (mkF m 139 #[.val (.long j0), .second, .val (.long j1), .second, .val (.int i4), .val (.int i5), .val (.long xa), .second, .val (.long xb), .second, .val (.ref b227), .val (.ref rr236), .val (.ref b240), .val (.long xa), .second, .val (.long xb), .second, .val (.int (Int32.ofNat bx17)), .val (.int (Int32.ofNat bx18)), .val (.int (Int32.ofNat bx19)), .val (.int (Int32.ofNat bx20)), .val (.int (Int32.ofNat bx21)), .val (.int (Int32.ofNat bx22)), .unset, .unset, .unset, .unset, .unset, .unset, .unset, .unset, .unset, .unset, .unset, .unset] [(.int ((Int32.ofNat bx17).toInt8.toInt32)), (.int (0 : Int32)), (.ref b251), (.ref b251)])) rfl rfl (hb hby at_139)
  have V258 := Arv.set Ar257 q257 Sz257 Nn257 Hs257 Gf257 (fits_nar_byte _) W258 0 rfl (Nat.le_of_ble_eq_true rfl)
  replace V258 : Arv Z h258 b251 k251 .byte (6 : Int32) [(.int (nar .byte ((Int32.ofNat bx17).toInt8.toInt32))), (.int (0 : Int32)), (.int (0 : Int32)), (.int (0 : Int32)), (.int (0 : Int32)), (.int (0 : Int32))] (.int (0 : Int32)) := V258
  have K258 := Keep.wr K251 W258 (Or.inr sz_b251)
  have Z258 : n0 ≤ h258.size := Nat.le_trans Z251 (Keep.of_wr W258).1
  have N258 := Fr.snoc X258 N248 g_b251
  refine Gl.back (fun _ k => st258 _ k) ?_
  show Gl _ _ _ _ _ _ _ (T258.setTop (mkF m 140 #[.val (.long j0), .second, .val (.long j1), .second, .val (.int i4), .val (.int i5), .val (.long xa), .second, .val (.long xb), .second, .val (.ref b227), .val (.ref rr236), .val (.ref b240), .val (.long xa), .second, .val (.long xb), .second, .val (.int (Int32.ofNat bx17)), .val (.int (Int32.ofNat bx18)), .val (.int (Int32.ofNat bx19)), .val (.int (Int32.ofNat bx20)), .val (.int (Int32.ofNat bx21)), .val (.int (Int32.ofNat bx22)), .unset, .unset, .unset, .unset, .unset, .unset, .unset, .unset, .unset, .unset, .unset, .unset] [(.ref b251)]))
  refine Gl.back (fun _ k => XS.dup X258.here hx rfl (hb hby at_140) rfl rfl k) ?_
  show Gl _ _ _ _ _ _ _ (T258.setTop (mkF m 141 #[.val (.long j0), .second, .val (.long j1), .second, .val (.int i4), .val (.int i5), .val (.long xa), .second, .val (.long xb), .second, .val (.ref b227), .val (.ref rr236), .val (.ref b240), .val (.long xa), .second, .val (.long xb), .second, .val (.int (Int32.ofNat bx17)), .val (.int (Int32.ofNat bx18)), .val (.int (Int32.ofNat bx19)), .val (.int (Int32.ofNat bx20)), .val (.int (Int32.ofNat bx21)), .val (.int (Int32.ofNat bx22)), .unset, .unset, .unset, .unset, .unset, .unset, .unset, .unset, .unset, .unset, .unset, .unset] [(.ref b251), (.ref b251)]))
  refine Gl.back (fun _ k => XS.iconst X258.here hx rfl (hb hby at_141) k) ?_
  show Gl _ _ _ _ _ _ _ (T258.setTop (mkF m 142 #[.val (.long j0), .second, .val (.long j1), .second, .val (.int i4), .val (.int i5), .val (.long xa), .second, .val (.long xb), .second, .val (.ref b227), .val (.ref rr236), .val (.ref b240), .val (.long xa), .second, .val (.long xb), .second, .val (.int (Int32.ofNat bx17)), .val (.int (Int32.ofNat bx18)), .val (.int (Int32.ofNat bx19)), .val (.int (Int32.ofNat bx20)), .val (.int (Int32.ofNat bx21)), .val (.int (Int32.ofNat bx22)), .unset, .unset, .unset, .unset, .unset, .unset, .unset, .unset, .unset, .unset, .unset, .unset] [(.int (1 : Int32)), (.ref b251), (.ref b251)]))
  refine Gl.back (fun _ k => XS.iload X258.here hx rfl (hb hby at_142) rfl k) ?_
  show Gl _ _ _ _ _ _ _ (T258.setTop (mkF m 144 #[.val (.long j0), .second, .val (.long j1), .second, .val (.int i4), .val (.int i5), .val (.long xa), .second, .val (.long xb), .second, .val (.ref b227), .val (.ref rr236), .val (.ref b240), .val (.long xa), .second, .val (.long xb), .second, .val (.int (Int32.ofNat bx17)), .val (.int (Int32.ofNat bx18)), .val (.int (Int32.ofNat bx19)), .val (.int (Int32.ofNat bx20)), .val (.int (Int32.ofNat bx21)), .val (.int (Int32.ofNat bx22)), .unset, .unset, .unset, .unset, .unset, .unset, .unset, .unset, .unset, .unset, .unset, .unset] [(.int (Int32.ofNat bx18)), (.int (1 : Int32)), (.ref b251), (.ref b251)]))
  refine Gl.back (fun _ k => XS.i2b X258.here hx rfl (hb hby at_144) rfl k) ?_
  show Gl _ _ _ _ _ _ _ (T258.setTop (mkF m 145 #[.val (.long j0), .second, .val (.long j1), .second, .val (.int i4), .val (.int i5), .val (.long xa), .second, .val (.long xb), .second, .val (.ref b227), .val (.ref rr236), .val (.ref b240), .val (.long xa), .second, .val (.long xb), .second, .val (.int (Int32.ofNat bx17)), .val (.int (Int32.ofNat bx18)), .val (.int (Int32.ofNat bx19)), .val (.int (Int32.ofNat bx20)), .val (.int (Int32.ofNat bx21)), .val (.int (Int32.ofNat bx22)), .unset, .unset, .unset, .unset, .unset, .unset, .unset, .unset, .unset, .unset, .unset, .unset] [(.int ((Int32.ofNat bx18).toInt8.toInt32)), (.int (1 : Int32)), (.ref b251), (.ref b251)]))
  obtain ⟨cl259, Ar259, q259, Sz259, Nn259, Hs259, Gf259⟩ := id V258
  have hin259 : ¬ ((1 : Int32) < 0 ∨ cl259.slots.size ≤ ((1 : Int32)).toNatClampNeg) := inb_of Sz259 ⟨by decide, by decide⟩
  obtain ⟨T260, h260, X260, e260, W260, st260⟩ := stB X258 hx hZ e258 Ar259 (j := (1 : Int32)) hin259 (g := (mkF m 145 #[.val (.long j0), .second, .val (.long j1), .second, .val (.int i4), .val (.int i5), .val (.long xa), .second, .val (.long xb), .second, .val (.ref b227), .val (.ref rr236), .val (.ref b240), .val (.long xa), .second, .val (.long xb), .second, .val (.int (Int32.ofNat bx17)), .val (.int (Int32.ofNat bx18)), .val (.int (Int32.ofNat bx19)), .val (.int (Int32.ofNat bx20)), .val (.int (Int32.ofNat bx21)), .val (.int (Int32.ofNat bx22)), .unset, .unset, .unset, .unset, .unset, .unset, .unset, .unset, .unset, .unset, .unset, .unset] [(.int ((Int32.ofNat bx18).toInt8.toInt32)), (.int (1 : Int32)), (.ref b251), (.ref b251)])) rfl rfl (hb hby at_145)
  have V260 := Arv.set Ar259 q259 Sz259 Nn259 Hs259 Gf259 (fits_nar_byte _) W260 1 rfl (Nat.le_of_ble_eq_true rfl)
  replace V260 : Arv Z h260 b251 k251 .byte (6 : Int32) [(.int (nar .byte ((Int32.ofNat bx17).toInt8.toInt32))), (.int (nar .byte ((Int32.ofNat bx18).toInt8.toInt32))), (.int (0 : Int32)), (.int (0 : Int32)), (.int (0 : Int32)), (.int (0 : Int32))] (.int (0 : Int32)) := V260
  have K260 := Keep.wr K258 W260 (Or.inr sz_b251)
  have Z260 : n0 ≤ h260.size := Nat.le_trans Z258 (Keep.of_wr W260).1
  have N260 := Fr.snoc X260 N258 g_b251
  refine Gl.back (fun _ k => st260 _ k) ?_
  show Gl _ _ _ _ _ _ _ (T260.setTop (mkF m 146 #[.val (.long j0), .second, .val (.long j1), .second, .val (.int i4), .val (.int i5), .val (.long xa), .second, .val (.long xb), .second, .val (.ref b227), .val (.ref rr236), .val (.ref b240), .val (.long xa), .second, .val (.long xb), .second, .val (.int (Int32.ofNat bx17)), .val (.int (Int32.ofNat bx18)), .val (.int (Int32.ofNat bx19)), .val (.int (Int32.ofNat bx20)), .val (.int (Int32.ofNat bx21)), .val (.int (Int32.ofNat bx22)), .unset, .unset, .unset, .unset, .unset, .unset, .unset, .unset, .unset, .unset, .unset, .unset] [(.ref b251)]))
  refine Gl.back (fun _ k => XS.dup X260.here hx rfl (hb hby at_146) rfl rfl k) ?_
  show Gl _ _ _ _ _ _ _ (T260.setTop (mkF m 147 #[.val (.long j0), .second, .val (.long j1), .second, .val (.int i4), .val (.int i5), .val (.long xa), .second, .val (.long xb), .second, .val (.ref b227), .val (.ref rr236), .val (.ref b240), .val (.long xa), .second, .val (.long xb), .second, .val (.int (Int32.ofNat bx17)), .val (.int (Int32.ofNat bx18)), .val (.int (Int32.ofNat bx19)), .val (.int (Int32.ofNat bx20)), .val (.int (Int32.ofNat bx21)), .val (.int (Int32.ofNat bx22)), .unset, .unset, .unset, .unset, .unset, .unset, .unset, .unset, .unset, .unset, .unset, .unset] [(.ref b251), (.ref b251)]))
  refine Gl.back (fun _ k => XS.iconst X260.here hx rfl (hb hby at_147) k) ?_
  show Gl _ _ _ _ _ _ _ (T260.setTop (mkF m 148 #[.val (.long j0), .second, .val (.long j1), .second, .val (.int i4), .val (.int i5), .val (.long xa), .second, .val (.long xb), .second, .val (.ref b227), .val (.ref rr236), .val (.ref b240), .val (.long xa), .second, .val (.long xb), .second, .val (.int (Int32.ofNat bx17)), .val (.int (Int32.ofNat bx18)), .val (.int (Int32.ofNat bx19)), .val (.int (Int32.ofNat bx20)), .val (.int (Int32.ofNat bx21)), .val (.int (Int32.ofNat bx22)), .unset, .unset, .unset, .unset, .unset, .unset, .unset, .unset, .unset, .unset, .unset, .unset] [(.int (2 : Int32)), (.ref b251), (.ref b251)]))
  refine Gl.back (fun _ k => XS.iload X260.here hx rfl (hb hby at_148) rfl k) ?_
  show Gl _ _ _ _ _ _ _ (T260.setTop (mkF m 150 #[.val (.long j0), .second, .val (.long j1), .second, .val (.int i4), .val (.int i5), .val (.long xa), .second, .val (.long xb), .second, .val (.ref b227), .val (.ref rr236), .val (.ref b240), .val (.long xa), .second, .val (.long xb), .second, .val (.int (Int32.ofNat bx17)), .val (.int (Int32.ofNat bx18)), .val (.int (Int32.ofNat bx19)), .val (.int (Int32.ofNat bx20)), .val (.int (Int32.ofNat bx21)), .val (.int (Int32.ofNat bx22)), .unset, .unset, .unset, .unset, .unset, .unset, .unset, .unset, .unset, .unset, .unset, .unset] [(.int (Int32.ofNat bx19)), (.int (2 : Int32)), (.ref b251), (.ref b251)]))
  refine Gl.back (fun _ k => XS.i2b X260.here hx rfl (hb hby at_150) rfl k) ?_
  show Gl _ _ _ _ _ _ _ (T260.setTop (mkF m 151 #[.val (.long j0), .second, .val (.long j1), .second, .val (.int i4), .val (.int i5), .val (.long xa), .second, .val (.long xb), .second, .val (.ref b227), .val (.ref rr236), .val (.ref b240), .val (.long xa), .second, .val (.long xb), .second, .val (.int (Int32.ofNat bx17)), .val (.int (Int32.ofNat bx18)), .val (.int (Int32.ofNat bx19)), .val (.int (Int32.ofNat bx20)), .val (.int (Int32.ofNat bx21)), .val (.int (Int32.ofNat bx22)), .unset, .unset, .unset, .unset, .unset, .unset, .unset, .unset, .unset, .unset, .unset, .unset] [(.int ((Int32.ofNat bx19).toInt8.toInt32)), (.int (2 : Int32)), (.ref b251), (.ref b251)]))
  obtain ⟨cl261, Ar261, q261, Sz261, Nn261, Hs261, Gf261⟩ := id V260
  have hin261 : ¬ ((2 : Int32) < 0 ∨ cl261.slots.size ≤ ((2 : Int32)).toNatClampNeg) := inb_of Sz261 ⟨by decide, by decide⟩
  obtain ⟨T262, h262, X262, e262, W262, st262⟩ := stB X260 hx hZ e260 Ar261 (j := (2 : Int32)) hin261 (g := (mkF m 151 #[.val (.long j0), .second, .val (.long j1), .second, .val (.int i4), .val (.int i5), .val (.long xa), .second, .val (.long xb), .second, .val (.ref b227), .val (.ref rr236), .val (.ref b240), .val (.long xa), .second, .val (.long xb), .second, .val (.int (Int32.ofNat bx17)), .val (.int (Int32.ofNat bx18)), .val (.int (Int32.ofNat bx19)), .val (.int (Int32.ofNat bx20)), .val (.int (Int32.ofNat bx21)), .val (.int (Int32.ofNat bx22)), .unset, .unset, .unset, .unset, .unset, .unset, .unset, .unset, .unset, .unset, .unset, .unset] [(.int ((Int32.ofNat bx19).toInt8.toInt32)), (.int (2 : Int32)), (.ref b251), (.ref b251)])) rfl rfl (hb hby at_151)
  have V262 := Arv.set Ar261 q261 Sz261 Nn261 Hs261 Gf261 (fits_nar_byte _) W262 2 rfl (Nat.le_of_ble_eq_true rfl)
  replace V262 : Arv Z h262 b251 k251 .byte (6 : Int32) [(.int (nar .byte ((Int32.ofNat bx17).toInt8.toInt32))), (.int (nar .byte ((Int32.ofNat bx18).toInt8.toInt32))), (.int (nar .byte ((Int32.ofNat bx19).toInt8.toInt32))), (.int (0 : Int32)), (.int (0 : Int32)), (.int (0 : Int32))] (.int (0 : Int32)) := V262
  have K262 := Keep.wr K260 W262 (Or.inr sz_b251)
  have Z262 : n0 ≤ h262.size := Nat.le_trans Z260 (Keep.of_wr W262).1
  have N262 := Fr.snoc X262 N260 g_b251
  refine Gl.back (fun _ k => st262 _ k) ?_
  show Gl _ _ _ _ _ _ _ (T262.setTop (mkF m 152 #[.val (.long j0), .second, .val (.long j1), .second, .val (.int i4), .val (.int i5), .val (.long xa), .second, .val (.long xb), .second, .val (.ref b227), .val (.ref rr236), .val (.ref b240), .val (.long xa), .second, .val (.long xb), .second, .val (.int (Int32.ofNat bx17)), .val (.int (Int32.ofNat bx18)), .val (.int (Int32.ofNat bx19)), .val (.int (Int32.ofNat bx20)), .val (.int (Int32.ofNat bx21)), .val (.int (Int32.ofNat bx22)), .unset, .unset, .unset, .unset, .unset, .unset, .unset, .unset, .unset, .unset, .unset, .unset] [(.ref b251)]))
  refine Gl.back (fun _ k => XS.dup X262.here hx rfl (hb hby at_152) rfl rfl k) ?_
  show Gl _ _ _ _ _ _ _ (T262.setTop (mkF m 153 #[.val (.long j0), .second, .val (.long j1), .second, .val (.int i4), .val (.int i5), .val (.long xa), .second, .val (.long xb), .second, .val (.ref b227), .val (.ref rr236), .val (.ref b240), .val (.long xa), .second, .val (.long xb), .second, .val (.int (Int32.ofNat bx17)), .val (.int (Int32.ofNat bx18)), .val (.int (Int32.ofNat bx19)), .val (.int (Int32.ofNat bx20)), .val (.int (Int32.ofNat bx21)), .val (.int (Int32.ofNat bx22)), .unset, .unset, .unset, .unset, .unset, .unset, .unset, .unset, .unset, .unset, .unset, .unset] [(.ref b251), (.ref b251)]))
  refine Gl.back (fun _ k => XS.iconst X262.here hx rfl (hb hby at_153) k) ?_
  show Gl _ _ _ _ _ _ _ (T262.setTop (mkF m 154 #[.val (.long j0), .second, .val (.long j1), .second, .val (.int i4), .val (.int i5), .val (.long xa), .second, .val (.long xb), .second, .val (.ref b227), .val (.ref rr236), .val (.ref b240), .val (.long xa), .second, .val (.long xb), .second, .val (.int (Int32.ofNat bx17)), .val (.int (Int32.ofNat bx18)), .val (.int (Int32.ofNat bx19)), .val (.int (Int32.ofNat bx20)), .val (.int (Int32.ofNat bx21)), .val (.int (Int32.ofNat bx22)), .unset, .unset, .unset, .unset, .unset, .unset, .unset, .unset, .unset, .unset, .unset, .unset] [(.int (3 : Int32)), (.ref b251), (.ref b251)]))
  refine Gl.back (fun _ k => XS.iload X262.here hx rfl (hb hby at_154) rfl k) ?_
  show Gl _ _ _ _ _ _ _ (T262.setTop (mkF m 156 #[.val (.long j0), .second, .val (.long j1), .second, .val (.int i4), .val (.int i5), .val (.long xa), .second, .val (.long xb), .second, .val (.ref b227), .val (.ref rr236), .val (.ref b240), .val (.long xa), .second, .val (.long xb), .second, .val (.int (Int32.ofNat bx17)), .val (.int (Int32.ofNat bx18)), .val (.int (Int32.ofNat bx19)), .val (.int (Int32.ofNat bx20)), .val (.int (Int32.ofNat bx21)), .val (.int (Int32.ofNat bx22)), .unset, .unset, .unset, .unset, .unset, .unset, .unset, .unset, .unset, .unset, .unset, .unset] [(.int (Int32.ofNat bx20)), (.int (3 : Int32)), (.ref b251), (.ref b251)]))
  refine Gl.back (fun _ k => XS.i2b X262.here hx rfl (hb hby at_156) rfl k) ?_
  show Gl _ _ _ _ _ _ _ (T262.setTop (mkF m 157 #[.val (.long j0), .second, .val (.long j1), .second, .val (.int i4), .val (.int i5), .val (.long xa), .second, .val (.long xb), .second, .val (.ref b227), .val (.ref rr236), .val (.ref b240), .val (.long xa), .second, .val (.long xb), .second, .val (.int (Int32.ofNat bx17)), .val (.int (Int32.ofNat bx18)), .val (.int (Int32.ofNat bx19)), .val (.int (Int32.ofNat bx20)), .val (.int (Int32.ofNat bx21)), .val (.int (Int32.ofNat bx22)), .unset, .unset, .unset, .unset, .unset, .unset, .unset, .unset, .unset, .unset, .unset, .unset] [(.int ((Int32.ofNat bx20).toInt8.toInt32)), (.int (3 : Int32)), (.ref b251), (.ref b251)]))
  obtain ⟨cl263, Ar263, q263, Sz263, Nn263, Hs263, Gf263⟩ := id V262
  have hin263 : ¬ ((3 : Int32) < 0 ∨ cl263.slots.size ≤ ((3 : Int32)).toNatClampNeg) := inb_of Sz263 ⟨by decide, by decide⟩
  obtain ⟨T264, h264, X264, e264, W264, st264⟩ := stB X262 hx hZ e262 Ar263 (j := (3 : Int32)) hin263 (g := (mkF m 157 #[.val (.long j0), .second, .val (.long j1), .second, .val (.int i4), .val (.int i5), .val (.long xa), .second, .val (.long xb), .second, .val (.ref b227), .val (.ref rr236), .val (.ref b240), .val (.long xa), .second, .val (.long xb), .second, .val (.int (Int32.ofNat bx17)), .val (.int (Int32.ofNat bx18)), .val (.int (Int32.ofNat bx19)), .val (.int (Int32.ofNat bx20)), .val (.int (Int32.ofNat bx21)), .val (.int (Int32.ofNat bx22)), .unset, .unset, .unset, .unset, .unset, .unset, .unset, .unset, .unset, .unset, .unset, .unset] [(.int ((Int32.ofNat bx20).toInt8.toInt32)), (.int (3 : Int32)), (.ref b251), (.ref b251)])) rfl rfl (hb hby at_157)
  have V264 := Arv.set Ar263 q263 Sz263 Nn263 Hs263 Gf263 (fits_nar_byte _) W264 3 rfl (Nat.le_of_ble_eq_true rfl)
  replace V264 : Arv Z h264 b251 k251 .byte (6 : Int32) [(.int (nar .byte ((Int32.ofNat bx17).toInt8.toInt32))), (.int (nar .byte ((Int32.ofNat bx18).toInt8.toInt32))), (.int (nar .byte ((Int32.ofNat bx19).toInt8.toInt32))), (.int (nar .byte ((Int32.ofNat bx20).toInt8.toInt32))), (.int (0 : Int32)), (.int (0 : Int32))] (.int (0 : Int32)) := V264
  have K264 := Keep.wr K262 W264 (Or.inr sz_b251)
  have Z264 : n0 ≤ h264.size := Nat.le_trans Z262 (Keep.of_wr W264).1
  have N264 := Fr.snoc X264 N262 g_b251
  refine Gl.back (fun _ k => st264 _ k) ?_
  show Gl _ _ _ _ _ _ _ (T264.setTop (mkF m 158 #[.val (.long j0), .second, .val (.long j1), .second, .val (.int i4), .val (.int i5), .val (.long xa), .second, .val (.long xb), .second, .val (.ref b227), .val (.ref rr236), .val (.ref b240), .val (.long xa), .second, .val (.long xb), .second, .val (.int (Int32.ofNat bx17)), .val (.int (Int32.ofNat bx18)), .val (.int (Int32.ofNat bx19)), .val (.int (Int32.ofNat bx20)), .val (.int (Int32.ofNat bx21)), .val (.int (Int32.ofNat bx22)), .unset, .unset, .unset, .unset, .unset, .unset, .unset, .unset, .unset, .unset, .unset, .unset] [(.ref b251)]))
  refine Gl.back (fun _ k => XS.dup X264.here hx rfl (hb hby at_158) rfl rfl k) ?_
  show Gl _ _ _ _ _ _ _ (T264.setTop (mkF m 159 #[.val (.long j0), .second, .val (.long j1), .second, .val (.int i4), .val (.int i5), .val (.long xa), .second, .val (.long xb), .second, .val (.ref b227), .val (.ref rr236), .val (.ref b240), .val (.long xa), .second, .val (.long xb), .second, .val (.int (Int32.ofNat bx17)), .val (.int (Int32.ofNat bx18)), .val (.int (Int32.ofNat bx19)), .val (.int (Int32.ofNat bx20)), .val (.int (Int32.ofNat bx21)), .val (.int (Int32.ofNat bx22)), .unset, .unset, .unset, .unset, .unset, .unset, .unset, .unset, .unset, .unset, .unset, .unset] [(.ref b251), (.ref b251)]))
  refine Gl.back (fun _ k => XS.iconst X264.here hx rfl (hb hby at_159) k) ?_
  show Gl _ _ _ _ _ _ _ (T264.setTop (mkF m 160 #[.val (.long j0), .second, .val (.long j1), .second, .val (.int i4), .val (.int i5), .val (.long xa), .second, .val (.long xb), .second, .val (.ref b227), .val (.ref rr236), .val (.ref b240), .val (.long xa), .second, .val (.long xb), .second, .val (.int (Int32.ofNat bx17)), .val (.int (Int32.ofNat bx18)), .val (.int (Int32.ofNat bx19)), .val (.int (Int32.ofNat bx20)), .val (.int (Int32.ofNat bx21)), .val (.int (Int32.ofNat bx22)), .unset, .unset, .unset, .unset, .unset, .unset, .unset, .unset, .unset, .unset, .unset, .unset] [(.int (4 : Int32)), (.ref b251), (.ref b251)]))
  refine Gl.back (fun _ k => XS.iload X264.here hx rfl (hb hby at_160) rfl k) ?_
  show Gl _ _ _ _ _ _ _ (T264.setTop (mkF m 162 #[.val (.long j0), .second, .val (.long j1), .second, .val (.int i4), .val (.int i5), .val (.long xa), .second, .val (.long xb), .second, .val (.ref b227), .val (.ref rr236), .val (.ref b240), .val (.long xa), .second, .val (.long xb), .second, .val (.int (Int32.ofNat bx17)), .val (.int (Int32.ofNat bx18)), .val (.int (Int32.ofNat bx19)), .val (.int (Int32.ofNat bx20)), .val (.int (Int32.ofNat bx21)), .val (.int (Int32.ofNat bx22)), .unset, .unset, .unset, .unset, .unset, .unset, .unset, .unset, .unset, .unset, .unset, .unset] [(.int (Int32.ofNat bx21)), (.int (4 : Int32)), (.ref b251), (.ref b251)]))
  refine Gl.back (fun _ k => XS.i2b X264.here hx rfl (hb hby at_162) rfl k) ?_
  show Gl _ _ _ _ _ _ _ (T264.setTop (mkF m 163 #[.val (.long j0), .second, .val (.long j1), .second, .val (.int i4), .val (.int i5), .val (.long xa), .second, .val (.long xb), .second, .val (.ref b227), .val (.ref rr236), .val (.ref b240), .val (.long xa), .second, .val (.long xb), .second, .val (.int (Int32.ofNat bx17)), .val (.int (Int32.ofNat bx18)), .val (.int (Int32.ofNat bx19)), .val (.int (Int32.ofNat bx20)), .val (.int (Int32.ofNat bx21)), .val (.int (Int32.ofNat bx22)), .unset, .unset, .unset, .unset, .unset, .unset, .unset, .unset, .unset, .unset, .unset, .unset] [(.int ((Int32.ofNat bx21).toInt8.toInt32)), (.int (4 : Int32)), (.ref b251), (.ref b251)]))
  obtain ⟨cl265, Ar265, q265, Sz265, Nn265, Hs265, Gf265⟩ := id V264
  have hin265 : ¬ ((4 : Int32) < 0 ∨ cl265.slots.size ≤ ((4 : Int32)).toNatClampNeg) := inb_of Sz265 ⟨by decide, by decide⟩
  obtain ⟨T266, h266, X266, e266, W266, st266⟩ := stB X264 hx hZ e264 Ar265 (j := (4 : Int32)) hin265 (g := (mkF m 163 #[.val (.long j0), .second, .val (.long j1), .second, .val (.int i4), .val (.int i5), .val (.long xa), .second, .val (.long xb), .second, .val (.ref b227), .val (.ref rr236), .val (.ref b240), .val (.long xa), .second, .val (.long xb), .second, .val (.int (Int32.ofNat bx17)), .val (.int (Int32.ofNat bx18)), .val (.int (Int32.ofNat bx19)), .val (.int (Int32.ofNat bx20)), .val (.int (Int32.ofNat bx21)), .val (.int (Int32.ofNat bx22)), .unset, .unset, .unset, .unset, .unset, .unset, .unset, .unset, .unset, .unset, .unset, .unset] [(.int ((Int32.ofNat bx21).toInt8.toInt32)), (.int (4 : Int32)), (.ref b251), (.ref b251)])) rfl rfl (hb hby at_163)
  have V266 := Arv.set Ar265 q265 Sz265 Nn265 Hs265 Gf265 (fits_nar_byte _) W266 4 rfl (Nat.le_of_ble_eq_true rfl)
  replace V266 : Arv Z h266 b251 k251 .byte (6 : Int32) [(.int (nar .byte ((Int32.ofNat bx17).toInt8.toInt32))), (.int (nar .byte ((Int32.ofNat bx18).toInt8.toInt32))), (.int (nar .byte ((Int32.ofNat bx19).toInt8.toInt32))), (.int (nar .byte ((Int32.ofNat bx20).toInt8.toInt32))), (.int (nar .byte ((Int32.ofNat bx21).toInt8.toInt32))), (.int (0 : Int32))] (.int (0 : Int32)) := V266
  have K266 := Keep.wr K264 W266 (Or.inr sz_b251)
  have Z266 : n0 ≤ h266.size := Nat.le_trans Z264 (Keep.of_wr W266).1
  have N266 := Fr.snoc X266 N264 g_b251
  refine Gl.back (fun _ k => st266 _ k) ?_
  show Gl _ _ _ _ _ _ _ (T266.setTop (mkF m 164 #[.val (.long j0), .second, .val (.long j1), .second, .val (.int i4), .val (.int i5), .val (.long xa), .second, .val (.long xb), .second, .val (.ref b227), .val (.ref rr236), .val (.ref b240), .val (.long xa), .second, .val (.long xb), .second, .val (.int (Int32.ofNat bx17)), .val (.int (Int32.ofNat bx18)), .val (.int (Int32.ofNat bx19)), .val (.int (Int32.ofNat bx20)), .val (.int (Int32.ofNat bx21)), .val (.int (Int32.ofNat bx22)), .unset, .unset, .unset, .unset, .unset, .unset, .unset, .unset, .unset, .unset, .unset, .unset] [(.ref b251)]))
  refine Gl.back (fun _ k => XS.dup X266.here hx rfl (hb hby at_164) rfl rfl k) ?_
  show Gl _ _ _ _ _ _ _ (T266.setTop (mkF m 165 #[.val (.long j0), .second, .val (.long j1), .second, .val (.int i4), .val (.int i5), .val (.long xa), .second, .val (.long xb), .second, .val (.ref b227), .val (.ref rr236), .val (.ref b240), .val (.long xa), .second, .val (.long xb), .second, .val (.int (Int32.ofNat bx17)), .val (.int (Int32.ofNat bx18)), .val (.int (Int32.ofNat bx19)), .val (.int (Int32.ofNat bx20)), .val (.int (Int32.ofNat bx21)), .val (.int (Int32.ofNat bx22)), .unset, .unset, .unset, .unset, .unset, .unset, .unset, .unset, .unset, .unset, .unset, .unset] [(.ref b251), (.ref b251)]))
  refine Gl.back (fun _ k => XS.iconst X266.here hx rfl (hb hby at_165) k) ?_
  show Gl _ _ _ _ _ _ _ (T266.setTop (mkF m 166 #[.val (.long j0), .second, .val (.long j1), .second, .val (.int i4), .val (.int i5), .val (.long xa), .second, .val (.long xb), .second, .val (.ref b227), .val (.ref rr236), .val (.ref b240), .val (.long xa), .second, .val (.long xb), .second, .val (.int (Int32.ofNat bx17)), .val (.int (Int32.ofNat bx18)), .val (.int (Int32.ofNat bx19)), .val (.int (Int32.ofNat bx20)), .val (.int (Int32.ofNat bx21)), .val (.int (Int32.ofNat bx22)), .unset, .unset, .unset, .unset, .unset, .unset, .unset, .unset, .unset, .unset, .unset, .unset] [(.int (5 : Int32)), (.ref b251), (.ref b251)]))
  refine Gl.back (fun _ k => XS.iload X266.here hx rfl (hb hby at_166) rfl k) ?_
  show Gl _ _ _ _ _ _ _ (T266.setTop (mkF m 168 #[.val (.long j0), .second, .val (.long j1), .second, .val (.int i4), .val (.int i5), .val (.long xa), .second, .val (.long xb), .second, .val (.ref b227), .val (.ref rr236), .val (.ref b240), .val (.long xa), .second, .val (.long xb), .second, .val (.int (Int32.ofNat bx17)), .val (.int (Int32.ofNat bx18)), .val (.int (Int32.ofNat bx19)), .val (.int (Int32.ofNat bx20)), .val (.int (Int32.ofNat bx21)), .val (.int (Int32.ofNat bx22)), .unset, .unset, .unset, .unset, .unset, .unset, .unset, .unset, .unset, .unset, .unset, .unset] [(.int (Int32.ofNat bx22)), (.int (5 : Int32)), (.ref b251), (.ref b251)]))
  refine Gl.back (fun _ k => XS.i2b X266.here hx rfl (hb hby at_168) rfl k) ?_
  show Gl _ _ _ _ _ _ _ (T266.setTop (mkF m 169 #[.val (.long j0), .second, .val (.long j1), .second, .val (.int i4), .val (.int i5), .val (.long xa), .second, .val (.long xb), .second, .val (.ref b227), .val (.ref rr236), .val (.ref b240), .val (.long xa), .second, .val (.long xb), .second, .val (.int (Int32.ofNat bx17)), .val (.int (Int32.ofNat bx18)), .val (.int (Int32.ofNat bx19)), .val (.int (Int32.ofNat bx20)), .val (.int (Int32.ofNat bx21)), .val (.int (Int32.ofNat bx22)), .unset, .unset, .unset, .unset, .unset, .unset, .unset, .unset, .unset, .unset, .unset, .unset] [(.int ((Int32.ofNat bx22).toInt8.toInt32)), (.int (5 : Int32)), (.ref b251), (.ref b251)]))
  obtain ⟨cl267, Ar267, q267, Sz267, Nn267, Hs267, Gf267⟩ := id V266
  have hin267 : ¬ ((5 : Int32) < 0 ∨ cl267.slots.size ≤ ((5 : Int32)).toNatClampNeg) := inb_of Sz267 ⟨by decide, by decide⟩
  obtain ⟨T268, h268, X268, e268, W268, st268⟩ := stB X266 hx hZ e266 Ar267 (j := (5 : Int32)) hin267 (g := (mkF m 169 #[.val (.long j0), .second, .val (.long j1), .second, .val (.int i4), .val (.int i5), .val (.long xa), .second, .val (.long xb), .second, .val (.ref b227), .val (.ref rr236), .val (.ref b240), .val (.long xa), .second, .val (.long xb), .second, .val (.int (Int32.ofNat bx17)), .val (.int (Int32.ofNat bx18)), .val (.int (Int32.ofNat bx19)), .val (.int (Int32.ofNat bx20)), .val (.int (Int32.ofNat bx21)), .val (.int (Int32.ofNat bx22)), .unset, .unset, .unset, .unset, .unset, .unset, .unset, .unset, .unset, .unset, .unset, .unset] [(.int ((Int32.ofNat bx22).toInt8.toInt32)), (.int (5 : Int32)), (.ref b251), (.ref b251)])) rfl rfl (hb hby at_169)
  have V268 := Arv.set Ar267 q267 Sz267 Nn267 Hs267 Gf267 (fits_nar_byte _) W268 5 rfl (Nat.le_of_ble_eq_true rfl)
  replace V268 : Arv Z h268 b251 k251 .byte (6 : Int32) [(.int (nar .byte ((Int32.ofNat bx17).toInt8.toInt32))), (.int (nar .byte ((Int32.ofNat bx18).toInt8.toInt32))), (.int (nar .byte ((Int32.ofNat bx19).toInt8.toInt32))), (.int (nar .byte ((Int32.ofNat bx20).toInt8.toInt32))), (.int (nar .byte ((Int32.ofNat bx21).toInt8.toInt32))), (.int (nar .byte ((Int32.ofNat bx22).toInt8.toInt32)))] (.int (0 : Int32)) := V268
  have K268 := Keep.wr K266 W268 (Or.inr sz_b251)
  have Z268 : n0 ≤ h268.size := Nat.le_trans Z266 (Keep.of_wr W268).1
  have N268 := Fr.snoc X268 N266 g_b251
  refine Gl.back (fun _ k => st268 _ k) ?_
  show Gl _ _ _ _ _ _ _ (T268.setTop (mkF m 170 #[.val (.long j0), .second, .val (.long j1), .second, .val (.int i4), .val (.int i5), .val (.long xa), .second, .val (.long xb), .second, .val (.ref b227), .val (.ref rr236), .val (.ref b240), .val (.long xa), .second, .val (.long xb), .second, .val (.int (Int32.ofNat bx17)), .val (.int (Int32.ofNat bx18)), .val (.int (Int32.ofNat bx19)), .val (.int (Int32.ofNat bx20)), .val (.int (Int32.ofNat bx21)), .val (.int (Int32.ofNat bx22)), .unset, .unset, .unset, .unset, .unset, .unset, .unset, .unset, .unset, .unset, .unset, .unset] [(.ref b251)]))
  refine Gl.back (fun _ k => XS.astore X268.here hx rfl (hb hby at_170) rfl rfl (l' := #[.val (.long j0), .second, .val (.long j1), .second, .val (.int i4), .val (.int i5), .val (.long xa), .second, .val (.long xb), .second, .val (.ref b227), .val (.ref rr236), .val (.ref b240), .val (.long xa), .second, .val (.long xb), .second, .val (.int (Int32.ofNat bx17)), .val (.int (Int32.ofNat bx18)), .val (.int (Int32.ofNat bx19)), .val (.int (Int32.ofNat bx20)), .val (.int (Int32.ofNat bx21)), .val (.int (Int32.ofNat bx22)), .val (.ref b251), .unset, .unset, .unset, .unset, .unset, .unset, .unset, .unset, .unset, .unset, .unset]) rfl k) ?_
  show Gl _ _ _ _ _ _ _ (T268.setTop (mkF m 172 #[.val (.long j0), .second, .val (.long j1), .second, .val (.int i4), .val (.int i5), .val (.long xa), .second, .val (.long xb), .second, .val (.ref b227), .val (.ref rr236), .val (.ref b240), .val (.long xa), .second, .val (.long xb), .second, .val (.int (Int32.ofNat bx17)), .val (.int (Int32.ofNat bx18)), .val (.int (Int32.ofNat bx19)), .val (.int (Int32.ofNat bx20)), .val (.int (Int32.ofNat bx21)), .val (.int (Int32.ofNat bx22)), .val (.ref b251), .unset, .unset, .unset, .unset, .unset, .unset, .unset, .unset, .unset, .unset, .unset] []))
  refine Gl.back (fun _ k => XS.bipush X268.here hx rfl (hb hby at_172) k) ?_
  show Gl _ _ _ _ _ _ _ (T268.setTop (mkF m 174 #[.val (.long j0), .second, .val (.long j1), .second, .val (.int i4), .val (.int i5), .val (.long xa), .second, .val (.long xb), .second, .val (.ref b227), .val (.ref rr236), .val (.ref b240), .val (.long xa), .second, .val (.long xb), .second, .val (.int (Int32.ofNat bx17)), .val (.int (Int32.ofNat bx18)), .val (.int (Int32.ofNat bx19)), .val (.int (Int32.ofNat bx20)), .val (.int (Int32.ofNat bx21)), .val (.int (Int32.ofNat bx22)), .val (.ref b251), .unset, .unset, .unset, .unset, .unset, .unset, .unset, .unset, .unset, .unset, .unset] [(.int (9 : Int32))]))
  obtain ⟨T269, h269, k269, X269, e269, E269, A269, st269⟩ := newP X268 hx hZ (hw _ (List.mem_of_getElem? (i := 88) rfl)) e268 (g := (mkF m 174 #[.val (.long j0), .second, .val (.long j1), .second, .val (.int i4), .val (.int i5), .val (.long xa), .second, .val (.long xb), .second, .val (.ref b227), .val (.ref rr236), .val (.ref b240), .val (.long xa), .second, .val (.long xb), .second, .val (.int (Int32.ofNat bx17)), .val (.int (Int32.ofNat bx18)), .val (.int (Int32.ofNat bx19)), .val (.int (Int32.ofNat bx20)), .val (.int (Int32.ofNat bx21)), .val (.int (Int32.ofNat bx22)), .val (.ref b251), .unset, .unset, .unset, .unset, .unset, .unset, .unset, .unset, .unset, .unset, .unset] [(.int (9 : Int32))])) rfl (hb hby at_174) rfl (by decide) (cap := 9) (by decide) (by decide) (by decide) (by decide)
  obtain ⟨b269, g269⟩ : ∃ z, z = h268.size := ⟨_, rfl⟩
  rw [← g269] at A269 st269
  have V269 : Arv Z h269 b269 k269 .int (9 : Int32) [(.int (0 : Int32)), (.int (0 : Int32)), (.int (0 : Int32)), (.int (0 : Int32)), (.int (0 : Int32)), (.int (0 : Int32)), (.int (0 : Int32)), (.int (0 : Int32)), (.int (0 : Int32))] (.int (0 : Int32)) := (Arv.new A269 (by decide)).pad (pad_rep [] (.int (0 : Int32)) 9)
  have f270 := (((((((f252.ext E251).wr W258).wr W260).wr W262).wr W264).wr W266).wr W268)
  have ne_b227_b269 : b227 ≠ b269 := Nat.ne_of_lt (Nat.lt_of_lt_of_le f270.lt (Nat.le_of_eq g269.symm))
  have f271 := (((((((f253.ext E251).wr W258).wr W260).wr W262).wr W264).wr W266).wr W268)
  have ne_o228_b269 : o228 ≠ b269 := Nat.ne_of_lt (Nat.lt_of_lt_of_le f271.lt (Nat.le_of_eq g269.symm))
  have f272 := (((((((f254.ext E251).other W258 ne_t228_b251).other W260 ne_t228_b251).other W262 ne_t228_b251).other W264 ne_t228_b251).other W266 ne_t228_b251).other W268 ne_t228_b251)
  have ne_t228_b269 : t228 ≠ b269 := Nat.ne_of_lt (Nat.lt_of_lt_of_le f272.lt (Nat.le_of_eq g269.symm))
  have f273 := (((((((f255.ext E251).other W258 ne_rr236_b251).other W260 ne_rr236_b251).other W262 ne_rr236_b251).other W264 ne_rr236_b251).other W266 ne_rr236_b251).other W268 ne_rr236_b251)
  have ne_rr236_b269 : rr236 ≠ b269 := Nat.ne_of_lt (Nat.lt_of_lt_of_le f273.lt (Nat.le_of_eq g269.symm))
  have f274 := (((((((f256.ext E251).wr W258).wr W260).wr W262).wr W264).wr W266).wr W268)
  have ne_b240_b269 : b240 ≠ b269 := Nat.ne_of_lt (Nat.lt_of_lt_of_le f274.lt (Nat.le_of_eq g269.symm))
  have ne_b251_b269 : b251 ≠ b269 := Nat.ne_of_lt (Nat.lt_of_lt_of_le V268.lt (Nat.le_of_eq g269.symm))
  have g_b269 : n0 ≤ b269 := Nat.le_trans Z268 (Nat.le_of_eq g269.symm)
  have sz_b269 : h0.size ≤ b269 := Nat.le_trans K268.1 (Nat.le_of_eq g269.symm)
  have Z269 : n0 ≤ h269.size := Nat.le_trans Z268 E269.1
  have K269 := Keep.ext K268 E269
  refine Gl.back (fun _ k => st269 _ k) ?_
  show Gl _ _ _ _ _ _ _ (T269.setTop (mkF m 176 #[.val (.long j0), .second, .val (.long j1), .second, .val (.int i4), .val (.int i5), .val (.long xa), .second, .val (.long xb), .second, .val (.ref b227), .val (.ref rr236), .val (.ref b240), .val (.long xa), .second, .val (.long xb), .second, .val (.int (Int32.ofNat bx17)), .val (.int (Int32.ofNat bx18)), .val (.int (Int32.ofNat bx19)), .val (.int (Int32.ofNat bx20)), .val (.int (Int32.ofNat bx21)), .val (.int (Int32.ofNat bx22)), .val (.ref b251), .unset, .unset, .unset, .unset, .unset, .unset, .unset, .unset, .unset, .unset, .unset] [(.ref b269)]))
  refine Gl.back (fun _ k => XS.dup X269.here hx rfl (hb hby at_176) rfl rfl k) ?_
  show Gl _ _ _ _ _ _ _ (T269.setTop (mkF m 177 #[.val (.long j0), .second, .val (.long j1), .second, .val (.int i4), .val (.int i5), .val (.long xa), .second, .val (.long xb), .second, .val (.ref b227), .val (.ref rr236), .val (.ref b240), .val (.long xa), .second, .val (.long xb), .second, .val (.int (Int32.ofNat bx17)), .val (.int (Int32.ofNat bx18)), .val (.int (Int32.ofNat bx19)), .val (.int (Int32.ofNat bx20)), .val (.int (Int32.ofNat bx21)), .val (.int (Int32.ofNat bx22)), .val (.ref b251), .unset, .unset, .unset, .unset, .unset, .unset, .unset, .unset, .unset, .unset, .unset] [(.ref b269), (.ref b269)]))
  refine Gl.back (fun _ k => XS.iconst X269.here hx rfl (hb hby at_177) k) ?_
  show Gl _ _ _ _ _ _ _ (T269.setTop (mkF m 178 #[.val (.long j0), .second, .val (.long j1), .second, .val (.int i4), .val (.int i5), .val (.long xa), .second, .val (.long xb), .second, .val (.ref b227), .val (.ref rr236), .val (.ref b240), .val (.long xa), .second, .val (.long xb), .second, .val (.int (Int32.ofNat bx17)), .val (.int (Int32.ofNat bx18)), .val (.int (Int32.ofNat bx19)), .val (.int (Int32.ofNat bx20)), .val (.int (Int32.ofNat bx21)), .val (.int (Int32.ofNat bx22)), .val (.ref b251), .unset, .unset, .unset, .unset, .unset, .unset, .unset, .unset, .unset, .unset, .unset] [(.int (0 : Int32)), (.ref b269), (.ref b269)]))
  refine Gl.back (fun _ k => XS.iload X269.here hx rfl (hb hby at_178) rfl k) ?_
  show Gl _ _ _ _ _ _ _ (T269.setTop (mkF m 180 #[.val (.long j0), .second, .val (.long j1), .second, .val (.int i4), .val (.int i5), .val (.long xa), .second, .val (.long xb), .second, .val (.ref b227), .val (.ref rr236), .val (.ref b240), .val (.long xa), .second, .val (.long xb), .second, .val (.int (Int32.ofNat bx17)), .val (.int (Int32.ofNat bx18)), .val (.int (Int32.ofNat bx19)), .val (.int (Int32.ofNat bx20)), .val (.int (Int32.ofNat bx21)), .val (.int (Int32.ofNat bx22)), .val (.ref b251), .unset, .unset, .unset, .unset, .unset, .unset, .unset, .unset, .unset, .unset, .unset] [(.int (Int32.ofNat bx17)), (.int (0 : Int32)), (.ref b269), (.ref b269)]))
  obtain ⟨cl275, Ar275, q275, Sz275, Nn275, Hs275, Gf275⟩ := id V269
  have hin275 : ¬ ((0 : Int32) < 0 ∨ cl275.slots.size ≤ ((0 : Int32)).toNatClampNeg) := inb_of Sz275 ⟨by decide, by decide⟩
  obtain ⟨T276, h276, X276, e276, W276, st276⟩ := stI X269 hx hZ e269 Ar275 (j := (0 : Int32)) hin275 (g := (mkF m 180 #[.val (.long j0), .second, .val (.long j1), .second, .val (.int i4), .val (.int i5), .val (.long xa), .second, .val (.long xb), .second, .val (.ref b227), .val (.ref rr236), .val (.ref b240), .val (.long xa), .second, .val (.long xb), .second, .val (.int (Int32.ofNat bx17)), .val (.int (Int32.ofNat bx18)), .val (.int (Int32.ofNat bx19)), .val (.int (Int32.ofNat bx20)), .val (.int (Int32.ofNat bx21)), .val (.int (Int32.ofNat bx22)), .val (.ref b251), .unset, .unset, .unset, .unset, .unset, .unset, .unset, .unset, .unset, .unset, .unset] [(.int (Int32.ofNat bx17)), (.int (0 : Int32)), (.ref b269), (.ref b269)])) rfl rfl (hb hby at_180)
  have V276 := Arv.set Ar275 q275 Sz275 Nn275 Hs275 Gf275 rfl W276 0 rfl (Nat.le_of_ble_eq_true rfl)
  replace V276 : Arv Z h276 b269 k269 .int (9 : Int32) [(.int (Int32.ofNat bx17)), (.int (0 : Int32)), (.int (0 : Int32)), (.int (0 : Int32)), (.int (0 : Int32)), (.int (0 : Int32)), (.int (0 : Int32)), (.int (0 : Int32)), (.int (0 : Int32))] (.int (0 : Int32)) := V276
  have K276 := Keep.wr K269 W276 (Or.inr sz_b269)
  have Z276 : n0 ≤ h276.size := Nat.le_trans Z269 (Keep.of_wr W276).1
  have N276 := Fr.snoc X276 N268 g_b269
  refine Gl.back (fun _ k => st276 _ k) ?_
  show Gl _ _ _ _ _ _ _ (T276.setTop (mkF m 181 #[.val (.long j0), .second, .val (.long j1), .second, .val (.int i4), .val (.int i5), .val (.long xa), .second, .val (.long xb), .second, .val (.ref b227), .val (.ref rr236), .val (.ref b240), .val (.long xa), .second, .val (.long xb), .second, .val (.int (Int32.ofNat bx17)), .val (.int (Int32.ofNat bx18)), .val (.int (Int32.ofNat bx19)), .val (.int (Int32.ofNat bx20)), .val (.int (Int32.ofNat bx21)), .val (.int (Int32.ofNat bx22)), .val (.ref b251), .unset, .unset, .unset, .unset, .unset, .unset, .unset, .unset, .unset, .unset, .unset] [(.ref b269)]))
  refine Gl.back (fun _ k => XS.dup X276.here hx rfl (hb hby at_181) rfl rfl k) ?_
  show Gl _ _ _ _ _ _ _ (T276.setTop (mkF m 182 #[.val (.long j0), .second, .val (.long j1), .second, .val (.int i4), .val (.int i5), .val (.long xa), .second, .val (.long xb), .second, .val (.ref b227), .val (.ref rr236), .val (.ref b240), .val (.long xa), .second, .val (.long xb), .second, .val (.int (Int32.ofNat bx17)), .val (.int (Int32.ofNat bx18)), .val (.int (Int32.ofNat bx19)), .val (.int (Int32.ofNat bx20)), .val (.int (Int32.ofNat bx21)), .val (.int (Int32.ofNat bx22)), .val (.ref b251), .unset, .unset, .unset, .unset, .unset, .unset, .unset, .unset, .unset, .unset, .unset] [(.ref b269), (.ref b269)]))
  refine Gl.back (fun _ k => XS.iconst X276.here hx rfl (hb hby at_182) k) ?_
  show Gl _ _ _ _ _ _ _ (T276.setTop (mkF m 183 #[.val (.long j0), .second, .val (.long j1), .second, .val (.int i4), .val (.int i5), .val (.long xa), .second, .val (.long xb), .second, .val (.ref b227), .val (.ref rr236), .val (.ref b240), .val (.long xa), .second, .val (.long xb), .second, .val (.int (Int32.ofNat bx17)), .val (.int (Int32.ofNat bx18)), .val (.int (Int32.ofNat bx19)), .val (.int (Int32.ofNat bx20)), .val (.int (Int32.ofNat bx21)), .val (.int (Int32.ofNat bx22)), .val (.ref b251), .unset, .unset, .unset, .unset, .unset, .unset, .unset, .unset, .unset, .unset, .unset] [(.int (1 : Int32)), (.ref b269), (.ref b269)]))
  refine Gl.back (fun _ k => XS.iload X276.here hx rfl (hb hby at_183) rfl k) ?_
  show Gl _ _ _ _ _ _ _ (T276.setTop (mkF m 185 #[.val (.long j0), .second, .val (.long j1), .second, .val (.int i4), .val (.int i5), .val (.long xa), .second, .val (.long xb), .second, .val (.ref b227), .val (.ref rr236), .val (.ref b240), .val (.long xa), .second, .val (.long xb), .second, .val (.int (Int32.ofNat bx17)), .val (.int (Int32.ofNat bx18)), .val (.int (Int32.ofNat bx19)), .val (.int (Int32.ofNat bx20)), .val (.int (Int32.ofNat bx21)), .val (.int (Int32.ofNat bx22)), .val (.ref b251), .unset, .unset, .unset, .unset, .unset, .unset, .unset, .unset, .unset, .unset, .unset] [(.int (Int32.ofNat bx18)), (.int (1 : Int32)), (.ref b269), (.ref b269)]))
  obtain ⟨cl277, Ar277, q277, Sz277, Nn277, Hs277, Gf277⟩ := id V276
  have hin277 : ¬ ((1 : Int32) < 0 ∨ cl277.slots.size ≤ ((1 : Int32)).toNatClampNeg) := inb_of Sz277 ⟨by decide, by decide⟩
  obtain ⟨T278, h278, X278, e278, W278, st278⟩ := stI X276 hx hZ e276 Ar277 (j := (1 : Int32)) hin277 (g := (mkF m 185 #[.val (.long j0), .second, .val (.long j1), .second, .val (.int i4), .val (.int i5), .val (.long xa), .second, .val (.long xb), .second, .val (.ref b227), .val (.ref rr236), .val (.ref b240), .val (.long xa), .second, .val (.long xb), .second, .val (.int (Int32.ofNat bx17)), .val (.int (Int32.ofNat bx18)), .val (.int (Int32.ofNat bx19)), .val (.int (Int32.ofNat bx20)), .val (.int (Int32.ofNat bx21)), .val (.int (Int32.ofNat bx22)), .val (.ref b251), .unset, .unset, .unset, .unset, .unset, .unset, .unset, .unset, .unset, .unset, .unset] [(.int (Int32.ofNat bx18)), (.int (1 : Int32)), (.ref b269), (.ref b269)])) rfl rfl (hb hby at_185)
  have V278 := Arv.set Ar277 q277 Sz277 Nn277 Hs277 Gf277 rfl W278 1 rfl (Nat.le_of_ble_eq_true rfl)
  replace V278 : Arv Z h278 b269 k269 .int (9 : Int32) [(.int (Int32.ofNat bx17)), (.int (Int32.ofNat bx18)), (.int (0 : Int32)), (.int (0 : Int32)), (.int (0 : Int32)), (.int (0 : Int32)), (.int (0 : Int32)), (.int (0 : Int32)), (.int (0 : Int32))] (.int (0 : Int32)) := V278
  have K278 := Keep.wr K276 W278 (Or.inr sz_b269)
  have Z278 : n0 ≤ h278.size := Nat.le_trans Z276 (Keep.of_wr W278).1
  have N278 := Fr.snoc X278 N276 g_b269
  refine Gl.back (fun _ k => st278 _ k) ?_
  show Gl _ _ _ _ _ _ _ (T278.setTop (mkF m 186 #[.val (.long j0), .second, .val (.long j1), .second, .val (.int i4), .val (.int i5), .val (.long xa), .second, .val (.long xb), .second, .val (.ref b227), .val (.ref rr236), .val (.ref b240), .val (.long xa), .second, .val (.long xb), .second, .val (.int (Int32.ofNat bx17)), .val (.int (Int32.ofNat bx18)), .val (.int (Int32.ofNat bx19)), .val (.int (Int32.ofNat bx20)), .val (.int (Int32.ofNat bx21)), .val (.int (Int32.ofNat bx22)), .val (.ref b251), .unset, .unset, .unset, .unset, .unset, .unset, .unset, .unset, .unset, .unset, .unset] [(.ref b269)]))
  refine Gl.back (fun _ k => XS.dup X278.here hx rfl (hb hby at_186) rfl rfl k) ?_
  show Gl _ _ _ _ _ _ _ (T278.setTop (mkF m 187 #[.val (.long j0), .second, .val (.long j1), .second, .val (.int i4), .val (.int i5), .val (.long xa), .second, .val (.long xb), .second, .val (.ref b227), .val (.ref rr236), .val (.ref b240), .val (.long xa), .second, .val (.long xb), .second, .val (.int (Int32.ofNat bx17)), .val (.int (Int32.ofNat bx18)), .val (.int (Int32.ofNat bx19)), .val (.int (Int32.ofNat bx20)), .val (.int (Int32.ofNat bx21)), .val (.int (Int32.ofNat bx22)), .val (.ref b251), .unset, .unset, .unset, .unset, .unset, .unset, .unset, .unset, .unset, .unset, .unset] [(.ref b269), (.ref b269)]))
  refine Gl.back (fun _ k => XS.iconst X278.here hx rfl (hb hby at_187) k) ?_
  show Gl _ _ _ _ _ _ _ (T278.setTop (mkF m 188 #[.val (.long j0), .second, .val (.long j1), .second, .val (.int i4), .val (.int i5), .val (.long xa), .second, .val (.long xb), .second, .val (.ref b227), .val (.ref rr236), .val (.ref b240), .val (.long xa), .second, .val (.long xb), .second, .val (.int (Int32.ofNat bx17)), .val (.int (Int32.ofNat bx18)), .val (.int (Int32.ofNat bx19)), .val (.int (Int32.ofNat bx20)), .val (.int (Int32.ofNat bx21)), .val (.int (Int32.ofNat bx22)), .val (.ref b251), .unset, .unset, .unset, .unset, .unset, .unset, .unset, .unset, .unset, .unset, .unset] [(.int (2 : Int32)), (.ref b269), (.ref b269)]))
  refine Gl.back (fun _ k => XS.iload X278.here hx rfl (hb hby at_188) rfl k) ?_
  show Gl _ _ _ _ _ _ _ (T278.setTop (mkF m 190 #[.val (.long j0), .second, .val (.long j1), .second, .val (.int i4), .val (.int i5), .val (.long xa), .second, .val (.long xb), .second, .val (.ref b227), .val (.ref rr236), .val (.ref b240), .val (.long xa), .second, .val (.long xb), .second, .val (.int (Int32.ofNat bx17)), .val (.int (Int32.ofNat bx18)), .val (.int (Int32.ofNat bx19)), .val (.int (Int32.ofNat bx20)), .val (.int (Int32.ofNat bx21)), .val (.int (Int32.ofNat bx22)), .val (.ref b251), .unset, .unset, .unset, .unset, .unset, .unset, .unset, .unset, .unset, .unset, .unset] [(.int (Int32.ofNat bx19)), (.int (2 : Int32)), (.ref b269), (.ref b269)]))
  obtain ⟨cl279, Ar279, q279, Sz279, Nn279, Hs279, Gf279⟩ := id V278
  have hin279 : ¬ ((2 : Int32) < 0 ∨ cl279.slots.size ≤ ((2 : Int32)).toNatClampNeg) := inb_of Sz279 ⟨by decide, by decide⟩
  obtain ⟨T280, h280, X280, e280, W280, st280⟩ := stI X278 hx hZ e278 Ar279 (j := (2 : Int32)) hin279 (g := (mkF m 190 #[.val (.long j0), .second, .val (.long j1), .second, .val (.int i4), .val (.int i5), .val (.long xa), .second, .val (.long xb), .second, .val (.ref b227), .val (.ref rr236), .val (.ref b240), .val (.long xa), .second, .val (.long xb), .second, .val (.int (Int32.ofNat bx17)), .val (.int (Int32.ofNat bx18)), .val (.int (Int32.ofNat bx19)), .val (.int (Int32.ofNat bx20)), .val (.int (Int32.ofNat bx21)), .val (.int (Int32.ofNat bx22)), .val (.ref b251), .unset, .unset, .unset, .unset, .unset, .unset, .unset, .unset, .unset, .unset, .unset] [(.int (Int32.ofNat bx19)), (.int (2 : Int32)), (.ref b269), (.ref b269)])) rfl rfl (hb hby at_190)
  have V280 := Arv.set Ar279 q279 Sz279 Nn279 Hs279 Gf279 rfl W280 2 rfl (Nat.le_of_ble_eq_true rfl)
  replace V280 : Arv Z h280 b269 k269 .int (9 : Int32) [(.int (Int32.ofNat bx17)), (.int (Int32.ofNat bx18)), (.int (Int32.ofNat bx19)), (.int (0 : Int32)), (.int (0 : Int32)), (.int (0 : Int32)), (.int (0 : Int32)), (.int (0 : Int32)), (.int (0 : Int32))] (.int (0 : Int32)) := V280
  have K280 := Keep.wr K278 W280 (Or.inr sz_b269)
  have Z280 : n0 ≤ h280.size := Nat.le_trans Z278 (Keep.of_wr W280).1
  have N280 := Fr.snoc X280 N278 g_b269
  refine Gl.back (fun _ k => st280 _ k) ?_
  show Gl _ _ _ _ _ _ _ (T280.setTop (mkF m 191 #[.val (.long j0), .second, .val (.long j1), .second, .val (.int i4), .val (.int i5), .val (.long xa), .second, .val (.long xb), .second, .val (.ref b227), .val (.ref rr236), .val (.ref b240), .val (.long xa), .second, .val (.long xb), .second, .val (.int (Int32.ofNat bx17)), .val (.int (Int32.ofNat bx18)), .val (.int (Int32.ofNat bx19)), .val (.int (Int32.ofNat bx20)), .val (.int (Int32.ofNat bx21)), .val (.int (Int32.ofNat bx22)), .val (.ref b251), .unset, .unset, .unset, .unset, .unset, .unset, .unset, .unset, .unset, .unset, .unset] [(.ref b269)]))
  refine Gl.back (fun _ k => XS.dup X280.here hx rfl (hb hby at_191) rfl rfl k) ?_
  show Gl _ _ _ _ _ _ _ (T280.setTop (mkF m 192 #[.val (.long j0), .second, .val (.long j1), .second, .val (.int i4), .val (.int i5), .val (.long xa), .second, .val (.long xb), .second, .val (.ref b227), .val (.ref rr236), .val (.ref b240), .val (.long xa), .second, .val (.long xb), .second, .val (.int (Int32.ofNat bx17)), .val (.int (Int32.ofNat bx18)), .val (.int (Int32.ofNat bx19)), .val (.int (Int32.ofNat bx20)), .val (.int (Int32.ofNat bx21)), .val (.int (Int32.ofNat bx22)), .val (.ref b251), .unset, .unset, .unset, .unset, .unset, .unset, .unset, .unset, .unset, .unset, .unset] [(.ref b269), (.ref b269)]))
  refine Gl.back (fun _ k => XS.iconst X280.here hx rfl (hb hby at_192) k) ?_
  show Gl _ _ _ _ _ _ _ (T280.setTop (mkF m 193 #[.val (.long j0), .second, .val (.long j1), .second, .val (.int i4), .val (.int i5), .val (.long xa), .second, .val (.long xb), .second, .val (.ref b227), .val (.ref rr236), .val (.ref b240), .val (.long xa), .second, .val (.long xb), .second, .val (.int (Int32.ofNat bx17)), .val (.int (Int32.ofNat bx18)), .val (.int (Int32.ofNat bx19)), .val (.int (Int32.ofNat bx20)), .val (.int (Int32.ofNat bx21)), .val (.int (Int32.ofNat bx22)), .val (.ref b251), .unset, .unset, .unset, .unset, .unset, .unset, .unset, .unset, .unset, .unset, .unset] [(.int (3 : Int32)), (.ref b269), (.ref b269)]))
  refine Gl.back (fun _ k => XS.iload X280.here hx rfl (hb hby at_193) rfl k) ?_
  show Gl _ _ _ _ _ _ _ (T280.setTop (mkF m 195 #[.val (.long j0), .second, .val (.long j1), .second, .val (.int i4), .val (.int i5), .val (.long xa), .second, .val (.long xb), .second, .val (.ref b227), .val (.ref rr236), .val (.ref b240), .val (.long xa), .second, .val (.long xb), .second, .val (.int (Int32.ofNat bx17)), .val (.int (Int32.ofNat bx18)), .val (.int (Int32.ofNat bx19)), .val (.int (Int32.ofNat bx20)), .val (.int (Int32.ofNat bx21)), .val (.int (Int32.ofNat bx22)), .val (.ref b251), .unset, .unset, .unset, .unset, .unset, .unset, .unset, .unset, .unset, .unset, .unset] [(.int (Int32.ofNat bx20)), (.int (3 : Int32)), (.ref b269), (.ref b269)]))
  obtain ⟨cl281, Ar281, q281, Sz281, Nn281, Hs281, Gf281⟩ := id V280
  have hin281 : ¬ ((3 : Int32) < 0 ∨ cl281.slots.size ≤ ((3 : Int32)).toNatClampNeg) := inb_of Sz281 ⟨by decide, by decide⟩
  obtain ⟨T282, h282, X282, e282, W282, st282⟩ := stI X280 hx hZ e280 Ar281 (j := (3 : Int32)) hin281 (g := (mkF m 195 #[.val (.long j0), .second, .val (.long j1), .second, .val (.int i4), .val (.int i5), .val (.long xa), .second, .val (.long xb), .second, .val (.ref b227), .val (.ref rr236), .val (.ref b240), .val (.long xa), .second, .val (.long xb), .second, .val (.int (Int32.ofNat bx17)), .val (.int (Int32.ofNat bx18)), .val (.int (Int32.ofNat bx19)), .val (.int (Int32.ofNat bx20)), .val (.int (Int32.ofNat bx21)), .val (.int (Int32.ofNat bx22)), .val (.ref b251), .unset, .unset, .unset, .unset, .unset, .unset, .unset, .unset, .unset, .unset, .unset] [(.int (Int32.ofNat bx20)), (.int (3 : Int32)), (.ref b269), (.ref b269)])) rfl rfl (hb hby at_195)
  have V282 := Arv.set Ar281 q281 Sz281 Nn281 Hs281 Gf281 rfl W282 3 rfl (Nat.le_of_ble_eq_true rfl)
  replace V282 : Arv Z h282 b269 k269 .int (9 : Int32) [(.int (Int32.ofNat bx17)), (.int (Int32.ofNat bx18)), (.int (Int32.ofNat bx19)), (.int (Int32.ofNat bx20)), (.int (0 : Int32)), (.int (0 : Int32)), (.int (0 : Int32)), (.int (0 : Int32)), (.int (0 : Int32))] (.int (0 : Int32)) := V282
  have K282 := Keep.wr K280 W282 (Or.inr sz_b269)
  have Z282 : n0 ≤ h282.size := Nat.le_trans Z280 (Keep.of_wr W282).1
  have N282 := Fr.snoc X282 N280 g_b269
  refine Gl.back (fun _ k => st282 _ k) ?_
  show Gl _ _ _ _ _ _ _ (T282.setTop (mkF m 196 #[.val (.long j0), .second, .val (.long j1), .second, .val (.int i4), .val (.int i5), .val (.long xa), .second, .val (.long xb), .second, .val (.ref b227), .val (.ref rr236), .val (.ref b240), .val (.long xa), .second, .val (.long xb), .second, .val (.int (Int32.ofNat bx17)), .val (.int (Int32.ofNat bx18)), .val (.int (Int32.ofNat bx19)), .val (.int (Int32.ofNat bx20)), .val (.int (Int32.ofNat bx21)), .val (.int (Int32.ofNat bx22)), .val (.ref b251), .unset, .unset, .unset, .unset, .unset, .unset, .unset, .unset, .unset, .unset, .unset] [(.ref b269)]))
  refine Gl.back (fun _ k => XS.dup X282.here hx rfl (hb hby at_196) rfl rfl k) ?_
  show Gl _ _ _ _ _ _ _ (T282.setTop (mkF m 197 #[.val (.long j0), .second, .val (.long j1), .second, .val (.int i4), .val (.int i5), .val (.long xa), .second, .val (.long xb), .second, .val (.ref b227), .val (.ref rr236), .val (.ref b240), .val (.long xa), .second, .val (.long xb), .second, .val (.int (Int32.ofNat bx17)), .val (.int (Int32.ofNat bx18)), .val (.int (Int32.ofNat bx19)), .val (.int (Int32.ofNat bx20)), .val (.int (Int32.ofNat bx21)), .val (.int (Int32.ofNat bx22)), .val (.ref b251), .unset, .unset, .unset, .unset, .unset, .unset, .unset, .unset, .unset, .unset, .unset] [(.ref b269), (.ref b269)]))
  refine Gl.back (fun _ k => XS.iconst X282.here hx rfl (hb hby at_197) k) ?_
  show Gl _ _ _ _ _ _ _ (T282.setTop (mkF m 198 #[.val (.long j0), .second, .val (.long j1), .second, .val (.int i4), .val (.int i5), .val (.long xa), .second, .val (.long xb), .second, .val (.ref b227), .val (.ref rr236), .val (.ref b240), .val (.long xa), .second, .val (.long xb), .second, .val (.int (Int32.ofNat bx17)), .val (.int (Int32.ofNat bx18)), .val (.int (Int32.ofNat bx19)), .val (.int (Int32.ofNat bx20)), .val (.int (Int32.ofNat bx21)), .val (.int (Int32.ofNat bx22)), .val (.ref b251), .unset, .unset, .unset, .unset, .unset, .unset, .unset, .unset, .unset, .unset, .unset] [(.int (4 : Int32)), (.ref b269), (.ref b269)]))
  refine Gl.back (fun _ k => XS.iload X282.here hx rfl (hb hby at_198) rfl k) ?_
  show Gl _ _ _ _ _ _ _ (T282.setTop (mkF m 200 #[.val (.long j0), .second, .val (.long j1), .second, .val (.int i4), .val (.int i5), .val (.long xa), .second, .val (.long xb), .second, .val (.ref b227), .val (.ref rr236), .val (.ref b240), .val (.long xa), .second, .val (.long xb), .second, .val (.int (Int32.ofNat bx17)), .val (.int (Int32.ofNat bx18)), .val (.int (Int32.ofNat bx19)), .val (.int (Int32.ofNat bx20)), .val (.int (Int32.ofNat bx21)), .val (.int (Int32.ofNat bx22)), .val (.ref b251), .unset, .unset, .unset, .unset, .unset, .unset, .unset, .unset, .unset, .unset, .unset] [(.int (Int32.ofNat bx21)), (.int (4 : Int32)), (.ref b269), (.ref b269)]))
  obtain ⟨cl283, Ar283, q283, Sz283, Nn283, Hs283, Gf283⟩ := id V282
  have hin283 : ¬ ((4 : Int32) < 0 ∨ cl283.slots.size ≤ ((4 : Int32)).toNatClampNeg) := inb_of Sz283 ⟨by decide, by decide⟩
  obtain ⟨T284, h284, X284, e284, W284, st284⟩ := stI X282 hx hZ e282 Ar283 (j := (4 : Int32)) hin283 (g := (mkF m 200 #[.val (.long j0), .second, .val (.long j1), .second, .val (.int i4), .val (.int i5), .val (.long xa), .second, .val (.long xb), .second, .val (.ref b227), .val (.ref rr236), .val (.ref b240), .val (.long xa), .second, .val (.long xb), .second, .val (.int (Int32.ofNat bx17)), .val (.int (Int32.ofNat bx18)), .val (.int (Int32.ofNat bx19)), .val (.int (Int32.ofNat bx20)), .val (.int (Int32.ofNat bx21)), .val (.int (Int32.ofNat bx22)), .val (.ref b251), .unset, .unset, .unset, .unset, .unset, .unset, .unset, .unset, .unset, .unset, .unset] [(.int (Int32.ofNat bx21)), (.int (4 : Int32)), (.ref b269), (.ref b269)])) rfl rfl (hb hby at_200)
  have V284 := Arv.set Ar283 q283 Sz283 Nn283 Hs283 Gf283 rfl W284 4 rfl (Nat.le_of_ble_eq_true rfl)
  replace V284 : Arv Z h284 b269 k269 .int (9 : Int32) [(.int (Int32.ofNat bx17)), (.int (Int32.ofNat bx18)), (.int (Int32.ofNat bx19)), (.int (Int32.ofNat bx20)), (.int (Int32.ofNat bx21)), (.int (0 : Int32)), (.int (0 : Int32)), (.int (0 : Int32)), (.int (0 : Int32))] (.int (0 : Int32)) := V284
  have K284 := Keep.wr K282 W284 (Or.inr sz_b269)
  have Z284 : n0 ≤ h284.size := Nat.le_trans Z282 (Keep.of_wr W284).1
  have N284 := Fr.snoc X284 N282 g_b269
  refine Gl.back (fun _ k => st284 _ k) ?_
  show Gl _ _ _ _ _ _ _ (T284.setTop (mkF m 201 #[.val (.long j0), .second, .val (.long j1), .second, .val (.int i4), .val (.int i5), .val (.long xa), .second, .val (.long xb), .second, .val (.ref b227), .val (.ref rr236), .val (.ref b240), .val (.long xa), .second, .val (.long xb), .second, .val (.int (Int32.ofNat bx17)), .val (.int (Int32.ofNat bx18)), .val (.int (Int32.ofNat bx19)), .val (.int (Int32.ofNat bx20)), .val (.int (Int32.ofNat bx21)), .val (.int (Int32.ofNat bx22)), .val (.ref b251), .unset, .unset, .unset, .unset, .unset, .unset, .unset, .unset, .unset, .unset, .unset] [(.ref b269)]))
  refine Gl.back (fun _ k => XS.dup X284.here hx rfl (hb hby at_201) rfl rfl k) ?_
  show Gl _ _ _ _ _ _ _ (T284.setTop (mkF m 202 #[.val (.long j0), .second, .val (.long j1), .second, .val (.int i4), .val (.int i5), .val (.long xa), .second, .val (.long xb), .second, .val (.ref b227), .val (.ref rr236), .val (.ref b240), .val (.long xa), .second, .val (.long xb), .second, .val (.int (Int32.ofNat bx17)), .val (.int (Int32.ofNat bx18)), .val (.int (Int32.ofNat bx19)), .val (.int (Int32.ofNat bx20)), .val (.int (Int32.ofNat bx21)), .val (.int (Int32.ofNat bx22)), .val (.ref b251), .unset, .unset, .unset, .unset, .unset, .unset, .unset, .unset, .unset, .unset, .unset] [(.ref b269), (.ref b269)]))
  refine Gl.back (fun _ k => XS.iconst X284.here hx rfl (hb hby at_202) k) ?_
  show Gl _ _ _ _ _ _ _ (T284.setTop (mkF m 203 #[.val (.long j0), .second, .val (.long j1), .second, .val (.int i4), .val (.int i5), .val (.long xa), .second, .val (.long xb), .second, .val (.ref b227), .val (.ref rr236), .val (.ref b240), .val (.long xa), .second, .val (.long xb), .second, .val (.int (Int32.ofNat bx17)), .val (.int (Int32.ofNat bx18)), .val (.int (Int32.ofNat bx19)), .val (.int (Int32.ofNat bx20)), .val (.int (Int32.ofNat bx21)), .val (.int (Int32.ofNat bx22)), .val (.ref b251), .unset, .unset, .unset, .unset, .unset, .unset, .unset, .unset, .unset, .unset, .unset] [(.int (5 : Int32)), (.ref b269), (.ref b269)]))
  refine Gl.back (fun _ k => XS.iload X284.here hx rfl (hb hby at_203) rfl k) ?_
  show Gl _ _ _ _ _ _ _ (T284.setTop (mkF m 205 #[.val (.long j0), .second, .val (.long j1), .second, .val (.int i4), .val (.int i5), .val (.long xa), .second, .val (.long xb), .second, .val (.ref b227), .val (.ref rr236), .val (.ref b240), .val (.long xa), .second, .val (.long xb), .second, .val (.int (Int32.ofNat bx17)), .val (.int (Int32.ofNat bx18)), .val (.int (Int32.ofNat bx19)), .val (.int (Int32.ofNat bx20)), .val (.int (Int32.ofNat bx21)), .val (.int (Int32.ofNat bx22)), .val (.ref b251), .unset, .unset, .unset, .unset, .unset, .unset, .unset, .unset, .unset, .unset, .unset] [(.int (Int32.ofNat bx22)), (.int (5 : Int32)), (.ref b269), (.ref b269)]))
  obtain ⟨cl285, Ar285, q285, Sz285, Nn285, Hs285, Gf285⟩ := id V284
  have hin285 : ¬ ((5 : Int32) < 0 ∨ cl285.slots.size ≤ ((5 : Int32)).toNatClampNeg) := inb_of Sz285 ⟨by decide, by decide⟩
  obtain ⟨T286, h286, X286, e286, W286, st286⟩ := stI X284 hx hZ e284 Ar285 (j := (5 : Int32)) hin285 (g := (mkF m 205 #[.val (.long j0), .second, .val (.long j1), .second, .val (.int i4), .val (.int i5), .val (.long xa), .second, .val (.long xb), .second, .val (.ref b227), .val (.ref rr236), .val (.ref b240), .val (.long xa), .second, .val (.long xb), .second, .val (.int (Int32.ofNat bx17)), .val (.int (Int32.ofNat bx18)), .val (.int (Int32.ofNat bx19)), .val (.int (Int32.ofNat bx20)), .val (.int (Int32.ofNat bx21)), .val (.int (Int32.ofNat bx22)), .val (.ref b251), .unset, .unset, .unset, .unset, .unset, .unset, .unset, .unset, .unset, .unset, .unset] [(.int (Int32.ofNat bx22)), (.int (5 : Int32)), (.ref b269), (.ref b269)])) rfl rfl (hb hby at_205)
  have V286 := Arv.set Ar285 q285 Sz285 Nn285 Hs285 Gf285 rfl W286 5 rfl (Nat.le_of_ble_eq_true rfl)
  replace V286 : Arv Z h286 b269 k269 .int (9 : Int32) [(.int (Int32.ofNat bx17)), (.int (Int32.ofNat bx18)), (.int (Int32.ofNat bx19)), (.int (Int32.ofNat bx20)), (.int (Int32.ofNat bx21)), (.int (Int32.ofNat bx22)), (.int (0 : Int32)), (.int (0 : Int32)), (.int (0 : Int32))] (.int (0 : Int32)) := V286
  have K286 := Keep.wr K284 W286 (Or.inr sz_b269)
  have Z286 : n0 ≤ h286.size := Nat.le_trans Z284 (Keep.of_wr W286).1
  have N286 := Fr.snoc X286 N284 g_b269
  refine Gl.back (fun _ k => st286 _ k) ?_
  show Gl _ _ _ _ _ _ _ (T286.setTop (mkF m 206 #[.val (.long j0), .second, .val (.long j1), .second, .val (.int i4), .val (.int i5), .val (.long xa), .second, .val (.long xb), .second, .val (.ref b227), .val (.ref rr236), .val (.ref b240), .val (.long xa), .second, .val (.long xb), .second, .val (.int (Int32.ofNat bx17)), .val (.int (Int32.ofNat bx18)), .val (.int (Int32.ofNat bx19)), .val (.int (Int32.ofNat bx20)), .val (.int (Int32.ofNat bx21)), .val (.int (Int32.ofNat bx22)), .val (.ref b251), .unset, .unset, .unset, .unset, .unset, .unset, .unset, .unset, .unset, .unset, .unset] [(.ref b269)]))
  refine Gl.back (fun _ k => XS.dup X286.here hx rfl (hb hby at_206) rfl rfl k) ?_
  show Gl _ _ _ _ _ _ _ (T286.setTop (mkF m 207 #[.val (.long j0), .second, .val (.long j1), .second, .val (.int i4), .val (.int i5), .val (.long xa), .second, .val (.long xb), .second, .val (.ref b227), .val (.ref rr236), .val (.ref b240), .val (.long xa), .second, .val (.long xb), .second, .val (.int (Int32.ofNat bx17)), .val (.int (Int32.ofNat bx18)), .val (.int (Int32.ofNat bx19)), .val (.int (Int32.ofNat bx20)), .val (.int (Int32.ofNat bx21)), .val (.int (Int32.ofNat bx22)), .val (.ref b251), .unset, .unset, .unset, .unset, .unset, .unset, .unset, .unset, .unset, .unset, .unset] [(.ref b269), (.ref b269)]))
  refine Gl.back (fun _ k => XS.bipush X286.here hx rfl (hb hby at_207) k) ?_
  show Gl _ _ _ _ _ _ _ (T286.setTop (mkF m 209 #[.val (.long j0), .second, .val (.long j1), .second, .val (.int i4), .val (.int i5), .val (.long xa), .second, .val (.long xb), .second, .val (.ref b227), .val (.ref rr236), .val (.ref b240), .val (.long xa), .second, .val (.long xb), .second, .val (.int (Int32.ofNat bx17)), .val (.int (Int32.ofNat bx18)), .val (.int (Int32.ofNat bx19)), .val (.int (Int32.ofNat bx20)), .val (.int (Int32.ofNat bx21)), .val (.int (Int32.ofNat bx22)), .val (.ref b251), .unset, .unset, .unset, .unset, .unset, .unset, .unset, .unset, .unset, .unset, .unset] [(.int (6 : Int32)), (.ref b269), (.ref b269)]))
  refine Gl.back (fun _ k => XS.iconst X286.here hx rfl (hb hby at_209) k) ?_
  show Gl _ _ _ _ _ _ _ (T286.setTop (mkF m 210 #[.val (.long j0), .second, .val (.long j1), .second, .val (.int i4), .val (.int i5), .val (.long xa), .second, .val (.long xb), .second, .val (.ref b227), .val (.ref rr236), .val (.ref b240), .val (.long xa), .second, .val (.long xb), .second, .val (.int (Int32.ofNat bx17)), .val (.int (Int32.ofNat bx18)), .val (.int (Int32.ofNat bx19)), .val (.int (Int32.ofNat bx20)), .val (.int (Int32.ofNat bx21)), .val (.int (Int32.ofNat bx22)), .val (.ref b251), .unset, .unset, .unset, .unset, .unset, .unset, .unset, .unset, .unset, .unset, .unset] [(.int (0 : Int32)), (.int (6 : Int32)), (.ref b269), (.ref b269)]))
  obtain ⟨cl287, Ar287, q287, Sz287, Nn287, Hs287, Gf287⟩ := id V286
  have hin287 : ¬ ((6 : Int32) < 0 ∨ cl287.slots.size ≤ ((6 : Int32)).toNatClampNeg) := inb_of Sz287 ⟨by decide, by decide⟩
  obtain ⟨T288, h288, X288, e288, W288, st288⟩ := stI X286 hx hZ e286 Ar287 (j := (6 : Int32)) hin287 (g := (mkF m 210 #[.val (.long j0), .second, .val (.long j1), .second, .val (.int i4), .val (.int i5), .val (.long xa), .second, .val (.long xb), .second, .val (.ref b227), .val (.ref rr236), .val (.ref b240), .val (.long xa), .second, .val (.long xb), .second, .val (.int (Int32.ofNat bx17)), .val (.int (Int32.ofNat bx18)), .val (.int (Int32.ofNat bx19)), .val (.int (Int32.ofNat bx20)), .val (.int (Int32.ofNat bx21)), .val (.int (Int32.ofNat bx22)), .val (.ref b251), .unset, .unset, .unset, .unset, .unset, .unset, .unset, .unset, .unset, .unset, .unset] [(.int (0 : Int32)), (.int (6 : Int32)), (.ref b269), (.ref b269)])) rfl rfl (hb hby at_210)
  have V288 := Arv.set Ar287 q287 Sz287 Nn287 Hs287 Gf287 rfl W288 6 rfl (Nat.le_of_ble_eq_true rfl)
  replace V288 : Arv Z h288 b269 k269 .int (9 : Int32) [(.int (Int32.ofNat bx17)), (.int (Int32.ofNat bx18)), (.int (Int32.ofNat bx19)), (.int (Int32.ofNat bx20)), (.int (Int32.ofNat bx21)), (.int (Int32.ofNat bx22)), (.int (0 : Int32)), (.int (0 : Int32)), (.int (0 : Int32))] (.int (0 : Int32)) := V288
  have K288 := Keep.wr K286 W288 (Or.inr sz_b269)
  have Z288 : n0 ≤ h288.size := Nat.le_trans Z286 (Keep.of_wr W288).1
  have N288 := Fr.snoc X288 N286 g_b269
  refine Gl.back (fun _ k => st288 _ k) ?_
  show Gl _ _ _ _ _ _ _ (T288.setTop (mkF m 211 #[.val (.long j0), .second, .val (.long j1), .second, .val (.int i4), .val (.int i5), .val (.long xa), .second, .val (.long xb), .second, .val (.ref b227), .val (.ref rr236), .val (.ref b240), .val (.long xa), .second, .val (.long xb), .second, .val (.int (Int32.ofNat bx17)), .val (.int (Int32.ofNat bx18)), .val (.int (Int32.ofNat bx19)), .val (.int (Int32.ofNat bx20)), .val (.int (Int32.ofNat bx21)), .val (.int (Int32.ofNat bx22)), .val (.ref b251), .unset, .unset, .unset, .unset, .unset, .unset, .unset, .unset, .unset, .unset, .unset] [(.ref b269)]))
  refine Gl.back (fun _ k => XS.dup X288.here hx rfl (hb hby at_211) rfl rfl k) ?_
  show Gl _ _ _ _ _ _ _ (T288.setTop (mkF m 212 #[.val (.long j0), .second, .val (.long j1), .second, .val (.int i4), .val (.int i5), .val (.long xa), .second, .val (.long xb), .second, .val (.ref b227), .val (.ref rr236), .val (.ref b240), .val (.long xa), .second, .val (.long xb), .second, .val (.int (Int32.ofNat bx17)), .val (.int (Int32.ofNat bx18)), .val (.int (Int32.ofNat bx19)), .val (.int (Int32.ofNat bx20)), .val (.int (Int32.ofNat bx21)), .val (.int (Int32.ofNat bx22)), .val (.ref b251), .unset, .unset, .unset, .unset, .unset, .unset, .unset, .unset, .unset, .unset, .unset] [(.ref b269), (.ref b269)]))
  refine Gl.back (fun _ k => XS.bipush X288.here hx rfl (hb hby at_212) k) ?_
  show Gl _ _ _ _ _ _ _ (T288.setTop (mkF m 214 #[.val (.long j0), .second, .val (.long j1), .second, .val (.int i4), .val (.int i5), .val (.long xa), .second, .val (.long xb), .second, .val (.ref b227), .val (.ref rr236), .val (.ref b240), .val (.long xa), .second, .val (.long xb), .second, .val (.int (Int32.ofNat bx17)), .val (.int (Int32.ofNat bx18)), .val (.int (Int32.ofNat bx19)), .val (.int (Int32.ofNat bx20)), .val (.int (Int32.ofNat bx21)), .val (.int (Int32.ofNat bx22)), .val (.ref b251), .unset, .unset, .unset, .unset, .unset, .unset, .unset, .unset, .unset, .unset, .unset] [(.int (7 : Int32)), (.ref b269), (.ref b269)]))
  refine Gl.back (fun _ k => XS.iconst X288.here hx rfl (hb hby at_214) k) ?_
  show Gl _ _ _ _ _ _ _ (T288.setTop (mkF m 215 #[.val (.long j0), .second, .val (.long j1), .second, .val (.int i4), .val (.int i5), .val (.long xa), .second, .val (.long xb), .second, .val (.ref b227), .val (.ref rr236), .val (.ref b240), .val (.long xa), .second, .val (.long xb), .second, .val (.int (Int32.ofNat bx17)), .val (.int (Int32.ofNat bx18)), .val (.int (Int32.ofNat bx19)), .val (.int (Int32.ofNat bx20)), .val (.int (Int32.ofNat bx21)), .val (.int (Int32.ofNat bx22)), .val (.ref b251), .unset, .unset, .unset, .unset, .unset, .unset, .unset, .unset, .unset, .unset, .unset] [(.int (0 : Int32)), (.int (7 : Int32)), (.ref b269), (.ref b269)]))
  obtain ⟨cl289, Ar289, q289, Sz289, Nn289, Hs289, Gf289⟩ := id V288
  have hin289 : ¬ ((7 : Int32) < 0 ∨ cl289.slots.size ≤ ((7 : Int32)).toNatClampNeg) := inb_of Sz289 ⟨by decide, by decide⟩
  obtain ⟨T290, h290, X290, e290, W290, st290⟩ := stI X288 hx hZ e288 Ar289 (j := (7 : Int32)) hin289 (g := (mkF m 215 #[.val (.long j0), .second, .val (.long j1), .second, .val (.int i4), .val (.int i5), .val (.long xa), .second, .val (.long xb), .second, .val (.ref b227), .val (.ref rr236), .val (.ref b240), .val (.long xa), .second, .val (.long xb), .second, .val (.int (Int32.ofNat bx17)), .val (.int (Int32.ofNat bx18)), .val (.int (Int32.ofNat bx19)), .val (.int (Int32.ofNat bx20)), .val (.int (Int32.ofNat bx21)), .val (.int (Int32.ofNat bx22)), .val (.ref b251), .unset, .unset, .unset, .unset, .unset, .unset, .unset, .unset, .unset, .unset, .unset] [(.int (0 : Int32)), (.int (7 : Int32)), (.ref b269), (.ref b269)])) rfl rfl (hb hby at_215)
  have V290 := Arv.set Ar289 q289 Sz289 Nn289 Hs289 Gf289 rfl W290 7 rfl (Nat.le_of_ble_eq_true rfl)
  replace V290 : Arv Z h290 b269 k269 .int (9 : Int32) [(.int (Int32.ofNat bx17)), (.int (Int32.ofNat bx18)), (.int (Int32.ofNat bx19)), (.int (Int32.ofNat bx20)), (.int (Int32.ofNat bx21)), (.int (Int32.ofNat bx22)), (.int (0 : Int32)), (.int (0 : Int32)), (.int (0 : Int32))] (.int (0 : Int32)) := V290
  have K290 := Keep.wr K288 W290 (Or.inr sz_b269)
  have Z290 : n0 ≤ h290.size := Nat.le_trans Z288 (Keep.of_wr W290).1
  have N290 := Fr.snoc X290 N288 g_b269
  refine Gl.back (fun _ k => st290 _ k) ?_
  show Gl _ _ _ _ _ _ _ (T290.setTop (mkF m 216 #[.val (.long j0), .second, .val (.long j1), .second, .val (.int i4), .val (.int i5), .val (.long xa), .second, .val (.long xb), .second, .val (.ref b227), .val (.ref rr236), .val (.ref b240), .val (.long xa), .second, .val (.long xb), .second, .val (.int (Int32.ofNat bx17)), .val (.int (Int32.ofNat bx18)), .val (.int (Int32.ofNat bx19)), .val (.int (Int32.ofNat bx20)), .val (.int (Int32.ofNat bx21)), .val (.int (Int32.ofNat bx22)), .val (.ref b251), .unset, .unset, .unset, .unset, .unset, .unset, .unset, .unset, .unset, .unset, .unset] [(.ref b269)]))
  refine Gl.back (fun _ k => XS.dup X290.here hx rfl (hb hby at_216) rfl rfl k) ?_
  show Gl _ _ _ _ _ _ _ (T290.setTop (mkF m 217 #[.val (.long j0), .second, .val (.long j1), .second, .val (.int i4), .val (.int i5), .val (.long xa), .second, .val (.long xb), .second, .val (.ref b227), .val (.ref rr236), .val (.ref b240), .val (.long xa), .second, .val (.long xb), .second, .val (.int (Int32.ofNat bx17)), .val (.int (Int32.ofNat bx18)), .val (.int (Int32.ofNat bx19)), .val (.int (Int32.ofNat bx20)), .val (.int (Int32.ofNat bx21)), .val (.int (Int32.ofNat bx22)), .val (.ref b251), .unset, .unset, .unset, .unset, .unset, .unset, .unset, .unset, .unset, .unset, .unset] [(.ref b269), (.ref b269)]))
  refine Gl.back (fun _ k => XS.bipush X290.here hx rfl (hb hby at_217) k) ?_
  show Gl _ _ _ _ _ _ _ (T290.setTop (mkF m 219 #[.val (.long j0), .second, .val (.long j1), .second, .val (.int i4), .val (.int i5), .val (.long xa), .second, .val (.long xb), .second, .val (.ref b227), .val (.ref rr236), .val (.ref b240), .val (.long xa), .second, .val (.long xb), .second, .val (.int (Int32.ofNat bx17)), .val (.int (Int32.ofNat bx18)), .val (.int (Int32.ofNat bx19)), .val (.int (Int32.ofNat bx20)), .val (.int (Int32.ofNat bx21)), .val (.int (Int32.ofNat bx22)), .val (.ref b251), .unset, .unset, .unset, .unset, .unset, .unset, .unset, .unset, .unset, .unset, .unset] [(.int (8 : Int32)), (.ref b269), (.ref b269)]))
  refine Gl.back (fun _ k => XS.iconst X290.here hx rfl (hb hby at_219) k) ?_
  show Gl _ _ _ _ _ _ _ (T290.setTop (mkF m 220 #[.val (.long j0), .second, .val (.long j1), .second, .val (.int i4), .val (.int i5), .val (.long xa), .second, .val (.long xb), .second, .val (.ref b227), .val (.ref rr236), .val (.ref b240), .val (.long xa), .second, .val (.long xb), .second, .val (.int (Int32.ofNat bx17)), .val (.int (Int32.ofNat bx18)), .val (.int (Int32.ofNat bx19)), .val (.int (Int32.ofNat bx20)), .val (.int (Int32.ofNat bx21)), .val (.int (Int32.ofNat bx22)), .val (.ref b251), .unset, .unset, .unset, .unset, .unset, .unset, .unset, .unset, .unset, .unset, .unset] [(.int (0 : Int32)), (.int (8 : Int32)), (.ref b269), (.ref b269)]))
  obtain ⟨cl291, Ar291, q291, Sz291, Nn291, Hs291, Gf291⟩ := id V290
  have hin291 : ¬ ((8 : Int32) < 0 ∨ cl291.slots.size ≤ ((8 : Int32)).toNatClampNeg) := inb_of Sz291 ⟨by decide, by decide⟩
  obtain ⟨T292, h292, X292, e292, W292, st292⟩ := stI X290 hx hZ e290 Ar291 (j := (8 : Int32)) hin291 (g := (mkF m 220 #[.val (.long j0), .second, .val (.long j1), .second, .val (.int i4), .val (.int i5), .val (.long xa), .second, .val (.long xb), .second, .val (.ref b227), .val (.ref rr236), .val (.ref b240), .val (.long xa), .second, .val (.long xb), .second, .val (.int (Int32.ofNat bx17)), .val (.int (Int32.ofNat bx18)), .val (.int (Int32.ofNat bx19)), .val (.int (Int32.ofNat bx20)), .val (.int (Int32.ofNat bx21)), .val (.int (Int32.ofNat bx22)), .val (.ref b251), .unset, .unset, .unset, .unset, .unset, .unset, .unset, .unset, .unset, .unset, .unset] [(.int (0 : Int32)), (.int (8 : Int32)), (.ref b269), (.ref b269)])) rfl rfl (hb hby at_220)
  have V292 := Arv.set Ar291 q291 Sz291 Nn291 Hs291 Gf291 rfl W292 8 rfl (Nat.le_of_ble_eq_true rfl)
  replace V292 : Arv Z h292 b269 k269 .int (9 : Int32) [(.int (Int32.ofNat bx17)), (.int (Int32.ofNat bx18)), (.int (Int32.ofNat bx19)), (.int (Int32.ofNat bx20)), (.int (Int32.ofNat bx21)), (.int (Int32.ofNat bx22)), (.int (0 : Int32)), (.int (0 : Int32)), (.int (0 : Int32))] (.int (0 : Int32)) := V292
  have K292 := Keep.wr K290 W292 (Or.inr sz_b269)
  have Z292 : n0 ≤ h292.size := Nat.le_trans Z290 (Keep.of_wr W292).1
  have N292 := Fr.snoc X292 N290 g_b269
  refine Gl.back (fun _ k => st292 _ k) ?_
  show Gl _ _ _ _ _ _ _ (T292.setTop (mkF m 221 #[.val (.long j0), .second, .val (.long j1), .second, .val (.int i4), .val (.int i5), .val (.long xa), .second, .val (.long xb), .second, .val (.ref b227), .val (.ref rr236), .val (.ref b240), .val (.long xa), .second, .val (.long xb), .second, .val (.int (Int32.ofNat bx17)), .val (.int (Int32.ofNat bx18)), .val (.int (Int32.ofNat bx19)), .val (.int (Int32.ofNat bx20)), .val (.int (Int32.ofNat bx21)), .val (.int (Int32.ofNat bx22)), .val (.ref b251), .unset, .unset, .unset, .unset, .unset, .unset, .unset, .unset, .unset, .unset, .unset] [(.ref b269)]))
  refine Gl.back (fun _ k => XS.astore X292.here hx rfl (hb hby at_221) rfl rfl (l' := #[.val (.long j0), .second, .val (.long j1), .second, .val (.int i4), .val (.int i5), .val (.long xa), .second, .val (.long xb), .second, .val (.ref b227), .val (.ref rr236), .val (.ref b240), .val (.long xa), .second, .val (.long xb), .second, .val (.int (Int32.ofNat bx17)), .val (.int (Int32.ofNat bx18)), .val (.int (Int32.ofNat bx19)), .val (.int (Int32.ofNat bx20)), .val (.int (Int32.ofNat bx21)), .val (.int (Int32.ofNat bx22)), .val (.ref b251), .val (.ref b269), .unset, .unset, .unset, .unset, .unset, .unset, .unset, .unset, .unset, .unset]) rfl k) ?_
  show Gl _ _ _ _ _ _ _ (T292.setTop (mkF m 223 #[.val (.long j0), .second, .val (.long j1), .second, .val (.int i4), .val (.int i5), .val (.long xa), .second, .val (.long xb), .second, .val (.ref b227), .val (.ref rr236), .val (.ref b240), .val (.long xa), .second, .val (.long xb), .second, .val (.int (Int32.ofNat bx17)), .val (.int (Int32.ofNat bx18)), .val (.int (Int32.ofNat bx19)), .val (.int (Int32.ofNat bx20)), .val (.int (Int32.ofNat bx21)), .val (.int (Int32.ofNat bx22)), .val (.ref b251), .val (.ref b269), .unset, .unset, .unset, .unset, .unset, .unset, .unset, .unset, .unset, .unset] []))
  obtain ⟨T293, h293, X293, e293, E293, A293, D293, -, st293⟩ := newO X292 hx hZ hown (hw _ (List.mem_of_getElem? (i := 72) rfl)) (hw _ (List.mem_of_getElem? (i := 73) rfl)) (hw _ (List.mem_of_getElem? (i := 74) rfl)) e292 (g := (mkF m 223 #[.val (.long j0), .second, .val (.long j1), .second, .val (.int i4), .val (.int i5), .val (.long xa), .second, .val (.long xb), .second, .val (.ref b227), .val (.ref rr236), .val (.ref b240), .val (.long xa), .second, .val (.long xb), .second, .val (.int (Int32.ofNat bx17)), .val (.int (Int32.ofNat bx18)), .val (.int (Int32.ofNat bx19)), .val (.int (Int32.ofNat bx20)), .val (.int (Int32.ofNat bx21)), .val (.int (Int32.ofNat bx22)), .val (.ref b251), .val (.ref b269), .unset, .unset, .unset, .unset, .unset, .unset, .unset, .unset, .unset, .unset] [])) rfl (hb hby at_223) (by decide) (by decide)
  obtain ⟨b293, g293⟩ : ∃ z, z = h292.size := ⟨_, rfl⟩
  rw [← g293] at A293 D293 st293
  have f294 := ((((((((((f270.ext E269).wr W276).wr W278).wr W280).wr W282).wr W284).wr W286).wr W288).wr W290).wr W292)
  have ne_b227_b293 : b227 ≠ b293 := Nat.ne_of_lt (Nat.lt_of_lt_of_le f294.lt (Nat.le_of_eq g293.symm))
  have f295 := ((((((((((f271.ext E269).wr W276).wr W278).wr W280).wr W282).wr W284).wr W286).wr W288).wr W290).wr W292)
  have ne_o228_b293 : o228 ≠ b293 := Nat.ne_of_lt (Nat.lt_of_lt_of_le f295.lt (Nat.le_of_eq g293.symm))
  have f296 := ((((((((((f272.ext E269).other W276 ne_t228_b269).other W278 ne_t228_b269).other W280 ne_t228_b269).other W282 ne_t228_b269).other W284 ne_t228_b269).other W286 ne_t228_b269).other W288 ne_t228_b269).other W290 ne_t228_b269).other W292 ne_t228_b269)
  have ne_t228_b293 : t228 ≠ b293 := Nat.ne_of_lt (Nat.lt_of_lt_of_le f296.lt (Nat.le_of_eq g293.symm))
  have f297 := ((((((((((f273.ext E269).other W276 ne_rr236_b269).other W278 ne_rr236_b269).other W280 ne_rr236_b269).other W282 ne_rr236_b269).other W284 ne_rr236_b269).other W286 ne_rr236_b269).other W288 ne_rr236_b269).other W290 ne_rr236_b269).other W292 ne_rr236_b269)
  have ne_rr236_b293 : rr236 ≠ b293 := Nat.ne_of_lt (Nat.lt_of_lt_of_le f297.lt (Nat.le_of_eq g293.symm))
  have f298 := ((((((((((f274.ext E269).wr W276).wr W278).wr W280).wr W282).wr W284).wr W286).wr W288).wr W290).wr W292)
  have ne_b240_b293 : b240 ≠ b293 := Nat.ne_of_lt (Nat.lt_of_lt_of_le f298.lt (Nat.le_of_eq g293.symm))
  have f299 := ((((((((((V268.ext E269).other W276 ne_b251_b269).other W278 ne_b251_b269).other W280 ne_b251_b269).other W282 ne_b251_b269).other W284 ne_b251_b269).other W286 ne_b251_b269).other W288 ne_b251_b269).other W290 ne_b251_b269).other W292 ne_b251_b269)
  have ne_b251_b293 : b251 ≠ b293 := Nat.ne_of_lt (Nat.lt_of_lt_of_le f299.lt (Nat.le_of_eq g293.symm))
  have ne_b269_b293 : b269 ≠ b293 := Nat.ne_of_lt (Nat.lt_of_lt_of_le V292.lt (Nat.le_of_eq g293.symm))
  have g_b293 : n0 ≤ b293 := Nat.le_trans Z292 (Nat.le_of_eq g293.symm)
  have sz_b293 : h0.size ≤ b293 := Nat.le_trans K292.1 (Nat.le_of_eq g293.symm)
  have Z293 : n0 ≤ h293.size := Nat.le_trans Z292 E293.1
  have K293 := Keep.ext K292 E293
  have F293_bytes : Fld Z h293 b293 "com/example/harbourlink/harbourlink/scratch/Packing$Reader" "bytes" "[B" .null := D293 (Or.inr (hw _ (List.mem_of_getElem? (i := 80) rfl))) (ty := (.array .byte)) (by decide)
  have F293_at : Fld Z h293 b293 "com/example/harbourlink/harbourlink/scratch/Packing$Reader" "at" "I" (.int (0 : Int32)) := D293 (Or.inl (hw _ (List.mem_of_getElem? (i := 82) rfl))) (ty := .int) (by decide)
  refine Gl.back (fun _ k => st293 _ k) ?_
  show Gl _ _ _ _ _ _ _ (T293.setTop (mkF m 226 #[.val (.long j0), .second, .val (.long j1), .second, .val (.int i4), .val (.int i5), .val (.long xa), .second, .val (.long xb), .second, .val (.ref b227), .val (.ref rr236), .val (.ref b240), .val (.long xa), .second, .val (.long xb), .second, .val (.int (Int32.ofNat bx17)), .val (.int (Int32.ofNat bx18)), .val (.int (Int32.ofNat bx19)), .val (.int (Int32.ofNat bx20)), .val (.int (Int32.ofNat bx21)), .val (.int (Int32.ofNat bx22)), .val (.ref b251), .val (.ref b269), .unset, .unset, .unset, .unset, .unset, .unset, .unset, .unset, .unset, .unset] [(.ref b293)]))
  refine Gl.back (fun _ k => XS.dup X293.here hx rfl (hb hby at_226) rfl rfl k) ?_
  show Gl _ _ _ _ _ _ _ (T293.setTop (mkF m 227 #[.val (.long j0), .second, .val (.long j1), .second, .val (.int i4), .val (.int i5), .val (.long xa), .second, .val (.long xb), .second, .val (.ref b227), .val (.ref rr236), .val (.ref b240), .val (.long xa), .second, .val (.long xb), .second, .val (.int (Int32.ofNat bx17)), .val (.int (Int32.ofNat bx18)), .val (.int (Int32.ofNat bx19)), .val (.int (Int32.ofNat bx20)), .val (.int (Int32.ofNat bx21)), .val (.int (Int32.ofNat bx22)), .val (.ref b251), .val (.ref b269), .unset, .unset, .unset, .unset, .unset, .unset, .unset, .unset, .unset, .unset] [(.ref b293), (.ref b293)]))
  refine Gl.back (fun _ k => XS.aload X293.here hx rfl (hb hby at_227) rfl rfl k) ?_
  show Gl _ _ _ _ _ _ _ (T293.setTop (mkF m 229 #[.val (.long j0), .second, .val (.long j1), .second, .val (.int i4), .val (.int i5), .val (.long xa), .second, .val (.long xb), .second, .val (.ref b227), .val (.ref rr236), .val (.ref b240), .val (.long xa), .second, .val (.long xb), .second, .val (.int (Int32.ofNat bx17)), .val (.int (Int32.ofNat bx18)), .val (.int (Int32.ofNat bx19)), .val (.int (Int32.ofNat bx20)), .val (.int (Int32.ofNat bx21)), .val (.int (Int32.ofNat bx22)), .val (.ref b251), .val (.ref b269), .unset, .unset, .unset, .unset, .unset, .unset, .unset, .unset, .unset, .unset] [(.ref b251), (.ref b293), (.ref b293)]))
  refine Gl.back (fun _ k => XS.iconst X293.here hx rfl (hb hby at_229) k) ?_
  show Gl _ _ _ _ _ _ _ (T293.setTop (mkF m 230 #[.val (.long j0), .second, .val (.long j1), .second, .val (.int i4), .val (.int i5), .val (.long xa), .second, .val (.long xb), .second, .val (.ref b227), .val (.ref rr236), .val (.ref b240), .val (.long xa), .second, .val (.long xb), .second, .val (.int (Int32.ofNat bx17)), .val (.int (Int32.ofNat bx18)), .val (.int (Int32.ofNat bx19)), .val (.int (Int32.ofNat bx20)), .val (.int (Int32.ofNat bx21)), .val (.int (Int32.ofNat bx22)), .val (.ref b251), .val (.ref b269), .unset, .unset, .unset, .unset, .unset, .unset, .unset, .unset, .unset, .unset] [(.int (1 : Int32)), (.ref b251), (.ref b293), (.ref b293)]))
  obtain ⟨_, _, ⟨T300, L300, k300, n300⟩, -, X300, ⟨Lc300, hQ300, l300, y300, z300⟩, st300⟩ := X293.specialBack hx (y := (⟨"com/example/harbourlink/harbourlink/scratch/Packing$Reader", "<init>", "([BI)V"⟩ : MethodName)) rfl hown (mvT hZ (hw _ (List.mem_of_getElem? (i := 75) rfl))) (mvT hZ (hw _ (List.mem_of_getElem? (i := 76) rfl))) (mvT hZ (hw _ (List.mem_of_getElem? (i := 77) rfl))) (by decide) (backOf (W := 1) (rmri l Z a0 hw [] b293 b251 (1 : Int32)  h293 n0 Z293 g_b293 A293 F293_bytes F293_at) hZ (hw _ (List.mem_of_getElem? (i := 77) rfl)) (hw _ (List.mem_of_getElem? (i := 74) rfl)) (by decide) (by decide)) (g := (mkF m 230 #[.val (.long j0), .second, .val (.long j1), .second, .val (.int i4), .val (.int i5), .val (.long xa), .second, .val (.long xb), .second, .val (.ref b227), .val (.ref rr236), .val (.ref b240), .val (.long xa), .second, .val (.long xb), .second, .val (.int (Int32.ofNat bx17)), .val (.int (Int32.ofNat bx18)), .val (.int (Int32.ofNat bx19)), .val (.int (Int32.ofNat bx20)), .val (.int (Int32.ofNat bx21)), .val (.int (Int32.ofNat bx22)), .val (.ref b251), .val (.ref b269), .unset, .unset, .unset, .unset, .unset, .unset, .unset, .unset, .unset, .unset] [(.int (1 : Int32)), (.ref b251), (.ref b293), (.ref b293)])) rfl (by rw [hml]; rfl) (Steps.refl _) (a := b293) (argsL := [(.ref b251), (.int (1 : Int32))]) (rest := [(.ref b293)]) (lenOf pd___BI_V rfl) rfl (by show 2 * 0 + _ ≤ _; exact Nat.le_of_eq rfl) (hb hby at_230) (fun _ _ => ⟨rfl, e293, (by decide : 8 + 0 ≤ _), (by decide : 72 + 0 ≤ _)⟩)
  dsimp only [Pt.U, Pt.locs, Pt.cells, Pt.slots] at X300 l300 y300 z300 st300 hQ300
  replace l300 := Eq.symm l300
  replace y300 := Eq.symm y300
  replace z300 := Eq.symm z300
  subst l300 y300 z300
  obtain ⟨Nq300, rfl, Kq300, Fb300, Fa300⟩ := hQ300
  have N300 := Fr.app N292 Nq300
  have Kc300 := Keep.trans K293 Kq300 (allS (Or.inr sz_b293) all0)
  have Zc300 : n0 ≤ T300.heap.size := Nat.le_trans Z293 Kq300.1
  refine Gl.back (fun _ k => st300.trans k) ?_
  show Gl _ _ _ _ _ _ _ (T300.setTop (mkF m 233 #[.val (.long j0), .second, .val (.long j1), .second, .val (.int i4), .val (.int i5), .val (.long xa), .second, .val (.long xb), .second, .val (.ref b227), .val (.ref rr236), .val (.ref b240), .val (.long xa), .second, .val (.long xb), .second, .val (.int (Int32.ofNat bx17)), .val (.int (Int32.ofNat bx18)), .val (.int (Int32.ofNat bx19)), .val (.int (Int32.ofNat bx20)), .val (.int (Int32.ofNat bx21)), .val (.int (Int32.ofNat bx22)), .val (.ref b251), .val (.ref b269), .unset, .unset, .unset, .unset, .unset, .unset, .unset, .unset, .unset, .unset] [(.ref b293)]))
  refine Gl.back (fun _ k => XS.astore X300.here hx rfl (hb hby at_233) rfl rfl (l' := #[.val (.long j0), .second, .val (.long j1), .second, .val (.int i4), .val (.int i5), .val (.long xa), .second, .val (.long xb), .second, .val (.ref b227), .val (.ref rr236), .val (.ref b240), .val (.long xa), .second, .val (.long xb), .second, .val (.int (Int32.ofNat bx17)), .val (.int (Int32.ofNat bx18)), .val (.int (Int32.ofNat bx19)), .val (.int (Int32.ofNat bx20)), .val (.int (Int32.ofNat bx21)), .val (.int (Int32.ofNat bx22)), .val (.ref b251), .val (.ref b269), .val (.ref b293), .unset, .unset, .unset, .unset, .unset, .unset, .unset, .unset, .unset]) rfl k) ?_
  show Gl _ _ _ _ _ _ _ (T300.setTop (mkF m 235 #[.val (.long j0), .second, .val (.long j1), .second, .val (.int i4), .val (.int i5), .val (.long xa), .second, .val (.long xb), .second, .val (.ref b227), .val (.ref rr236), .val (.ref b240), .val (.long xa), .second, .val (.long xb), .second, .val (.int (Int32.ofNat bx17)), .val (.int (Int32.ofNat bx18)), .val (.int (Int32.ofNat bx19)), .val (.int (Int32.ofNat bx20)), .val (.int (Int32.ofNat bx21)), .val (.int (Int32.ofNat bx22)), .val (.ref b251), .val (.ref b269), .val (.ref b293), .unset, .unset, .unset, .unset, .unset, .unset, .unset, .unset, .unset] []))
  obtain ⟨FA, FD, mA, mD, hFA, hFD, hloA, hhiA, hmA, hloD, hhiD, hmD, hAD, eA0, eA1, eA2, eA3, hsA, hsD, hnin⟩ := own_two lb17 lb18 lb19 lb20 lb21 lb22
  refine Gl.back (fun _ k => XS.aload X300.here hx rfl (hb hby at_235) rfl rfl k) ?_
  show Gl _ _ _ _ _ _ _ (T300.setTop (mkF m 237 #[.val (.long j0), .second, .val (.long j1), .second, .val (.int i4), .val (.int i5), .val (.long xa), .second, .val (.long xb), .second, .val (.ref b227), .val (.ref rr236), .val (.ref b240), .val (.long xa), .second, .val (.long xb), .second, .val (.int (Int32.ofNat bx17)), .val (.int (Int32.ofNat bx18)), .val (.int (Int32.ofNat bx19)), .val (.int (Int32.ofNat bx20)), .val (.int (Int32.ofNat bx21)), .val (.int (Int32.ofNat bx22)), .val (.ref b251), .val (.ref b269), .val (.ref b293), .unset, .unset, .unset, .unset, .unset, .unset, .unset, .unset, .unset] [(.ref b293)]))
  have f302 := (A293.keep Kq300)
  have f303 := ((f299.ext E293).keep Kq300 (ninS ne_b251_b293 nin0))
  obtain ⟨cq301, kq301, q301a, q301b, q301c⟩ := isOf hZ rfl f302
  obtain ⟨_, _, ⟨T301, L301, k301, n301⟩, -, X301, ⟨Lc301, hQ301, l301, y301, z301⟩, st301⟩ := X300.virtualBack hx (y := (⟨"com/example/harbourlink/harbourlink/scratch/Packing$Reader", "number", "()J"⟩ : MethodName)) (z := (⟨"com/example/harbourlink/harbourlink/scratch/Packing$Reader", "number", "()J"⟩ : MethodName)) hown (mvT hZ (hw _ (List.mem_of_getElem? (i := 83) rfl))) (mvT hZ (hw _ (List.mem_of_getElem? (i := 84) rfl))) (notFace_of_selects (args := #[]) (mvT hZ (hw _ (List.mem_of_getElem? (i := 86) rfl)))) (mvT hZ (hw _ (List.mem_of_getElem? (i := 86) rfl))) (mvT hZ (hw _ (List.mem_of_getElem? (i := 85) rfl))) (by decide) (backOf (W := 0) (rmrn l Z a0 hw [] b293 b251 k251 _ (6 : Int32) (1 : Int32) 1 FA mA T300.heap n0 Zc300 g_b293 f302 Fb300 Fa300 f303 (Ne.symm ne_b251_b293) (by decide) (own_l6 hmA.2) hsA (fun i _ => hFA i) hloA hhiA (own_49 hmA)) hZ (hw _ (List.mem_of_getElem? (i := 87) rfl)) (hw _ (List.mem_of_getElem? (i := 74) rfl)) (by decide) (by decide)) q301a q301c (g := (mkF m 237 #[.val (.long j0), .second, .val (.long j1), .second, .val (.int i4), .val (.int i5), .val (.long xa), .second, .val (.long xb), .second, .val (.ref b227), .val (.ref rr236), .val (.ref b240), .val (.long xa), .second, .val (.long xb), .second, .val (.int (Int32.ofNat bx17)), .val (.int (Int32.ofNat bx18)), .val (.int (Int32.ofNat bx19)), .val (.int (Int32.ofNat bx20)), .val (.int (Int32.ofNat bx21)), .val (.int (Int32.ofNat bx22)), .val (.ref b251), .val (.ref b269), .val (.ref b293), .unset, .unset, .unset, .unset, .unset, .unset, .unset, .unset, .unset] [(.ref b293)])) rfl (by rw [hml]; rfl) (Steps.refl _) (argsL := []) (rest := []) (lenOf pd___J rfl) rfl (by show 2 * 0 + _ ≤ _; exact Nat.le_of_eq rfl) (hb hby at_237) (fun _ _ => ⟨rfl, rfl, (by decide : 8 + 0 ≤ _), (by decide : 72 + 0 ≤ _)⟩)
  dsimp only [Pt.U, Pt.locs, Pt.cells, Pt.slots] at X301 l301 y301 z301 st301 hQ301
  replace l301 := Eq.symm l301
  replace y301 := Eq.symm y301
  replace z301 := Eq.symm z301
  subst l301 y301 z301
  obtain ⟨Nq301, cn301, rfl, Kq301, Fb301, Fa301, hca301⟩ := hQ301
  have N301 := Fr.app N300 Nq301
  have Kc301 := Keep.trans Kc300 Kq301 (allS (Or.inr sz_b293) all0)
  have Zc301 : n0 ≤ T301.heap.size := Nat.le_trans Zc300 Kq301.1
  refine Gl.back (fun _ k => st301.trans k) ?_
  show Gl _ _ _ _ _ _ _ (T301.setTop (mkF m 240 #[.val (.long j0), .second, .val (.long j1), .second, .val (.int i4), .val (.int i5), .val (.long xa), .second, .val (.long xb), .second, .val (.ref b227), .val (.ref rr236), .val (.ref b240), .val (.long xa), .second, .val (.long xb), .second, .val (.int (Int32.ofNat bx17)), .val (.int (Int32.ofNat bx18)), .val (.int (Int32.ofNat bx19)), .val (.int (Int32.ofNat bx20)), .val (.int (Int32.ofNat bx21)), .val (.int (Int32.ofNat bx22)), .val (.ref b251), .val (.ref b269), .val (.ref b293), .unset, .unset, .unset, .unset, .unset, .unset, .unset, .unset, .unset] [(.long (own_acc FA mA))]))
  refine Gl.back (fun _ k => XS.lstore X301.here hx rfl (hb hby at_240) rfl (l' := #[.val (.long j0), .second, .val (.long j1), .second, .val (.int i4), .val (.int i5), .val (.long xa), .second, .val (.long xb), .second, .val (.ref b227), .val (.ref rr236), .val (.ref b240), .val (.long xa), .second, .val (.long xb), .second, .val (.int (Int32.ofNat bx17)), .val (.int (Int32.ofNat bx18)), .val (.int (Int32.ofNat bx19)), .val (.int (Int32.ofNat bx20)), .val (.int (Int32.ofNat bx21)), .val (.int (Int32.ofNat bx22)), .val (.ref b251), .val (.ref b269), .val (.ref b293), .val (.long (own_acc FA mA)), .second, .unset, .unset, .unset, .unset, .unset, .unset, .unset]) rfl k) ?_
  show Gl _ _ _ _ _ _ _ (T301.setTop (mkF m 242 #[.val (.long j0), .second, .val (.long j1), .second, .val (.int i4), .val (.int i5), .val (.long xa), .second, .val (.long xb), .second, .val (.ref b227), .val (.ref rr236), .val (.ref b240), .val (.long xa), .second, .val (.long xb), .second, .val (.int (Int32.ofNat bx17)), .val (.int (Int32.ofNat bx18)), .val (.int (Int32.ofNat bx19)), .val (.int (Int32.ofNat bx20)), .val (.int (Int32.ofNat bx21)), .val (.int (Int32.ofNat bx22)), .val (.ref b251), .val (.ref b269), .val (.ref b293), .val (.long (own_acc FA mA)), .second, .unset, .unset, .unset, .unset, .unset, .unset, .unset] []))
  refine Gl.back (fun _ k => XS.aload X301.here hx rfl (hb hby at_242) rfl rfl k) ?_
  show Gl _ _ _ _ _ _ _ (T301.setTop (mkF m 244 #[.val (.long j0), .second, .val (.long j1), .second, .val (.int i4), .val (.int i5), .val (.long xa), .second, .val (.long xb), .second, .val (.ref b227), .val (.ref rr236), .val (.ref b240), .val (.long xa), .second, .val (.long xb), .second, .val (.int (Int32.ofNat bx17)), .val (.int (Int32.ofNat bx18)), .val (.int (Int32.ofNat bx19)), .val (.int (Int32.ofNat bx20)), .val (.int (Int32.ofNat bx21)), .val (.int (Int32.ofNat bx22)), .val (.ref b251), .val (.ref b269), .val (.ref b293), .val (.long (own_acc FA mA)), .second, .unset, .unset, .unset, .unset, .unset, .unset, .unset] [(.ref b293)]))
  have f305 := (f302.keep Kq301)
  have f306 := (f303.keep Kq301 (ninS ne_b251_b293 nin0))
  obtain ⟨cq304, kq304, q304a, q304b, q304c⟩ := isOf hZ rfl f305
  obtain ⟨_, _, ⟨T304, L304, k304, n304⟩, -, X304, ⟨Lc304, hQ304, l304, y304, z304⟩, st304⟩ := X301.virtualBack hx (y := (⟨"com/example/harbourlink/harbourlink/scratch/Packing$Reader", "number", "()J"⟩ : MethodName)) (z := (⟨"com/example/harbourlink/harbourlink/scratch/Packing$Reader", "number", "()J"⟩ : MethodName)) hown (mvT hZ (hw _ (List.mem_of_getElem? (i := 83) rfl))) (mvT hZ (hw _ (List.mem_of_getElem? (i := 84) rfl))) (notFace_of_selects (args := #[]) (mvT hZ (hw _ (List.mem_of_getElem? (i := 86) rfl)))) (mvT hZ (hw _ (List.mem_of_getElem? (i := 86) rfl))) (mvT hZ (hw _ (List.mem_of_getElem? (i := 85) rfl))) (by decide) (backOf (W := 0) (rmrn l Z a0 hw [] b293 b251 k251 _ (6 : Int32) cn301 (1 + mA) FD mD T301.heap n0 Zc301 g_b293 f305 Fb301 Fa301 f306 (Ne.symm ne_b251_b293) hca301 (own_l6' hAD) hsD (fun i _ => hFD i) hloD hhiD (own_49 hmD)) hZ (hw _ (List.mem_of_getElem? (i := 87) rfl)) (hw _ (List.mem_of_getElem? (i := 74) rfl)) (by decide) (by decide)) q304a q304c (g := (mkF m 244 #[.val (.long j0), .second, .val (.long j1), .second, .val (.int i4), .val (.int i5), .val (.long xa), .second, .val (.long xb), .second, .val (.ref b227), .val (.ref rr236), .val (.ref b240), .val (.long xa), .second, .val (.long xb), .second, .val (.int (Int32.ofNat bx17)), .val (.int (Int32.ofNat bx18)), .val (.int (Int32.ofNat bx19)), .val (.int (Int32.ofNat bx20)), .val (.int (Int32.ofNat bx21)), .val (.int (Int32.ofNat bx22)), .val (.ref b251), .val (.ref b269), .val (.ref b293), .val (.long (own_acc FA mA)), .second, .unset, .unset, .unset, .unset, .unset, .unset, .unset] [(.ref b293)])) rfl (by rw [hml]; rfl) (Steps.refl _) (argsL := []) (rest := []) (lenOf pd___J rfl) rfl (by show 2 * 0 + _ ≤ _; exact Nat.le_of_eq rfl) (hb hby at_244) (fun _ _ => ⟨rfl, rfl, (by decide : 8 + 0 ≤ _), (by decide : 72 + 0 ≤ _)⟩)
  dsimp only [Pt.U, Pt.locs, Pt.cells, Pt.slots] at X304 l304 y304 z304 st304 hQ304
  replace l304 := Eq.symm l304
  replace y304 := Eq.symm y304
  replace z304 := Eq.symm z304
  subst l304 y304 z304
  obtain ⟨Nq304, cn304, rfl, Kq304, Fb304, Fa304, hca304⟩ := hQ304
  have N304 := Fr.app N301 Nq304
  have Kc304 := Keep.trans Kc301 Kq304 (allS (Or.inr sz_b293) all0)
  have Zc304 : n0 ≤ T304.heap.size := Nat.le_trans Zc301 Kq304.1
  refine Gl.back (fun _ k => st304.trans k) ?_
  show Gl _ _ _ _ _ _ _ (T304.setTop (mkF m 247 #[.val (.long j0), .second, .val (.long j1), .second, .val (.int i4), .val (.int i5), .val (.long xa), .second, .val (.long xb), .second, .val (.ref b227), .val (.ref rr236), .val (.ref b240), .val (.long xa), .second, .val (.long xb), .second, .val (.int (Int32.ofNat bx17)), .val (.int (Int32.ofNat bx18)), .val (.int (Int32.ofNat bx19)), .val (.int (Int32.ofNat bx20)), .val (.int (Int32.ofNat bx21)), .val (.int (Int32.ofNat bx22)), .val (.ref b251), .val (.ref b269), .val (.ref b293), .val (.long (own_acc FA mA)), .second, .unset, .unset, .unset, .unset, .unset, .unset, .unset] [(.long (own_acc FD mD))]))
  refine Gl.back (fun _ k => XS.lstore X304.here hx rfl (hb hby at_247) rfl (l' := #[.val (.long j0), .second, .val (.long j1), .second, .val (.int i4), .val (.int i5), .val (.long xa), .second, .val (.long xb), .second, .val (.ref b227), .val (.ref rr236), .val (.ref b240), .val (.long xa), .second, .val (.long xb), .second, .val (.int (Int32.ofNat bx17)), .val (.int (Int32.ofNat bx18)), .val (.int (Int32.ofNat bx19)), .val (.int (Int32.ofNat bx20)), .val (.int (Int32.ofNat bx21)), .val (.int (Int32.ofNat bx22)), .val (.ref b251), .val (.ref b269), .val (.ref b293), .val (.long (own_acc FA mA)), .second, .val (.long (own_acc FD mD)), .second, .unset, .unset, .unset, .unset, .unset]) rfl k) ?_
  show Gl _ _ _ _ _ _ _ (T304.setTop (mkF m 249 #[.val (.long j0), .second, .val (.long j1), .second, .val (.int i4), .val (.int i5), .val (.long xa), .second, .val (.long xb), .second, .val (.ref b227), .val (.ref rr236), .val (.ref b240), .val (.long xa), .second, .val (.long xb), .second, .val (.int (Int32.ofNat bx17)), .val (.int (Int32.ofNat bx18)), .val (.int (Int32.ofNat bx19)), .val (.int (Int32.ofNat bx20)), .val (.int (Int32.ofNat bx21)), .val (.int (Int32.ofNat bx22)), .val (.ref b251), .val (.ref b269), .val (.ref b293), .val (.long (own_acc FA mA)), .second, .val (.long (own_acc FD mD)), .second, .unset, .unset, .unset, .unset, .unset] []))
  refine Gl.back (fun _ k => XS.iload X304.here hx rfl (hb hby at_249) rfl k) ?_
  show Gl _ _ _ _ _ _ _ (T304.setTop (mkF m 251 #[.val (.long j0), .second, .val (.long j1), .second, .val (.int i4), .val (.int i5), .val (.long xa), .second, .val (.long xb), .second, .val (.ref b227), .val (.ref rr236), .val (.ref b240), .val (.long xa), .second, .val (.long xb), .second, .val (.int (Int32.ofNat bx17)), .val (.int (Int32.ofNat bx18)), .val (.int (Int32.ofNat bx19)), .val (.int (Int32.ofNat bx20)), .val (.int (Int32.ofNat bx21)), .val (.int (Int32.ofNat bx22)), .val (.ref b251), .val (.ref b269), .val (.ref b293), .val (.long (own_acc FA mA)), .second, .val (.long (own_acc FD mD)), .second, .unset, .unset, .unset, .unset, .unset] [(.int (Int32.ofNat bx18))]))
  refine Gl.back (fun _ k => XS.iload X304.here hx rfl (hb hby at_251) rfl k) ?_
  show Gl _ _ _ _ _ _ _ (T304.setTop (mkF m 253 #[.val (.long j0), .second, .val (.long j1), .second, .val (.int i4), .val (.int i5), .val (.long xa), .second, .val (.long xb), .second, .val (.ref b227), .val (.ref rr236), .val (.ref b240), .val (.long xa), .second, .val (.long xb), .second, .val (.int (Int32.ofNat bx17)), .val (.int (Int32.ofNat bx18)), .val (.int (Int32.ofNat bx19)), .val (.int (Int32.ofNat bx20)), .val (.int (Int32.ofNat bx21)), .val (.int (Int32.ofNat bx22)), .val (.ref b251), .val (.ref b269), .val (.ref b293), .val (.long (own_acc FA mA)), .second, .val (.long (own_acc FD mD)), .second, .unset, .unset, .unset, .unset, .unset] [(.int (Int32.ofNat bx19)), (.int (Int32.ofNat bx18))]))
  refine Gl.back (fun _ k => XS.iload X304.here hx rfl (hb hby at_253) rfl k) ?_
  show Gl _ _ _ _ _ _ _ (T304.setTop (mkF m 255 #[.val (.long j0), .second, .val (.long j1), .second, .val (.int i4), .val (.int i5), .val (.long xa), .second, .val (.long xb), .second, .val (.ref b227), .val (.ref rr236), .val (.ref b240), .val (.long xa), .second, .val (.long xb), .second, .val (.int (Int32.ofNat bx17)), .val (.int (Int32.ofNat bx18)), .val (.int (Int32.ofNat bx19)), .val (.int (Int32.ofNat bx20)), .val (.int (Int32.ofNat bx21)), .val (.int (Int32.ofNat bx22)), .val (.ref b251), .val (.ref b269), .val (.ref b293), .val (.long (own_acc FA mA)), .second, .val (.long (own_acc FD mD)), .second, .unset, .unset, .unset, .unset, .unset] [(.int (Int32.ofNat bx20)), (.int (Int32.ofNat bx19)), (.int (Int32.ofNat bx18))]))
  refine Gl.back (fun _ k => XS.iload X304.here hx rfl (hb hby at_255) rfl k) ?_
  show Gl _ _ _ _ _ _ _ (T304.setTop (mkF m 257 #[.val (.long j0), .second, .val (.long j1), .second, .val (.int i4), .val (.int i5), .val (.long xa), .second, .val (.long xb), .second, .val (.ref b227), .val (.ref rr236), .val (.ref b240), .val (.long xa), .second, .val (.long xb), .second, .val (.int (Int32.ofNat bx17)), .val (.int (Int32.ofNat bx18)), .val (.int (Int32.ofNat bx19)), .val (.int (Int32.ofNat bx20)), .val (.int (Int32.ofNat bx21)), .val (.int (Int32.ofNat bx22)), .val (.ref b251), .val (.ref b269), .val (.ref b293), .val (.long (own_acc FA mA)), .second, .val (.long (own_acc FD mD)), .second, .unset, .unset, .unset, .unset, .unset] [(.int (Int32.ofNat bx21)), (.int (Int32.ofNat bx20)), (.int (Int32.ofNat bx19)), (.int (Int32.ofNat bx18))]))
  obtain ⟨_, _, ⟨T307, L307, k307, n307⟩, -, X307, ⟨Lc307, hQ307, l307, y307, z307⟩, st307⟩ := Jvm.LawKit.callS X304 hx (y := (⟨"com/example/harbourlink/harbourlink/scratch/ReaderNumberPinLaw", "ref", "(IIII)J"⟩ : MethodName)) hown (mvT hZ (hw _ (List.mem_of_getElem? (i := 89) rfl))) (mvT hZ (hw _ (List.mem_of_getElem? (i := 90) rfl))) (mvT hZ (hw _ (List.mem_of_getElem? (i := 91) rfl))) (mvT hZ (hw _ (List.mem_of_getElem? (i := 92) rfl))) (by decide) (backOf (W := 0) (rmrf l Z a0 hw [] (Int32.ofNat bx18) (Int32.ofNat bx19) (Int32.ofNat bx20) (Int32.ofNat bx21) FA mA T304.heap n0 Zc304 (congrArg Int32.ofNat eA0) (congrArg Int32.ofNat eA1) (congrArg Int32.ofNat eA2) (congrArg Int32.ofNat eA3) (fun i _ => hFA i) hloA hhiA hmA) hZ (hw _ (List.mem_of_getElem? (i := 92) rfl)) (hw _ (List.mem_of_getElem? (i := 91) rfl)) (by decide) (by decide)) (g := (mkF m 257 #[.val (.long j0), .second, .val (.long j1), .second, .val (.int i4), .val (.int i5), .val (.long xa), .second, .val (.long xb), .second, .val (.ref b227), .val (.ref rr236), .val (.ref b240), .val (.long xa), .second, .val (.long xb), .second, .val (.int (Int32.ofNat bx17)), .val (.int (Int32.ofNat bx18)), .val (.int (Int32.ofNat bx19)), .val (.int (Int32.ofNat bx20)), .val (.int (Int32.ofNat bx21)), .val (.int (Int32.ofNat bx22)), .val (.ref b251), .val (.ref b269), .val (.ref b293), .val (.long (own_acc FA mA)), .second, .val (.long (own_acc FD mD)), .second, .unset, .unset, .unset, .unset, .unset] [(.int (Int32.ofNat bx21)), (.int (Int32.ofNat bx20)), (.int (Int32.ofNat bx19)), (.int (Int32.ofNat bx18))])) rfl (by rw [hml]; rfl) (argsL := [(.int (Int32.ofNat bx18)), (.int (Int32.ofNat bx19)), (.int (Int32.ofNat bx20)), (.int (Int32.ofNat bx21))]) (rest := []) (lenOf pd__IIII_J rfl) rfl (by show 2 * 0 + _ ≤ _; exact Nat.le_of_eq rfl) (hb hby at_257) (fun _ _ => ⟨rfl, rfl, (by decide : 8 + 0 ≤ _), (by decide : 72 + 0 ≤ _)⟩)
  dsimp only [Pt.U, Pt.locs, Pt.cells, Pt.slots] at X307 l307 y307 z307 st307 hQ307
  replace l307 := Eq.symm l307
  replace y307 := Eq.symm y307
  replace z307 := Eq.symm z307
  subst l307 y307 z307
  obtain ⟨Nq307, rfl, eh307⟩ := hQ307
  have N307 := Fr.app N304 Nq307
  refine Gl.back (fun _ k => st307 _ k) ?_
  show Gl _ _ _ _ _ _ _ (T307.setTop (mkF m 260 #[.val (.long j0), .second, .val (.long j1), .second, .val (.int i4), .val (.int i5), .val (.long xa), .second, .val (.long xb), .second, .val (.ref b227), .val (.ref rr236), .val (.ref b240), .val (.long xa), .second, .val (.long xb), .second, .val (.int (Int32.ofNat bx17)), .val (.int (Int32.ofNat bx18)), .val (.int (Int32.ofNat bx19)), .val (.int (Int32.ofNat bx20)), .val (.int (Int32.ofNat bx21)), .val (.int (Int32.ofNat bx22)), .val (.ref b251), .val (.ref b269), .val (.ref b293), .val (.long (own_acc FA mA)), .second, .val (.long (own_acc FD mD)), .second, .unset, .unset, .unset, .unset, .unset] [(.long (own_acc FA mA))]))
  refine Gl.back (fun _ k => XS.lstore X307.here hx rfl (hb hby at_260) rfl (l' := #[.val (.long j0), .second, .val (.long j1), .second, .val (.int i4), .val (.int i5), .val (.long xa), .second, .val (.long xb), .second, .val (.ref b227), .val (.ref rr236), .val (.ref b240), .val (.long xa), .second, .val (.long xb), .second, .val (.int (Int32.ofNat bx17)), .val (.int (Int32.ofNat bx18)), .val (.int (Int32.ofNat bx19)), .val (.int (Int32.ofNat bx20)), .val (.int (Int32.ofNat bx21)), .val (.int (Int32.ofNat bx22)), .val (.ref b251), .val (.ref b269), .val (.ref b293), .val (.long (own_acc FA mA)), .second, .val (.long (own_acc FD mD)), .second, .val (.long (own_acc FA mA)), .second, .unset, .unset, .unset]) rfl k) ?_
  show Gl _ _ _ _ _ _ _ (T307.setTop (mkF m 262 #[.val (.long j0), .second, .val (.long j1), .second, .val (.int i4), .val (.int i5), .val (.long xa), .second, .val (.long xb), .second, .val (.ref b227), .val (.ref rr236), .val (.ref b240), .val (.long xa), .second, .val (.long xb), .second, .val (.int (Int32.ofNat bx17)), .val (.int (Int32.ofNat bx18)), .val (.int (Int32.ofNat bx19)), .val (.int (Int32.ofNat bx20)), .val (.int (Int32.ofNat bx21)), .val (.int (Int32.ofNat bx22)), .val (.ref b251), .val (.ref b269), .val (.ref b293), .val (.long (own_acc FA mA)), .second, .val (.long (own_acc FD mD)), .second, .val (.long (own_acc FA mA)), .second, .unset, .unset, .unset] []))
  refine Gl.back (fun _ k => XS.iconst X307.here hx rfl (hb hby at_262) k) ?_
  show Gl _ _ _ _ _ _ _ (T307.setTop (mkF m 263 #[.val (.long j0), .second, .val (.long j1), .second, .val (.int i4), .val (.int i5), .val (.long xa), .second, .val (.long xb), .second, .val (.ref b227), .val (.ref rr236), .val (.ref b240), .val (.long xa), .second, .val (.long xb), .second, .val (.int (Int32.ofNat bx17)), .val (.int (Int32.ofNat bx18)), .val (.int (Int32.ofNat bx19)), .val (.int (Int32.ofNat bx20)), .val (.int (Int32.ofNat bx21)), .val (.int (Int32.ofNat bx22)), .val (.ref b251), .val (.ref b269), .val (.ref b293), .val (.long (own_acc FA mA)), .second, .val (.long (own_acc FD mD)), .second, .val (.long (own_acc FA mA)), .second, .unset, .unset, .unset] [(.int (1 : Int32))]))
  refine Gl.back (fun _ k => XS.iload X307.here hx rfl (hb hby at_263) rfl k) ?_
  show Gl _ _ _ _ _ _ _ (T307.setTop (mkF m 265 #[.val (.long j0), .second, .val (.long j1), .second, .val (.int i4), .val (.int i5), .val (.long xa), .second, .val (.long xb), .second, .val (.ref b227), .val (.ref rr236), .val (.ref b240), .val (.long xa), .second, .val (.long xb), .second, .val (.int (Int32.ofNat bx17)), .val (.int (Int32.ofNat bx18)), .val (.int (Int32.ofNat bx19)), .val (.int (Int32.ofNat bx20)), .val (.int (Int32.ofNat bx21)), .val (.int (Int32.ofNat bx22)), .val (.ref b251), .val (.ref b269), .val (.ref b293), .val (.long (own_acc FA mA)), .second, .val (.long (own_acc FD mD)), .second, .val (.long (own_acc FA mA)), .second, .unset, .unset, .unset] [(.int (Int32.ofNat bx18)), (.int (1 : Int32))]))
  refine Gl.back (fun _ k => XS.iload X307.here hx rfl (hb hby at_265) rfl k) ?_
  show Gl _ _ _ _ _ _ _ (T307.setTop (mkF m 267 #[.val (.long j0), .second, .val (.long j1), .second, .val (.int i4), .val (.int i5), .val (.long xa), .second, .val (.long xb), .second, .val (.ref b227), .val (.ref rr236), .val (.ref b240), .val (.long xa), .second, .val (.long xb), .second, .val (.int (Int32.ofNat bx17)), .val (.int (Int32.ofNat bx18)), .val (.int (Int32.ofNat bx19)), .val (.int (Int32.ofNat bx20)), .val (.int (Int32.ofNat bx21)), .val (.int (Int32.ofNat bx22)), .val (.ref b251), .val (.ref b269), .val (.ref b293), .val (.long (own_acc FA mA)), .second, .val (.long (own_acc FD mD)), .second, .val (.long (own_acc FA mA)), .second, .unset, .unset, .unset] [(.int (Int32.ofNat bx19)), (.int (Int32.ofNat bx18)), (.int (1 : Int32))]))
  refine Gl.back (fun _ k => XS.iload X307.here hx rfl (hb hby at_267) rfl k) ?_
  show Gl _ _ _ _ _ _ _ (T307.setTop (mkF m 269 #[.val (.long j0), .second, .val (.long j1), .second, .val (.int i4), .val (.int i5), .val (.long xa), .second, .val (.long xb), .second, .val (.ref b227), .val (.ref rr236), .val (.ref b240), .val (.long xa), .second, .val (.long xb), .second, .val (.int (Int32.ofNat bx17)), .val (.int (Int32.ofNat bx18)), .val (.int (Int32.ofNat bx19)), .val (.int (Int32.ofNat bx20)), .val (.int (Int32.ofNat bx21)), .val (.int (Int32.ofNat bx22)), .val (.ref b251), .val (.ref b269), .val (.ref b293), .val (.long (own_acc FA mA)), .second, .val (.long (own_acc FD mD)), .second, .val (.long (own_acc FA mA)), .second, .unset, .unset, .unset] [(.int (Int32.ofNat bx20)), (.int (Int32.ofNat bx19)), (.int (Int32.ofNat bx18)), (.int (1 : Int32))]))
  obtain ⟨_, _, ⟨T308, L308, k308, n308⟩, -, X308, ⟨Lc308, hQ308, l308, y308, z308⟩, st308⟩ := Jvm.LawKit.callS X307 hx (y := (⟨"com/example/harbourlink/harbourlink/scratch/ReaderNumberPinLaw", "len", "(III)I"⟩ : MethodName)) hown (mvT hZ (hw _ (List.mem_of_getElem? (i := 93) rfl))) (mvT hZ (hw _ (List.mem_of_getElem? (i := 94) rfl))) (mvT hZ (hw _ (List.mem_of_getElem? (i := 91) rfl))) (mvT hZ (hw _ (List.mem_of_getElem? (i := 95) rfl))) (by decide) (backOf (W := 1) (rmln l Z a0 hw [] (Int32.ofNat bx18) (Int32.ofNat bx19) (Int32.ofNat bx20) FA mA T304.heap n0 Zc304 (congrArg Int32.ofNat eA0) (congrArg Int32.ofNat eA1) (congrArg Int32.ofNat eA2) (fun i _ => hFA i) hloA hhiA hmA) hZ (hw _ (List.mem_of_getElem? (i := 95) rfl)) (hw _ (List.mem_of_getElem? (i := 91) rfl)) (by decide) (by decide)) (g := (mkF m 269 #[.val (.long j0), .second, .val (.long j1), .second, .val (.int i4), .val (.int i5), .val (.long xa), .second, .val (.long xb), .second, .val (.ref b227), .val (.ref rr236), .val (.ref b240), .val (.long xa), .second, .val (.long xb), .second, .val (.int (Int32.ofNat bx17)), .val (.int (Int32.ofNat bx18)), .val (.int (Int32.ofNat bx19)), .val (.int (Int32.ofNat bx20)), .val (.int (Int32.ofNat bx21)), .val (.int (Int32.ofNat bx22)), .val (.ref b251), .val (.ref b269), .val (.ref b293), .val (.long (own_acc FA mA)), .second, .val (.long (own_acc FD mD)), .second, .val (.long (own_acc FA mA)), .second, .unset, .unset, .unset] [(.int (Int32.ofNat bx20)), (.int (Int32.ofNat bx19)), (.int (Int32.ofNat bx18)), (.int (1 : Int32))])) rfl (by rw [hml]; rfl) (argsL := [(.int (Int32.ofNat bx18)), (.int (Int32.ofNat bx19)), (.int (Int32.ofNat bx20))]) (rest := [(.int (1 : Int32))]) (lenOf pd__III_I rfl) rfl (by show 2 * 0 + _ ≤ _; exact Nat.le_of_eq rfl) (hb hby at_269) (fun _ _ => ⟨rfl, eh307, (by decide : 8 + 0 ≤ _), (by decide : 72 + 0 ≤ _)⟩)
  dsimp only [Pt.U, Pt.locs, Pt.cells, Pt.slots] at X308 l308 y308 z308 st308 hQ308
  replace l308 := Eq.symm l308
  replace y308 := Eq.symm y308
  replace z308 := Eq.symm z308
  subst l308 y308 z308
  obtain ⟨Nq308, rfl, eh308⟩ := hQ308
  have N308 := Fr.app N307 Nq308
  refine Gl.back (fun _ k => st308 _ k) ?_
  show Gl _ _ _ _ _ _ _ (T308.setTop (mkF m 272 #[.val (.long j0), .second, .val (.long j1), .second, .val (.int i4), .val (.int i5), .val (.long xa), .second, .val (.long xb), .second, .val (.ref b227), .val (.ref rr236), .val (.ref b240), .val (.long xa), .second, .val (.long xb), .second, .val (.int (Int32.ofNat bx17)), .val (.int (Int32.ofNat bx18)), .val (.int (Int32.ofNat bx19)), .val (.int (Int32.ofNat bx20)), .val (.int (Int32.ofNat bx21)), .val (.int (Int32.ofNat bx22)), .val (.ref b251), .val (.ref b269), .val (.ref b293), .val (.long (own_acc FA mA)), .second, .val (.long (own_acc FD mD)), .second, .val (.long (own_acc FA mA)), .second, .unset, .unset, .unset] [(.int (Int32.ofNat mA)), (.int (1 : Int32))]))
  refine Gl.back (fun _ k => XS.iadd X308.here hx rfl (hb hby at_272) rfl k) ?_
  show Gl _ _ _ _ _ _ _ (T308.setTop (mkF m 273 #[.val (.long j0), .second, .val (.long j1), .second, .val (.int i4), .val (.int i5), .val (.long xa), .second, .val (.long xb), .second, .val (.ref b227), .val (.ref rr236), .val (.ref b240), .val (.long xa), .second, .val (.long xb), .second, .val (.int (Int32.ofNat bx17)), .val (.int (Int32.ofNat bx18)), .val (.int (Int32.ofNat bx19)), .val (.int (Int32.ofNat bx20)), .val (.int (Int32.ofNat bx21)), .val (.int (Int32.ofNat bx22)), .val (.ref b251), .val (.ref b269), .val (.ref b293), .val (.long (own_acc FA mA)), .second, .val (.long (own_acc FD mD)), .second, .val (.long (own_acc FA mA)), .second, .unset, .unset, .unset] [(.int ((1 : Int32) + (Int32.ofNat mA)))]))
  have hoo : ((1 : Int32) + (Int32.ofNat mA)).toInt = ((1 + mA : Nat) : Int) := own_o hmA.2
  generalize ((1 : Int32) + (Int32.ofNat mA)) = oo at hoo ⊢
  show Gl _ _ _ _ _ _ _ (T308.setTop (mkF m 273 #[.val (.long j0), .second, .val (.long j1), .second, .val (.int i4), .val (.int i5), .val (.long xa), .second, .val (.long xb), .second, .val (.ref b227), .val (.ref rr236), .val (.ref b240), .val (.long xa), .second, .val (.long xb), .second, .val (.int (Int32.ofNat bx17)), .val (.int (Int32.ofNat bx18)), .val (.int (Int32.ofNat bx19)), .val (.int (Int32.ofNat bx20)), .val (.int (Int32.ofNat bx21)), .val (.int (Int32.ofNat bx22)), .val (.ref b251), .val (.ref b269), .val (.ref b293), .val (.long (own_acc FA mA)), .second, .val (.long (own_acc FD mD)), .second, .val (.long (own_acc FA mA)), .second, .unset, .unset, .unset] [(.int oo)]))
  refine Gl.back (fun _ k => XS.istore X308.here hx rfl (hb hby at_273) rfl (l' := #[.val (.long j0), .second, .val (.long j1), .second, .val (.int i4), .val (.int i5), .val (.long xa), .second, .val (.long xb), .second, .val (.ref b227), .val (.ref rr236), .val (.ref b240), .val (.long xa), .second, .val (.long xb), .second, .val (.int (Int32.ofNat bx17)), .val (.int (Int32.ofNat bx18)), .val (.int (Int32.ofNat bx19)), .val (.int (Int32.ofNat bx20)), .val (.int (Int32.ofNat bx21)), .val (.int (Int32.ofNat bx22)), .val (.ref b251), .val (.ref b269), .val (.ref b293), .val (.long (own_acc FA mA)), .second, .val (.long (own_acc FD mD)), .second, .val (.long (own_acc FA mA)), .second, .val (.int oo), .unset, .unset]) rfl k) ?_
  show Gl _ _ _ _ _ _ _ (T308.setTop (mkF m 275 #[.val (.long j0), .second, .val (.long j1), .second, .val (.int i4), .val (.int i5), .val (.long xa), .second, .val (.long xb), .second, .val (.ref b227), .val (.ref rr236), .val (.ref b240), .val (.long xa), .second, .val (.long xb), .second, .val (.int (Int32.ofNat bx17)), .val (.int (Int32.ofNat bx18)), .val (.int (Int32.ofNat bx19)), .val (.int (Int32.ofNat bx20)), .val (.int (Int32.ofNat bx21)), .val (.int (Int32.ofNat bx22)), .val (.ref b251), .val (.ref b269), .val (.ref b293), .val (.long (own_acc FA mA)), .second, .val (.long (own_acc FD mD)), .second, .val (.long (own_acc FA mA)), .second, .val (.int oo), .unset, .unset] []))
  refine Gl.back (fun _ k => XS.aload X308.here hx rfl (hb hby at_275) rfl rfl k) ?_
  show Gl _ _ _ _ _ _ _ (T308.setTop (mkF m 277 #[.val (.long j0), .second, .val (.long j1), .second, .val (.int i4), .val (.int i5), .val (.long xa), .second, .val (.long xb), .second, .val (.ref b227), .val (.ref rr236), .val (.ref b240), .val (.long xa), .second, .val (.long xb), .second, .val (.int (Int32.ofNat bx17)), .val (.int (Int32.ofNat bx18)), .val (.int (Int32.ofNat bx19)), .val (.int (Int32.ofNat bx20)), .val (.int (Int32.ofNat bx21)), .val (.int (Int32.ofNat bx22)), .val (.ref b251), .val (.ref b269), .val (.ref b293), .val (.long (own_acc FA mA)), .second, .val (.long (own_acc FD mD)), .second, .val (.long (own_acc FA mA)), .second, .val (.int oo), .unset, .unset] [(.ref b269)]))
  refine Gl.back (fun _ k => XS.iload X308.here hx rfl (hb hby at_277) rfl k) ?_
  show Gl _ _ _ _ _ _ _ (T308.setTop (mkF m 279 #[.val (.long j0), .second, .val (.long j1), .second, .val (.int i4), .val (.int i5), .val (.long xa), .second, .val (.long xb), .second, .val (.ref b227), .val (.ref rr236), .val (.ref b240), .val (.long xa), .second, .val (.long xb), .second, .val (.int (Int32.ofNat bx17)), .val (.int (Int32.ofNat bx18)), .val (.int (Int32.ofNat bx19)), .val (.int (Int32.ofNat bx20)), .val (.int (Int32.ofNat bx21)), .val (.int (Int32.ofNat bx22)), .val (.ref b251), .val (.ref b269), .val (.ref b293), .val (.long (own_acc FA mA)), .second, .val (.long (own_acc FD mD)), .second, .val (.long (own_acc FA mA)), .second, .val (.int oo), .unset, .unset] [(.int oo), (.ref b269)]))
  have f309 := ((((V292.ext E293).keep Kq300 (ninS ne_b269_b293 nin0)).keep Kq301 (ninS ne_b269_b293 nin0)).keep Kq304 (ninS ne_b269_b293 nin0))
  obtain ⟨cl310, Ar310, q310, Sz310, Nn310, Hs310, Gf310⟩ := id f309
  have hin310 : ¬ (oo < 0 ∨ cl310.slots.size ≤ (oo).toNatClampNeg) := inb_of Sz310 (own_9 (j := 0) hoo hmA.2 (by decide))
  have hat310 : cl310.slots[(oo).toNatClampNeg]? = some (.int (Int32.ofNat (FD 0))) := Hs310.at hin310 (own_gD (i := 0) hoo (hnin 0 (by decide)))
  refine Gl.back (fun _ k => X308.iaload hx (j := oo) (v := (.int (Int32.ofNat (FD 0)))) (by rw [eh308]; exact Ar310.1) (State.isArrayOf_alike hZ.alike Ar310.2.1) Ar310.2.2 hin310 hat310 (g := (mkF m 279 #[.val (.long j0), .second, .val (.long j1), .second, .val (.int i4), .val (.int i5), .val (.long xa), .second, .val (.long xb), .second, .val (.ref b227), .val (.ref rr236), .val (.ref b240), .val (.long xa), .second, .val (.long xb), .second, .val (.int (Int32.ofNat bx17)), .val (.int (Int32.ofNat bx18)), .val (.int (Int32.ofNat bx19)), .val (.int (Int32.ofNat bx20)), .val (.int (Int32.ofNat bx21)), .val (.int (Int32.ofNat bx22)), .val (.ref b251), .val (.ref b269), .val (.ref b293), .val (.long (own_acc FA mA)), .second, .val (.long (own_acc FD mD)), .second, .val (.long (own_acc FA mA)), .second, .val (.int oo), .unset, .unset] [(.int oo), (.ref b269)])) rfl rfl (hb hby at_279) _ k) ?_
  show Gl _ _ _ _ _ _ _ (T308.setTop (mkF m 280 #[.val (.long j0), .second, .val (.long j1), .second, .val (.int i4), .val (.int i5), .val (.long xa), .second, .val (.long xb), .second, .val (.ref b227), .val (.ref rr236), .val (.ref b240), .val (.long xa), .second, .val (.long xb), .second, .val (.int (Int32.ofNat bx17)), .val (.int (Int32.ofNat bx18)), .val (.int (Int32.ofNat bx19)), .val (.int (Int32.ofNat bx20)), .val (.int (Int32.ofNat bx21)), .val (.int (Int32.ofNat bx22)), .val (.ref b251), .val (.ref b269), .val (.ref b293), .val (.long (own_acc FA mA)), .second, .val (.long (own_acc FD mD)), .second, .val (.long (own_acc FA mA)), .second, .val (.int oo), .unset, .unset] [(.int (Int32.ofNat (FD 0)))]))
  refine Gl.back (fun _ k => XS.aload X308.here hx rfl (hb hby at_280) rfl rfl k) ?_
  show Gl _ _ _ _ _ _ _ (T308.setTop (mkF m 282 #[.val (.long j0), .second, .val (.long j1), .second, .val (.int i4), .val (.int i5), .val (.long xa), .second, .val (.long xb), .second, .val (.ref b227), .val (.ref rr236), .val (.ref b240), .val (.long xa), .second, .val (.long xb), .second, .val (.int (Int32.ofNat bx17)), .val (.int (Int32.ofNat bx18)), .val (.int (Int32.ofNat bx19)), .val (.int (Int32.ofNat bx20)), .val (.int (Int32.ofNat bx21)), .val (.int (Int32.ofNat bx22)), .val (.ref b251), .val (.ref b269), .val (.ref b293), .val (.long (own_acc FA mA)), .second, .val (.long (own_acc FD mD)), .second, .val (.long (own_acc FA mA)), .second, .val (.int oo), .unset, .unset] [(.ref b269), (.int (Int32.ofNat (FD 0)))]))
  refine Gl.back (fun _ k => XS.iload X308.here hx rfl (hb hby at_282) rfl k) ?_
  show Gl _ _ _ _ _ _ _ (T308.setTop (mkF m 284 #[.val (.long j0), .second, .val (.long j1), .second, .val (.int i4), .val (.int i5), .val (.long xa), .second, .val (.long xb), .second, .val (.ref b227), .val (.ref rr236), .val (.ref b240), .val (.long xa), .second, .val (.long xb), .second, .val (.int (Int32.ofNat bx17)), .val (.int (Int32.ofNat bx18)), .val (.int (Int32.ofNat bx19)), .val (.int (Int32.ofNat bx20)), .val (.int (Int32.ofNat bx21)), .val (.int (Int32.ofNat bx22)), .val (.ref b251), .val (.ref b269), .val (.ref b293), .val (.long (own_acc FA mA)), .second, .val (.long (own_acc FD mD)), .second, .val (.long (own_acc FA mA)), .second, .val (.int oo), .unset, .unset] [(.int oo), (.ref b269), (.int (Int32.ofNat (FD 0)))]))
  refine Gl.back (fun _ k => XS.iconst X308.here hx rfl (hb hby at_284) k) ?_
  show Gl _ _ _ _ _ _ _ (T308.setTop (mkF m 285 #[.val (.long j0), .second, .val (.long j1), .second, .val (.int i4), .val (.int i5), .val (.long xa), .second, .val (.long xb), .second, .val (.ref b227), .val (.ref rr236), .val (.ref b240), .val (.long xa), .second, .val (.long xb), .second, .val (.int (Int32.ofNat bx17)), .val (.int (Int32.ofNat bx18)), .val (.int (Int32.ofNat bx19)), .val (.int (Int32.ofNat bx20)), .val (.int (Int32.ofNat bx21)), .val (.int (Int32.ofNat bx22)), .val (.ref b251), .val (.ref b269), .val (.ref b293), .val (.long (own_acc FA mA)), .second, .val (.long (own_acc FD mD)), .second, .val (.long (own_acc FA mA)), .second, .val (.int oo), .unset, .unset] [(.int (1 : Int32)), (.int oo), (.ref b269), (.int (Int32.ofNat (FD 0)))]))
  refine Gl.back (fun _ k => XS.iadd X308.here hx rfl (hb hby at_285) rfl k) ?_
  show Gl _ _ _ _ _ _ _ (T308.setTop (mkF m 286 #[.val (.long j0), .second, .val (.long j1), .second, .val (.int i4), .val (.int i5), .val (.long xa), .second, .val (.long xb), .second, .val (.ref b227), .val (.ref rr236), .val (.ref b240), .val (.long xa), .second, .val (.long xb), .second, .val (.int (Int32.ofNat bx17)), .val (.int (Int32.ofNat bx18)), .val (.int (Int32.ofNat bx19)), .val (.int (Int32.ofNat bx20)), .val (.int (Int32.ofNat bx21)), .val (.int (Int32.ofNat bx22)), .val (.ref b251), .val (.ref b269), .val (.ref b293), .val (.long (own_acc FA mA)), .second, .val (.long (own_acc FD mD)), .second, .val (.long (own_acc FA mA)), .second, .val (.int oo), .unset, .unset] [(.int (oo + (1 : Int32))), (.ref b269), (.int (Int32.ofNat (FD 0)))]))
  obtain ⟨cl311, Ar311, q311, Sz311, Nn311, Hs311, Gf311⟩ := id f309
  have hin311 : ¬ ((oo + (1 : Int32)) < 0 ∨ cl311.slots.size ≤ ((oo + (1 : Int32))).toNatClampNeg) := inb_of Sz311 (own_9 (own_oj hoo hmA.2 rfl (j := 1) (by decide)) hmA.2 (by decide))
  have hat311 : cl311.slots[((oo + (1 : Int32))).toNatClampNeg]? = some (.int (Int32.ofNat (FD 1))) := Hs311.at hin311 (own_gD (own_oj hoo hmA.2 rfl (j := 1) (by decide)) (hnin 1 (by decide)))
  refine Gl.back (fun _ k => X308.iaload hx (j := (oo + (1 : Int32))) (v := (.int (Int32.ofNat (FD 1)))) (by rw [eh308]; exact Ar311.1) (State.isArrayOf_alike hZ.alike Ar311.2.1) Ar311.2.2 hin311 hat311 (g := (mkF m 286 #[.val (.long j0), .second, .val (.long j1), .second, .val (.int i4), .val (.int i5), .val (.long xa), .second, .val (.long xb), .second, .val (.ref b227), .val (.ref rr236), .val (.ref b240), .val (.long xa), .second, .val (.long xb), .second, .val (.int (Int32.ofNat bx17)), .val (.int (Int32.ofNat bx18)), .val (.int (Int32.ofNat bx19)), .val (.int (Int32.ofNat bx20)), .val (.int (Int32.ofNat bx21)), .val (.int (Int32.ofNat bx22)), .val (.ref b251), .val (.ref b269), .val (.ref b293), .val (.long (own_acc FA mA)), .second, .val (.long (own_acc FD mD)), .second, .val (.long (own_acc FA mA)), .second, .val (.int oo), .unset, .unset] [(.int (oo + (1 : Int32))), (.ref b269), (.int (Int32.ofNat (FD 0)))])) rfl rfl (hb hby at_286) _ k) ?_
  show Gl _ _ _ _ _ _ _ (T308.setTop (mkF m 287 #[.val (.long j0), .second, .val (.long j1), .second, .val (.int i4), .val (.int i5), .val (.long xa), .second, .val (.long xb), .second, .val (.ref b227), .val (.ref rr236), .val (.ref b240), .val (.long xa), .second, .val (.long xb), .second, .val (.int (Int32.ofNat bx17)), .val (.int (Int32.ofNat bx18)), .val (.int (Int32.ofNat bx19)), .val (.int (Int32.ofNat bx20)), .val (.int (Int32.ofNat bx21)), .val (.int (Int32.ofNat bx22)), .val (.ref b251), .val (.ref b269), .val (.ref b293), .val (.long (own_acc FA mA)), .second, .val (.long (own_acc FD mD)), .second, .val (.long (own_acc FA mA)), .second, .val (.int oo), .unset, .unset] [(.int (Int32.ofNat (FD 1))), (.int (Int32.ofNat (FD 0)))]))
  refine Gl.back (fun _ k => XS.aload X308.here hx rfl (hb hby at_287) rfl rfl k) ?_
  show Gl _ _ _ _ _ _ _ (T308.setTop (mkF m 289 #[.val (.long j0), .second, .val (.long j1), .second, .val (.int i4), .val (.int i5), .val (.long xa), .second, .val (.long xb), .second, .val (.ref b227), .val (.ref rr236), .val (.ref b240), .val (.long xa), .second, .val (.long xb), .second, .val (.int (Int32.ofNat bx17)), .val (.int (Int32.ofNat bx18)), .val (.int (Int32.ofNat bx19)), .val (.int (Int32.ofNat bx20)), .val (.int (Int32.ofNat bx21)), .val (.int (Int32.ofNat bx22)), .val (.ref b251), .val (.ref b269), .val (.ref b293), .val (.long (own_acc FA mA)), .second, .val (.long (own_acc FD mD)), .second, .val (.long (own_acc FA mA)), .second, .val (.int oo), .unset, .unset] [(.ref b269), (.int (Int32.ofNat (FD 1))), (.int (Int32.ofNat (FD 0)))]))
  refine Gl.back (fun _ k => XS.iload X308.here hx rfl (hb hby at_289) rfl k) ?_
  show Gl _ _ _ _ _ _ _ (T308.setTop (mkF m 291 #[.val (.long j0), .second, .val (.long j1), .second, .val (.int i4), .val (.int i5), .val (.long xa), .second, .val (.long xb), .second, .val (.ref b227), .val (.ref rr236), .val (.ref b240), .val (.long xa), .second, .val (.long xb), .second, .val (.int (Int32.ofNat bx17)), .val (.int (Int32.ofNat bx18)), .val (.int (Int32.ofNat bx19)), .val (.int (Int32.ofNat bx20)), .val (.int (Int32.ofNat bx21)), .val (.int (Int32.ofNat bx22)), .val (.ref b251), .val (.ref b269), .val (.ref b293), .val (.long (own_acc FA mA)), .second, .val (.long (own_acc FD mD)), .second, .val (.long (own_acc FA mA)), .second, .val (.int oo), .unset, .unset] [(.int oo), (.ref b269), (.int (Int32.ofNat (FD 1))), (.int (Int32.ofNat (FD 0)))]))
  refine Gl.back (fun _ k => XS.iconst X308.here hx rfl (hb hby at_291) k) ?_
  show Gl _ _ _ _ _ _ _ (T308.setTop (mkF m 292 #[.val (.long j0), .second, .val (.long j1), .second, .val (.int i4), .val (.int i5), .val (.long xa), .second, .val (.long xb), .second, .val (.ref b227), .val (.ref rr236), .val (.ref b240), .val (.long xa), .second, .val (.long xb), .second, .val (.int (Int32.ofNat bx17)), .val (.int (Int32.ofNat bx18)), .val (.int (Int32.ofNat bx19)), .val (.int (Int32.ofNat bx20)), .val (.int (Int32.ofNat bx21)), .val (.int (Int32.ofNat bx22)), .val (.ref b251), .val (.ref b269), .val (.ref b293), .val (.long (own_acc FA mA)), .second, .val (.long (own_acc FD mD)), .second, .val (.long (own_acc FA mA)), .second, .val (.int oo), .unset, .unset] [(.int (2 : Int32)), (.int oo), (.ref b269), (.int (Int32.ofNat (FD 1))), (.int (Int32.ofNat (FD 0)))]))
  refine Gl.back (fun _ k => XS.iadd X308.here hx rfl (hb hby at_292) rfl k) ?_
  show Gl _ _ _ _ _ _ _ (T308.setTop (mkF m 293 #[.val (.long j0), .second, .val (.long j1), .second, .val (.int i4), .val (.int i5), .val (.long xa), .second, .val (.long xb), .second, .val (.ref b227), .val (.ref rr236), .val (.ref b240), .val (.long xa), .second, .val (.long xb), .second, .val (.int (Int32.ofNat bx17)), .val (.int (Int32.ofNat bx18)), .val (.int (Int32.ofNat bx19)), .val (.int (Int32.ofNat bx20)), .val (.int (Int32.ofNat bx21)), .val (.int (Int32.ofNat bx22)), .val (.ref b251), .val (.ref b269), .val (.ref b293), .val (.long (own_acc FA mA)), .second, .val (.long (own_acc FD mD)), .second, .val (.long (own_acc FA mA)), .second, .val (.int oo), .unset, .unset] [(.int (oo + (2 : Int32))), (.ref b269), (.int (Int32.ofNat (FD 1))), (.int (Int32.ofNat (FD 0)))]))
  obtain ⟨cl312, Ar312, q312, Sz312, Nn312, Hs312, Gf312⟩ := id f309
  have hin312 : ¬ ((oo + (2 : Int32)) < 0 ∨ cl312.slots.size ≤ ((oo + (2 : Int32))).toNatClampNeg) := inb_of Sz312 (own_9 (own_oj hoo hmA.2 rfl (j := 2) (by decide)) hmA.2 (by decide))
  have hat312 : cl312.slots[((oo + (2 : Int32))).toNatClampNeg]? = some (.int (Int32.ofNat (FD 2))) := Hs312.at hin312 (own_gD (own_oj hoo hmA.2 rfl (j := 2) (by decide)) (hnin 2 (by decide)))
  refine Gl.back (fun _ k => X308.iaload hx (j := (oo + (2 : Int32))) (v := (.int (Int32.ofNat (FD 2)))) (by rw [eh308]; exact Ar312.1) (State.isArrayOf_alike hZ.alike Ar312.2.1) Ar312.2.2 hin312 hat312 (g := (mkF m 293 #[.val (.long j0), .second, .val (.long j1), .second, .val (.int i4), .val (.int i5), .val (.long xa), .second, .val (.long xb), .second, .val (.ref b227), .val (.ref rr236), .val (.ref b240), .val (.long xa), .second, .val (.long xb), .second, .val (.int (Int32.ofNat bx17)), .val (.int (Int32.ofNat bx18)), .val (.int (Int32.ofNat bx19)), .val (.int (Int32.ofNat bx20)), .val (.int (Int32.ofNat bx21)), .val (.int (Int32.ofNat bx22)), .val (.ref b251), .val (.ref b269), .val (.ref b293), .val (.long (own_acc FA mA)), .second, .val (.long (own_acc FD mD)), .second, .val (.long (own_acc FA mA)), .second, .val (.int oo), .unset, .unset] [(.int (oo + (2 : Int32))), (.ref b269), (.int (Int32.ofNat (FD 1))), (.int (Int32.ofNat (FD 0)))])) rfl rfl (hb hby at_293) _ k) ?_
  show Gl _ _ _ _ _ _ _ (T308.setTop (mkF m 294 #[.val (.long j0), .second, .val (.long j1), .second, .val (.int i4), .val (.int i5), .val (.long xa), .second, .val (.long xb), .second, .val (.ref b227), .val (.ref rr236), .val (.ref b240), .val (.long xa), .second, .val (.long xb), .second, .val (.int (Int32.ofNat bx17)), .val (.int (Int32.ofNat bx18)), .val (.int (Int32.ofNat bx19)), .val (.int (Int32.ofNat bx20)), .val (.int (Int32.ofNat bx21)), .val (.int (Int32.ofNat bx22)), .val (.ref b251), .val (.ref b269), .val (.ref b293), .val (.long (own_acc FA mA)), .second, .val (.long (own_acc FD mD)), .second, .val (.long (own_acc FA mA)), .second, .val (.int oo), .unset, .unset] [(.int (Int32.ofNat (FD 2))), (.int (Int32.ofNat (FD 1))), (.int (Int32.ofNat (FD 0)))]))
  refine Gl.back (fun _ k => XS.aload X308.here hx rfl (hb hby at_294) rfl rfl k) ?_
  show Gl _ _ _ _ _ _ _ (T308.setTop (mkF m 296 #[.val (.long j0), .second, .val (.long j1), .second, .val (.int i4), .val (.int i5), .val (.long xa), .second, .val (.long xb), .second, .val (.ref b227), .val (.ref rr236), .val (.ref b240), .val (.long xa), .second, .val (.long xb), .second, .val (.int (Int32.ofNat bx17)), .val (.int (Int32.ofNat bx18)), .val (.int (Int32.ofNat bx19)), .val (.int (Int32.ofNat bx20)), .val (.int (Int32.ofNat bx21)), .val (.int (Int32.ofNat bx22)), .val (.ref b251), .val (.ref b269), .val (.ref b293), .val (.long (own_acc FA mA)), .second, .val (.long (own_acc FD mD)), .second, .val (.long (own_acc FA mA)), .second, .val (.int oo), .unset, .unset] [(.ref b269), (.int (Int32.ofNat (FD 2))), (.int (Int32.ofNat (FD 1))), (.int (Int32.ofNat (FD 0)))]))
  refine Gl.back (fun _ k => XS.iload X308.here hx rfl (hb hby at_296) rfl k) ?_
  show Gl _ _ _ _ _ _ _ (T308.setTop (mkF m 298 #[.val (.long j0), .second, .val (.long j1), .second, .val (.int i4), .val (.int i5), .val (.long xa), .second, .val (.long xb), .second, .val (.ref b227), .val (.ref rr236), .val (.ref b240), .val (.long xa), .second, .val (.long xb), .second, .val (.int (Int32.ofNat bx17)), .val (.int (Int32.ofNat bx18)), .val (.int (Int32.ofNat bx19)), .val (.int (Int32.ofNat bx20)), .val (.int (Int32.ofNat bx21)), .val (.int (Int32.ofNat bx22)), .val (.ref b251), .val (.ref b269), .val (.ref b293), .val (.long (own_acc FA mA)), .second, .val (.long (own_acc FD mD)), .second, .val (.long (own_acc FA mA)), .second, .val (.int oo), .unset, .unset] [(.int oo), (.ref b269), (.int (Int32.ofNat (FD 2))), (.int (Int32.ofNat (FD 1))), (.int (Int32.ofNat (FD 0)))]))
  refine Gl.back (fun _ k => XS.iconst X308.here hx rfl (hb hby at_298) k) ?_
  show Gl _ _ _ _ _ _ _ (T308.setTop (mkF m 299 #[.val (.long j0), .second, .val (.long j1), .second, .val (.int i4), .val (.int i5), .val (.long xa), .second, .val (.long xb), .second, .val (.ref b227), .val (.ref rr236), .val (.ref b240), .val (.long xa), .second, .val (.long xb), .second, .val (.int (Int32.ofNat bx17)), .val (.int (Int32.ofNat bx18)), .val (.int (Int32.ofNat bx19)), .val (.int (Int32.ofNat bx20)), .val (.int (Int32.ofNat bx21)), .val (.int (Int32.ofNat bx22)), .val (.ref b251), .val (.ref b269), .val (.ref b293), .val (.long (own_acc FA mA)), .second, .val (.long (own_acc FD mD)), .second, .val (.long (own_acc FA mA)), .second, .val (.int oo), .unset, .unset] [(.int (3 : Int32)), (.int oo), (.ref b269), (.int (Int32.ofNat (FD 2))), (.int (Int32.ofNat (FD 1))), (.int (Int32.ofNat (FD 0)))]))
  refine Gl.back (fun _ k => XS.iadd X308.here hx rfl (hb hby at_299) rfl k) ?_
  show Gl _ _ _ _ _ _ _ (T308.setTop (mkF m 300 #[.val (.long j0), .second, .val (.long j1), .second, .val (.int i4), .val (.int i5), .val (.long xa), .second, .val (.long xb), .second, .val (.ref b227), .val (.ref rr236), .val (.ref b240), .val (.long xa), .second, .val (.long xb), .second, .val (.int (Int32.ofNat bx17)), .val (.int (Int32.ofNat bx18)), .val (.int (Int32.ofNat bx19)), .val (.int (Int32.ofNat bx20)), .val (.int (Int32.ofNat bx21)), .val (.int (Int32.ofNat bx22)), .val (.ref b251), .val (.ref b269), .val (.ref b293), .val (.long (own_acc FA mA)), .second, .val (.long (own_acc FD mD)), .second, .val (.long (own_acc FA mA)), .second, .val (.int oo), .unset, .unset] [(.int (oo + (3 : Int32))), (.ref b269), (.int (Int32.ofNat (FD 2))), (.int (Int32.ofNat (FD 1))), (.int (Int32.ofNat (FD 0)))]))
  obtain ⟨cl313, Ar313, q313, Sz313, Nn313, Hs313, Gf313⟩ := id f309
  have hin313 : ¬ ((oo + (3 : Int32)) < 0 ∨ cl313.slots.size ≤ ((oo + (3 : Int32))).toNatClampNeg) := inb_of Sz313 (own_9 (own_oj hoo hmA.2 rfl (j := 3) (by decide)) hmA.2 (by decide))
  have hat313 : cl313.slots[((oo + (3 : Int32))).toNatClampNeg]? = some (.int (Int32.ofNat (FD 3))) := Hs313.at hin313 (own_gD (own_oj hoo hmA.2 rfl (j := 3) (by decide)) (hnin 3 (by decide)))
  refine Gl.back (fun _ k => X308.iaload hx (j := (oo + (3 : Int32))) (v := (.int (Int32.ofNat (FD 3)))) (by rw [eh308]; exact Ar313.1) (State.isArrayOf_alike hZ.alike Ar313.2.1) Ar313.2.2 hin313 hat313 (g := (mkF m 300 #[.val (.long j0), .second, .val (.long j1), .second, .val (.int i4), .val (.int i5), .val (.long xa), .second, .val (.long xb), .second, .val (.ref b227), .val (.ref rr236), .val (.ref b240), .val (.long xa), .second, .val (.long xb), .second, .val (.int (Int32.ofNat bx17)), .val (.int (Int32.ofNat bx18)), .val (.int (Int32.ofNat bx19)), .val (.int (Int32.ofNat bx20)), .val (.int (Int32.ofNat bx21)), .val (.int (Int32.ofNat bx22)), .val (.ref b251), .val (.ref b269), .val (.ref b293), .val (.long (own_acc FA mA)), .second, .val (.long (own_acc FD mD)), .second, .val (.long (own_acc FA mA)), .second, .val (.int oo), .unset, .unset] [(.int (oo + (3 : Int32))), (.ref b269), (.int (Int32.ofNat (FD 2))), (.int (Int32.ofNat (FD 1))), (.int (Int32.ofNat (FD 0)))])) rfl rfl (hb hby at_300) _ k) ?_
  show Gl _ _ _ _ _ _ _ (T308.setTop (mkF m 301 #[.val (.long j0), .second, .val (.long j1), .second, .val (.int i4), .val (.int i5), .val (.long xa), .second, .val (.long xb), .second, .val (.ref b227), .val (.ref rr236), .val (.ref b240), .val (.long xa), .second, .val (.long xb), .second, .val (.int (Int32.ofNat bx17)), .val (.int (Int32.ofNat bx18)), .val (.int (Int32.ofNat bx19)), .val (.int (Int32.ofNat bx20)), .val (.int (Int32.ofNat bx21)), .val (.int (Int32.ofNat bx22)), .val (.ref b251), .val (.ref b269), .val (.ref b293), .val (.long (own_acc FA mA)), .second, .val (.long (own_acc FD mD)), .second, .val (.long (own_acc FA mA)), .second, .val (.int oo), .unset, .unset] [(.int (Int32.ofNat (FD 3))), (.int (Int32.ofNat (FD 2))), (.int (Int32.ofNat (FD 1))), (.int (Int32.ofNat (FD 0)))]))
  obtain ⟨_, _, ⟨T314, L314, k314, n314⟩, -, X314, ⟨Lc314, hQ314, l314, y314, z314⟩, st314⟩ := Jvm.LawKit.callS X308 hx (y := (⟨"com/example/harbourlink/harbourlink/scratch/ReaderNumberPinLaw", "ref", "(IIII)J"⟩ : MethodName)) hown (mvT hZ (hw _ (List.mem_of_getElem? (i := 89) rfl))) (mvT hZ (hw _ (List.mem_of_getElem? (i := 90) rfl))) (mvT hZ (hw _ (List.mem_of_getElem? (i := 91) rfl))) (mvT hZ (hw _ (List.mem_of_getElem? (i := 92) rfl))) (by decide) (backOf (W := 0) (rmrf l Z a0 hw [] (Int32.ofNat (FD 0)) (Int32.ofNat (FD 1)) (Int32.ofNat (FD 2)) (Int32.ofNat (FD 3)) FD mD T304.heap n0 Zc304 rfl rfl rfl rfl (fun i _ => hFD i) hloD hhiD hmD) hZ (hw _ (List.mem_of_getElem? (i := 92) rfl)) (hw _ (List.mem_of_getElem? (i := 91) rfl)) (by decide) (by decide)) (g := (mkF m 301 #[.val (.long j0), .second, .val (.long j1), .second, .val (.int i4), .val (.int i5), .val (.long xa), .second, .val (.long xb), .second, .val (.ref b227), .val (.ref rr236), .val (.ref b240), .val (.long xa), .second, .val (.long xb), .second, .val (.int (Int32.ofNat bx17)), .val (.int (Int32.ofNat bx18)), .val (.int (Int32.ofNat bx19)), .val (.int (Int32.ofNat bx20)), .val (.int (Int32.ofNat bx21)), .val (.int (Int32.ofNat bx22)), .val (.ref b251), .val (.ref b269), .val (.ref b293), .val (.long (own_acc FA mA)), .second, .val (.long (own_acc FD mD)), .second, .val (.long (own_acc FA mA)), .second, .val (.int oo), .unset, .unset] [(.int (Int32.ofNat (FD 3))), (.int (Int32.ofNat (FD 2))), (.int (Int32.ofNat (FD 1))), (.int (Int32.ofNat (FD 0)))])) rfl (by rw [hml]; rfl) (argsL := [(.int (Int32.ofNat (FD 0))), (.int (Int32.ofNat (FD 1))), (.int (Int32.ofNat (FD 2))), (.int (Int32.ofNat (FD 3)))]) (rest := []) (lenOf pd__IIII_J rfl) rfl (by show 2 * 0 + _ ≤ _; exact Nat.le_of_eq rfl) (hb hby at_301) (fun _ _ => ⟨rfl, eh308, (by decide : 8 + 0 ≤ _), (by decide : 72 + 0 ≤ _)⟩)
  dsimp only [Pt.U, Pt.locs, Pt.cells, Pt.slots] at X314 l314 y314 z314 st314 hQ314
  replace l314 := Eq.symm l314
  replace y314 := Eq.symm y314
  replace z314 := Eq.symm z314
  subst l314 y314 z314
  obtain ⟨Nq314, rfl, eh314⟩ := hQ314
  have N314 := Fr.app N308 Nq314
  refine Gl.back (fun _ k => st314 _ k) ?_
  show Gl _ _ _ _ _ _ _ (T314.setTop (mkF m 304 #[.val (.long j0), .second, .val (.long j1), .second, .val (.int i4), .val (.int i5), .val (.long xa), .second, .val (.long xb), .second, .val (.ref b227), .val (.ref rr236), .val (.ref b240), .val (.long xa), .second, .val (.long xb), .second, .val (.int (Int32.ofNat bx17)), .val (.int (Int32.ofNat bx18)), .val (.int (Int32.ofNat bx19)), .val (.int (Int32.ofNat bx20)), .val (.int (Int32.ofNat bx21)), .val (.int (Int32.ofNat bx22)), .val (.ref b251), .val (.ref b269), .val (.ref b293), .val (.long (own_acc FA mA)), .second, .val (.long (own_acc FD mD)), .second, .val (.long (own_acc FA mA)), .second, .val (.int oo), .unset, .unset] [(.long (own_acc FD mD))]))
  refine Gl.back (fun _ k => XS.lstore X314.here hx rfl (hb hby at_304) rfl (l' := #[.val (.long j0), .second, .val (.long j1), .second, .val (.int i4), .val (.int i5), .val (.long xa), .second, .val (.long xb), .second, .val (.ref b227), .val (.ref rr236), .val (.ref b240), .val (.long xa), .second, .val (.long xb), .second, .val (.int (Int32.ofNat bx17)), .val (.int (Int32.ofNat bx18)), .val (.int (Int32.ofNat bx19)), .val (.int (Int32.ofNat bx20)), .val (.int (Int32.ofNat bx21)), .val (.int (Int32.ofNat bx22)), .val (.ref b251), .val (.ref b269), .val (.ref b293), .val (.long (own_acc FA mA)), .second, .val (.long (own_acc FD mD)), .second, .val (.long (own_acc FA mA)), .second, .val (.int oo), .val (.long (own_acc FD mD)), .second]) rfl k) ?_
  show Gl _ _ _ _ _ _ _ (T314.setTop (mkF m 306 #[.val (.long j0), .second, .val (.long j1), .second, .val (.int i4), .val (.int i5), .val (.long xa), .second, .val (.long xb), .second, .val (.ref b227), .val (.ref rr236), .val (.ref b240), .val (.long xa), .second, .val (.long xb), .second, .val (.int (Int32.ofNat bx17)), .val (.int (Int32.ofNat bx18)), .val (.int (Int32.ofNat bx19)), .val (.int (Int32.ofNat bx20)), .val (.int (Int32.ofNat bx21)), .val (.int (Int32.ofNat bx22)), .val (.ref b251), .val (.ref b269), .val (.ref b293), .val (.long (own_acc FA mA)), .second, .val (.long (own_acc FD mD)), .second, .val (.long (own_acc FA mA)), .second, .val (.int oo), .val (.long (own_acc FD mD)), .second] []))
  refine Gl.back (fun _ k => XS.lload X314.here hx rfl (hb hby at_306) rfl k) ?_
  show Gl _ _ _ _ _ _ _ (T314.setTop (mkF m 308 #[.val (.long j0), .second, .val (.long j1), .second, .val (.int i4), .val (.int i5), .val (.long xa), .second, .val (.long xb), .second, .val (.ref b227), .val (.ref rr236), .val (.ref b240), .val (.long xa), .second, .val (.long xb), .second, .val (.int (Int32.ofNat bx17)), .val (.int (Int32.ofNat bx18)), .val (.int (Int32.ofNat bx19)), .val (.int (Int32.ofNat bx20)), .val (.int (Int32.ofNat bx21)), .val (.int (Int32.ofNat bx22)), .val (.ref b251), .val (.ref b269), .val (.ref b293), .val (.long (own_acc FA mA)), .second, .val (.long (own_acc FD mD)), .second, .val (.long (own_acc FA mA)), .second, .val (.int oo), .val (.long (own_acc FD mD)), .second] [(.long xa)]))
  refine Gl.back (fun _ k => XS.lload X314.here hx rfl (hb hby at_308) rfl k) ?_
  show Gl _ _ _ _ _ _ _ (T314.setTop (mkF m 310 #[.val (.long j0), .second, .val (.long j1), .second, .val (.int i4), .val (.int i5), .val (.long xa), .second, .val (.long xb), .second, .val (.ref b227), .val (.ref rr236), .val (.ref b240), .val (.long xa), .second, .val (.long xb), .second, .val (.int (Int32.ofNat bx17)), .val (.int (Int32.ofNat bx18)), .val (.int (Int32.ofNat bx19)), .val (.int (Int32.ofNat bx20)), .val (.int (Int32.ofNat bx21)), .val (.int (Int32.ofNat bx22)), .val (.ref b251), .val (.ref b269), .val (.ref b293), .val (.long (own_acc FA mA)), .second, .val (.long (own_acc FD mD)), .second, .val (.long (own_acc FA mA)), .second, .val (.int oo), .val (.long (own_acc FD mD)), .second] [(.long xa), (.long xa)]))
  refine Gl.back (fun _ k => XS.lcmp X314.here hx rfl (hb hby at_310) rfl k) ?_
  show Gl _ _ _ _ _ _ _ (T314.setTop (mkF m 311 #[.val (.long j0), .second, .val (.long j1), .second, .val (.int i4), .val (.int i5), .val (.long xa), .second, .val (.long xb), .second, .val (.ref b227), .val (.ref rr236), .val (.ref b240), .val (.long xa), .second, .val (.long xb), .second, .val (.int (Int32.ofNat bx17)), .val (.int (Int32.ofNat bx18)), .val (.int (Int32.ofNat bx19)), .val (.int (Int32.ofNat bx20)), .val (.int (Int32.ofNat bx21)), .val (.int (Int32.ofNat bx22)), .val (.ref b251), .val (.ref b269), .val (.ref b293), .val (.long (own_acc FA mA)), .second, .val (.long (own_acc FD mD)), .second, .val (.long (own_acc FA mA)), .second, .val (.int oo), .val (.long (own_acc FD mD)), .second] [(.int (lcmpW xa xa))]))
  refine Gl.back (fun _ k => XS.ifNo X314.here hx rfl (hb hby at_311) rfl ((if0 _ _).trans (teq (own_lcE (rfl : xa = xa))).2) k) ?_
  show Gl _ _ _ _ _ _ _ (T314.setTop (mkF m 314 #[.val (.long j0), .second, .val (.long j1), .second, .val (.int i4), .val (.int i5), .val (.long xa), .second, .val (.long xb), .second, .val (.ref b227), .val (.ref rr236), .val (.ref b240), .val (.long xa), .second, .val (.long xb), .second, .val (.int (Int32.ofNat bx17)), .val (.int (Int32.ofNat bx18)), .val (.int (Int32.ofNat bx19)), .val (.int (Int32.ofNat bx20)), .val (.int (Int32.ofNat bx21)), .val (.int (Int32.ofNat bx22)), .val (.ref b251), .val (.ref b269), .val (.ref b293), .val (.long (own_acc FA mA)), .second, .val (.long (own_acc FD mD)), .second, .val (.long (own_acc FA mA)), .second, .val (.int oo), .val (.long (own_acc FD mD)), .second] []))
  refine Gl.back (fun _ k => XS.lload X314.here hx rfl (hb hby at_314) rfl k) ?_
  show Gl _ _ _ _ _ _ _ (T314.setTop (mkF m 316 #[.val (.long j0), .second, .val (.long j1), .second, .val (.int i4), .val (.int i5), .val (.long xa), .second, .val (.long xb), .second, .val (.ref b227), .val (.ref rr236), .val (.ref b240), .val (.long xa), .second, .val (.long xb), .second, .val (.int (Int32.ofNat bx17)), .val (.int (Int32.ofNat bx18)), .val (.int (Int32.ofNat bx19)), .val (.int (Int32.ofNat bx20)), .val (.int (Int32.ofNat bx21)), .val (.int (Int32.ofNat bx22)), .val (.ref b251), .val (.ref b269), .val (.ref b293), .val (.long (own_acc FA mA)), .second, .val (.long (own_acc FD mD)), .second, .val (.long (own_acc FA mA)), .second, .val (.int oo), .val (.long (own_acc FD mD)), .second] [(.long xb)]))
  refine Gl.back (fun _ k => XS.lload X314.here hx rfl (hb hby at_316) rfl k) ?_
  show Gl _ _ _ _ _ _ _ (T314.setTop (mkF m 318 #[.val (.long j0), .second, .val (.long j1), .second, .val (.int i4), .val (.int i5), .val (.long xa), .second, .val (.long xb), .second, .val (.ref b227), .val (.ref rr236), .val (.ref b240), .val (.long xa), .second, .val (.long xb), .second, .val (.int (Int32.ofNat bx17)), .val (.int (Int32.ofNat bx18)), .val (.int (Int32.ofNat bx19)), .val (.int (Int32.ofNat bx20)), .val (.int (Int32.ofNat bx21)), .val (.int (Int32.ofNat bx22)), .val (.ref b251), .val (.ref b269), .val (.ref b293), .val (.long (own_acc FA mA)), .second, .val (.long (own_acc FD mD)), .second, .val (.long (own_acc FA mA)), .second, .val (.int oo), .val (.long (own_acc FD mD)), .second] [(.long xb), (.long xb)]))
  refine Gl.back (fun _ k => XS.lcmp X314.here hx rfl (hb hby at_318) rfl k) ?_
  show Gl _ _ _ _ _ _ _ (T314.setTop (mkF m 319 #[.val (.long j0), .second, .val (.long j1), .second, .val (.int i4), .val (.int i5), .val (.long xa), .second, .val (.long xb), .second, .val (.ref b227), .val (.ref rr236), .val (.ref b240), .val (.long xa), .second, .val (.long xb), .second, .val (.int (Int32.ofNat bx17)), .val (.int (Int32.ofNat bx18)), .val (.int (Int32.ofNat bx19)), .val (.int (Int32.ofNat bx20)), .val (.int (Int32.ofNat bx21)), .val (.int (Int32.ofNat bx22)), .val (.ref b251), .val (.ref b269), .val (.ref b293), .val (.long (own_acc FA mA)), .second, .val (.long (own_acc FD mD)), .second, .val (.long (own_acc FA mA)), .second, .val (.int oo), .val (.long (own_acc FD mD)), .second] [(.int (lcmpW xb xb))]))
  refine Gl.back (fun _ k => XS.ifNo X314.here hx rfl (hb hby at_319) rfl ((if0 _ _).trans (teq (own_lcE (rfl : xb = xb))).2) k) ?_
  show Gl _ _ _ _ _ _ _ (T314.setTop (mkF m 322 #[.val (.long j0), .second, .val (.long j1), .second, .val (.int i4), .val (.int i5), .val (.long xa), .second, .val (.long xb), .second, .val (.ref b227), .val (.ref rr236), .val (.ref b240), .val (.long xa), .second, .val (.long xb), .second, .val (.int (Int32.ofNat bx17)), .val (.int (Int32.ofNat bx18)), .val (.int (Int32.ofNat bx19)), .val (.int (Int32.ofNat bx20)), .val (.int (Int32.ofNat bx21)), .val (.int (Int32.ofNat bx22)), .val (.ref b251), .val (.ref b269), .val (.ref b293), .val (.long (own_acc FA mA)), .second, .val (.long (own_acc FD mD)), .second, .val (.long (own_acc FA mA)), .second, .val (.int oo), .val (.long (own_acc FD mD)), .second] []))
  refine Gl.back (fun _ k => XS.lload X314.here hx rfl (hb hby at_322) rfl k) ?_
  show Gl _ _ _ _ _ _ _ (T314.setTop (mkF m 324 #[.val (.long j0), .second, .val (.long j1), .second, .val (.int i4), .val (.int i5), .val (.long xa), .second, .val (.long xb), .second, .val (.ref b227), .val (.ref rr236), .val (.ref b240), .val (.long xa), .second, .val (.long xb), .second, .val (.int (Int32.ofNat bx17)), .val (.int (Int32.ofNat bx18)), .val (.int (Int32.ofNat bx19)), .val (.int (Int32.ofNat bx20)), .val (.int (Int32.ofNat bx21)), .val (.int (Int32.ofNat bx22)), .val (.ref b251), .val (.ref b269), .val (.ref b293), .val (.long (own_acc FA mA)), .second, .val (.long (own_acc FD mD)), .second, .val (.long (own_acc FA mA)), .second, .val (.int oo), .val (.long (own_acc FD mD)), .second] [(.long (own_acc FA mA))]))
  refine Gl.back (fun _ k => XS.lload X314.here hx rfl (hb hby at_324) rfl k) ?_
  show Gl _ _ _ _ _ _ _ (T314.setTop (mkF m 326 #[.val (.long j0), .second, .val (.long j1), .second, .val (.int i4), .val (.int i5), .val (.long xa), .second, .val (.long xb), .second, .val (.ref b227), .val (.ref rr236), .val (.ref b240), .val (.long xa), .second, .val (.long xb), .second, .val (.int (Int32.ofNat bx17)), .val (.int (Int32.ofNat bx18)), .val (.int (Int32.ofNat bx19)), .val (.int (Int32.ofNat bx20)), .val (.int (Int32.ofNat bx21)), .val (.int (Int32.ofNat bx22)), .val (.ref b251), .val (.ref b269), .val (.ref b293), .val (.long (own_acc FA mA)), .second, .val (.long (own_acc FD mD)), .second, .val (.long (own_acc FA mA)), .second, .val (.int oo), .val (.long (own_acc FD mD)), .second] [(.long (own_acc FA mA)), (.long (own_acc FA mA))]))
  refine Gl.back (fun _ k => XS.lcmp X314.here hx rfl (hb hby at_326) rfl k) ?_
  show Gl _ _ _ _ _ _ _ (T314.setTop (mkF m 327 #[.val (.long j0), .second, .val (.long j1), .second, .val (.int i4), .val (.int i5), .val (.long xa), .second, .val (.long xb), .second, .val (.ref b227), .val (.ref rr236), .val (.ref b240), .val (.long xa), .second, .val (.long xb), .second, .val (.int (Int32.ofNat bx17)), .val (.int (Int32.ofNat bx18)), .val (.int (Int32.ofNat bx19)), .val (.int (Int32.ofNat bx20)), .val (.int (Int32.ofNat bx21)), .val (.int (Int32.ofNat bx22)), .val (.ref b251), .val (.ref b269), .val (.ref b293), .val (.long (own_acc FA mA)), .second, .val (.long (own_acc FD mD)), .second, .val (.long (own_acc FA mA)), .second, .val (.int oo), .val (.long (own_acc FD mD)), .second] [(.int (lcmpW (own_acc FA mA) (own_acc FA mA)))]))
  refine Gl.back (fun _ k => XS.ifNo X314.here hx rfl (hb hby at_327) rfl ((if0 _ _).trans (teq (own_lcE (rfl : (own_acc FA mA) = (own_acc FA mA)))).2) k) ?_
  show Gl _ _ _ _ _ _ _ (T314.setTop (mkF m 330 #[.val (.long j0), .second, .val (.long j1), .second, .val (.int i4), .val (.int i5), .val (.long xa), .second, .val (.long xb), .second, .val (.ref b227), .val (.ref rr236), .val (.ref b240), .val (.long xa), .second, .val (.long xb), .second, .val (.int (Int32.ofNat bx17)), .val (.int (Int32.ofNat bx18)), .val (.int (Int32.ofNat bx19)), .val (.int (Int32.ofNat bx20)), .val (.int (Int32.ofNat bx21)), .val (.int (Int32.ofNat bx22)), .val (.ref b251), .val (.ref b269), .val (.ref b293), .val (.long (own_acc FA mA)), .second, .val (.long (own_acc FD mD)), .second, .val (.long (own_acc FA mA)), .second, .val (.int oo), .val (.long (own_acc FD mD)), .second] []))
  refine Gl.back (fun _ k => XS.lload X314.here hx rfl (hb hby at_330) rfl k) ?_
  show Gl _ _ _ _ _ _ _ (T314.setTop (mkF m 332 #[.val (.long j0), .second, .val (.long j1), .second, .val (.int i4), .val (.int i5), .val (.long xa), .second, .val (.long xb), .second, .val (.ref b227), .val (.ref rr236), .val (.ref b240), .val (.long xa), .second, .val (.long xb), .second, .val (.int (Int32.ofNat bx17)), .val (.int (Int32.ofNat bx18)), .val (.int (Int32.ofNat bx19)), .val (.int (Int32.ofNat bx20)), .val (.int (Int32.ofNat bx21)), .val (.int (Int32.ofNat bx22)), .val (.ref b251), .val (.ref b269), .val (.ref b293), .val (.long (own_acc FA mA)), .second, .val (.long (own_acc FD mD)), .second, .val (.long (own_acc FA mA)), .second, .val (.int oo), .val (.long (own_acc FD mD)), .second] [(.long (own_acc FD mD))]))
  refine Gl.back (fun _ k => XS.lload X314.here hx rfl (hb hby at_332) rfl k) ?_
  show Gl _ _ _ _ _ _ _ (T314.setTop (mkF m 334 #[.val (.long j0), .second, .val (.long j1), .second, .val (.int i4), .val (.int i5), .val (.long xa), .second, .val (.long xb), .second, .val (.ref b227), .val (.ref rr236), .val (.ref b240), .val (.long xa), .second, .val (.long xb), .second, .val (.int (Int32.ofNat bx17)), .val (.int (Int32.ofNat bx18)), .val (.int (Int32.ofNat bx19)), .val (.int (Int32.ofNat bx20)), .val (.int (Int32.ofNat bx21)), .val (.int (Int32.ofNat bx22)), .val (.ref b251), .val (.ref b269), .val (.ref b293), .val (.long (own_acc FA mA)), .second, .val (.long (own_acc FD mD)), .second, .val (.long (own_acc FA mA)), .second, .val (.int oo), .val (.long (own_acc FD mD)), .second] [(.long (own_acc FD mD)), (.long (own_acc FD mD))]))
  refine Gl.back (fun _ k => XS.lcmp X314.here hx rfl (hb hby at_334) rfl k) ?_
  show Gl _ _ _ _ _ _ _ (T314.setTop (mkF m 335 #[.val (.long j0), .second, .val (.long j1), .second, .val (.int i4), .val (.int i5), .val (.long xa), .second, .val (.long xb), .second, .val (.ref b227), .val (.ref rr236), .val (.ref b240), .val (.long xa), .second, .val (.long xb), .second, .val (.int (Int32.ofNat bx17)), .val (.int (Int32.ofNat bx18)), .val (.int (Int32.ofNat bx19)), .val (.int (Int32.ofNat bx20)), .val (.int (Int32.ofNat bx21)), .val (.int (Int32.ofNat bx22)), .val (.ref b251), .val (.ref b269), .val (.ref b293), .val (.long (own_acc FA mA)), .second, .val (.long (own_acc FD mD)), .second, .val (.long (own_acc FA mA)), .second, .val (.int oo), .val (.long (own_acc FD mD)), .second] [(.int (lcmpW (own_acc FD mD) (own_acc FD mD)))]))
  refine Gl.back (fun _ k => XS.ifNo X314.here hx rfl (hb hby at_335) rfl ((if0 _ _).trans (teq (own_lcE (rfl : (own_acc FD mD) = (own_acc FD mD)))).2) k) ?_
  show Gl _ _ _ _ _ _ _ (T314.setTop (mkF m 338 #[.val (.long j0), .second, .val (.long j1), .second, .val (.int i4), .val (.int i5), .val (.long xa), .second, .val (.long xb), .second, .val (.ref b227), .val (.ref rr236), .val (.ref b240), .val (.long xa), .second, .val (.long xb), .second, .val (.int (Int32.ofNat bx17)), .val (.int (Int32.ofNat bx18)), .val (.int (Int32.ofNat bx19)), .val (.int (Int32.ofNat bx20)), .val (.int (Int32.ofNat bx21)), .val (.int (Int32.ofNat bx22)), .val (.ref b251), .val (.ref b269), .val (.ref b293), .val (.long (own_acc FA mA)), .second, .val (.long (own_acc FD mD)), .second, .val (.long (own_acc FA mA)), .second, .val (.int oo), .val (.long (own_acc FD mD)), .second] []))
  refine Gl.back (fun _ k => XS.iconst X314.here hx rfl (hb hby at_338) k) ?_
  show Gl _ _ _ _ _ _ _ (T314.setTop (mkF m 339 #[.val (.long j0), .second, .val (.long j1), .second, .val (.int i4), .val (.int i5), .val (.long xa), .second, .val (.long xb), .second, .val (.ref b227), .val (.ref rr236), .val (.ref b240), .val (.long xa), .second, .val (.long xb), .second, .val (.int (Int32.ofNat bx17)), .val (.int (Int32.ofNat bx18)), .val (.int (Int32.ofNat bx19)), .val (.int (Int32.ofNat bx20)), .val (.int (Int32.ofNat bx21)), .val (.int (Int32.ofNat bx22)), .val (.ref b251), .val (.ref b269), .val (.ref b293), .val (.long (own_acc FA mA)), .second, .val (.long (own_acc FD mD)), .second, .val (.long (own_acc FA mA)), .second, .val (.int oo), .val (.long (own_acc FD mD)), .second] [(.int (1 : Int32))]))
  refine Gl.back (fun _ k => XS.goto X314.here hx rfl (pc0 := 339) (pc' := 343) rfl (hb hby at_339) (by decide) (by decide) k) ?_
  show Gl _ _ _ _ _ _ _ (T314.setTop (mkF m 343 #[.val (.long j0), .second, .val (.long j1), .second, .val (.int i4), .val (.int i5), .val (.long xa), .second, .val (.long xb), .second, .val (.ref b227), .val (.ref rr236), .val (.ref b240), .val (.long xa), .second, .val (.long xb), .second, .val (.int (Int32.ofNat bx17)), .val (.int (Int32.ofNat bx18)), .val (.int (Int32.ofNat bx19)), .val (.int (Int32.ofNat bx20)), .val (.int (Int32.ofNat bx21)), .val (.int (Int32.ofNat bx22)), .val (.ref b251), .val (.ref b269), .val (.ref b293), .val (.long (own_acc FA mA)), .second, .val (.long (own_acc FD mD)), .second, .val (.long (own_acc FA mA)), .second, .val (.int oo), .val (.long (own_acc FD mD)), .second] [(.int (1 : Int32))]))
  exact Gl.ret X314 eh314 (v := (some (.int (1 : Int32)))) (fun h => by rw [Bd.returns] at h; cases h) Bd.notSynchronized (fun fs hr => retN X314 hx (t := .boolean) (z := (1 : Int32)) Bd.returns (by simp) (hb hby at_343) hr) ⟨N314, rfl⟩ (by decide) (by decide)
set_option maxRecDepth 65536 in
set_option maxHeartbeats 40000000 in
theorem comes_1 {Post : Tables → Env → Array Value → State → Outcome → State → Prop} (hpost : ∀ tb e args s v u, (limb_1_1.after args s (.returned v) u = true ∧ limb_1_2.after args s (.returned v) u = true ∧ True) → FrameEnd s (.returned v) u (Jvm.fieldLocs frame_1_writes args s ++ Jvm.arrayLocs frame_1_arrays args s ++ Jvm.staticLocs frame_1_statics s) 24 256 → Post tb e args s (.returned v) u) :
    ArmFor flags0 classFile x code maxLocals ret World_1 tables_1 room_1 Calls_1 rest_1 Pre_1 Post := by
  intro l hfl _ _ p e ha hc hk s m args below hf hA hF happ hP
  obtain ⟨hcalls, hrest, hpre⟩ := hP
  obtain ⟨-, -, -, hnamed, -, -, -, hat⟩ := (Spec.applies_iff hf).mp happ
  obtain ⟨hg, hn⟩ := and_e (Cond.before_iff.mp (show (Jvm.Cond.and given_1 narrow_1).before args s = true from hpre))
  obtain ⟨gv315, gv316⟩ := and_e hg
  obtain ⟨gv317, gv318⟩ := and_e gv316
  obtain ⟨gv319, gv320⟩ := and_e gv318
  obtain ⟨gv321, gv322⟩ := and_e gv320
  obtain ⟨w0, w1, w2, w3, rfl⟩ : ∃ w0 w1 w2 w3 : Value, args = #[w0, w1, w2, w3] := by
    have hs : args.size = 4 := by simpa [Cond.value, given_1] using gv315
    obtain ⟨L⟩ := args
    match L, hs with
    | [w0, w1, w2, w3], _ => exact ⟨w0, w1, w2, w3, rfl⟩
  have hw := fun d (hd : d ∈ tables_1) => atoms_spec (ws := Jvm.Cond.code x code maxLocals ret :: tables_1) hat d (List.mem_cons_of_mem _ hd)
  have hfit : Fit s := fun {y c} hc i hi => by
    obtain ⟨ha, rfl⟩ := Array.getElem?_eq_some_iff.mp hc
    have q := List.all_eq_true.mp ((Array.all_eq_true_iff_forall_mem.mp hF) _ (Array.getElem_mem ha)) i (List.mem_range.mpr hi)
    simpa [Array.getElem?_eq_getElem hi] using q
  obtain ⟨i0, ei0⟩ := isL_v gv317
  obtain rfl : w0 = (.long i0) := Option.some.inj ei0
  obtain ⟨i1, ei1⟩ := isL_v gv319
  obtain rfl : w1 = (.long i1) := Option.some.inj ei1
  obtain ⟨i2, ei2⟩ := is_v gv321
  obtain rfl : w2 = (.int i2) := Option.some.inj ei2
  obtain ⟨i3, ei3⟩ := is_v gv322
  obtain rfl : w3 = (.int i3) := Option.some.inj ei3
  obtain ⟨n, o, h1, h2, h3, _, L, rfl, ⟨N, rfl⟩, hq⟩ := rm0 l s _ hw tables_1 i0 i1 i2 i3  s.heap s.heap.size (Nat.le_refl _)  p e ha hc hk s m _ below hf ((Spec.applies_iff_loose hf).mp happ).1 ⟨rfl, State.Warmed39.refl s, rfl⟩ trivial
  refine ⟨n, _, h1, h2, h3, hpost _ _ _ _ _ _ ⟨Cond.after_iff.mpr rfl, Cond.after_iff.mpr (eq_i res_at (Term.int_eval (1)) rfl), trivial⟩ ⟨hq.1, hq.2.1, (hq.2.2.sift fun y hy => Or.inr (N y hy)).mono (by decide) (by decide)⟩⟩
theorem main_1_1 : Claimed_1_1 := comes_1 fun _ _ _ _ _ _ h hF => ⟨h.1, hF⟩
theorem main_1_2 : Claimed_1_2 := comes_1 fun _ _ _ _ _ _ h hF => ⟨h.2.1, hF⟩
end Jvm.Pilot.@@N@@
namespace Jvm.Pilot.@@N@@
open Jvm Jvm.ClassFile Sem Op Lib Jvm.Free Jvm.Stand Jvm.Pilot.@@N@@.Jvm.D
/-! MADE BY PROGRAM (witnessworld.py) out of the Statement's table words and the real class files: 18 classes; the members and pool entries that the words name. The judged class is class 1, her method 3. -/
namespace start1
open Jvm.ClassFile
def u (s : String) : CpInfo := .utf8 (stringToUtf16 s)
/-- a pool by its gaps: so many unusable entries, then the entry; so many at the end -/
def gap : Nat → List CpInfo → List CpInfo
  | 0, r => r
  | n + 1, r => .unusable :: gap n r
def poolList (es : List (Nat × CpInfo)) (last : Nat) : List CpInfo := es.foldr (fun e r => gap e.1 (e.2 :: r)) (gap last [])
def pool (es : List (Nat × CpInfo)) (last : Nat) : Array CpInfo := ⟨poolList es last⟩
def fileOf (pool : Array CpInfo) (this : Nat) (attrs : Array Attribute := #[]) (ms : Array MethodInfo := #[]) (fl : Nat := 33) (sup : Nat := 0) (ifs : Array Nat := #[]) (fds : Array FieldInfo := #[]) : ClassFile where
  minorVersion := 0
  majorVersion := 65
  constantPool := pool
  accessFlags := fl
  thisClass := this
  superClass := sup
  interfaces := ifs
  fields := fds
  methods := ms
  attributes := attrs
def plain (name : String) (sup : Option ClassId) : Class where
  name := name
  kind := .ordinary
  loader := none
  accessFlags := 33
  super := sup
  interfaces := #[]
  cf := none
  fields := #[]
  methods := #[]
  instanceTypes := #[]
  staticTypes := #[]
  resolved := #[]
  callSites := []
  init := .initialized
  statics := none
  mirror := none

def pool0 : Array CpInfo := pool [(5, u "<init>"), (0, u "()V"), (1, .class_ 10), (1, u "java/lang/Object")] 113

def k0c0 : Code := { maxStack := 0, maxLocals := 1, code := object_method_1_code, exceptionTable := #[], attributes := #[] }
def k0m0 : Method := { name := "<init>", desc := "()V", sig := { parameters := [], returnType := none }, accessFlags := 1, code := some k0c0 }
/-- java/lang/Object -/
def k0 : Class := { plain "java/lang/Object" none with
  accessFlags := 33
  interfaces := #[]
  cf := some (fileOf pool0 8 #[] #[{ accessFlags := 1, nameIndex := 5, descriptorIndex := 6, attributes := #[] }] 33 0 #[] #[])
  fields := #[]
  methods := #[k0m0]
  instanceTypes := #[]
  staticTypes := #[]
  resolved := Array.replicate 124 none
  statics := none }

def pool1 : Array CpInfo := pool [(2, .class_ 4), (0, .nameAndType 5 6), (0, u "java/lang/Object"), (0, u "<init>"), (0, u "()V"), (2, .long 9223372036854775807), (1, .class_ 12), (0, u "com/example/harbourlink/harbourlink/scratch/Packing$Writer"), (0, .methodref 11 3), (0, .methodref 11 15), (0, .nameAndType 16 17), (0, u "number"), (0, u "(J)Lcom/example/harbourlink/harbourlink/scratch/Packing$Writer;"), (0, .methodref 11 19), (0, .nameAndType 20 21), (0, u "bytes"), (0, u "()[B"), (0, .class_ 23), (0, u "com/example/harbourlink/harbourlink/scratch/Packing$Reader"), (0, .methodref 22 25), (0, .nameAndType 5 26), (0, u "([BI)V"), (0, .methodref 22 28), (0, .nameAndType 16 29), (0, u "()J"), (0, .methodref 31 32), (0, .class_ 33), (0, .nameAndType 34 35), (0, u "com/example/harbourlink/harbourlink/scratch/ReaderNumberPinLaw"), (0, u "ref"), (0, u "(IIII)J"), (0, .methodref 31 37), (0, .nameAndType 38 39), (0, u "len"), (0, u "(III)I"), (3, u "law"), (0, u "(JJII)Z")] 11

def k1m0 : Method := { name := "<init>", desc := "()V", sig := { parameters := [], returnType := none }, accessFlags := 1, code := none }
def k1c1 : Code := { maxStack := 5, maxLocals := 6, code := method_2_code, exceptionTable := #[], attributes := #[] }
def k1m1 : Method := { name := "ref", desc := "(IIII)J", sig := { parameters := [.int, .int, .int, .int], returnType := some .long }, accessFlags := 10, code := some k1c1 }
def k1c2 : Code := { maxStack := 2, maxLocals := 3, code := method_3_code, exceptionTable := #[], attributes := #[] }
def k1m2 : Method := { name := "len", desc := "(III)I", sig := { parameters := [.int, .int, .int], returnType := some .int }, accessFlags := 10, code := some k1c2 }
def k1c3 : Code := { maxStack := 6, maxLocals := 35, code := code, exceptionTable := #[], attributes := #[] }
def k1m3 : Method := { name := "law", desc := "(JJII)Z", sig := { parameters := [.long, .long, .int, .int], returnType := some .boolean }, accessFlags := 9, code := some k1c3 }
/-- com/example/harbourlink/harbourlink/scratch/ReaderNumberPinLaw -/
def k1 : Class := { plain "com/example/harbourlink/harbourlink/scratch/ReaderNumberPinLaw" (some 0) with
  accessFlags := 49
  interfaces := #[]
  cf := some (fileOf pool1 31 #[] #[{ accessFlags := 1, nameIndex := 5, descriptorIndex := 6, attributes := #[] }, { accessFlags := 10, nameIndex := 34, descriptorIndex := 35, attributes := #[] }, { accessFlags := 10, nameIndex := 38, descriptorIndex := 39, attributes := #[] }, { accessFlags := 9, nameIndex := 43, descriptorIndex := 44, attributes := #[] }] 49 2 #[] #[])
  fields := #[]
  methods := #[k1m0, k1m1, k1m2, k1m3]
  instanceTypes := #[]
  staticTypes := #[]
  resolved := Array.replicate 56 none
  statics := none }

def pool2 : Array CpInfo := pool [(1, .class_ 2), (0, u "com/example/harbourlink/harbourlink/scratch/Packing"), (0, .methodref 4 5), (0, .class_ 6), (0, .nameAndType 7 8), (0, u "java/lang/Object"), (0, u "<init>"), (0, u "()V"), (0, .class_ 10), (0, u "java/io/ByteArrayOutputStream"), (0, .methodref 9 5), (0, .fieldref 13 14), (0, .class_ 15), (0, .nameAndType 16 17), (0, u "com/example/harbourlink/harbourlink/scratch/Packing$Writer"), (0, u "packed"), (0, u "Ljava/io/ByteArrayOutputStream;"), (9, .long 128), (1, .methodref 9 30), (0, .nameAndType 31 32), (0, u "write"), (0, u "(I)V"), (14, u "number"), (0, u "(J)Lcom/example/harbourlink/harbourlink/scratch/Packing$Writer;"), (14, .methodref 9 64), (0, .nameAndType 65 66), (0, u "toByteArray"), (0, u "()[B"), (9, u "bytes")] 32

def k2c0 : Code := { maxStack := 3, maxLocals := 1, code := prog_129_method_1_code, exceptionTable := #[], attributes := #[] }
def k2m0 : Method := { name := "<init>", desc := "()V", sig := { parameters := [], returnType := none }, accessFlags := 1, code := some k2c0 }
def k2c1 : Code := { maxStack := 5, maxLocals := 5, code := prog_129_method_2_code, exceptionTable := #[], attributes := #[] }
def k2m1 : Method := { name := "number", desc := "(J)Lcom/example/harbourlink/harbourlink/scratch/Packing$Writer;", sig := { parameters := [.long], returnType := some (.object "com/example/harbourlink/harbourlink/scratch/Packing$Writer") }, accessFlags := 1, code := some k2c1 }
def k2c2 : Code := { maxStack := 1, maxLocals := 1, code := prog_129_method_5_code, exceptionTable := #[], attributes := #[] }
def k2m2 : Method := { name := "bytes", desc := "()[B", sig := { parameters := [], returnType := some (.array .byte) }, accessFlags := 1, code := some k2c2 }
/-- com/example/harbourlink/harbourlink/scratch/Packing$Writer -/
def k2 : Class := { plain "com/example/harbourlink/harbourlink/scratch/Packing$Writer" (some 0) with
  accessFlags := 49
  interfaces := #[]
  cf := some (fileOf pool2 13 #[.nestHost 1] #[{ accessFlags := 1, nameIndex := 7, descriptorIndex := 8, attributes := #[] }, { accessFlags := 1, nameIndex := 47, descriptorIndex := 48, attributes := #[] }, { accessFlags := 1, nameIndex := 76, descriptorIndex := 66, attributes := #[] }] 49 4 #[] #[{ accessFlags := 18, nameIndex := 16, descriptorIndex := 17, attributes := #[] }])
  fields := #[{ name := "packed", type := (.object "java/io/ByteArrayOutputStream"), accessFlags := 18, slot := 0, constantValue := 0 }]
  methods := #[k2m0, k2m1, k2m2]
  instanceTypes := #[(.object "java/io/ByteArrayOutputStream")]
  staticTypes := #[]
  resolved := Array.replicate 109 none
  statics := none }

def pool3 : Array CpInfo := pool [(1, .class_ 2), (0, u "java/lang/AutoCloseable"), (0, .class_ 4), (0, u "java/lang/Object")] 7

/-- java/lang/AutoCloseable -/
def k3 : Class := { plain "java/lang/AutoCloseable" (some 0) with
  accessFlags := 1537
  interfaces := #[]
  cf := some (fileOf pool3 1 #[] #[] 1537 3 #[] #[])
  fields := #[]
  methods := #[]
  instanceTypes := #[]
  staticTypes := #[]
  resolved := Array.replicate 12 none
  statics := none }

def pool4 : Array CpInfo := pool [(1, .class_ 2), (0, u "java/io/Closeable"), (0, .class_ 4), (0, u "java/lang/Object"), (0, .class_ 6), (0, u "java/lang/AutoCloseable")] 7

/-- java/io/Closeable -/
def k4 : Class := { plain "java/io/Closeable" (some 0) with
  accessFlags := 1537
  interfaces := #[3]
  cf := some (fileOf pool4 1 #[] #[] 1537 3 #[5] #[])
  fields := #[]
  methods := #[]
  instanceTypes := #[]
  staticTypes := #[]
  resolved := Array.replicate 14 none
  statics := none }

def pool5 : Array CpInfo := pool [(1, .class_ 2), (0, u "java/io/Flushable"), (0, .class_ 4), (0, u "java/lang/Object")] 7

/-- java/io/Flushable -/
def k5 : Class := { plain "java/io/Flushable" (some 0) with
  accessFlags := 1537
  interfaces := #[]
  cf := some (fileOf pool5 1 #[] #[] 1537 3 #[] #[])
  fields := #[]
  methods := #[]
  instanceTypes := #[]
  staticTypes := #[]
  resolved := Array.replicate 12 none
  statics := none }

def pool6 : Array CpInfo := pool [(1, .methodref 2 3), (0, .class_ 4), (0, .nameAndType 5 6), (0, u "java/lang/Object"), (0, u "<init>"), (0, u "()V"), (0, .class_ 8), (0, u "java/io/OutputStream$1"), (2, .class_ 13), (1, u "java/io/OutputStream"), (11, .class_ 26), (0, u "java/io/Closeable"), (0, .class_ 28), (0, u "java/io/Flushable")] 24

def k6c0 : Code := { maxStack := 1, maxLocals := 1, code := jdk_2038_method_1_code, exceptionTable := #[], attributes := #[] }
def k6m0 : Method := { name := "<init>", desc := "()V", sig := { parameters := [], returnType := none }, accessFlags := 1, code := some k6c0 }
/-- java/io/OutputStream -/
def k6 : Class := { plain "java/io/OutputStream" (some 0) with
  accessFlags := 1057
  interfaces := #[4, 5]
  cf := some (fileOf pool6 11 #[.nestMembers #[7]] #[{ accessFlags := 1, nameIndex := 5, descriptorIndex := 6, attributes := #[] }] 1057 2 #[25, 27] #[])
  fields := #[]
  methods := #[k6m0]
  instanceTypes := #[]
  staticTypes := #[]
  resolved := Array.replicate 53 none
  statics := none }

def pool7 : Array CpInfo := pool [(1, .methodref 2 3), (0, .class_ 4), (0, .nameAndType 5 6), (0, u "java/io/ByteArrayOutputStream"), (0, u "<init>"), (0, u "(I)V"), (0, .methodref 8 9), (0, .class_ 10), (0, .nameAndType 5 11), (0, u "java/io/OutputStream"), (0, u "()V"), (21, .fieldref 2 34), (0, .nameAndType 35 36), (0, u "buf"), (0, u "[B"), (6, .methodref 44 45), (0, .class_ 46), (0, .nameAndType 47 48), (0, u "java/util/Arrays"), (0, u "copyOf"), (0, u "([BI)[B"), (0, .fieldref 2 50), (0, .nameAndType 51 52), (0, u "count"), (0, u "I"), (0, .methodref 2 54), (0, .nameAndType 55 6), (0, u "ensureCapacity"), (13, u "write"), (56, u "toByteArray"), (0, u "()[B")] 17

def k7c0 : Code := { maxStack := 2, maxLocals := 1, code := jdk_2005_method_1_code, exceptionTable := #[], attributes := #[] }
def k7m0 : Method := { name := "<init>", desc := "()V", sig := { parameters := [], returnType := none }, accessFlags := 1, code := some k7c0 }
def k7c1 : Code := { maxStack := 4, maxLocals := 2, code := jdk_2005_method_2_code, exceptionTable := #[], attributes := #[] }
def k7m1 : Method := { name := "<init>", desc := "(I)V", sig := { parameters := [.int], returnType := none }, accessFlags := 1, code := some k7c1 }
def k7c2 : Code := { maxStack := 5, maxLocals := 4, code := jdk_2005_method_3_code, exceptionTable := #[], attributes := #[] }
def k7m2 : Method := { name := "ensureCapacity", desc := "(I)V", sig := { parameters := [.int], returnType := none }, accessFlags := 2, code := some k7c2 }
def k7c3 : Code := { maxStack := 3, maxLocals := 2, code := ⟨#[0x2a, 0x2a, 0xb4, 0x00, 0x31, 0x04, 0x60, 0xb6, 0x00, 0x35, 0x2a, 0xb4, 0x00, 0x21, 0x2a, 0xb4, 0x00, 0x31, 0x1b, 0x91, 0x54, 0x2a, 0x59, 0xb4, 0x00, 0x31, 0x04, 0x60, 0xb5, 0x00, 0x31, 0xb1]⟩, exceptionTable := #[], attributes := #[] }
def k7m3 : Method := { name := "write", desc := "(I)V", sig := { parameters := [.int], returnType := none }, accessFlags := 33, code := some k7c3 }
def k7c4 : Code := { maxStack := 2, maxLocals := 1, code := ⟨#[0x2a, 0xb4, 0x00, 0x21, 0x2a, 0xb4, 0x00, 0x31, 0xb8, 0x00, 0x2b, 0xb0]⟩, exceptionTable := #[], attributes := #[] }
def k7m4 : Method := { name := "toByteArray", desc := "()[B", sig := { parameters := [], returnType := some (.array .byte) }, accessFlags := 33, code := some k7c4 }
/-- java/io/ByteArrayOutputStream -/
def k7 : Class := { plain "java/io/ByteArrayOutputStream" (some 6) with
  accessFlags := 33
  interfaces := #[]
  cf := some (fileOf pool7 2 #[] #[{ accessFlags := 1, nameIndex := 5, descriptorIndex := 11, attributes := #[] }, { accessFlags := 1, nameIndex := 5, descriptorIndex := 6, attributes := #[] }, { accessFlags := 2, nameIndex := 55, descriptorIndex := 6, attributes := #[] }, { accessFlags := 33, nameIndex := 69, descriptorIndex := 6, attributes := #[] }, { accessFlags := 33, nameIndex := 126, descriptorIndex := 127, attributes := #[] }] 33 8 #[] #[{ accessFlags := 4, nameIndex := 35, descriptorIndex := 36, attributes := #[] }, { accessFlags := 4, nameIndex := 51, descriptorIndex := 52, attributes := #[] }])
  fields := #[{ name := "buf", type := (.array .byte), accessFlags := 4, slot := 0, constantValue := 0 }, { name := "count", type := .int, accessFlags := 4, slot := 1, constantValue := 0 }]
  methods := #[k7m0, k7m1, k7m2, k7m3, k7m4]
  instanceTypes := #[(.array .byte), .int]
  staticTypes := #[]
  resolved := Array.replicate 145 none
  statics := none }

def pool8 : Array CpInfo := pool [(2, .class_ 4), (1, u "java/lang/Object"), (0, u "<init>"), (0, u "()V"), (7, .class_ 16), (1, u "java/util/Arrays"), (57, .class_ 76), (1, u "java/util/Arrays$NaturalOrder"), (36, .class_ 115), (1, u "java/util/Arrays$LegacyMergeSort"), (1, u "Z"), (32, .methodref 151 152), (0, .class_ 153), (0, .nameAndType 154 155), (0, u "java/lang/System"), (0, u "arraycopy"), (0, u "(Ljava/lang/Object;ILjava/lang/Object;II)V"), (146, u "copyOf"), (1, .methodref 305 306), (0, .class_ 307), (0, .nameAndType 308 309), (0, u "java/lang/Math"), (0, u "min"), (0, u "(II)I"), (65, .class_ 376), (0, u "java/util/Arrays$ArrayList"), (68, u "$assertionsDisabled"), (269, u "MIN_ARRAY_SORT_GRAN"), (0, u "I"), (2, u "INSERTIONSORT_THRESHOLD"), (149, u "([BI)[B"), (105, .class_ 976), (0, u "java/util/Arrays$ArrayItr")] 52

def k8m0 : Method := { name := "<init>", desc := "()V", sig := { parameters := [], returnType := none }, accessFlags := 2, code := none }
def k8c1 : Code := { maxStack := 6, maxLocals := 3, code := jdk_65_method_121_code, exceptionTable := #[], attributes := #[] }
def k8m1 : Method := { name := "copyOf", desc := "([BI)[B", sig := { parameters := [(.array .byte), .int], returnType := some (.array .byte) }, accessFlags := 9, code := some k8c1 }
/-- java/util/Arrays -/
def k8 : Class := { plain "java/util/Arrays" (some 0) with
  accessFlags := 49
  interfaces := #[]
  cf := some (fileOf pool8 14 #[.nestMembers #[975, 375, 113, 74]] #[{ accessFlags := 2, nameIndex := 5, descriptorIndex := 6, attributes := #[] }, { accessFlags := 9, nameIndex := 302, descriptorIndex := 869, attributes := #[] }] 49 2 #[] #[{ accessFlags := 26, nameIndex := 715, descriptorIndex := 716, attributes := #[] }, { accessFlags := 26, nameIndex := 719, descriptorIndex := 716, attributes := #[] }, { accessFlags := 4120, nameIndex := 445, descriptorIndex := 117, attributes := #[] }])
  fields := #[{ name := "MIN_ARRAY_SORT_GRAN", type := .int, accessFlags := 26, slot := 0, constantValue := 0 }, { name := "INSERTIONSORT_THRESHOLD", type := .int, accessFlags := 26, slot := 1, constantValue := 0 }, { name := "$assertionsDisabled", type := .boolean, accessFlags := 4120, slot := 2, constantValue := 0 }]
  methods := #[k8m0, k8m1]
  instanceTypes := #[]
  staticTypes := #[.int, .int, .boolean]
  resolved := Array.replicate 1029 none
  statics := none }

def pool9 : Array CpInfo := pool [(1, .class_ 2), (0, u "java/lang/Math"), (1, .class_ 6), (1, u "java/lang/Object"), (0, u "<init>"), (0, u "()V"), (89, .class_ 100), (1, u "java/lang/Math$RandomNumberGeneratorHolder"), (71, u "negativeZeroFloatBits"), (0, u "J"), (2, u "negativeZeroDoubleBits"), (24, u "min"), (43, u "$assertionsDisabled"), (0, u "Z"), (88, u "(II)I"), (2, u "twoToTheDoubleScaleDown"), (0, u "D"), (4, u "twoToTheDoubleScaleUp"), (9, u "E"), (3, u "PI"), (2, u "TAU"), (2, u "DEGREES_TO_RADIANS"), (0, u "RADIANS_TO_DEGREES")] 94

def k9m0 : Method := { name := "<init>", desc := "()V", sig := { parameters := [], returnType := none }, accessFlags := 2, code := none }
def k9c1 : Code := { maxStack := 2, maxLocals := 2, code := jdk_29_method_69_code, exceptionTable := #[], attributes := #[] }
def k9m1 : Method := { name := "min", desc := "(II)I", sig := { parameters := [.int, .int], returnType := some .int }, accessFlags := 9, code := some k9c1 }
/-- java/lang/Math -/
def k9 : Class := { plain "java/lang/Math" (some 0) with
  accessFlags := 49
  interfaces := #[]
  cf := some (fileOf pool9 1 #[.nestMembers #[98]] #[{ accessFlags := 2, nameIndex := 7, descriptorIndex := 8, attributes := #[] }, { accessFlags := 9, nameIndex := 201, descriptorIndex := 335, attributes := #[] }] 49 4 #[] #[{ accessFlags := 25, nameIndex := 354, descriptorIndex := 339, attributes := #[] }, { accessFlags := 25, nameIndex := 358, descriptorIndex := 339, attributes := #[] }, { accessFlags := 25, nameIndex := 361, descriptorIndex := 339, attributes := #[] }, { accessFlags := 26, nameIndex := 364, descriptorIndex := 339, attributes := #[] }, { accessFlags := 26, nameIndex := 365, descriptorIndex := 339, attributes := #[] }, { accessFlags := 26, nameIndex := 172, descriptorIndex := 173, attributes := #[] }, { accessFlags := 26, nameIndex := 176, descriptorIndex := 173, attributes := #[] }, { accessFlags := 8, nameIndex := 344, descriptorIndex := 339, attributes := #[] }, { accessFlags := 8, nameIndex := 338, descriptorIndex := 339, attributes := #[] }, { accessFlags := 4120, nameIndex := 245, descriptorIndex := 246, attributes := #[] }])
  fields := #[{ name := "E", type := .double, accessFlags := 25, slot := 0, constantValue := 0 }, { name := "PI", type := .double, accessFlags := 25, slot := 1, constantValue := 0 }, { name := "TAU", type := .double, accessFlags := 25, slot := 2, constantValue := 0 }, { name := "DEGREES_TO_RADIANS", type := .double, accessFlags := 26, slot := 3, constantValue := 0 }, { name := "RADIANS_TO_DEGREES", type := .double, accessFlags := 26, slot := 4, constantValue := 0 }, { name := "negativeZeroFloatBits", type := .long, accessFlags := 26, slot := 5, constantValue := 0 }, { name := "negativeZeroDoubleBits", type := .long, accessFlags := 26, slot := 6, constantValue := 0 }, { name := "twoToTheDoubleScaleUp", type := .double, accessFlags := 8, slot := 7, constantValue := 0 }, { name := "twoToTheDoubleScaleDown", type := .double, accessFlags := 8, slot := 8, constantValue := 0 }, { name := "$assertionsDisabled", type := .boolean, accessFlags := 4120, slot := 9, constantValue := 0 }]
  methods := #[k9m0, k9m1]
  instanceTypes := #[]
  staticTypes := #[.double, .double, .double, .double, .double, .long, .long, .double, .double, .boolean]
  resolved := Array.replicate 460 none
  statics := none }

def pool10 : Array CpInfo := pool [(2, .class_ 4), (1, u "java/lang/Object"), (0, u "<init>"), (0, u "()V"), (1, .class_ 10), (1, u "java/lang/System"), (0, u "allowSecurityManager"), (0, u "I"), (16, u "cons"), (0, u "Ljava/io/Console;"), (77, .class_ 110), (1, u "java/lang/System$CallersHolder"), (43, u "initialErrStream"), (0, u "Ljava/io/PrintStream;"), (19, u "security"), (0, u "Ljava/lang/SecurityManager;"), (31, .class_ 209), (0, u "java/lang/System$1"), (7, u "props"), (0, u "Ljava/util/Properties;"), (2, u "lineSeparator"), (0, u "Ljava/lang/String;"), (96, .class_ 321), (1, u "java/lang/System$LoggerFinder"), (5, .class_ 328), (0, u "java/lang/System$Logger"), (67, u "err"), (2, u "out"), (91, u "notSupportedJnuEncoding"), (15, u "in"), (17, u "initialIn"), (0, u "Ljava/io/InputStream;"), (35, u "bootLayer"), (0, u "Ljava/lang/ModuleLayer;"), (99, .class_ 664), (0, u "java/lang/System$2"), (9, u "NEVER"), (2, u "MAYBE"), (49, u "arraycopy"), (0, u "(Ljava/lang/Object;ILjava/lang/Object;II)V"), (72, .class_ 802), (0, u "java/lang/System$Logger$Level")] 31

def k10m0 : Method := { name := "<init>", desc := "()V", sig := { parameters := [], returnType := none }, accessFlags := 2, code := none }
def k10m1 : Method := { name := "arraycopy", desc := "(Ljava/lang/Object;ILjava/lang/Object;II)V", sig := { parameters := [(.object "java/lang/Object"), .int, (.object "java/lang/Object"), .int, .int], returnType := none }, accessFlags := 265, code := none }
/-- java/lang/System -/
def k10 : Class := { plain "java/lang/System" (some 0) with
  accessFlags := 49
  interfaces := #[]
  cf := some (fileOf pool10 8 #[.nestMembers #[319, 327, 801, 108, 663, 208]] #[{ accessFlags := 2, nameIndex := 5, descriptorIndex := 6, attributes := #[] }, { accessFlags := 265, nameIndex := 727, descriptorIndex := 728, attributes := #[] }] 49 2 #[] #[{ accessFlags := 25, nameIndex := 507, descriptorIndex := 526, attributes := #[] }, { accessFlags := 25, nameIndex := 399, descriptorIndex := 155, attributes := #[] }, { accessFlags := 25, nameIndex := 396, descriptorIndex := 155, attributes := #[] }, { accessFlags := 10, nameIndex := 525, descriptorIndex := 526, attributes := #[] }, { accessFlags := 26, nameIndex := 674, descriptorIndex := 12, attributes := #[] }, { accessFlags := 26, nameIndex := 677, descriptorIndex := 12, attributes := #[] }, { accessFlags := 10, nameIndex := 11, descriptorIndex := 12, attributes := #[] }, { accessFlags := 74, nameIndex := 175, descriptorIndex := 176, attributes := #[] }, { accessFlags := 10, nameIndex := 491, descriptorIndex := 222, attributes := #[] }, { accessFlags := 74, nameIndex := 29, descriptorIndex := 30, attributes := #[] }, { accessFlags := 74, nameIndex := 154, descriptorIndex := 155, attributes := #[] }, { accessFlags := 10, nameIndex := 217, descriptorIndex := 218, attributes := #[] }, { accessFlags := 10, nameIndex := 221, descriptorIndex := 222, attributes := #[] }, { accessFlags := 8, nameIndex := 562, descriptorIndex := 563, attributes := #[] }])
  fields := #[{ name := "in", type := (.object "java/io/InputStream"), accessFlags := 25, slot := 0, constantValue := 0 }, { name := "out", type := (.object "java/io/PrintStream"), accessFlags := 25, slot := 1, constantValue := 0 }, { name := "err", type := (.object "java/io/PrintStream"), accessFlags := 25, slot := 2, constantValue := 0 }, { name := "initialIn", type := (.object "java/io/InputStream"), accessFlags := 10, slot := 3, constantValue := 0 }, { name := "NEVER", type := .int, accessFlags := 26, slot := 4, constantValue := 0 }, { name := "MAYBE", type := .int, accessFlags := 26, slot := 5, constantValue := 0 }, { name := "allowSecurityManager", type := .int, accessFlags := 10, slot := 6, constantValue := 0 }, { name := "security", type := (.object "java/lang/SecurityManager"), accessFlags := 74, slot := 7, constantValue := 0 }, { name := "notSupportedJnuEncoding", type := (.object "java/lang/String"), accessFlags := 10, slot := 8, constantValue := 0 }, { name := "cons", type := (.object "java/io/Console"), accessFlags := 74, slot := 9, constantValue := 0 }, { name := "initialErrStream", type := (.object "java/io/PrintStream"), accessFlags := 74, slot := 10, constantValue := 0 }, { name := "props", type := (.object "java/util/Properties"), accessFlags := 10, slot := 11, constantValue := 0 }, { name := "lineSeparator", type := (.object "java/lang/String"), accessFlags := 10, slot := 12, constantValue := 0 }, { name := "bootLayer", type := (.object "java/lang/ModuleLayer"), accessFlags := 8, slot := 13, constantValue := 0 }]
  methods := #[k10m0, k10m1]
  instanceTypes := #[]
  staticTypes := #[(.object "java/io/InputStream"), (.object "java/io/PrintStream"), (.object "java/io/PrintStream"), (.object "java/io/InputStream"), .int, .int, .int, (.object "java/lang/SecurityManager"), (.object "java/lang/String"), (.object "java/io/Console"), (.object "java/io/PrintStream"), (.object "java/util/Properties"), (.object "java/lang/String"), (.object "java/lang/ModuleLayer")]
  resolved := Array.replicate 834 none
  statics := none }

def pool11 : Array CpInfo := pool [(1, .class_ 2), (0, u "com/example/harbourlink/harbourlink/scratch/Packing"), (0, .methodref 4 5), (0, .class_ 6), (0, .nameAndType 7 8), (0, u "java/lang/Object"), (0, u "<init>"), (0, u "()V"), (0, .fieldref 10 11), (0, .class_ 12), (0, .nameAndType 13 14), (0, u "com/example/harbourlink/harbourlink/scratch/Packing$Reader"), (0, u "bytes"), (0, u "[B"), (0, .fieldref 10 16), (0, .nameAndType 17 18), (0, u "at"), (0, u "I"), (2, u "number"), (0, u "()J"), (30, u "([BI)V")] 12

def k11c0 : Code := { maxStack := 2, maxLocals := 3, code := prog_128_method_1_code, exceptionTable := #[], attributes := #[] }
def k11m0 : Method := { name := "<init>", desc := "([BI)V", sig := { parameters := [(.array .byte), .int], returnType := none }, accessFlags := 1, code := some k11c0 }
def k11c1 : Code := { maxStack := 5, maxLocals := 5, code := prog_128_method_2_code, exceptionTable := #[], attributes := #[] }
def k11m1 : Method := { name := "number", desc := "()J", sig := { parameters := [], returnType := some .long }, accessFlags := 1, code := some k11c1 }
/-- com/example/harbourlink/harbourlink/scratch/Packing$Reader -/
def k11 : Class := { plain "com/example/harbourlink/harbourlink/scratch/Packing$Reader" (some 0) with
  accessFlags := 49
  interfaces := #[]
  cf := some (fileOf pool11 10 #[.nestHost 1] #[{ accessFlags := 1, nameIndex := 7, descriptorIndex := 53, attributes := #[] }, { accessFlags := 1, nameIndex := 21, descriptorIndex := 22, attributes := #[] }] 49 4 #[] #[{ accessFlags := 18, nameIndex := 13, descriptorIndex := 14, attributes := #[] }, { accessFlags := 2, nameIndex := 17, descriptorIndex := 18, attributes := #[] }])
  fields := #[{ name := "bytes", type := (.array .byte), accessFlags := 18, slot := 0, constantValue := 0 }, { name := "at", type := .int, accessFlags := 2, slot := 1, constantValue := 0 }]
  methods := #[k11m0, k11m1]
  instanceTypes := #[(.array .byte), .int]
  staticTypes := #[]
  resolved := Array.replicate 66 none
  statics := none }

def pool12 : Array CpInfo := pool [(1, u "java/lang/Cloneable"), (0, .class_ 1), (0, u "java/lang/Object"), (0, .class_ 3)] 3

/-- java/lang/Cloneable -/
def k12 : Class := { plain "java/lang/Cloneable" (some 0) with
  accessFlags := 1537
  interfaces := #[]
  cf := some (fileOf pool12 2 #[] #[] 1537 4 #[] #[])
  fields := #[]
  methods := #[]
  instanceTypes := #[]
  staticTypes := #[]
  resolved := Array.replicate 8 none
  statics := none }

def pool13 : Array CpInfo := pool [(1, u "java/io/Serializable"), (0, .class_ 1), (0, u "java/lang/Object"), (0, .class_ 3)] 3

/-- java/io/Serializable -/
def k13 : Class := { plain "java/io/Serializable" (some 0) with
  accessFlags := 1537
  interfaces := #[]
  cf := some (fileOf pool13 2 #[] #[] 1537 4 #[] #[])
  fields := #[]
  methods := #[]
  instanceTypes := #[]
  staticTypes := #[]
  resolved := Array.replicate 8 none
  statics := none }

/-- the primitive byte -/
def k14 : Class := { plain "byte" none with kind := .primitive 'B', accessFlags := 0x411 }
/-- [B -/
def k15 : Class := { plain "[B" (some 0) with kind := .array 14 .byte, interfaces := #[12, 13], accessFlags := 1041 }

/-- the primitive int -/
def k16 : Class := { plain "int" none with kind := .primitive 'I', accessFlags := 0x411 }
/-- [I -/
def k17 : Class := { plain "[I" (some 0) with kind := .array 16 .int, interfaces := #[12, 13], accessFlags := 1041 }

def heap : Heap := #[]
def classes : Array Class := #[k0, k1, k2, k3, k4, k5, k6, k7, k8, k9, k10, k11, k12, k13, k14, k15, k16, k17]
def interned : List (Array UInt16 × Addr) := []
def slotsUsed : Nat := 0
def theMethod : MethodId := ⟨1, 3⟩
def args0 : Array Value := #[.long 5, .long 300, .int 7, .int 9]
def aboutOver (below : List Frame) : State where
  vm := { classes := classes, interned := interned.toArray }
  heap := heap
  slotsUsed := slotsUsed
  threads := #[{ frames := .invoking theMethod args0 :: below }]
def below0 : List Frame := [.native { method := ⟨0, 0⟩, args := #[] }]
def about1 : State := aboutOver below0
def p0 : Program := .bare "" "" ""
def e0 : Env := launch0.env 0 0 0
theorem w_frames : about1.frames = Frame.invoking theMethod args0 :: below0 := rfl
set_option maxRecDepth 65536 in
theorem w_args : argsFit about1.vm theMethod args0 = true := by decide +kernel
set_option maxRecDepth 65536 in
theorem w_heap : heapFits about1 = true := by decide +kernel
set_option maxRecDepth 65536 in
theorem w_runnable : about1.curStatus? = some .runnable := by decide +kernel
set_option maxRecDepth 65536 in
theorem w_alone : about1.alone = true := by decide +kernel
set_option maxRecDepth 65536 in
theorem w_named : about1.methodNamed? x = some theMethod := by decide +kernel
set_option maxRecDepth 65536 in
theorem w_hears : about1.hears theMethod below0 = true := by decide +kernel
set_option maxRecDepth 65536 in
theorem w_ripe : about1.ripe theMethod args0 below0 = true := by decide +kernel
theorem w_running : about1.status = .running := rfl
set_option maxRecDepth 65536 in
theorem w_room : about1.hasRoom e0.platform room_1 = true :=
  launch0.hasRoom_least _ room_1 (by decide +kernel) (by decide +kernel) (by decide +kernel) (by decide +kernel) (by decide +kernel) (by decide +kernel)
theorem allAtoms_all (ts : List Jvm.Cond) (a : Array Jvm.Value) (st : Jvm.State) : (allAtoms ts).before a st = ts.all (fun c => c.before a st) := by
  induction ts with
  | nil => rfl
  | cons c t ih =>
    show (Jvm.Cond.and c (allAtoms t)).before a st = _
    rw [Jvm.Cond.before_and, ih, List.all_cons]
def words1 : List Jvm.Cond := Jvm.Cond.code x code maxLocals ret :: tables_1
/-- a 'code' word, met by the world's own term for the bytes: nothing is compared byte by byte -/
theorem code_word {y : MethodName} {bytes : ByteArray} {mx : Nat} {rt : Option FieldType} {a : Array Value} {s : State} {m : MethodId} {meth : Method} {c : Code} (h1 : s.methodNamed? y = some m) (h2 : s.vm.method? m = some meth) (h3 : meth.code = some c) (h4 : c.code = bytes)
    (h5 : (c.maxLocals == mx && c.exceptionTable.isEmpty && decide (c.maxStack ≤ mostOperands) && decide (meth.sig.returnType = rt) && !meth.locks && decide (parseMethodDescriptor y.desc = some meth.sig)) = true) : (Jvm.Cond.code y bytes mx rt).before a s = true := by
  simp only [Bool.and_eq_true, beq_iff_eq, Bool.not_eq_true', decide_eq_true_eq] at h5
  obtain ⟨⟨⟨⟨⟨g1, g2⟩, g3⟩, g4⟩, g5⟩, g6⟩ := h5
  simp [Cond.before, Cond.holds, Cond.value, h1, h2, h3, h4, g1, g2, g3, g4, g5, g6]
def isCode : Jvm.Cond → Bool
  | .code _ _ _ _ => true
  | _ => false
theorem all_split {L : List Jvm.Cond} {P : Jvm.Cond → Bool} (h1 : L.all (fun c => isCode c || P c) = true) (h2 : ∀ c ∈ L.filter isCode, P c = true) : L.all P = true := by
  refine List.all_eq_true.mpr fun c hc => ?_
  have h := List.all_eq_true.mp h1 c hc
  rcases Bool.eq_false_or_eq_true (isCode c) with hi | hi
  · exact h2 c (List.mem_filter.mpr ⟨hc, hi⟩)
  · simpa [hi] using h
set_option maxRecDepth 65536 in
theorem w_c0 : (Jvm.Cond.code x code maxLocals ret).before args0 about1 = true := code_word (m := ⟨1, 3⟩) (meth := k1m3) (c := k1c3) (by decide +kernel) rfl rfl rfl (by decide +kernel)
set_option maxRecDepth 65536 in
theorem w_c1 : (Jvm.Cond.code ({ cls := "com/example/harbourlink/harbourlink/scratch/Packing$Writer", name := "<init>", desc := "()V" } : Jvm.MethodName) prog_129_method_1_code (1 : Nat) (Option.none : Option Jvm.ClassFile.FieldType)).before args0 about1 = true := code_word (m := ⟨2, 0⟩) (meth := k2m0) (c := k2c0) (by decide +kernel) rfl rfl rfl (by decide +kernel)
set_option maxRecDepth 65536 in
theorem w_c2 : (Jvm.Cond.code ({ cls := "java/lang/Object", name := "<init>", desc := "()V" } : Jvm.MethodName) object_method_1_code (1 : Nat) (Option.none : Option Jvm.ClassFile.FieldType)).before args0 about1 = true := code_word (m := ⟨0, 0⟩) (meth := k0m0) (c := k0c0) (by decide +kernel) rfl rfl rfl (by decide +kernel)
set_option maxRecDepth 65536 in
theorem w_c3 : (Jvm.Cond.code ({ cls := "java/io/ByteArrayOutputStream", name := "<init>", desc := "()V" } : Jvm.MethodName) jdk_2005_method_1_code (1 : Nat) (Option.none : Option Jvm.ClassFile.FieldType)).before args0 about1 = true := code_word (m := ⟨7, 0⟩) (meth := k7m0) (c := k7c0) (by decide +kernel) rfl rfl rfl (by decide +kernel)
set_option maxRecDepth 65536 in
theorem w_c4 : (Jvm.Cond.code ({ cls := "java/io/ByteArrayOutputStream", name := "<init>", desc := "(I)V" } : Jvm.MethodName) jdk_2005_method_2_code (2 : Nat) (Option.none : Option Jvm.ClassFile.FieldType)).before args0 about1 = true := code_word (m := ⟨7, 1⟩) (meth := k7m1) (c := k7c1) (by decide +kernel) rfl rfl rfl (by decide +kernel)
set_option maxRecDepth 65536 in
theorem w_c5 : (Jvm.Cond.code ({ cls := "java/io/OutputStream", name := "<init>", desc := "()V" } : Jvm.MethodName) jdk_2038_method_1_code (1 : Nat) (Option.none : Option Jvm.ClassFile.FieldType)).before args0 about1 = true := code_word (m := ⟨6, 0⟩) (meth := k6m0) (c := k6c0) (by decide +kernel) rfl rfl rfl (by decide +kernel)
set_option maxRecDepth 65536 in
theorem w_c6 : (Jvm.Cond.code ({ cls := "com/example/harbourlink/harbourlink/scratch/Packing$Writer", name := "number", desc := "(J)Lcom/example/harbourlink/harbourlink/scratch/Packing$Writer;" } : Jvm.MethodName) prog_129_method_2_code (5 : Nat) (Option.some (Jvm.ClassFile.FieldType.object "com/example/harbourlink/harbourlink/scratch/Packing$Writer"))).before args0 about1 = true := code_word (m := ⟨2, 1⟩) (meth := k2m1) (c := k2c1) (by decide +kernel) rfl rfl rfl (by decide +kernel)
set_option maxRecDepth 65536 in
theorem w_c7 : (Jvm.Cond.code ({ cls := "java/io/ByteArrayOutputStream", name := "ensureCapacity", desc := "(I)V" } : Jvm.MethodName) jdk_2005_method_3_code (4 : Nat) (Option.none : Option Jvm.ClassFile.FieldType)).before args0 about1 = true := code_word (m := ⟨7, 2⟩) (meth := k7m2) (c := k7c2) (by decide +kernel) rfl rfl rfl (by decide +kernel)
set_option maxRecDepth 65536 in
theorem w_c8 : (Jvm.Cond.code ({ cls := "com/example/harbourlink/harbourlink/scratch/Packing$Writer", name := "bytes", desc := "()[B" } : Jvm.MethodName) prog_129_method_5_code (1 : Nat) (Option.some (Jvm.ClassFile.FieldType.array Jvm.ClassFile.FieldType.byte))).before args0 about1 = true := code_word (m := ⟨2, 2⟩) (meth := k2m2) (c := k2c2) (by decide +kernel) rfl rfl rfl (by decide +kernel)
set_option maxRecDepth 65536 in
theorem w_c9 : (Jvm.Cond.code ({ cls := "java/util/Arrays", name := "copyOf", desc := "([BI)[B" } : Jvm.MethodName) jdk_65_method_121_code (3 : Nat) (Option.some (Jvm.ClassFile.FieldType.array Jvm.ClassFile.FieldType.byte))).before args0 about1 = true := code_word (m := ⟨8, 1⟩) (meth := k8m1) (c := k8c1) (by decide +kernel) rfl rfl rfl (by decide +kernel)
set_option maxRecDepth 65536 in
theorem w_c10 : (Jvm.Cond.code ({ cls := "java/lang/Math", name := "min", desc := "(II)I" } : Jvm.MethodName) jdk_29_method_69_code (2 : Nat) (Option.some Jvm.ClassFile.FieldType.int)).before args0 about1 = true := code_word (m := ⟨9, 1⟩) (meth := k9m1) (c := k9c1) (by decide +kernel) rfl rfl rfl (by decide +kernel)
set_option maxRecDepth 65536 in
theorem w_c11 : (Jvm.Cond.code ({ cls := "com/example/harbourlink/harbourlink/scratch/Packing$Reader", name := "<init>", desc := "([BI)V" } : Jvm.MethodName) prog_128_method_1_code (3 : Nat) (Option.none : Option Jvm.ClassFile.FieldType)).before args0 about1 = true := code_word (m := ⟨11, 0⟩) (meth := k11m0) (c := k11c0) (by decide +kernel) rfl rfl rfl (by decide +kernel)
set_option maxRecDepth 65536 in
theorem w_c12 : (Jvm.Cond.code ({ cls := "com/example/harbourlink/harbourlink/scratch/Packing$Reader", name := "number", desc := "()J" } : Jvm.MethodName) prog_128_method_2_code (5 : Nat) (Option.some Jvm.ClassFile.FieldType.long)).before args0 about1 = true := code_word (m := ⟨11, 1⟩) (meth := k11m1) (c := k11c1) (by decide +kernel) rfl rfl rfl (by decide +kernel)
set_option maxRecDepth 65536 in
theorem w_c13 : (Jvm.Cond.code ({ cls := "com/example/harbourlink/harbourlink/scratch/ReaderNumberPinLaw", name := "ref", desc := "(IIII)J" } : Jvm.MethodName) method_2_code (6 : Nat) (Option.some Jvm.ClassFile.FieldType.long)).before args0 about1 = true := code_word (m := ⟨1, 1⟩) (meth := k1m1) (c := k1c1) (by decide +kernel) rfl rfl rfl (by decide +kernel)
set_option maxRecDepth 65536 in
theorem w_c14 : (Jvm.Cond.code ({ cls := "com/example/harbourlink/harbourlink/scratch/ReaderNumberPinLaw", name := "len", desc := "(III)I" } : Jvm.MethodName) method_3_code (3 : Nat) (Option.some Jvm.ClassFile.FieldType.int)).before args0 about1 = true := code_word (m := ⟨1, 2⟩) (meth := k1m2) (c := k1c2) (by decide +kernel) rfl rfl rfl (by decide +kernel)
def codes1 : List Jvm.Cond := [Jvm.Cond.code x code maxLocals ret, Jvm.Cond.code ({ cls := "com/example/harbourlink/harbourlink/scratch/Packing$Writer", name := "<init>", desc := "()V" } : Jvm.MethodName) prog_129_method_1_code (1 : Nat) (Option.none : Option Jvm.ClassFile.FieldType), Jvm.Cond.code ({ cls := "java/lang/Object", name := "<init>", desc := "()V" } : Jvm.MethodName) object_method_1_code (1 : Nat) (Option.none : Option Jvm.ClassFile.FieldType), Jvm.Cond.code ({ cls := "java/io/ByteArrayOutputStream", name := "<init>", desc := "()V" } : Jvm.MethodName) jdk_2005_method_1_code (1 : Nat) (Option.none : Option Jvm.ClassFile.FieldType), Jvm.Cond.code ({ cls := "java/io/ByteArrayOutputStream", name := "<init>", desc := "(I)V" } : Jvm.MethodName) jdk_2005_method_2_code (2 : Nat) (Option.none : Option Jvm.ClassFile.FieldType), Jvm.Cond.code ({ cls := "java/io/OutputStream", name := "<init>", desc := "()V" } : Jvm.MethodName) jdk_2038_method_1_code (1 : Nat) (Option.none : Option Jvm.ClassFile.FieldType), Jvm.Cond.code ({ cls := "com/example/harbourlink/harbourlink/scratch/Packing$Writer", name := "number", desc := "(J)Lcom/example/harbourlink/harbourlink/scratch/Packing$Writer;" } : Jvm.MethodName) prog_129_method_2_code (5 : Nat) (Option.some (Jvm.ClassFile.FieldType.object "com/example/harbourlink/harbourlink/scratch/Packing$Writer")), Jvm.Cond.code ({ cls := "java/io/ByteArrayOutputStream", name := "ensureCapacity", desc := "(I)V" } : Jvm.MethodName) jdk_2005_method_3_code (4 : Nat) (Option.none : Option Jvm.ClassFile.FieldType), Jvm.Cond.code ({ cls := "com/example/harbourlink/harbourlink/scratch/Packing$Writer", name := "bytes", desc := "()[B" } : Jvm.MethodName) prog_129_method_5_code (1 : Nat) (Option.some (Jvm.ClassFile.FieldType.array Jvm.ClassFile.FieldType.byte)), Jvm.Cond.code ({ cls := "java/util/Arrays", name := "copyOf", desc := "([BI)[B" } : Jvm.MethodName) jdk_65_method_121_code (3 : Nat) (Option.some (Jvm.ClassFile.FieldType.array Jvm.ClassFile.FieldType.byte)), Jvm.Cond.code ({ cls := "java/lang/Math", name := "min", desc := "(II)I" } : Jvm.MethodName) jdk_29_method_69_code (2 : Nat) (Option.some Jvm.ClassFile.FieldType.int), Jvm.Cond.code ({ cls := "com/example/harbourlink/harbourlink/scratch/Packing$Reader", name := "<init>", desc := "([BI)V" } : Jvm.MethodName) prog_128_method_1_code (3 : Nat) (Option.none : Option Jvm.ClassFile.FieldType), Jvm.Cond.code ({ cls := "com/example/harbourlink/harbourlink/scratch/Packing$Reader", name := "number", desc := "()J" } : Jvm.MethodName) prog_128_method_2_code (5 : Nat) (Option.some Jvm.ClassFile.FieldType.long), Jvm.Cond.code ({ cls := "com/example/harbourlink/harbourlink/scratch/ReaderNumberPinLaw", name := "ref", desc := "(IIII)J" } : Jvm.MethodName) method_2_code (6 : Nat) (Option.some Jvm.ClassFile.FieldType.long), Jvm.Cond.code ({ cls := "com/example/harbourlink/harbourlink/scratch/ReaderNumberPinLaw", name := "len", desc := "(III)I" } : Jvm.MethodName) method_3_code (3 : Nat) (Option.some Jvm.ClassFile.FieldType.int)]
set_option maxRecDepth 65536 in
theorem codes_eq : words1.filter isCode = codes1 := rfl
theorem w_codes : ∀ c ∈ words1.filter isCode, c.before args0 about1 = true := by
  rw [codes_eq]
  intro c hc
  simp only [codes1, List.mem_cons, List.not_mem_nil, or_false] at hc
  rcases hc with rfl | rfl | rfl | rfl | rfl | rfl | rfl | rfl | rfl | rfl | rfl | rfl | rfl | rfl | rfl
  · exact w_c0
  · exact w_c1
  · exact w_c2
  · exact w_c3
  · exact w_c4
  · exact w_c5
  · exact w_c6
  · exact w_c7
  · exact w_c8
  · exact w_c9
  · exact w_c10
  · exact w_c11
  · exact w_c12
  · exact w_c13
  · exact w_c14
set_option maxRecDepth 65536 in
theorem w_t1 : (words1.take 24).all (fun c => isCode c || c.before args0 about1) = true := by decide +kernel
set_option maxRecDepth 65536 in
theorem w_t2 : ((words1.drop 24).take 24).all (fun c => isCode c || c.before args0 about1) = true := by decide +kernel
set_option maxRecDepth 65536 in
theorem w_t3 : (((words1.drop 24).drop 24).take 24).all (fun c => isCode c || c.before args0 about1) = true := by decide +kernel
set_option maxRecDepth 65536 in
theorem w_t4 : ((((words1.drop 24).drop 24).drop 24).take 24).all (fun c => isCode c || c.before args0 about1) = true := by decide +kernel
set_option maxRecDepth 65536 in
theorem w_t5 : ((((words1.drop 24).drop 24).drop 24).drop 24).all (fun c => isCode c || c.before args0 about1) = true := by decide +kernel
theorem w_tables : (allAtoms (Jvm.Cond.code x code maxLocals ret :: tables_1)).before args0 about1 = true := by
  rw [allAtoms_all]
  show words1.all (fun c => c.before args0 about1) = true
  refine all_split ?_ w_codes
  rw [← List.take_append_drop 24 words1, List.all_append, w_t1, ← List.take_append_drop 24 (words1.drop 24), List.all_append, w_t2, ← List.take_append_drop 24 ((words1.drop 24).drop 24), List.all_append, w_t3, ← List.take_append_drop 24 (((words1.drop 24).drop 24).drop 24), List.all_append, w_t4, w_t5]
  rfl
set_option maxRecDepth 65536 in
theorem w_case : (Jvm.Cond.and given_1 narrow_1).before args0 about1 = true := by decide +kernel
theorem w_applies : (headSpec (Jvm.Cond.code x code maxLocals ret :: tables_1) room_1).applies x e0.platform about1 = true :=
  (Spec.applies_iff w_frames).mpr ⟨w_running, w_runnable, w_alone, w_named, w_hears, w_ripe, w_room, w_tables⟩
theorem atStart : AtStart classFile x code maxLocals ret World_1 tables_1 room_1 Calls_1 rest_1 Pre_1 launch0 p0 e0 about1 theMethod args0 below0 :=
  ⟨lists_1, trivial, launch0.admits_env _ _ _, launch0.least_env, fairChoices_fair.cas, fairChoices_fair.clock, w_frames, w_args, w_heap, w_applies, trivial, trivial, w_case⟩
end start1
theorem witness_1 : WitnessClaimed_1 := ⟨start1.p0, start1.e0, start1.about1, start1.theMethod, start1.args0, start1.below0, start1.atStart⟩
end Jvm.Pilot.@@N@@
