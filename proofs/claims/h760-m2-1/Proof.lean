import JvmDerived
import JvmDerived.Pilot.@@N@@Statement
import JvmDerived.Pilot.@@N@@Code
set_option linter.unusedVariables false
set_option linter.unusedSimpArgs false
@@BLOCK:NumsL.lean.txt@@
/- laws to paste: Road.backV, Road.eqW (cut by pick.py; bodies as the Statement names them) -/
namespace Jvm.Pilot.@@N@@
namespace StrChars
open Jvm Sem ClassFile Op Lib Jvm.Stand Jvm.Free.XT Jvm.Free.ALB Jvm.Free.JM Jvm.Free
open Jvm.Lib.Cold (StaticIs)
/-- a char array whose places are chars -/
def Ch (a : Addr) (A : Cell) (U : State) : Prop := Arr .char a A U ∧ Typed .char A
theorem Ch.mv {a : Addr} {A : Cell} {U U' : State} (h : Ch a A U) (hal : U.vm.Alike U'.vm) (hh : U'.heap = U.heap) : Ch a A U' := ⟨h.1.mv hal hh, h.2⟩
theorem Ch.keep {a : Addr} {A : Cell} {U U' : State} (h : Ch a A U) (hal : U.vm.Alike U'.vm) (hk : U'.heap[a]? = some A) : Ch a A U' := ⟨h.1.keep hal hk, h.2⟩
/-- what place i of a char[]'s cell holds -/
def cv (A : Cell) (i : Nat) : Int32 := match A.slots[i]? with | some (.int x) => x | _ => 0
theorem Ch.get {a : Addr} {A : Cell} {U : State} (h : Ch a A U) {i : Nat} (hi : i < A.slots.size) : A.slots[i]? = some (.int (cv A i)) := by
  have e := Array.getElem?_eq_getElem hi
  have f := h.2 i _ e
  unfold cv; rw [e]
  generalize A.slots[i] = v at f
  cases v <;> simp [fits] at f ⊢
/-- the byte that i2b leaves of a char -/
def lo8 (x : Int32) : Int32 := x.toInt8.toInt32
theorem fits_lo8 (y : Int32) : fits .byte (.int (lo8 y)) = true := by
  have h1 := y.toInt8.le_toInt
  have h2 := y.toInt8.toInt_lt
  simp only [lo8, fits, Bool.and_eq_true, decide_eq_true_eq, Int32.le_iff_toInt_le, Int8.toInt_toInt32, show (-128 : Int32).toInt = -128 from by decide, show (127 : Int32).toInt = 127 from by decide]
  omega
/-- A' is A but that each place j of lo .. hi - 1 holds f j -/
def Laid (A A' : Cell) (lo hi : Nat) (f : Nat → Value) : Prop := A'.cls = A.cls ∧ A'.vm = A.vm ∧ A'.slots.size = A.slots.size ∧ ∀ i, A'.slots[i]? = if lo ≤ i ∧ i < hi then some (f i) else A.slots[i]?
theorem Laid.zero (A : Cell) (lo : Nat) (f : Nat → Value) : Laid A A lo (lo + 0) f := ⟨rfl, rfl, rfl, fun i => by rw [if_neg (by omega)]⟩
theorem Laid.step {A Ak : Cell} {lo k : Nat} {f : Nat → Value} {v : Value} (h : Laid A Ak lo k f) (hlo : lo ≤ k) (hk : k < Ak.slots.size) (hv : v = f k) : Laid A (Ak.setSlot k v) lo (k + 1) f := by
  refine ⟨h.1, h.2.1, by simpa [Cell.setSlot] using h.2.2.1, fun i => ?_⟩
  by_cases e : k = i
  · subst e; rw [Cell.slots_setSlot_self v hk, if_pos (by omega), hv]
  · rw [Cell.slots_setSlot_ne v e, h.2.2.2 i]
    by_cases q : lo ≤ i ∧ i < k
    · rw [if_pos q, if_pos (by omega)]
    · rw [if_neg q, if_neg (by omega)]
def U16 : String := "java/lang/StringUTF16"
namespace Cmp5
def yN : MethodName := ⟨"java/lang/StringUTF16", "compress", "([CI[BII)I"⟩
abbrev yB : ByteArray := jdk_52_method_21_code
theorem d0 : decode yB 0 = .ok (.iconst 0, 1) := by decide +kernel
theorem d1 : decode yB 1 = .ok (.istore 5, 2) := by decide +kernel
theorem d3 : decode yB 3 = .ok (.iload 5, 2) := by decide +kernel
theorem d5 : decode yB 5 = .ok (.iload 4, 2) := by decide +kernel
theorem d7 : decode yB 7 = .ok (.if_icmp (.ge) 37, 3) := by decide +kernel
theorem d10 : decode yB 10 = .ok (.aload_n 0, 1) := by decide +kernel
theorem d11 : decode yB 11 = .ok (.iload_n 1, 1) := by decide +kernel
theorem d12 : decode yB 12 = .ok (.caload, 1) := by decide +kernel
theorem d13 : decode yB 13 = .ok (.istore 6, 2) := by decide +kernel
theorem d15 : decode yB 15 = .ok (.iload 6, 2) := by decide +kernel
theorem d17 : decode yB 17 = .ok (.sipush 255, 3) := by decide +kernel
theorem d20 : decode yB 20 = .ok (.if_icmp (.le) 6, 3) := by decide +kernel
theorem d26 : decode yB 26 = .ok (.aload_n 2, 1) := by decide +kernel
theorem d27 : decode yB 27 = .ok (.iload_n 3, 1) := by decide +kernel
theorem d28 : decode yB 28 = .ok (.iload 6, 2) := by decide +kernel
theorem d30 : decode yB 30 = .ok (.i2b, 1) := by decide +kernel
theorem d31 : decode yB 31 = .ok (.bastore, 1) := by decide +kernel
theorem d32 : decode yB 32 = .ok (.iinc 1 1, 3) := by decide +kernel
theorem d35 : decode yB 35 = .ok (.iinc 3 1, 3) := by decide +kernel
theorem d38 : decode yB 38 = .ok (.iinc 5 1, 3) := by decide +kernel
theorem d41 : decode yB 41 = .ok (.goto (-38), 3) := by decide +kernel
theorem d44 : decode yB 44 = .ok (.iload 4, 2) := by decide +kernel
theorem d46 : decode yB 46 = .ok (.ireturn, 1) := by decide +kernel
def site : List Cond := []
def tab : Cond := tabOf yN yB 7 (some .int) site
def P (b : Addr) (A : Cell) (d : Addr) (B : Cell) (o q len : Nat) (args : Array Value) (s : State) : Prop := args = #[.ref b, .int (Int32.ofNat o), .ref d, .int (Int32.ofNat q), .int (Int32.ofNat len)] ∧ Ch b A s ∧ Arr .byte d B s ∧ b ≠ d ∧ o + len ≤ A.slots.size ∧ q + len ≤ B.slots.size ∧ ∀ i, i < len → ¬ 255 < cv A (o + i)
def E (b : Addr) (A : Cell) (d : Addr) (B : Cell) (o q len : Nat) (r : Option Value) (s u : State) : Prop := r = some (.int (Int32.ofNat len)) ∧ ∃ B', Put d B' s u ∧ Laid B B' q (q + len) (fun j => Value.int (lo8 (cv A (o + (j - q)))))
/-- no char of the range above 255: len; the places written hold each char's low byte -/
theorem law (l : Launch) (b : Addr) (A : Cell) (d : Addr) (B : Cell) (o q len : Nat) : Law l yN 5 5 0 0 yB 7 (some .int) site (P b A d B o q len) (E b A d B o q len) (copyLocs d q len) 0 0 := by
  refine Law.of_walk (plainFor_of_name (by decide +kernel)) (by decide +kernel) (by decide +kernel) (by decide) (fun _ _ h => by rw [h.1]; rfl) (fun _ U U' hal hh h => ⟨h.1, h.2.1.mv hal hh, h.2.2.1.mv hal hh, h.2.2.2⟩) (fun r U U' V V' h1 hal h2 h => ⟨h.1, h.2.elim fun B' q => ⟨B', q.1.mv h1 h2, q.2⟩⟩) ?_
  intro p e s m args below meth c s₁ X0 hexec hbytes hml hret hlk hnm hown hh0 W hP
  obtain ⟨rfl, hA, hB, hne, l1, l2, hp⟩ := hP
  have c1 : Steps p.tables e below (s₁.setTop (entryFrame m #[.ref b, .int (Int32.ofNat o), .ref d, .int (Int32.ofNat q), .int (Int32.ofNat len)] 7)) (s₁.setTop (mkF m 0 #[.val (.ref b), .val (.int (Int32.ofNat o)), .val (.ref d), .val (.int (Int32.ofNat q)), .val (.int (Int32.ofNat len)), .unset, .unset] [])) := entry rfl
  have hA0 := hA.1.mv X0.warmed.alike hh0
  have hB0 := hB.mv X0.warmed.alike hh0
  have a31 := hA.1.2.2.2
  have c2 : Steps p.tables e below (s₁.setTop (entryFrame m #[.ref b, .int (Int32.ofNat o), .ref d, .int (Int32.ofNat q), .int (Int32.ofNat len)] 7)) (s₁.setTop (mkF m 3 #[.val (.ref b), .val (.int (Int32.ofNat o)), .val (.ref d), .val (.int (Int32.ofNat q)), .val (.int (Int32.ofNat len)), .val (.int 0), .unset] [])) := c1.trans (by
    refine iconstV X0.here hexec rfl 0 (hb hbytes d0) (by decide) ?_
    refine XS.istore X0.here hexec rfl (hb hbytes d1) rfl rfl ?_
    exact Steps.refl _)
  have loop : ∀ (r i : Nat), i + r = len → ∀ (z : Slot), (z = .unset ∨ ∃ w, z = .val w ∧ w.category = 1) → ∀ (Tl : State) (Bk : Cell), Stand p l e { frames := 0, locals := 0, cells := 0, slots := 0 } s m #[.ref b, .int (Int32.ofNat o), .ref d, .int (Int32.ofNat q), .int (Int32.ofNat len)] below meth c Tl ([] ++ copyLocs d q i) 0 0 → Put d Bk s₁ Tl → Laid B Bk q (q + i) (fun j => Value.int (lo8 (cv A (o + (j - q))))) →
      Steps p.tables e below (s₁.setTop (entryFrame m #[.ref b, .int (Int32.ofNat o), .ref d, .int (Int32.ofNat q), .int (Int32.ofNat len)] 7)) (Tl.setTop (mkF m 3 #[.val (.ref b), .val (.int (Int32.ofNat (o + i))), .val (.ref d), .val (.int (Int32.ofNat (q + i))), .val (.int (Int32.ofNat len)), .val (.int (Int32.ofNat i)), z] [])) → ∃ (T' : State) (B' : Cell) (z' : Slot), Stand p l e { frames := 0, locals := 0, cells := 0, slots := 0 } s m #[.ref b, .int (Int32.ofNat o), .ref d, .int (Int32.ofNat q), .int (Int32.ofNat len)] below meth c T' ([] ++ copyLocs d q len) 0 0 ∧ Put d B' s₁ T' ∧ Laid B B' q (q + len) (fun j => Value.int (lo8 (cv A (o + (j - q))))) ∧
      Steps p.tables e below (s₁.setTop (entryFrame m #[.ref b, .int (Int32.ofNat o), .ref d, .int (Int32.ofNat q), .int (Int32.ofNat len)] 7)) (T'.setTop (mkF m 3 #[.val (.ref b), .val (.int (Int32.ofNat (o + len))), .val (.ref d), .val (.int (Int32.ofNat (q + len))), .val (.int (Int32.ofNat len)), .val (.int (Int32.ofNat len)), z'] [])) := by
    intro r
    induction r with
    | zero =>
      intro i hi z hz Tl Bk Xl pl fl cl
      have hil : i = len := by omega
      rw [hil] at Xl fl cl
      exact ⟨Tl, Bk, z, Xl, pl, fl, cl⟩
    | succ r ih =>
      intro i hi z hz Tl Bk Xl pl fl cl
      have all := X0.warmed.alike.symm.trans Xl.warmed.alike
      have hAl := hA0.keep all (pl.other hne hA0.1)
      have hBk := hB0.like all pl.1 fl.1 fl.2.1 fl.2.2.1
      have hlt : q + i < Bk.slots.size := by rw [fl.2.2.1]; omega
      have c3 : Steps p.tables e below (s₁.setTop (entryFrame m #[.ref b, .int (Int32.ofNat o), .ref d, .int (Int32.ofNat q), .int (Int32.ofNat len)] 7)) (Tl.setTop (mkF m 12 #[.val (.ref b), .val (.int (Int32.ofNat (o + i))), .val (.ref d), .val (.int (Int32.ofNat (q + i))), .val (.int (Int32.ofNat len)), .val (.int (Int32.ofNat i)), z] [.int (Int32.ofNat (o + i)), .ref b])) := cl.trans (by
        refine XS.iload Xl.here hexec rfl (hb hbytes d3) rfl ?_
        refine XS.iload Xl.here hexec rfl (hb hbytes d5) rfl ?_
        refine XS.icmpNo Xl.here hexec rfl (hb hbytes d7) rfl (ii_ge_f (lt32 (by omega) (by omega))) ?_
        refine XS.aloadN Xl.here hexec rfl (hb hbytes d10) rfl rfl ?_
        refine XS.iloadN Xl.here hexec rfl (hb hbytes d11) rfl ?_
        exact Steps.refl _)
      have c4 : Steps p.tables e below (s₁.setTop (entryFrame m #[.ref b, .int (Int32.ofNat o), .ref d, .int (Int32.ofNat q), .int (Int32.ofNat len)] 7)) (Tl.setTop (mkF m 13 #[.val (.ref b), .val (.int (Int32.ofNat (o + i))), .val (.ref d), .val (.int (Int32.ofNat (q + i))), .val (.int (Int32.ofNat len)), .val (.int (Int32.ofNat i)), z] [.int (cv A (o + i))])) := c3.trans (by
        refine Xl.aget hexec hAl rfl (hA.get (i := o + i) (by omega)) rfl rfl (hb hbytes d12) ?_
        exact Steps.refl _)
      have c5 : Steps p.tables e below (s₁.setTop (entryFrame m #[.ref b, .int (Int32.ofNat o), .ref d, .int (Int32.ofNat q), .int (Int32.ofNat len)] 7)) (Tl.setTop (mkF m 15 #[.val (.ref b), .val (.int (Int32.ofNat (o + i))), .val (.ref d), .val (.int (Int32.ofNat (q + i))), .val (.int (Int32.ofNat len)), .val (.int (Int32.ofNat i)), .val (.int (cv A (o + i)))] [])) := c4.trans (by
        refine XS.istoreS Xl.here hexec rfl (hb hbytes d13) rfl rfl hz ?_
        exact Steps.refl _)
      have c6 : Steps p.tables e below (s₁.setTop (entryFrame m #[.ref b, .int (Int32.ofNat o), .ref d, .int (Int32.ofNat q), .int (Int32.ofNat len)] 7)) (Tl.setTop (mkF m 31 #[.val (.ref b), .val (.int (Int32.ofNat (o + i))), .val (.ref d), .val (.int (Int32.ofNat (q + i))), .val (.int (Int32.ofNat len)), .val (.int (Int32.ofNat i)), .val (.int (cv A (o + i)))] [.int (lo8 (cv A (o + i))), .int (Int32.ofNat (q + i)), .ref d])) := c5.trans (by
        refine XS.iload Xl.here hexec rfl (hb hbytes d15) rfl ?_
        refine sipushV Xl.here hexec rfl 255 (hb hbytes d17) (by decide) ?_
        refine XS.icmpYes Xl.here hexec rfl (pc0 := 20) rfl (hb hbytes d20) rfl (ii_le_t (hp i (by omega))) (by decide) rfl ?_
        refine XS.aloadN Xl.here hexec rfl (hb hbytes d26) rfl rfl ?_
        refine XS.iloadN Xl.here hexec rfl (hb hbytes d27) rfl ?_
        refine XS.iload Xl.here hexec rfl (hb hbytes d28) rfl ?_
        refine i2b Xl.here hexec rfl (hb hbytes d30) rfl ?_
        exact Steps.refl _)
      obtain ⟨T7, X7, p7, st7⟩ := Xl.aput hexec hBk rfl hlt rfl (fits_lo8 (cv A (o + i))) (g := (mkF m 31 #[.val (.ref b), .val (.int (Int32.ofNat (o + i))), .val (.ref d), .val (.int (Int32.ofNat (q + i))), .val (.int (Int32.ofNat len)), .val (.int (Int32.ofNat i)), .val (.int (cv A (o + i)))] [.int (lo8 (cv A (o + i))), .int (Int32.ofNat (q + i)), .ref d])) rfl (rest := []) rfl (hb hbytes d31)
      have c8 : Steps p.tables e below (s₁.setTop (entryFrame m #[.ref b, .int (Int32.ofNat o), .ref d, .int (Int32.ofNat q), .int (Int32.ofNat len)] 7)) (T7.setTop (mkF m 32 #[.val (.ref b), .val (.int (Int32.ofNat (o + i))), .val (.ref d), .val (.int (Int32.ofNat (q + i))), .val (.int (Int32.ofNat len)), .val (.int (Int32.ofNat i)), .val (.int (cv A (o + i)))] [])) := c6.trans (st7 _ (Steps.refl _))
      have c9 : Steps p.tables e below (s₁.setTop (entryFrame m #[.ref b, .int (Int32.ofNat o), .ref d, .int (Int32.ofNat q), .int (Int32.ofNat len)] 7)) (T7.setTop (mkF m 3 #[.val (.ref b), .val (.int (Int32.ofNat (o + i) + 1)), .val (.ref d), .val (.int (Int32.ofNat (q + i) + 1)), .val (.int (Int32.ofNat len)), .val (.int (Int32.ofNat i + 1)), .val (.int (cv A (o + i)))] [])) := c8.trans (by
        refine iincV X7.here hexec rfl 1 (hb hbytes d32) (by decide) rfl rfl ?_
        refine iincV X7.here hexec rfl 1 (hb hbytes d35) (by decide) rfl rfl ?_
        refine iincV X7.here hexec rfl 1 (hb hbytes d38) (by decide) rfl rfl ?_
        refine XS.goto X7.here hexec rfl (pc0 := 41) rfl (hb hbytes d41) (by decide) rfl ?_
        exact Steps.refl _)
      have c10 : Steps p.tables e below (s₁.setTop (entryFrame m #[.ref b, .int (Int32.ofNat o), .ref d, .int (Int32.ofNat q), .int (Int32.ofNat len)] 7)) (T7.setTop (mkF m 3 #[.val (.ref b), .val (.int (Int32.ofNat (o + (i + 1)))), .val (.ref d), .val (.int (Int32.ofNat (q + (i + 1)))), .val (.int (Int32.ofNat len)), .val (.int (Int32.ofNat (i + 1))), .val (.int (cv A (o + i)))] [])) := by
        have := c9
        rw [succ32, succ32, succ32] at this
        exact this
      exact ih (i + 1) (by omega) _ (Or.inr ⟨_, rfl, rfl⟩) T7 _ (by rw [copyLocs_step, ← List.append_assoc]; exact X7) (pl.trans p7) (fl.step (by omega) hlt (by simp)) c10
  obtain ⟨T9, B9, z9, X9, p9, f9, g9⟩ := loop len 0 (by omega) .unset (Or.inl rfl) s₁ B (by simpa [copyLocs] using X0) ⟨hB0.1, fun _ _ => rfl, rfl⟩ (Laid.zero _ _ _) c2
  have c11 : Steps p.tables e below (s₁.setTop (entryFrame m #[.ref b, .int (Int32.ofNat o), .ref d, .int (Int32.ofNat q), .int (Int32.ofNat len)] 7)) (T9.setTop (mkF m 46 #[.val (.ref b), .val (.int (Int32.ofNat (o + len))), .val (.ref d), .val (.int (Int32.ofNat (q + len))), .val (.int (Int32.ofNat len)), .val (.int (Int32.ofNat len)), z9] [.int (Int32.ofNat len)])) := g9.trans (by
    refine XS.iload X9.here hexec rfl (hb hbytes d3) rfl ?_
    refine XS.iload X9.here hexec rfl (hb hbytes d5) rfl ?_
    refine XS.icmpYes X9.here hexec rfl (pc0 := 7) rfl (hb hbytes d7) rfl (ii_ge_t (nlt32 (by omega) (Nat.le_refl _))) (by decide) rfl ?_
    refine XS.iload X9.here hexec rfl (hb hbytes d44) rfl ?_
    exact Steps.refl _)
  exact ⟨T9, some (.int (Int32.ofNat len)), _, _, _, X9, by simp, rfl, rfl, (fun h => by cases h), ⟨rfl, B9, p9.from hh0, f9⟩, fun fs hl => c11.trans (X9.ireturnOut hexec hret rfl (Or.inl rfl) (hb hbytes d46) hl)⟩
end Cmp5
namespace Cmp3
def yN : MethodName := ⟨"java/lang/StringUTF16", "compress", "([CII)[B"⟩
abbrev yB : ByteArray := jdk_52_method_16_code
theorem d0 : decode yB 0 = .ok (.iload_n 2, 1) := by decide +kernel
theorem d1 : decode yB 1 = .ok (.newarray .byte, 2) := by decide +kernel
theorem d3 : decode yB 3 = .ok (.astore_n 3, 1) := by decide +kernel
theorem d4 : decode yB 4 = .ok (.aload_n 0, 1) := by decide +kernel
theorem d5 : decode yB 5 = .ok (.iload_n 1, 1) := by decide +kernel
theorem d6 : decode yB 6 = .ok (.aload_n 3, 1) := by decide +kernel
theorem d7 : decode yB 7 = .ok (.iconst 0, 1) := by decide +kernel
theorem d8 : decode yB 8 = .ok (.iload_n 2, 1) := by decide +kernel
theorem d9 : decode yB 9 = .ok (.invokestatic 115, 3) := by decide +kernel
theorem d12 : decode yB 12 = .ok (.istore 4, 2) := by decide +kernel
theorem d14 : decode yB 14 = .ok (.iload 4, 2) := by decide +kernel
theorem d16 : decode yB 16 = .ok (.iload_n 2, 1) := by decide +kernel
theorem d17 : decode yB 17 = .ok (.if_icmp (.eq) 40, 3) := by decide +kernel
theorem d57 : decode yB 57 = .ok (.aload_n 3, 1) := by decide +kernel
theorem d58 : decode yB 58 = .ok (.areturn, 1) := by decide +kernel
def site : List Cond := [.arrayClass .byte, Cmp5.tab] ++ staticW U16 115 Cmp5.yN
def tab : Cond := tabOf yN yB 6 (some (.array .byte)) site
def P (b : Addr) (A : Cell) (o len : Nat) (args : Array Value) (s : State) : Prop := args = #[.ref b, .int (Int32.ofNat o), .int (Int32.ofNat len)] ∧ Ch b A s ∧ o + len ≤ A.slots.size ∧ len ≤ 536870912 ∧ ∀ i, i < len → ¬ 255 < cv A (o + i)
def E (b : Addr) (A : Cell) (o len : Nat) (r : Option Value) (s u : State) : Prop := NewArr .byte "[B" len (fun j => .int (lo8 (cv A (o + j)))) r s u ∧ u.heap.size = s.heap.size + 1
/-- no char of the range above 255: a new byte[] of their low bytes -/
theorem law (l : Launch) (b : Addr) (A : Cell) (o len : Nat) : Law l yN 3 3 1 18 yB 6 (some (.array .byte)) site (P b A o len) (E b A o len) [] 1 len := by
  refine Law.of_walk (plainFor_of_name (by decide +kernel)) (by decide +kernel) (by decide +kernel) (by decide) (fun _ _ h => by rw [h.1]; rfl) (fun _ U U' hal hh h => ⟨h.1, h.2.1.mv hal hh, h.2.2⟩) (fun r U U' V V' h1 hal h2 h => ⟨NewArr.mv r U U' V V' h1 hal h2 h.1, by rw [h1, h2]; exact h.2⟩) ?_
  intro p e s m args below meth c s₁ X0 hexec hbytes hml hret hlk hnm hown hh0 W hP
  obtain ⟨rfl, hA, l1, l2, hp⟩ := hP
  have a31 := hA.1.2.2.2
  have c1 : Steps p.tables e below (s₁.setTop (entryFrame m #[.ref b, .int (Int32.ofNat o), .int (Int32.ofNat len)] 6)) (s₁.setTop (mkF m 0 #[.val (.ref b), .val (.int (Int32.ofNat o)), .val (.int (Int32.ofNat len)), .unset, .unset, .unset] [])) := entry rfl
  have c2 : Steps p.tables e below (s₁.setTop (entryFrame m #[.ref b, .int (Int32.ofNat o), .int (Int32.ofNat len)] 6)) (s₁.setTop (mkF m 1 #[.val (.ref b), .val (.int (Int32.ofNat o)), .val (.int (Int32.ofNat len)), .unset, .unset, .unset] [.int (Int32.ofNat len)])) := c1.trans (by
    refine XS.iloadN X0.here hexec rfl (hb hbytes d0) rfl ?_
    exact Steps.refl _)
  obtain ⟨T3, B3, X3, ba3, bs3, bv3, bh3, bf3, st3⟩ := X0.anew hexec (atype := .byte) (wk W (.arrayClass .byte)) rfl (by show len * 1 ≤ _; omega) (by omega) (g := (mkF m 1 #[.val (.ref b), .val (.int (Int32.ofNat o)), .val (.int (Int32.ofNat len)), .unset, .unset, .unset] [.int (Int32.ofNat len)])) rfl (hb hbytes d1) (rest := []) rfl (Nat.le_refl _) (by show 0 + len ≤ len; omega)
  rw [hh0] at ba3 st3
  have kp3 : XT.Kept s T3 := (XT.Kept.of_eq hh0).push bh3
  have hA3 := hA.keep X3.warmed.alike (kp3 _ _ hA.1.1)
  have hne : b ≠ s.heap.size := hA.1.ne
  have c4 : Steps p.tables e below (s₁.setTop (entryFrame m #[.ref b, .int (Int32.ofNat o), .int (Int32.ofNat len)] 6)) (T3.setTop (mkF m 3 #[.val (.ref b), .val (.int (Int32.ofNat o)), .val (.int (Int32.ofNat len)), .unset, .unset, .unset] [.ref s.heap.size])) := c2.trans (st3 _ (Steps.refl _))
  have c5 : Steps p.tables e below (s₁.setTop (entryFrame m #[.ref b, .int (Int32.ofNat o), .int (Int32.ofNat len)] 6)) (T3.setTop (mkF m 9 #[.val (.ref b), .val (.int (Int32.ofNat o)), .val (.int (Int32.ofNat len)), .val (.ref s.heap.size), .unset, .unset] [.int (Int32.ofNat len), .int 0, .ref s.heap.size, .int (Int32.ofNat o), .ref b])) := c4.trans (by
    refine XS.astoreN X3.here hexec rfl (hb hbytes d3) rfl rfl rfl ?_
    refine XS.aloadN X3.here hexec rfl (hb hbytes d4) rfl rfl ?_
    refine XS.iloadN X3.here hexec rfl (hb hbytes d5) rfl ?_
    refine XS.aloadN X3.here hexec rfl (hb hbytes d6) rfl rfl ?_
    refine iconstV X3.here hexec rfl 0 (hb hbytes d7) (by decide) ?_
    refine XS.iloadN X3.here hexec rfl (hb hbytes d8) rfl ?_
    exact Steps.refl _)
  obtain ⟨v6, T6, X6, E6, g6⟩ := X3.callS hexec (Cmp5.law l b A s.heap.size B3 o 0 len) hown (wks W (staticW U16 115 Cmp5.yN)) (wk W Cmp5.tab) (W := 0) (Nat.le_of_ble_eq_true rfl) (Nat.le_of_ble_eq_true rfl) (Nat.le_refl _) (by show 0 + len + 0 ≤ len; omega) (g := (mkF m 9 #[.val (.ref b), .val (.int (Int32.ofNat o)), .val (.int (Int32.ofNat len)), .val (.ref s.heap.size), .unset, .unset] [.int (Int32.ofNat len), .int (Int32.ofNat 0), .ref s.heap.size, .int (Int32.ofNat o), .ref b])) rfl (by rw [hml]; rfl) c5 (argsL := [.ref b, .int (Int32.ofNat o), .ref s.heap.size, .int (Int32.ofNat 0), .int (Int32.ofNat len)]) (rest := []) rfl rfl (by show 2 * 0 + 0 ≤ _; decide) (hb hbytes d9) (⟨rfl, hA3, ba3, hne, l1, by rw [bs3]; simp, hp⟩)
  obtain ⟨rfl, B6, p6, f6⟩ := E6
  have c7 : Steps p.tables e below (s₁.setTop (entryFrame m #[.ref b, .int (Int32.ofNat o), .int (Int32.ofNat len)] 6)) (T6.setTop (mkF m 12 #[.val (.ref b), .val (.int (Int32.ofNat o)), .val (.int (Int32.ofNat len)), .val (.ref s.heap.size), .unset, .unset] [.int (Int32.ofNat len)])) := g6
  have c8 : Steps p.tables e below (s₁.setTop (entryFrame m #[.ref b, .int (Int32.ofNat o), .int (Int32.ofNat len)] 6)) (T6.setTop (mkF m 58 #[.val (.ref b), .val (.int (Int32.ofNat o)), .val (.int (Int32.ofNat len)), .val (.ref s.heap.size), .val (.int (Int32.ofNat len)), .unset] [.ref s.heap.size])) := c7.trans (by
    refine XS.istore X6.here hexec rfl (hb hbytes d12) rfl rfl ?_
    refine XS.iload X6.here hexec rfl (hb hbytes d14) rfl ?_
    refine XS.iloadN X6.here hexec rfl (hb hbytes d16) rfl ?_
    refine XS.icmpYes X6.here hexec rfl (pc0 := 17) rfl (hb hbytes d17) rfl (ii_eq_t rfl) (by decide) rfl ?_
    refine XS.aloadN X6.here hexec rfl (hb hbytes d57) rfl rfl ?_
    exact Steps.refl _)
  have X8 := X6.wide (L' := []) (cells' := 1) (slots' := len) (fun x hx hlt => by
    simp only [List.nil_append, copyLocs, List.mem_map, List.mem_range] at hx
    obtain ⟨i, -, rfl⟩ := hx
    exact absurd hlt (Nat.lt_irrefl _)) (Nat.le_refl _) (by omega)
  exact ⟨T6, some (.ref s.heap.size), _, _, _, X8, rfl, rfl, rfl, (fun h => by cases h), ⟨⟨rfl, B6, ba3.like (X3.warmed.alike.symm.trans X6.warmed.alike) p6.1 f6.1 f6.2.1 f6.2.2.1, f6.2.1.trans bv3, by rw [X6.warmed.alike.findClass, f6.1]; exact bf3, by rw [f6.2.2.1, bs3]; simp, fun j hj => by rw [f6.2.2.2 j, if_pos (by omega)]; rfl, kp3.put p6 (Nat.le_refl _)⟩, by rw [p6.2.2, bh3, hh0]; simp⟩, fun fs hl => c8.trans (X8.areturnOut hexec rfl hret rfl (hb hbytes d58) hl)⟩
end Cmp3
namespace CodL
def yN : MethodName := ⟨"java/lang/StringUTF16", "coderFromArrayLen", "([BI)B"⟩
abbrev yB : ByteArray := jdk_52_method_15_code
theorem d0 : decode yB 0 = .ok (.iload_n 1, 1) := by decide +kernel
theorem d1 : decode yB 1 = .ok (.aload_n 0, 1) := by decide +kernel
theorem d2 : decode yB 2 = .ok (.arraylength, 1) := by decide +kernel
theorem d3 : decode yB 3 = .ok (.isub, 1) := by decide +kernel
theorem d4 : decode yB 4 = .ok (.bipush 31, 2) := by decide +kernel
theorem d6 : decode yB 6 = .ok (.iushr, 1) := by decide +kernel
theorem d7 : decode yB 7 = .ok (.i2b, 1) := by decide +kernel
theorem d8 : decode yB 8 = .ok (.ireturn, 1) := by decide +kernel
def site : List Cond := []
def tab : Cond := tabOf yN yB 2 (some .byte) site
def P (d : Addr) (B : Cell) (args : Array Value) (s : State) : Prop := args = #[.ref d, .int (Int32.ofNat B.slots.size)] ∧ Arr .byte d B s
def E (r : Option Value) (s u : State) : Prop := XT.PureE (some (.int 0)) r s u
/-- an array as long as the number of chars: LATIN1 -/
theorem law (l : Launch) (d : Addr) (B : Cell) : Law l yN 2 2 0 0 yB 2 (some .byte) site (P d B) E [] 0 0 := by
  refine Law.of_walk (plainFor_of_name (by decide +kernel)) (by decide +kernel) (by decide +kernel) (by decide) (fun _ _ h => by rw [h.1]; rfl) (fun _ U U' hal hh h => ⟨h.1, h.2.mv hal hh⟩) (fun r U U' V V' h1 hal h2 h => XT.PureE.mv r U U' V V' h1 hal h2 h) ?_
  intro p e s m args below meth c s₁ X0 hexec hbytes hml hret hlk hnm hown hh0 W hP
  obtain ⟨rfl, hB⟩ := hP
  have hB0 := hB.mv X0.warmed.alike hh0
  have c1 : Steps p.tables e below (s₁.setTop (entryFrame m #[.ref d, .int (Int32.ofNat B.slots.size)] 2)) (s₁.setTop (mkF m 0 #[.val (.ref d), .val (.int (Int32.ofNat B.slots.size))] [])) := entry rfl
  have c2 : Steps p.tables e below (s₁.setTop (entryFrame m #[.ref d, .int (Int32.ofNat B.slots.size)] 2)) (s₁.setTop (mkF m 2 #[.val (.ref d), .val (.int (Int32.ofNat B.slots.size))] [.ref d, .int (Int32.ofNat B.slots.size)])) := c1.trans (by
    refine XS.iloadN X0.here hexec rfl (hb hbytes d0) rfl ?_
    refine XS.aloadN X0.here hexec rfl (hb hbytes d1) rfl rfl ?_
    exact Steps.refl _)
  have c3 : Steps p.tables e below (s₁.setTop (entryFrame m #[.ref d, .int (Int32.ofNat B.slots.size)] 2)) (s₁.setTop (mkF m 8 #[.val (.ref d), .val (.int (Int32.ofNat B.slots.size))] [.int (lo8 (ushr (Int32.ofNat B.slots.size - Int32.ofNat B.slots.size) 31))])) := c2.trans (by
    refine X0.alen hexec hB0 rfl rfl (hb hbytes d2) ?_
    refine XS.isub X0.here hexec rfl (hb hbytes d3) rfl ?_
    refine bipushV X0.here hexec rfl 31 (hb hbytes d4) (by decide) ?_
    refine iushr X0.here hexec rfl (hb hbytes d6) rfl ?_
    refine i2b X0.here hexec rfl (hb hbytes d7) rfl ?_
    exact Steps.refl _)
  have e0 : lo8 (ushr (Int32.ofNat B.slots.size - Int32.ofNat B.slots.size) 31) = 0 := by rw [Int32.sub_self]; decide
  rw [e0] at c3
  exact ⟨s₁, some (.int 0), _, _, _, X0, rfl, rfl, rfl, (fun h => by cases h), ⟨rfl, hh0⟩, fun fs hl => c3.trans (X0.ireturnOut hexec hret rfl (Or.inr (Or.inr (Or.inl rfl))) (hb hbytes d8) hl)⟩
end CodL
/-- the String at a is Latin-1 over a new byte[] (the heap's one new cell): the low bytes of the len chars of A from o on; every cell but a is kept -/
def Got (a : Addr) (D : Cell) (fV fC : Field) (A : Cell) (o len : Nat) (r : Option Value) (s u : State) : Prop := r = none ∧ ∃ D' V : Cell, Blank "java/lang/String" a D' u ∧ Same D D' [fV.slot, fC.slot] ∧ D'.slots[fV.slot]? = some (.ref s.heap.size) ∧ D'.slots[fC.slot]? = some (.int 0) ∧ Arr .byte s.heap.size V u ∧ V.vm = .none ∧ u.vm.findClass "[B" = some V.cls ∧ V.slots.size = len ∧ (∀ j, j < len → V.slots[j]? = some (.int (lo8 (cv A (o + j))))) ∧ (∀ (y : Addr) (c : Cell), y ≠ a → s.heap[y]? = some c → u.heap[y]? = some c) ∧ u.heap.size = s.heap.size + 1
theorem Got.mv {a : Addr} {D A : Cell} {fV fC : Field} {o len : Nat} : ∀ r (U U' V V' : State), U'.heap = U.heap → V.vm.Alike V'.vm → V'.heap = V.heap → Got a D fV fC A o len r U V → Got a D fV fC A o len r U' V' :=
  fun r U U' V V' h1 hal h2 ⟨e0, D', X, a1, a2, a3, a4, a5, a6, a7, a8, a9, a10, a11⟩ => ⟨e0, D', X, a1.mv hal h2, a2, by rw [h1]; exact a3, a4, by rw [h1]; exact a5.mv hal h2, a6, by rw [hal.findClass]; exact a7, a8, a9, by rw [h1, h2]; exact a10, by rw [h1, h2]; exact a11⟩
namespace New4
def yN : MethodName := ⟨"java/lang/String", "<init>", "([CIILjava/lang/Void;)V"⟩
abbrev yB : ByteArray := jdk_42_method_149_code
theorem d0 : decode yB 0 = .ok (.aload_n 0, 1) := by decide +kernel
theorem d1 : decode yB 1 = .ok (.invokespecial 1, 3) := by decide +kernel
theorem d4 : decode yB 4 = .ok (.iload_n 3, 1) := by decide +kernel
theorem d5 : decode yB 5 = .ok (.ifCond (.ne) 22, 3) := by decide +kernel
theorem d27 : decode yB 27 = .ok (.getstatic 38, 3) := by decide +kernel
theorem d30 : decode yB 30 = .ok (.ifCond (.eq) 28, 3) := by decide +kernel
theorem d33 : decode yB 33 = .ok (.aload_n 1, 1) := by decide +kernel
theorem d34 : decode yB 34 = .ok (.iload_n 2, 1) := by decide +kernel
theorem d35 : decode yB 35 = .ok (.iload_n 3, 1) := by decide +kernel
theorem d36 : decode yB 36 = .ok (.invokestatic 177, 3) := by decide +kernel
theorem d39 : decode yB 39 = .ok (.astore 5, 2) := by decide +kernel
theorem d41 : decode yB 41 = .ok (.aload_n 0, 1) := by decide +kernel
theorem d42 : decode yB 42 = .ok (.aload 5, 2) := by decide +kernel
theorem d44 : decode yB 44 = .ok (.iload_n 3, 1) := by decide +kernel
theorem d45 : decode yB 45 = .ok (.invokestatic 47, 3) := by decide +kernel
theorem d48 : decode yB 48 = .ok (.putfield 15, 3) := by decide +kernel
theorem d51 : decode yB 51 = .ok (.aload_n 0, 1) := by decide +kernel
theorem d52 : decode yB 52 = .ok (.aload 5, 2) := by decide +kernel
theorem d54 : decode yB 54 = .ok (.putfield 9, 3) := by decide +kernel
theorem d57 : decode yB 57 = .ok (.return_, 1) := by decide +kernel
def site : List Cond := [.fieldLink "java/lang/String" 38 "java/lang/String" "COMPACT_STRINGS" "Z", Cmp3.tab, CodL.tab, .laysFinal "java/lang/String" "java/lang/String" "value" "[B", .fieldLink "java/lang/String" 9 "java/lang/String" "value" "[B", .laysFinal "java/lang/String" "java/lang/String" "coder" "B", .fieldLink "java/lang/String" 15 "java/lang/String" "coder" "B"] ++ objW "java/lang/String" 1 ++ staticW "java/lang/String" 177 Cmp3.yN ++ staticW "java/lang/String" 47 CodL.yN
def tab : Cond := tabOf yN yB 6 none site
def P (a : Addr) (D : Cell) (fV fC : Field) (b : Addr) (A : Cell) (z : Int32) (o len : Nat) (args : Array Value) (s : State) : Prop := args = #[.ref a, .ref b, .int (Int32.ofNat o), .int (Int32.ofNat len), .null] ∧ Blank "java/lang/String" a D s ∧ Found "java/lang/String" "value" "[B" fV s ∧ Found "java/lang/String" "coder" "B" fC s ∧ Ch b A s ∧ StaticIs s "java/lang/String" "COMPACT_STRINGS" "Z" (.int z) ∧ ¬ z = 0 ∧ 0 < len ∧ o + len ≤ A.slots.size ∧ len ≤ 536870912 ∧ ∀ i, i < len → ¬ 255 < cv A (o + i)
def E (a : Addr) (D : Cell) (fV fC : Field) (A : Cell) (o len : Nat) (r : Option Value) (s u : State) : Prop := Got a D fV fC A o len r s u
/-- len > 0, no char of the range above 255: a Latin-1 String of their low bytes -/
theorem law (l : Launch) (a : Addr) (D : Cell) (fV fC : Field) (b : Addr) (A : Cell) (z : Int32) (o len : Nat) : Law l yN 5 4 2 35 yB 6 none site (P a D fV fC b A z o len) (E a D fV fC A o len) [⟨a, fC.slot⟩, ⟨a, fV.slot⟩] 1 len := by
  refine Law.of_walk (plainFor_of_name (by decide +kernel)) (by decide +kernel) (by decide +kernel) (by decide) (fun _ _ h => by rw [h.1]; rfl) (fun _ U U' hal hh h => ⟨h.1, h.2.1.mv hal hh, h.2.2.1.al hal, h.2.2.2.1.al hal, h.2.2.2.2.1.mv hal hh, h.2.2.2.2.2.1.there hal hh, h.2.2.2.2.2.2⟩) (fun r U U' V V' h1 hal h2 h => Got.mv r U U' V V' h1 hal h2 h) ?_
  intro p e s m args below meth c s₁ X0 hexec hbytes hml hret hlk hnm hown hh0 W hP
  obtain ⟨rfl, hB, f1, f2, hA, s1, hz, l0, l1, l2, hp⟩ := hP
  have a31 := hA.1.2.2.2
  have c1 : Steps p.tables e below (s₁.setTop (entryFrame m #[.ref a, .ref b, .int (Int32.ofNat o), .int (Int32.ofNat len), .null] 6)) (s₁.setTop (mkF m 0 #[.val (.ref a), .val (.ref b), .val (.int (Int32.ofNat o)), .val (.int (Int32.ofNat len)), .val .null, .unset] [])) := entry rfl
  have c2 : Steps p.tables e below (s₁.setTop (entryFrame m #[.ref a, .ref b, .int (Int32.ofNat o), .int (Int32.ofNat len), .null] 6)) (s₁.setTop (mkF m 1 #[.val (.ref a), .val (.ref b), .val (.int (Int32.ofNat o)), .val (.int (Int32.ofNat len)), .val .null, .unset] [.ref a])) := c1.trans (by
    refine XS.aloadN X0.here hexec rfl (hb hbytes d0) rfl rfl ?_
    exact Steps.refl _)
  obtain ⟨T3, X3, q3, st3⟩ := X0.oinit hexec hown (wks W (objW "java/lang/String" 1)) (g := (mkF m 1 #[.val (.ref a), .val (.ref b), .val (.int (Int32.ofNat o)), .val (.int (Int32.ofNat len)), .val .null, .unset] [.ref a])) rfl (by rw [hml]; rfl) (rest := []) rfl (hb hbytes d1) (W := 0) (by show 2 * 0 + 0 ≤ _; decide) (Nat.le_of_ble_eq_true rfl) (Nat.le_of_ble_eq_true rfl)
  have hh3 := q3.trans hh0
  have c4 : Steps p.tables e below (s₁.setTop (entryFrame m #[.ref a, .ref b, .int (Int32.ofNat o), .int (Int32.ofNat len), .null] 6)) (T3.setTop (mkF m 27 #[.val (.ref a), .val (.ref b), .val (.int (Int32.ofNat o)), .val (.int (Int32.ofNat len)), .val .null, .unset] [])) := (c2.trans (st3 _ (Steps.refl _))).trans (by
    refine XS.iloadN X3.here hexec rfl (hb hbytes d4) rfl ?_
    refine XS.ifYes X3.here hexec rfl (pc0 := 5) rfl (hb hbytes d5) rfl (i0_ne_t (nz32 (by omega) l0)) (by decide) rfl ?_
    exact Steps.refl _)
  obtain ⟨T5, X5, q5, st5⟩ := X3.sget hexec hown (wk W (.fieldLink "java/lang/String" 38 "java/lang/String" "COMPACT_STRINGS" "Z")) s1 (fun _ _ h => by rw [hh3]; exact h) (g := (mkF m 27 #[.val (.ref a), .val (.ref b), .val (.int (Int32.ofNat o)), .val (.int (Int32.ofNat len)), .val .null, .unset] [])) rfl (hb hbytes d27)
  have hh5 := q5.trans hh3
  have c6 : Steps p.tables e below (s₁.setTop (entryFrame m #[.ref a, .ref b, .int (Int32.ofNat o), .int (Int32.ofNat len), .null] 6)) (T5.setTop (mkF m 30 #[.val (.ref a), .val (.ref b), .val (.int (Int32.ofNat o)), .val (.int (Int32.ofNat len)), .val .null, .unset] [.int z])) := c4.trans (st5 _ (Steps.refl _))
  have c7 : Steps p.tables e below (s₁.setTop (entryFrame m #[.ref a, .ref b, .int (Int32.ofNat o), .int (Int32.ofNat len), .null] 6)) (T5.setTop (mkF m 36 #[.val (.ref a), .val (.ref b), .val (.int (Int32.ofNat o)), .val (.int (Int32.ofNat len)), .val .null, .unset] [.int (Int32.ofNat len), .int (Int32.ofNat o), .ref b])) := c6.trans (by
    refine XS.ifNo X5.here hexec rfl (hb hbytes d30) rfl (i0_eq_f hz) ?_
    refine XS.aloadN X5.here hexec rfl (hb hbytes d33) rfl rfl ?_
    refine XS.iloadN X5.here hexec rfl (hb hbytes d34) rfl ?_
    refine XS.iloadN X5.here hexec rfl (hb hbytes d35) rfl ?_
    exact Steps.refl _)
  obtain ⟨v8, T8, X8, E8, g8⟩ := X5.callS hexec (Cmp3.law l b A o len) hown (wks W (staticW "java/lang/String" 177 Cmp3.yN)) (wk W Cmp3.tab) (W := 0) (Nat.le_of_ble_eq_true rfl) (Nat.le_of_ble_eq_true rfl) (Nat.le_refl _) (by show 0 + len ≤ len; omega) (g := (mkF m 36 #[.val (.ref a), .val (.ref b), .val (.int (Int32.ofNat o)), .val (.int (Int32.ofNat len)), .val .null, .unset] [.int (Int32.ofNat len), .int (Int32.ofNat o), .ref b])) rfl (by rw [hml]; rfl) c7 (argsL := [.ref b, .int (Int32.ofNat o), .int (Int32.ofNat len)]) (rest := []) rfl rfl (by show 2 * 0 + 0 ≤ _; decide) (hb hbytes d36) (⟨rfl, hA.mv X5.warmed.alike hh5, l1, l2, hp⟩)
  obtain ⟨e8, z8⟩ := E8
  obtain ⟨rfl, N, n1, n2, n3, n4, n5, n6⟩ := NewArr.mv _ T5 s _ _ hh5.symm (Vm.Alike.refl _) rfl e8
  rw [hh5] at z8
  have hB1 := hB.keep X8.warmed.alike (n6 _ _ hB.1)
  have hne : s.heap.size ≠ a := (Nat.ne_of_lt (Array.getElem?_eq_some_iff.mp hB.1).1).symm
  have c9 : Steps p.tables e below (s₁.setTop (entryFrame m #[.ref a, .ref b, .int (Int32.ofNat o), .int (Int32.ofNat len), .null] 6)) (T8.setTop (mkF m 39 #[.val (.ref a), .val (.ref b), .val (.int (Int32.ofNat o)), .val (.int (Int32.ofNat len)), .val .null, .unset] [.ref s.heap.size])) := g8
  have c10 : Steps p.tables e below (s₁.setTop (entryFrame m #[.ref a, .ref b, .int (Int32.ofNat o), .int (Int32.ofNat len), .null] 6)) (T8.setTop (mkF m 45 #[.val (.ref a), .val (.ref b), .val (.int (Int32.ofNat o)), .val (.int (Int32.ofNat len)), .val .null, .val (.ref s.heap.size)] [.int (Int32.ofNat N.slots.size), .ref s.heap.size, .ref a])) := by
    have hc : Steps p.tables e below (s₁.setTop (entryFrame m #[.ref a, .ref b, .int (Int32.ofNat o), .int (Int32.ofNat len), .null] 6)) (T8.setTop (mkF m 45 #[.val (.ref a), .val (.ref b), .val (.int (Int32.ofNat o)), .val (.int (Int32.ofNat len)), .val .null, .val (.ref s.heap.size)] [.int (Int32.ofNat len), .ref s.heap.size, .ref a])) := c9.trans (by
      refine XS.astore X8.here hexec rfl (hb hbytes d39) rfl rfl rfl ?_
      refine XS.aloadN X8.here hexec rfl (hb hbytes d41) rfl rfl ?_
      refine XS.aload X8.here hexec rfl (hb hbytes d42) rfl rfl ?_
      refine XS.iloadN X8.here hexec rfl (hb hbytes d44) rfl ?_
      exact Steps.refl _)
    rw [n4]; exact hc
  obtain ⟨v11, T11, X11, E11, g11⟩ := X8.callS hexec (CodL.law l s.heap.size N) hown (wks W (staticW "java/lang/String" 47 CodL.yN)) (wk W CodL.tab) (W := 1) (Nat.le_of_ble_eq_true rfl) (Nat.le_of_ble_eq_true rfl) (Nat.le_refl _) (by show 0 + len + 0 ≤ len; omega) (g := (mkF m 45 #[.val (.ref a), .val (.ref b), .val (.int (Int32.ofNat o)), .val (.int (Int32.ofNat len)), .val .null, .val (.ref s.heap.size)] [.int (Int32.ofNat N.slots.size), .ref s.heap.size, .ref a])) rfl (by rw [hml]; rfl) c10 (argsL := [.ref s.heap.size, .int (Int32.ofNat N.slots.size)]) (rest := [.ref a]) rfl rfl (by show 2 * 0 + (1 + 0) ≤ _; decide) (hb hbytes d45) (⟨rfl, n1⟩)
  obtain ⟨rfl, q11⟩ := E11
  have hB11 := hB1.mv (X8.warmed.alike.symm.trans X11.warmed.alike) q11
  have c12 : Steps p.tables e below (s₁.setTop (entryFrame m #[.ref a, .ref b, .int (Int32.ofNat o), .int (Int32.ofNat len), .null] 6)) (T11.setTop (mkF m 48 #[.val (.ref a), .val (.ref b), .val (.int (Int32.ofNat o)), .val (.int (Int32.ofNat len)), .val .null, .val (.ref s.heap.size)] [.int 0, .ref a])) := g11
  obtain ⟨T13, X13, p13, bl13, sl13, st13⟩ := X11.finit hexec hown (wk W (.fieldLink "java/lang/String" 15 "java/lang/String" "coder" "B")) (Or.inr ⟨_, (wk W (.laysFinal "java/lang/String" "java/lang/String" "coder" "B"))⟩) (Or.inl ⟨rfl, hnm⟩) f2 (Or.inl rfl) hB11 (t := .byte) (by decide +kernel) rfl (g := (mkF m 48 #[.val (.ref a), .val (.ref b), .val (.int (Int32.ofNat o)), .val (.int (Int32.ofNat len)), .val .null, .val (.ref s.heap.size)] [.int 0, .ref a])) rfl (rest := []) rfl (hb hbytes d48)
  have c14 : Steps p.tables e below (s₁.setTop (entryFrame m #[.ref a, .ref b, .int (Int32.ofNat o), .int (Int32.ofNat len), .null] 6)) (T13.setTop (mkF m 54 #[.val (.ref a), .val (.ref b), .val (.int (Int32.ofNat o)), .val (.int (Int32.ofNat len)), .val .null, .val (.ref s.heap.size)] [.ref s.heap.size, .ref a])) := (c12.trans (st13 _ (Steps.refl _))).trans (by
    refine XS.aloadN X13.here hexec rfl (hb hbytes d51) rfl rfl ?_
    refine XS.aload X13.here hexec rfl (hb hbytes d52) rfl rfl ?_
    exact Steps.refl _)
  obtain ⟨T15, X15, p15, bl15, sl15, st15⟩ := X13.finit hexec hown (wk W (.fieldLink "java/lang/String" 9 "java/lang/String" "value" "[B")) (Or.inr ⟨_, (wk W (.laysFinal "java/lang/String" "java/lang/String" "value" "[B"))⟩) (Or.inl ⟨rfl, hnm⟩) f1 (Or.inl rfl) bl13 (t := (.array .byte)) (by decide +kernel) rfl (g := (mkF m 54 #[.val (.ref a), .val (.ref b), .val (.int (Int32.ofNat o)), .val (.int (Int32.ofNat len)), .val .null, .val (.ref s.heap.size)] [.ref s.heap.size, .ref a])) rfl (rest := []) rfl (hb hbytes d54)
  have c16 : Steps p.tables e below (s₁.setTop (entryFrame m #[.ref a, .ref b, .int (Int32.ofNat o), .int (Int32.ofNat len), .null] 6)) (T15.setTop (mkF m 57 #[.val (.ref a), .val (.ref b), .val (.int (Int32.ofNat o)), .val (.int (Int32.ofNat len)), .val .null, .val (.ref s.heap.size)] [])) := c14.trans (st15 _ (Steps.refl _))
  have ap := apart (Or.inr ⟨_, (wk W (.laysFinal "java/lang/String" "java/lang/String" "value" "[B"))⟩) (Or.inr ⟨_, (wk W (.laysFinal "java/lang/String" "java/lang/String" "coder" "B"))⟩) f1 f2 (t₁ := .array .byte) (t₂ := .byte) (by decide +kernel) (by decide +kernel) (by decide)
  have al := X8.warmed.alike.symm.trans X15.warmed.alike
  have n7 : T11.heap[s.heap.size]? = some N := by rw [q11]; exact n1.1
  exact ⟨T15, none, _, _, _, X15, by simp, rfl, by omega, (fun _ => rfl), ⟨rfl, _, N, bl15, ((Same.refl D _).set _ (by simp)).set _ (by simp), sl15, (Cell.slots_setSlot_ne _ ap).trans sl13, n1.keep al (p15.other hne (p13.other hne n7)), n2, by rw [al.findClass]; exact n3, n4, n5, fun y c h1 h2 => p15.other h1 (p13.other h1 (by rw [q11]; exact n6 y c h2)), by rw [p15.2.2, p13.2.2, q11]; exact z8⟩, fun fs hl => c16.trans (X15.returnOut hexec hret (hb hbytes d57) hl)⟩
end New4
namespace New1
def yN : MethodName := ⟨"java/lang/String", "<init>", "([C)V"⟩
abbrev yB : ByteArray := jdk_42_method_3_code
theorem d0 : decode yB 0 = .ok (.aload_n 0, 1) := by decide +kernel
theorem d1 : decode yB 1 = .ok (.aload_n 1, 1) := by decide +kernel
theorem d2 : decode yB 2 = .ok (.iconst 0, 1) := by decide +kernel
theorem d3 : decode yB 3 = .ok (.aload_n 1, 1) := by decide +kernel
theorem d4 : decode yB 4 = .ok (.arraylength, 1) := by decide +kernel
theorem d5 : decode yB 5 = .ok (.aconst_null, 1) := by decide +kernel
theorem d6 : decode yB 6 = .ok (.invokespecial 27, 3) := by decide +kernel
theorem d9 : decode yB 9 = .ok (.return_, 1) := by decide +kernel
def site : List Cond := [New4.tab] ++ initW "java/lang/String" 27 New4.yN
def tab : Cond := tabOf yN yB 2 none site
def P (a : Addr) (D : Cell) (fV fC : Field) (b : Addr) (A : Cell) (z : Int32) (args : Array Value) (s : State) : Prop := args = #[.ref a, .ref b] ∧ Blank "java/lang/String" a D s ∧ Found "java/lang/String" "value" "[B" fV s ∧ Found "java/lang/String" "coder" "B" fC s ∧ Ch b A s ∧ StaticIs s "java/lang/String" "COMPACT_STRINGS" "Z" (.int z) ∧ ¬ z = 0 ∧ 0 < A.slots.size ∧ A.slots.size ≤ 536870912 ∧ ∀ i, i < A.slots.size → ¬ 255 < cv A i
def E (a : Addr) (D : Cell) (fV fC : Field) (A : Cell) (r : Option Value) (s u : State) : Prop := Got a D fV fC A 0 A.slots.size r s u
/-- new String(chars), not empty, no char above 255: a Latin-1 String of their low bytes -/
theorem law (l : Launch) (a : Addr) (D : Cell) (fV fC : Field) (b : Addr) (A : Cell) (z : Int32) : Law l yN 2 1 3 52 yB 2 none site (P a D fV fC b A z) (E a D fV fC A) [⟨a, fC.slot⟩, ⟨a, fV.slot⟩] 1 A.slots.size := by
  refine Law.of_walk (plainFor_of_name (by decide +kernel)) (by decide +kernel) (by decide +kernel) (by decide) (fun _ _ h => by rw [h.1]; rfl) (fun _ U U' hal hh h => ⟨h.1, h.2.1.mv hal hh, h.2.2.1.al hal, h.2.2.2.1.al hal, h.2.2.2.2.1.mv hal hh, h.2.2.2.2.2.1.there hal hh, h.2.2.2.2.2.2⟩) (fun r U U' V V' h1 hal h2 h => Got.mv r U U' V V' h1 hal h2 h) ?_
  intro p e s m args below meth c s₁ X0 hexec hbytes hml hret hlk hnm hown hh0 W hP
  obtain ⟨rfl, hB, f1, f2, hA, s1, hz, l0, l2, hp⟩ := hP
  have c1 : Steps p.tables e below (s₁.setTop (entryFrame m #[.ref a, .ref b] 2)) (s₁.setTop (mkF m 0 #[.val (.ref a), .val (.ref b)] [])) := entry rfl
  have c2 : Steps p.tables e below (s₁.setTop (entryFrame m #[.ref a, .ref b] 2)) (s₁.setTop (mkF m 6 #[.val (.ref a), .val (.ref b)] [.null, .int (Int32.ofNat A.slots.size), .int 0, .ref b, .ref a])) := c1.trans (by
    refine XS.aloadN X0.here hexec rfl (hb hbytes d0) rfl rfl ?_
    refine XS.aloadN X0.here hexec rfl (hb hbytes d1) rfl rfl ?_
    refine iconstV X0.here hexec rfl 0 (hb hbytes d2) (by decide) ?_
    refine XS.aloadN X0.here hexec rfl (hb hbytes d3) rfl rfl ?_
    refine X0.alen hexec (hA.1.mv X0.warmed.alike hh0) rfl rfl (hb hbytes d4) ?_
    refine XS.aconstNull X0.here hexec rfl (hb hbytes d5) ?_
    exact Steps.refl _)
  obtain ⟨v3, T3, X3, E3, g3⟩ := X0.callN hexec (New4.law l a D fV fC b A z 0 A.slots.size) rfl hown (wks W (initW "java/lang/String" 27 New4.yN)) (W New4.tab (by simp only [site, List.mem_cons, List.mem_append, true_or, or_true])) (W := 0) (Nat.le_of_ble_eq_true rfl) (Nat.le_of_ble_eq_true rfl) (Nat.le_refl _) (by show 0 + A.slots.size ≤ A.slots.size; omega) (g := (mkF m 6 #[.val (.ref a), .val (.ref b)] [.null, .int (Int32.ofNat A.slots.size), .int (Int32.ofNat 0), .ref b, .ref a])) rfl (by rw [hml]; rfl) c2 (argsL := [.ref b, .int (Int32.ofNat 0), .int (Int32.ofNat A.slots.size), .null]) (rest := []) rfl rfl (by show 2 * 0 + 0 ≤ _; decide) (hb hbytes d6) (⟨rfl, hB.mv X0.warmed.alike hh0, f1.al X0.warmed.alike, f2.al X0.warmed.alike, hA.mv X0.warmed.alike hh0, s1.there X0.warmed.alike hh0, hz, l0, by omega, l2, fun i hi => by rw [Nat.zero_add]; exact hp i hi⟩)
  have e0 := Got.mv _ s₁ s _ _ hh0.symm (Vm.Alike.refl _) rfl E3
  obtain rfl := e0.1
  have c4 : Steps p.tables e below (s₁.setTop (entryFrame m #[.ref a, .ref b] 2)) (T3.setTop (mkF m 9 #[.val (.ref a), .val (.ref b)] [])) := g3
  exact ⟨T3, none, _, _, _, X3, by simp, rfl, by omega, (fun _ => rfl), e0, fun fs hl => c4.trans (X3.returnOut hexec hret (hb hbytes d9) hl)⟩
theorem pays {l : Launch} {R : Room} {p : Program} {e : Env} {below : List Frame} {s : State} {sargs : Array Value} {len W : Nat} (a : Addr) (D : Cell) (fV fC : Field) (b : Addr) (A : Cell) (z : Int32) (htab : tab.before sargs s = true) (hfr : 4 ≤ R.frames) (hlo : W + 65 ≤ R.locals) :
    Back l R p e below s sargs yN len W (fun A₁ a₁ => A₁.cells + 1 ≤ R.cells ∧ A₁.slots + A.slots.size ≤ R.slots ∧ P a D fV fC b A z a₁ A₁.U) (fun A₁ _ v₁ B₁ => E a D fV fC A v₁ A₁.U B₁.U ∧ B₁.locs = A₁.locs ++ [⟨a, fC.slot⟩, ⟨a, fV.slot⟩] ∧ B₁.cells = A₁.cells + 1 ∧ B₁.slots = A₁.slots + A.slots.size) :=
  (law l a D fV fC b A z).pays htab hfr (by omega)
end New1
/-- the byte, read back as charAt reads it, is the char -/
theorem lo8_mask {x : Int32} (h0 : ¬ x < 0) (h1 : ¬ 255 < x) : lo8 x &&& 255 = x := by
  have t : ∀ k : Fin 256, lo8 (Int32.ofNat k.val) &&& 255 = Int32.ofNat k.val := by decide +kernel
  rw [Int32.lt_iff_toInt_lt] at h0 h1
  have e0 : (0 : Int32).toInt = 0 := rfl
  have e1 : (255 : Int32).toInt = 255 := rfl
  obtain ⟨k, hk⟩ : ∃ k : Nat, x.toInt = k := ⟨x.toInt.toNat, by omega⟩
  have hx : x = Int32.ofNat k := Int32.toInt_inj.mp (by rw [hk, Int32.toInt_ofNat_small (by omega)])
  rw [hx]
  exact t ⟨k, by omega⟩
end StrChars
namespace StrChars.Road
open Jvm Sem ClassFile Op Lib Jvm.Stand Jvm.Free Jvm.Free.XT
open Jvm.Lib.Cold (StaticIs)
abbrev ST : String := "java/lang/String"
/-- every table word that New1's law asks, flat -/
abbrev words : List Jvm.Cond := [.code New1.yN New1.yB 2 none, .initialized ST, .methodLink ST 27 New4.yN, .instanceMethod New4.yN,
  .code New4.yN New4.yB 6 none, .fieldLink ST 38 ST "COMPACT_STRINGS" "Z", .laysFinal ST ST "value" "[B", .fieldLink ST 9 ST "value" "[B", .laysFinal ST ST "coder" "B", .fieldLink ST 15 ST "coder" "B",
  .methodLink ST 1 Lib.objectInit, .instanceMethod Lib.objectInit, .code Lib.objectInit ⟨#[0xb1]⟩ 1 none, .methodLink ST 177 Cmp3.yN, .static Cmp3.yN, .methodLink ST 47 CodL.yN, .static CodL.yN,
  .code Cmp3.yN Cmp3.yB 6 (some (.array .byte)), .initialized U16, .arrayClass .byte, .methodLink U16 115 Cmp5.yN, .static Cmp5.yN, .code Cmp5.yN Cmp5.yB 7 (some .int), .code CodL.yN CodL.yB 2 (some .byte)]
theorem tab_of {a : Array Value} {s : State} (h : ∀ w ∈ words, w.before a s = true) : New1.tab.before a s = true := by
  have h5 : Cmp5.tab.before a s = true := unparts (wk h (.code Cmp5.yN Cmp5.yB 7 (some .int))) (wks h (.initialized Cmp5.yN.cls :: Cmp5.site))
  have hc : CodL.tab.before a s = true := unparts (wk h (.code CodL.yN CodL.yB 2 (some .byte))) (wks h (.initialized CodL.yN.cls :: CodL.site))
  have q5 : ∀ w ∈ Cmp5.tab :: words, w.before a s = true := fun w hw => (List.mem_cons.mp hw).elim (fun e => e ▸ h5) (h w)
  have h3 : Cmp3.tab.before a s = true := unparts (wk q5 (.code Cmp3.yN Cmp3.yB 6 (some (.array .byte)))) (wks q5 (.initialized Cmp3.yN.cls :: Cmp3.site))
  have q3 : ∀ w ∈ Cmp3.tab :: CodL.tab :: words, w.before a s = true := fun w hw => (List.mem_cons.mp hw).elim (fun e => e ▸ h3) fun hw => (List.mem_cons.mp hw).elim (fun e => e ▸ hc) (h w)
  have h4 : New4.tab.before a s = true := unparts (wk q3 (.code New4.yN New4.yB 6 none)) (wks q3 (.initialized New4.yN.cls :: New4.site))
  have q4 : ∀ w ∈ New4.tab :: words, w.before a s = true := fun w hw => (List.mem_cons.mp hw).elim (fun e => e ▸ h4) (h w)
  exact unparts (wk q4 (.code New1.yN New1.yB 2 none)) (wks q4 (.initialized New1.yN.cls :: New1.site))
/-- the words ride from the start Z to the walk's own state -/
theorem moved {Z s : State} {a0 args : Array Value} (hZ : Z.Warmed39 s.vm) (hw : ∀ d ∈ words, d.before a0 Z = true) : ∀ d ∈ words, d.before args s = true := fun d hd => by
  have q := hw d hd
  have t : ∀ d ∈ words, d = .arrayClass .byte ∨ (d.onTables && d.keepsFace) = true := by decide +kernel
  rcases t d hd with rfl | t
  · exact RoadKit.mvA hZ q
  · exact RoadKit.mv hZ q t
/-- WHAT COMES BACK, over the tables of the start Z: h the heap at the call, h' behind it -/
def Q (Z : State) (x : Addr) (A : Cell) (h : Heap) (v : Option Value) (h' : Heap) (L : List Loc) : Prop := v = none ∧ (∀ y ∈ L, y.base = x) ∧ RoadKit.Keep h h' [x] ∧ h'.size = h.size + 1 ∧ RoadKit.Exa Z h' x ST ∧ RoadKit.Fld Z h' x ST "value" "[B" (.ref h.size) ∧ RoadKit.Fld Z h' x ST "coder" "B" (.int 0) ∧
  (∃ V : Cell, RoadKit.Arr Z h' h.size V .byte ∧ V.vm = .none ∧ Z.vm.findClass "[B" = some V.cls ∧ V.slots.size = A.slots.size ∧ ∀ j, j < A.slots.size → V.slots[j]? = some (.int (lo8 (cv A j)))) ∧
  ∀ (O n d : String) (w : Value), RoadKit.Fld Z h x O n d w → RoadKit.slotOf Z O n d ≠ RoadKit.slotOf Z ST "value" "[B" → RoadKit.slotOf Z O n d ≠ RoadKit.slotOf Z ST "coder" "B" → RoadKit.Fld Z h' x O n d w
/-- **new String(chars) AT A CALL, IN THE ROAD'S FORM**: for specialBack behind newO: x the fresh String, b the char[] with the cell A -/
theorem back {p : Program} {l : Launch} {e : Env} {R : Room} {s : State} {args : Array Value} {below : List Frame} {len W : Nat} {Z : State} {a0 : Array Value} {h : Heap} (hZ : Z.Warmed39 s.vm) (hw : ∀ d ∈ words, d.before a0 Z = true) {kI : Nat} (wi : (Jvm.Cond.instantiable ST kI).before a0 Z = true)
    {x b : Addr} {A : Cell} {z : Int32} {v0 c0 : Value} (E : RoadKit.Exa Z h x ST) (V : RoadKit.Fld Z h x ST "value" "[B" v0) (C : RoadKit.Fld Z h x ST "coder" "B" c0) (K : RoadKit.Arr Z h b A .char) (hty : Typed .char A) (S : RoadKit.Sta Z h ST "COMPACT_STRINGS" "Z" (.int z)) (hz : ¬ z = 0)
    (l0 : 0 < A.slots.size) (l2 : A.slots.size ≤ 536870912) (hp : ∀ i, i < A.slots.size → ¬ 255 < cv A i) (hfr : 4 ≤ R.frames) (hlo : W + 65 ≤ R.locals) :
    Back l R p e below s args New1.yN len W (fun P a => a = #[.ref x, .ref b] ∧ P.U.heap = h ∧ P.cells + 1 ≤ R.cells ∧ P.slots + A.slots.size ≤ R.slots)
      (fun P _ v B => ∃ L, Q Z x A h v B.U.heap L ∧ B.locs = P.locs ++ L ∧ B.cells = P.cells + 1 ∧ B.slots = P.slots + A.slots.size) := by
  intro m meth c P g ig mk a X hg hsize hdg hW hn hp'
  obtain ⟨rfl, rfl, r1, r2⟩ := hp'
  have al : Z.vm.Alike P.U.vm := hZ.alike.trans X.warmed.alike
  obtain ⟨D, cfV, kV, iV, fV, hD, gV, stV, knV, obV, asV, slV⟩ := id V
  obtain ⟨D', cfC, kC, iC, fC, hD', gC, stC, -, -, asC, slC⟩ := id C
  cases hD.symm.trans hD'
  obtain ⟨D2, kD, e1, e2, e3, e4, e5⟩ := id E
  cases hD.symm.trans e1
  obtain ⟨c2, k2, i1, i2, i3, -⟩ := Cond.instantiable_spec wi
  cases e2.symm.trans i1
  cases e3.symm.trans i2
  obtain ⟨kU, u1, u2⟩ := al.2.2 _ _ e3
  have hB : Blank ST x D P.U := ⟨hD, ⟨knV, fun q hq => by rw [hq] at obV; cases obV⟩, by rw [al.findClass]; exact e2, kU, u1, by rw [u2]; exact i3, by rw [u2]; exact e5 i3⟩
  have F1 : Found ST "value" "[B" fV P.U := ⟨SBG.found_only al ⟨cfV, kV, iV, gV⟩, stV⟩
  have F2 : Found ST "coder" "B" fC P.U := ⟨SBG.found_only al ⟨cfC, kC, iC, gC⟩, stC⟩
  have hA : Ch b A P.U := ⟨⟨K.1, State.isArrayOf_alike al K.2.1, K.2.2, by omega⟩, hty⟩
  have hS : StaticIs P.U ST "COMPACT_STRINGS" "Z" (.int z) := by
    obtain ⟨cfS, iS, kS, fS, st, cS, t1, t2, t3, t4, t5, t6, t7⟩ := S
    exact StaticIs.there (s := { Z with heap := P.U.heap }) ⟨cfS, iS, kS, fS, st, cS, t1, t2, t3, t4, t5, (fun q => by rw [q] at t6; cases t6), t7⟩ al rfl
  obtain ⟨v, B, X', ⟨⟨hv, E', V', q1, q2, q3, q4, q5, q6, q7, q8, q9, q10, q11⟩, hl, hc, hs⟩, st⟩ := New1.pays x D fV fC b A z (tab_of (moved hZ hw)) hfr hlo m meth c P g ig mk _ X hg hsize hdg hW hn ⟨r1, r2, rfl, hB, F1, F2, hA, hS, hz, l0, l2, hp⟩
  have al' : Z.vm.Alike B.U.vm := hZ.alike.trans X'.warmed.alike
  have hsz : E'.slots.size = D.slots.size := by
    obtain ⟨-, -, -, kB, w1, w2, w3⟩ := q1
    obtain ⟨kB', y1, y2⟩ := al'.2.2 _ _ e3
    rw [q2.2.1] at w1
    cases w1.symm.trans y1
    rw [w3, e5 i3, y2]
  refine ⟨v, B, X', ⟨_, ⟨hv, ?_, ⟨by omega, fun y cy hy hn' => q10 y cy (by simpa using hn') hy, fun y cy hy => ?_⟩, q11, ⟨E', _, q1.1, by rw [q2.2.1]; exact e2, by rw [q2.2.1]; exact e3, by rw [q2.1]; exact obV, fun _ => by rw [hsz]; exact e5 i3⟩,
    ⟨E', cfV, kV, iV, fV, q1.1, gV, stV, by rw [q2.1]; exact knV, by rw [q2.1]; exact obV, by rw [q2.2.1]; exact asV, q3⟩, ⟨E', cfC, kC, iC, fC, q1.1, gC, stC, by rw [q2.1]; exact knV, by rw [q2.1]; exact obV, by rw [q2.2.1]; exact asC, q4⟩,
    ⟨V', ⟨q5.1, State.isArrayOf_alike al'.symm q5.2.1, q5.2.2.1⟩, q6, by rw [← al'.findClass]; exact q7, q8, fun j hj => by have := q9 j hj; rwa [Nat.zero_add] at this⟩, fun O n d w F n1 n2 => ?_⟩, hl, hc, hs⟩, st⟩
  · intro y hy
    simp only [List.mem_cons, List.not_mem_nil, or_false] at hy
    rcases hy with rfl | rfl <;> rfl
  · by_cases q : y = x
    · subst q
      cases hD.symm.trans hy
      exact ⟨E', q1.1, q2.2.1, q2.1, hsz⟩
    · exact ⟨cy, q10 y cy q hy, rfl, rfl, rfl⟩
  · obtain ⟨D3, cf, k, i, f, g1, g2, g3, g4, g5, g6, g7⟩ := F
    cases hD.symm.trans g1
    simp only [RoadKit.slotOf, g2, gV, gC, Option.map_some, Option.getD_some] at n1 n2
    exact ⟨E', cf, k, i, f, q1.1, g2, g3, by rw [q2.1]; exact g4, by rw [q2.1]; exact g5, by rw [q2.2.1]; exact g6, by rw [q2.2.2 f.slot (by simp [n1, n2])]; exact g7⟩
end StrChars.Road
namespace StrChars.Road
open Jvm Sem ClassFile Op Lib Jvm.Stand Jvm.Free Jvm.Free.XT
/-- WHAT COMES BACK, the byte[] as a list of values -/
def QA (Z : State) (x : Addr) (zn : Int32) (cs : List Int32) (h : Heap) (v : Option Value) (h' : Heap) (L : List Loc) : Prop := v = none ∧ (∀ y ∈ L, y.base = x) ∧ RoadKit.Keep h h' [x] ∧ h'.size = h.size + 1 ∧ RoadKit.Exa Z h' x ST ∧ RoadKit.Fld Z h' x ST "value" "[B" (.ref h.size) ∧ RoadKit.Fld Z h' x ST "coder" "B" (.int 0) ∧
  (∃ kb, Z.vm.findClass "[B" = some kb ∧ RoadKit.Arv Z h' h.size kb .byte zn (cs.map fun c => .int (lo8 c)) (.int 0)) ∧
  ∀ (O n d : String) (w : Value), RoadKit.Fld Z h x O n d w → RoadKit.slotOf Z O n d ≠ RoadKit.slotOf Z ST "value" "[B" → RoadKit.slotOf Z O n d ≠ RoadKit.slotOf Z ST "coder" "B" → RoadKit.Fld Z h' x O n d w
/-- **new String(chars) AT A CALL, THE ARRAYS AS LISTS**: the char[] at b holds cs, not empty, no char above 255 -/
theorem backArv {p : Program} {l : Launch} {e : Env} {R : Room} {s : State} {args : Array Value} {below : List Frame} {len W : Nat} {Z : State} {a0 : Array Value} {h : Heap} (hZ : Z.Warmed39 s.vm) (hw : ∀ d ∈ words, d.before a0 Z = true) {kI : Nat} (wi : (Jvm.Cond.instantiable ST kI).before a0 Z = true)
    {x b : Addr} {k : ClassId} {zn z : Int32} {cs : List Int32} {dv v0 c0 : Value} (E : RoadKit.Exa Z h x ST) (V : RoadKit.Fld Z h x ST "value" "[B" v0) (C : RoadKit.Fld Z h x ST "coder" "B" c0) (K : RoadKit.Arv Z h b k .char zn (cs.map Value.int) dv) (S : RoadKit.Sta Z h ST "COMPACT_STRINGS" "Z" (.int z)) (hz : ¬ z = 0)
    (hlen : zn.toNatClampNeg = cs.length) (h0 : 0 < cs.length) (hbig : cs.length ≤ 536870912) (hall : ∀ c ∈ cs, ¬ 255 < c) (hfr : 4 ≤ R.frames) (hlo : W + 65 ≤ R.locals) :
    Back l R p e below s args New1.yN len W (fun P a => a = #[.ref x, .ref b] ∧ P.U.heap = h ∧ P.cells + 1 ≤ R.cells ∧ P.slots + cs.length ≤ R.slots)
      (fun P _ v B => ∃ L, QA Z x zn cs h v B.U.heap L ∧ B.locs = P.locs ++ L ∧ B.cells = P.cells + 1 ∧ B.slots = P.slots + cs.length) := by
  obtain ⟨A, K1, K2, K3, K4, K5, K6⟩ := K
  have e : A.slots.size = cs.length := K3.trans hlen
  have hat : ∀ (i : Nat) (hi : i < cs.length), A.slots[i]? = some (.int cs[i]) := fun i hi => by rw [K5 i (by omega)]; simp [List.getD_eq_getElem?_getD, hi]
  have hcv : ∀ (i : Nat) (hi : i < cs.length), cv A i = cs[i] := fun i hi => by unfold cv; rw [hat i hi]
  have hty : Typed .char A := fun i v hv => by
    have hi : i < A.slots.size := (Array.getElem?_eq_some_iff.mp hv).1
    have q := K5 i hi
    rw [hv] at q
    rw [Option.some.inj q]
    exact K6 i hi
  refine Back.mono (back hZ hw wi E V C K1 hty S hz (by omega) (by omega) (fun i hi => by rw [hcv i (by omega)]; exact hall _ (List.getElem_mem _)) hfr hlo) (fun P a hp => ⟨hp.1, hp.2.1, hp.2.2.1, by rw [e]; exact hp.2.2.2⟩) (fun P a v B hp hq => ?_)
  obtain ⟨L, ⟨q1, q2, q3, q4, q5, q6, q7, ⟨V', v1, v2, v3, v4, v5⟩, q9⟩, hl, hc, hs⟩ := hq
  refine ⟨L, ⟨q1, q2, q3, q4, q5, q6, q7, ⟨V'.cls, v3, V', v1, rfl, by rw [v4, e, hlen], K4, fun i hi => ?_, fun i hi => ?_⟩, q9⟩, hl, hc, by rw [hs, e]⟩
  · have hi' : i < cs.length := by omega
    rw [v5 i (by omega), hcv i hi']; simp [List.getD_eq_getElem?_getD, hi']
  · have hi' : i < cs.length := by omega
    simp only [List.getD_eq_getElem?_getD, List.getElem?_map, List.getElem?_eq_getElem hi', Option.map_some, Option.getD_some]
    exact fits_lo8 _
end StrChars.Road
namespace StrChars.Road
open Jvm Sem ClassFile Op Lib Jvm.Stand Jvm.Free Jvm.Free.XT
/-- WHAT COMES BACK, in the writer's own shape -/
def QV (Z : State) (x : Addr) (N : Int32) (bs : List Int32) (h : Heap) (n0 : Nat) (v : Option Value) (h' : Heap) (L : List Loc) : Prop := v = none ∧ RoadKit.Fr n0 L ∧ RoadKit.Keep h h' [x] ∧ RoadKit.Exa Z h' x ST ∧ RoadKit.Fld Z h' x ST "coder" "B" (.int 0) ∧
  ∃ (t : Addr) (kb : ClassId), n0 ≤ t ∧ h.size ≤ t ∧ ¬ t = x ∧ RoadKit.Fld Z h' x ST "value" "[B" (.ref t) ∧ RoadKit.Arv Z h' t kb .byte N (bs.map Value.int) (.int 0)
/-- **new String(chars) AT A CALL, FOR THE WRITER**: a char[] of n known ints, each 0 to 255 -/
theorem backV {p : Program} {l : Launch} {e : Env} {R : Room} {s : State} {args : Array Value} {below : List Frame} {len W : Nat} {Z : State} {a0 : Array Value} {h : Heap} (hZ : Z.Warmed39 s.vm) (hw : ∀ d ∈ words, d.before a0 Z = true) {kI : Nat} (wi : (Jvm.Cond.instantiable ST kI).before a0 Z = true)
    {x b : Addr} {kC : ClassId} {cs bs : List Int32} {d v0 c0 : Value} {z N : Int32} {n n0 : Nat} (hx0 : n0 ≤ x) (hh0 : n0 ≤ h.size) (E : RoadKit.Exa Z h x ST) (V : RoadKit.Fld Z h x ST "value" "[B" v0) (C : RoadKit.Fld Z h x ST "coder" "B" c0) (K : RoadKit.Arv Z h b kC .char N (cs.map Value.int) d) (S : RoadKit.Sta Z h ST "COMPACT_STRINGS" "Z" (.int z)) (hz : ¬ z = 0)
    (hn : cs.length = n) (hN : N = Int32.ofNat n) (l0 : 0 < n) (l2 : n ≤ 4000) (hp : ∀ c ∈ cs, ¬ c < 0 ∧ ¬ (255 : Int32) < c) (hb : bs = cs.map (fun c => c.toInt8.toInt32)) (hfr : 4 ≤ R.frames) (hlo : W + 65 ≤ R.locals) :
    Back l R p e below s args (⟨"java/lang/String", "<init>", "([C)V"⟩ : MethodName) len W (fun P a => a = #[.ref x, .ref b] ∧ P.U.heap = h ∧ P.cells + 1 ≤ R.cells ∧ P.slots + n ≤ R.slots)
      (fun P _ v B => ∃ L, QV Z x N bs h n0 v B.U.heap L ∧ B.locs = P.locs ++ L ∧ B.cells = P.cells + 1 ∧ B.slots = P.slots + n) := by
  subst hn hN hb
  refine Back.mono (backArv hZ hw wi E V C K S hz (n32 (by omega)) l0 (by omega) (fun c hc => (hp c hc).2) hfr hlo) (fun P a hp => hp) (fun P a v B hp hq => ?_)
  obtain ⟨L, ⟨q1, q2, q3, q4, q5, q6, q7, ⟨kb, v1, v2⟩, q9⟩, hl, hc, hs⟩ := hq
  exact ⟨L, ⟨q1, fun y hy => by rw [q2 y hy]; exact hx0, q3, q5, q7, h.size, kb, hh0, Nat.le_refl _, Nat.ne_of_gt E.lt, q6, by rw [List.map_map]; exact v2⟩, hl, hc, hs⟩
end StrChars.Road
namespace StrChars
open Jvm Sem ClassFile Op Lib Jvm.Stand Jvm.Free.XT Jvm.Free.ALB Jvm.Free.JM Jvm.Free
open Jvm.Lib.Cold (StaticIs)
def hi8 (x : Int32) : Int32 := lo8 (x >>> ((8 : Int32) &&& 31))
/-- what StringUTF16.getChar makes of two bytes -/
def pairCh (u v : Int32) : Int32 := (((u &&& 255) <<< ((0 : Int32) &&& 31)) ||| ((v &&& 255) <<< ((8 : Int32) &&& 31))).toUInt32.toUInt16.toUInt32.toInt32
theorem lo8_and (x : Int32) : (lo8 x &&& 255).toBitVec.toNat = x.toBitVec.toNat % 256 := by
  have h : (lo8 x).toBitVec = (x.toBitVec.signExtend 8).signExtend 32 := by rw [lo8, Int8.toBitVec_toInt32, Int32.toBitVec_toInt8]
  rw [Int32.toBitVec_and, BitVec.toNat_and, h]
  have e : ((x.toBitVec.signExtend 8).signExtend 32).toNat % 256 = x.toBitVec.toNat % 256 := by
    rw [BitVec.toNat_signExtend]
    have hlt := x.toBitVec.isLt
    simp only [BitVec.toNat_setWidth, BitVec.toNat_signExtend]
    split <;> split <;> omega
  rw [← e]
  exact Nat.and_two_pow_sub_one_eq_mod _ 8
theorem pair_says {c : Int32} (h0 : ¬ c < 0) (h1 : ¬ 65535 < c) : pairCh (lo8 c) (hi8 c) = c := by
  rw [Int32.lt_iff_toInt_lt] at h0 h1
  have e0 : (0 : Int32).toInt = 0 := rfl
  have e1 : (65535 : Int32).toInt = 65535 := rfl
  have hc : c.toInt = c.toBitVec.toNat := by
    have := c.toBitVec.isLt
    have e : c.toInt = c.toBitVec.toInt := rfl
    rw [e] at h0 h1
    rw [e]
    rw [BitVec.toInt_eq_toNat_cond] at h0 h1 ⊢
    split at h0 <;> split <;> omega
  have hn : c.toBitVec.toNat < 65536 := by omega
  have a1 := lo8_and c
  have a2 : (hi8 c &&& 255).toBitVec.toNat = c.toBitVec.toNat / 256 := by
    rw [hi8, lo8_and]
    have e : ((8 : Int32) &&& 31) = 8 := by decide
    rw [e, Int32.toBitVec_shiftRight]
    have e2 : ((8 : Int32).toBitVec.smod 32) = 8#32 := by decide
    rw [e2, BitVec.sshiftRight_eq', BitVec.toNat_sshiftRight_of_msb_false (by rw [BitVec.msb_eq_false_iff_two_mul_lt]; omega)]
    show c.toBitVec.toNat >>> 8 % 256 = _
    rw [Nat.shiftRight_eq_div_pow]
    omega
  unfold pairCh
  apply Int32.toBitVec_inj.mp
  apply BitVec.eq_of_toNat_eq
  have f0 : ((0 : Int32) &&& 31) = 0 := by decide
  have f8 : ((8 : Int32) &&& 31) = 8 := by decide
  rw [f0, f8]
  have g : (((lo8 c &&& 255) <<< (0 : Int32)) ||| ((hi8 c &&& 255) <<< (8 : Int32))).toBitVec.toNat = c.toBitVec.toNat := by
    rw [Int32.toBitVec_or, Int32.toBitVec_shiftLeft, Int32.toBitVec_shiftLeft]
    have s0 : ((0 : Int32).toBitVec.smod 32) = 0#32 := by decide
    have s8 : ((8 : Int32).toBitVec.smod 32) = 8#32 := by decide
    rw [s0, s8, BitVec.toNat_or]
    simp only [BitVec.shiftLeft_eq', BitVec.toNat_shiftLeft, a1, a2]
    show (c.toBitVec.toNat % 256) <<< 0 % 2 ^ 32 ||| (c.toBitVec.toNat / 256) <<< 8 % 2 ^ 32 = _
    rw [Nat.shiftLeft_zero, Nat.mod_eq_of_lt (show c.toBitVec.toNat % 256 < 2 ^ 32 by omega), Nat.mod_eq_of_lt (show (c.toBitVec.toNat / 256) <<< 8 < 2 ^ 32 by rw [Nat.shiftLeft_eq]; omega), Nat.or_comm, ← Nat.shiftLeft_add_eq_or_of_lt (by omega), Nat.shiftLeft_eq]
    omega
  show BitVec.toNat (((((lo8 c &&& 255) <<< (0 : Int32)) ||| ((hi8 c &&& 255) <<< (8 : Int32))).toBitVec.setWidth 16).setWidth 32) = _
  rw [BitVec.toNat_setWidth, BitVec.toNat_setWidth, g]
  omega
end StrChars
namespace StrChars
open Jvm Sem ClassFile Op Lib Jvm.Stand Jvm.Free.XT Jvm.Free.ALB Jvm.Free.JM Jvm.Free
open Jvm.Lib.Cold (StaticIs)
/-- the array's cell V codes the n chars f 0 .. f (n - 1) by the coder cd, as the JDK does: coder 1 just where some char is above 255 -/
def Cod (cd : Int32) (n : Nat) (f : Nat → Int32) (V : Cell) : Prop := (cd = 0 ∧ V.slots.size = n ∧ ∀ j, j < n → V.slots[j]? = some (.int (lo8 (f j))) ∧ ¬ 255 < f j) ∨ (cd = 1 ∧ V.slots.size = 2 * n ∧ (∀ j, j < n → V.slots[2 * j]? = some (.int (lo8 (f j))) ∧ V.slots[2 * j + 1]? = some (.int (hi8 (f j)))) ∧ ∃ j, j < n ∧ 255 < f j)
/-- **x is a String of the n chars f 0 .. f (n - 1)**, Latin-1 or UTF-16; its array at t has the cell V -/
def Txt (x t : Addr) (V : Cell) (cd : Int32) (n : Nat) (f : Nat → Int32) (U : State) : Prop := Exact "java/lang/String" x U ∧ Has x "java/lang/String" "value" "[B" (.ref t) U ∧ Has x "java/lang/String" "coder" "B" (.int cd) U ∧ XT.Arr .byte t V U ∧ Cod cd n f V ∧ ∀ j, j < n → ¬ f j < 0 ∧ ¬ 65535 < f j
theorem Txt.mv {x t : Addr} {V : Cell} {cd : Int32} {n : Nat} {f : Nat → Int32} {U U' : State} (h : Txt x t V cd n f U) (hal : U.vm.Alike U'.vm) (hh : U'.heap = U.heap) : Txt x t V cd n f U' := ⟨h.1.mv hal hh, h.2.1.mv hal hh, h.2.2.1.mv hal hh, h.2.2.2.1.mv hal hh, h.2.2.2.2⟩
end StrChars
namespace StrChars.Road
open Jvm Sem ClassFile Op Lib Jvm.Stand Jvm.Free Jvm.Free.XT
open Jvm.Lib.Cold (StaticIs)
theorem consq {a : Array Value} {s : State} {c : Jvm.Cond} {L : List Jvm.Cond} (h0 : c.before a s = true) (h : ∀ w ∈ L, w.before a s = true) : ∀ w ∈ c :: L, w.before a s = true := fun w hw => (List.mem_cons.mp hw).elim (fun e => e ▸ h0) (h w)
/-- the bytes of the chars cs, low before high -/
def wideBytes : List Int32 → List Value
  | [] => []
  | c :: cs => .int (lo8 c) :: .int (hi8 c) :: wideBytes cs
theorem wide_lo (d : Value) : ∀ (cs : List Int32) (j : Nat), j < cs.length → (wideBytes cs).getD (2 * j) d = .int (lo8 (cs.getD j 0))
  | [], j, h => absurd h (Nat.not_lt_zero j)
  | c :: cs, 0, _ => rfl
  | c :: cs, j + 1, h => by
    have q := wide_lo d cs j (by simpa using h)
    rw [show 2 * (j + 1) = 2 * j + 1 + 1 from by omega]
    simpa [wideBytes] using q
theorem wide_hi (d : Value) : ∀ (cs : List Int32) (j : Nat), j < cs.length → (wideBytes cs).getD (2 * j + 1) d = .int (hi8 (cs.getD j 0))
  | [], j, h => absurd h (Nat.not_lt_zero j)
  | c :: cs, 0, _ => rfl
  | c :: cs, j + 1, h => by
    have q := wide_hi d cs j (by simpa using h)
    rw [show 2 * (j + 1) + 1 = 2 * j + 1 + 1 + 1 from by omega]
    simpa [wideBytes] using q
theorem low_at (d : Value) (cs : List Int32) (j : Nat) (h : j < cs.length) : (cs.map fun c => Value.int (lo8 c)).getD j d = .int (lo8 (cs.getD j 0)) := by
  simp [List.getD_eq_getElem?_getD, h]
/-- an array of N2 bytes vs codes the chars cs by the coder cd -/
def CodA (cs : List Int32) (cd N2 : Int32) (vs : List Value) : Prop := (cd = 0 ∧ N2 = Int32.ofNat cs.length ∧ vs = (cs.map fun c => Value.int (lo8 c)) ∧ ∀ c ∈ cs, ¬ 255 < c) ∨ (cd = 1 ∧ N2 = Int32.ofNat (2 * cs.length) ∧ vs = wideBytes cs ∧ ∃ c ∈ cs, 255 < c)
theorem CodA.cod {cs : List Int32} {cd N2 : Int32} {vs : List Value} {V : Cell} (h : CodA cs cd N2 vs) (hn : 2 * cs.length < 2 ^ 31) (hs : V.slots.size = N2.toNatClampNeg) (hv : RoadKit.Has V vs (.int 0)) : Cod cd cs.length (fun j => cs.getD j 0) V := by
  rcases h with ⟨rfl, rfl, rfl, h⟩ | ⟨rfl, rfl, rfl, c, hc, hw⟩
  · rw [n32 (by omega)] at hs
    exact Or.inl ⟨rfl, hs, fun j hj => ⟨by rw [hv j (by omega), low_at _ _ _ hj], by
      have e : cs.getD j 0 = cs[j] := by simp [List.getD_eq_getElem?_getD, hj]
      show ¬ 255 < cs.getD j 0
      rw [e]; exact h _ (List.getElem_mem _)⟩⟩
  · rw [n32 (by omega)] at hs
    obtain ⟨j, hj, rfl⟩ := List.getElem_of_mem hc
    exact Or.inr ⟨rfl, hs, fun j hj => ⟨by rw [hv _ (by omega), wide_lo _ _ _ hj], by rw [hv _ (by omega), wide_hi _ _ _ hj]⟩, j, hj, by
      have e : cs.getD j 0 = cs[j] := by simp [List.getD_eq_getElem?_getD, hj]
      show 255 < cs.getD j 0
      rw [e]; exact hw⟩
/-- an object of exactly java/lang/String, its two fields found: as the laws ask it -/
theorem strObj {Z U : State} {a0 : Array Value} {kI : Nat} (wi : (Jvm.Cond.instantiable ST kI).before a0 Z = true) (al : Z.vm.Alike U.vm) {x : Addr} {v0 c0 : Value} (E : RoadKit.Exa Z U.heap x ST) (V : RoadKit.Fld Z U.heap x ST "value" "[B" v0) (C : RoadKit.Fld Z U.heap x ST "coder" "B" c0) :
    ∃ (D : Cell) (fV fC : Field), Blank ST x D U ∧ Found ST "value" "[B" fV U ∧ Found ST "coder" "B" fC U ∧ D.slots[fV.slot]? = some v0 ∧ D.slots[fC.slot]? = some c0 ∧ RoadKit.slotOf Z ST "value" "[B" = fV.slot ∧ RoadKit.slotOf Z ST "coder" "B" = fC.slot := by
  obtain ⟨D, cfV, kV, iV, fV, hD, gV, stV, knV, obV, asV, slV⟩ := V
  obtain ⟨D', cfC, kC, iC, fC, hD', gC, stC, -, -, asC, slC⟩ := C
  cases hD.symm.trans hD'
  obtain ⟨D2, kD, e1, e2, e3, e4, e5⟩ := E
  cases hD.symm.trans e1
  obtain ⟨c2, k2, i1, i2, i3, -⟩ := Cond.instantiable_spec wi
  cases e2.symm.trans i1
  cases e3.symm.trans i2
  obtain ⟨kU, u1, u2⟩ := al.2.2 _ _ e3
  exact ⟨D, fV, fC, ⟨hD, ⟨knV, fun q hq => by rw [hq] at obV; cases obV⟩, by rw [al.findClass]; exact e2, kU, u1, by rw [u2]; exact i3, by rw [u2]; exact e5 i3⟩, ⟨SBG.found_only al ⟨cfV, kV, iV, gV⟩, stV⟩, ⟨SBG.found_only al ⟨cfC, kC, iC, gC⟩, stC⟩, slV, slC, by simp [RoadKit.slotOf, gV], by simp [RoadKit.slotOf, gC]⟩
theorem sta_is {Z U : State} (al : Z.vm.Alike U.vm) {C n d : String} {v : Value} (S : RoadKit.Sta Z U.heap C n d v) : StaticIs U C n d v := by
  obtain ⟨cfS, iS, kS, fS, st, cS, t1, t2, t3, t4, t5, t6, t7⟩ := S
  exact StaticIs.there (s := { Z with heap := U.heap }) ⟨cfS, iS, kS, fS, st, cS, t1, t2, t3, t4, t5, (fun q => by rw [q] at t6; cases t6), t7⟩ al rfl
end StrChars.Road
namespace StrChars
open Jvm Sem ClassFile Op Lib Jvm.Stand Jvm.Free.XT Jvm.Free.ALB Jvm.Free.JM Jvm.Free
open Jvm.Lib.Cold (StaticIs)
/-- what place i of a byte[]'s cell holds -/
def yv (A : Cell) (i : Nat) : Int32 := match A.slots[i]? with | some (.int x) => x | _ => 0
theorem yv_get {a : Addr} {A : Cell} {U : State} (h : XT.Arr .byte a A U) (ht : Typed .byte A) {i : Nat} (hi : i < A.slots.size) : A.slots[i]? = some (.int (yv A i)) := by
  have e := Array.getElem?_eq_getElem hi
  have f := ht i _ e
  unfold yv; rw [e]
  generalize A.slots[i] = v at f
  cases v <;> simp [fits] at f ⊢
/-- the two arrays are equal, place for place -/
def EqC (A B : Cell) : Prop := A.slots.size = B.slots.size ∧ ∀ i, i < A.slots.size → yv A i = yv B i
/-- a boolean that says whether p -/
def Says01 (q : Prop) (r : Option Value) (s u : State) : Prop := ∃ v : Int32, r = some (.int v) ∧ u.heap = s.heap ∧ ((v = 1 ∧ q) ∨ (v = 0 ∧ ¬ q))
theorem Says01.mv {q : Prop} : ∀ r (U U' V V' : State), U'.heap = U.heap → V.vm.Alike V'.vm → V'.heap = V.heap → Says01 q r U V → Says01 q r U' V' :=
  fun r U U' V V' h1 _ h2 ⟨v, a, b, c⟩ => ⟨v, a, by rw [h1, h2]; exact b, c⟩
namespace LEq
def yN : MethodName := ⟨"java/lang/StringLatin1", "equals", "([B[B)Z"⟩
abbrev yB : ByteArray := jdk_43_method_13_code
theorem d0 : decode yB 0 = .ok (.aload_n 0, 1) := by decide +kernel
theorem d1 : decode yB 1 = .ok (.arraylength, 1) := by decide +kernel
theorem d2 : decode yB 2 = .ok (.aload_n 1, 1) := by decide +kernel
theorem d3 : decode yB 3 = .ok (.arraylength, 1) := by decide +kernel
theorem d4 : decode yB 4 = .ok (.if_icmp (.ne) 30, 3) := by decide +kernel
theorem d7 : decode yB 7 = .ok (.iconst 0, 1) := by decide +kernel
theorem d8 : decode yB 8 = .ok (.istore_n 2, 1) := by decide +kernel
theorem d9 : decode yB 9 = .ok (.iload_n 2, 1) := by decide +kernel
theorem d10 : decode yB 10 = .ok (.aload_n 0, 1) := by decide +kernel
theorem d11 : decode yB 11 = .ok (.arraylength, 1) := by decide +kernel
theorem d12 : decode yB 12 = .ok (.if_icmp (.ge) 20, 3) := by decide +kernel
theorem d15 : decode yB 15 = .ok (.aload_n 0, 1) := by decide +kernel
theorem d16 : decode yB 16 = .ok (.iload_n 2, 1) := by decide +kernel
theorem d17 : decode yB 17 = .ok (.baload, 1) := by decide +kernel
theorem d18 : decode yB 18 = .ok (.aload_n 1, 1) := by decide +kernel
theorem d19 : decode yB 19 = .ok (.iload_n 2, 1) := by decide +kernel
theorem d20 : decode yB 20 = .ok (.baload, 1) := by decide +kernel
theorem d21 : decode yB 21 = .ok (.if_icmp (.eq) 5, 3) := by decide +kernel
theorem d24 : decode yB 24 = .ok (.iconst 0, 1) := by decide +kernel
theorem d25 : decode yB 25 = .ok (.ireturn, 1) := by decide +kernel
theorem d26 : decode yB 26 = .ok (.iinc 2 1, 3) := by decide +kernel
theorem d29 : decode yB 29 = .ok (.goto (-20), 3) := by decide +kernel
theorem d32 : decode yB 32 = .ok (.iconst 1, 1) := by decide +kernel
theorem d33 : decode yB 33 = .ok (.ireturn, 1) := by decide +kernel
theorem d34 : decode yB 34 = .ok (.iconst 0, 1) := by decide +kernel
theorem d35 : decode yB 35 = .ok (.ireturn, 1) := by decide +kernel
def site : List Cond := []
def tab : Cond := tabOf yN yB 3 (some .boolean) site
def P (a : Addr) (A : Cell) (b : Addr) (B : Cell) (args : Array Value) (s : State) : Prop := args = #[.ref a, .ref b] ∧ XT.Arr .byte a A s ∧ Typed .byte A ∧ XT.Arr .byte b B s ∧ Typed .byte B
/-- whether two byte[] are equal, place for place -/
theorem law (l : Launch) (a : Addr) (A : Cell) (b : Addr) (B : Cell) : Law l yN 2 2 0 0 yB 3 (some .boolean) site (P a A b B) (Says01 (EqC A B)) [] 0 0 := by
  refine Law.of_walk (plainFor_of_name (by decide +kernel)) (by decide +kernel) (by decide +kernel) (by decide) (fun _ _ h => by rw [h.1]; rfl) (fun _ U U' hal hh h => ⟨h.1, h.2.1.mv hal hh, h.2.2.1, h.2.2.2.1.mv hal hh, h.2.2.2.2⟩) (fun r U U' V V' h1 hal h2 h => Says01.mv r U U' V V' h1 hal h2 h) ?_
  intro p e s m args below meth c s₁ X0 hexec hbytes hml hret hlk hnm hown hh0 W hP
  obtain ⟨rfl, hA, tA, hB, tB⟩ := hP
  have a31 := hA.2.2.2
  have b31 := hB.2.2.2
  have hA0 := hA.mv X0.warmed.alike hh0
  have hB0 := hB.mv X0.warmed.alike hh0
  have c1 : Steps p.tables e below (s₁.setTop (entryFrame m #[.ref a, .ref b] 3)) (s₁.setTop (mkF m 0 #[.val (.ref a), .val (.ref b), .unset] [])) := entry rfl
  have c2 : Steps p.tables e below (s₁.setTop (entryFrame m #[.ref a, .ref b] 3)) (s₁.setTop (mkF m 4 #[.val (.ref a), .val (.ref b), .unset] [.int (Int32.ofNat B.slots.size), .int (Int32.ofNat A.slots.size)])) := c1.trans (by
    refine XS.aloadN X0.here hexec rfl (hb hbytes d0) rfl rfl ?_
    refine X0.alen hexec hA0 rfl rfl (hb hbytes d1) ?_
    refine XS.aloadN X0.here hexec rfl (hb hbytes d2) rfl rfl ?_
    refine X0.alen hexec hB0 rfl rfl (hb hbytes d3) ?_
    exact Steps.refl _)
  by_cases hs : A.slots.size = B.slots.size
  · have c3 : Steps p.tables e below (s₁.setTop (entryFrame m #[.ref a, .ref b] 3)) (s₁.setTop (mkF m 9 #[.val (.ref a), .val (.ref b), .val (.int 0)] [])) := c2.trans (by
      refine XS.icmpNo X0.here hexec rfl (hb hbytes d4) rfl (ii_ne_f (by rw [hs])) ?_
      refine iconstV X0.here hexec rfl 0 (hb hbytes d7) (by decide) ?_
      refine XS.istoreN X0.here hexec rfl (hb hbytes d8) rfl rfl ?_
      exact Steps.refl _)
    have loop : ∀ (r i : Nat), i + r = A.slots.size → (∀ j, j < i → yv A j = yv B j) → Steps p.tables e below (s₁.setTop (entryFrame m #[.ref a, .ref b] 3)) (s₁.setTop (mkF m 9 #[.val (.ref a), .val (.ref b), .val (.int (Int32.ofNat i))] [])) → ∃ (pc : Nat) (Ls : Array Slot) (v : Int32), (pc = 25 ∨ pc = 33) ∧ ((v = 1 ∧ EqC A B) ∨ (v = 0 ∧ ¬ EqC A B)) ∧ Steps p.tables e below (s₁.setTop (entryFrame m #[.ref a, .ref b] 3)) (s₁.setTop (mkF m pc Ls [.int v])) := by
      intro r
      induction r with
      | zero =>
        intro i hi he cl
        exact ⟨33, _, 1, Or.inr rfl, Or.inl ⟨rfl, hs, fun j hj => he j (by omega)⟩, cl.trans (by
          refine XS.iloadN X0.here hexec rfl (hb hbytes d9) rfl ?_
          refine XS.aloadN X0.here hexec rfl (hb hbytes d10) rfl rfl ?_
          refine X0.alen hexec hA0 rfl rfl (hb hbytes d11) ?_
          refine XS.icmpYes X0.here hexec rfl (pc0 := 12) rfl (hb hbytes d12) rfl (ii_ge_t (nlt32 (by omega) (by omega))) (by decide) rfl ?_
          refine iconstV X0.here hexec rfl 1 (hb hbytes d32) (by decide) ?_
          exact Steps.refl _)⟩
      | succ r ih =>
        intro i hi he cl
        have c4 : Steps p.tables e below (s₁.setTop (entryFrame m #[.ref a, .ref b] 3)) (s₁.setTop (mkF m 21 #[.val (.ref a), .val (.ref b), .val (.int (Int32.ofNat i))] [.int (yv B i), .int (yv A i)])) := cl.trans (by
          refine XS.iloadN X0.here hexec rfl (hb hbytes d9) rfl ?_
          refine XS.aloadN X0.here hexec rfl (hb hbytes d10) rfl rfl ?_
          refine X0.alen hexec hA0 rfl rfl (hb hbytes d11) ?_
          refine XS.icmpNo X0.here hexec rfl (hb hbytes d12) rfl (ii_ge_f (lt32 (by omega) (by omega))) ?_
          refine XS.aloadN X0.here hexec rfl (hb hbytes d15) rfl rfl ?_
          refine XS.iloadN X0.here hexec rfl (hb hbytes d16) rfl ?_
          refine X0.aget hexec hA0 rfl (yv_get hA tA (i := i) (by omega)) rfl rfl (hb hbytes d17) ?_
          refine XS.aloadN X0.here hexec rfl (hb hbytes d18) rfl rfl ?_
          refine XS.iloadN X0.here hexec rfl (hb hbytes d19) rfl ?_
          refine X0.aget hexec hB0 rfl (yv_get hB tB (i := i) (by omega)) rfl rfl (hb hbytes d20) ?_
          exact Steps.refl _)
        by_cases hv : yv A i = yv B i
        · have c5 : Steps p.tables e below (s₁.setTop (entryFrame m #[.ref a, .ref b] 3)) (s₁.setTop (mkF m 9 #[.val (.ref a), .val (.ref b), .val (.int (Int32.ofNat i + 1))] [])) := c4.trans (by
            refine XS.icmpYes X0.here hexec rfl (pc0 := 21) rfl (hb hbytes d21) rfl (ii_eq_t hv) (by decide) rfl ?_
            refine iincV X0.here hexec rfl 1 (hb hbytes d26) (by decide) rfl rfl ?_
            refine XS.goto X0.here hexec rfl (pc0 := 29) rfl (hb hbytes d29) (by decide) rfl ?_
            exact Steps.refl _)
          rw [succ32] at c5
          exact ih (i + 1) (by omega) (fun j hj => by
            by_cases e : j = i
            · rw [e]; exact hv
            · exact he j (by omega)) c5
        · exact ⟨25, _, 0, Or.inl rfl, Or.inr ⟨rfl, fun q => hv (q.2 i (by omega))⟩, c4.trans (by
            refine XS.icmpNo X0.here hexec rfl (hb hbytes d21) rfl (ii_eq_f hv) ?_
            refine iconstV X0.here hexec rfl 0 (hb hbytes d24) (by decide) ?_
            exact Steps.refl _)⟩
    obtain ⟨pc, Ls, v, hpc, hv, cz⟩ := loop A.slots.size 0 (by omega) (fun j hj => absurd hj (Nat.not_lt_zero j)) c3
    have nv : narrow .boolean (.int v) = .int v := by rcases hv with ⟨rfl, -⟩ | ⟨rfl, -⟩ <;> rfl
    rcases hpc with rfl | rfl
    · exact ⟨s₁, some (.int v), _, _, _, X0, rfl, rfl, rfl, (fun h => by cases h), ⟨v, rfl, hh0, hv⟩, fun fs hl => cz.trans (X0.ireturnOut hexec hret nv (Or.inr (Or.inl rfl)) (hb hbytes d25) hl)⟩
    · exact ⟨s₁, some (.int v), _, _, _, X0, rfl, rfl, rfl, (fun h => by cases h), ⟨v, rfl, hh0, hv⟩, fun fs hl => cz.trans (X0.ireturnOut hexec hret nv (Or.inr (Or.inl rfl)) (hb hbytes d33) hl)⟩
  · have c3 : Steps p.tables e below (s₁.setTop (entryFrame m #[.ref a, .ref b] 3)) (s₁.setTop (mkF m 35 #[.val (.ref a), .val (.ref b), .unset] [.int 0])) := c2.trans (by
      refine XS.icmpYes X0.here hexec rfl (pc0 := 4) rfl (hb hbytes d4) rfl (ii_ne_t (ne32 a31 b31 hs)) (by decide) rfl ?_
      refine iconstV X0.here hexec rfl 0 (hb hbytes d34) (by decide) ?_
      exact Steps.refl _)
    exact ⟨s₁, some (.int 0), _, _, _, X0, rfl, rfl, rfl, (fun h => by cases h), ⟨0, rfl, hh0, Or.inr ⟨rfl, fun q => hs q.1⟩⟩, fun fs hl => c3.trans (X0.ireturnOut hexec hret rfl (Or.inr (Or.inl rfl)) (hb hbytes d35) hl)⟩
end LEq
theorem Cod.ty {cd : Int32} {n : Nat} {f : Nat → Int32} {V : Cell} (h : Cod cd n f V) : Typed .byte V := fun i v hv => by
  have hi : i < V.slots.size := (Array.getElem?_eq_some_iff.mp hv).1
  rcases h with ⟨-, k1, k2⟩ | ⟨-, k1, k2, -⟩
  · rw [(k2 i (by omega)).1] at hv; cases hv; exact fits_lo8 _
  · rcases Nat.mod_two_eq_zero_or_one i with e | e
    · obtain ⟨j, rfl⟩ : ∃ j, i = 2 * j := ⟨i / 2, by omega⟩
      rw [(k2 j (by omega)).1] at hv; cases hv; exact fits_lo8 _
    · obtain ⟨j, rfl⟩ : ∃ j, i = 2 * j + 1 := ⟨i / 2, by omega⟩
      rw [(k2 j (by omega)).2] at hv; cases hv; exact fits_lo8 _
/-- the same text -/
def SameT (n : Nat) (f : Nat → Int32) (k : Nat) (g : Nat → Int32) : Prop := n = k ∧ ∀ j, j < n → f j = g j
theorem lo8_inj {x y : Int32} (h0 : ¬ x < 0) (h1 : ¬ 255 < x) (k0 : ¬ y < 0) (k1 : ¬ 255 < y) (h : lo8 x = lo8 y) : x = y := by
  rw [← lo8_mask h0 h1, ← lo8_mask k0 k1, h]
/-- arrays coded by one coder are equal just where the texts are -/
theorem Cod.eqv {cd : Int32} {n k : Nat} {f g : Nat → Int32} {V V' : Cell} (h : Cod cd n f V) (h' : Cod cd k g V') (hf : ∀ j, j < n → ¬ f j < 0 ∧ ¬ 65535 < f j) (hg : ∀ j, j < k → ¬ g j < 0 ∧ ¬ 65535 < g j) : EqC V V' ↔ SameT n f k g := by
  have yvv : ∀ {W : Cell} {i : Nat} {x : Int32}, W.slots[i]? = some (.int x) → yv W i = x := fun q => by unfold yv; rw [q]
  rcases h with ⟨rfl, k1, k2⟩ | ⟨rfl, k1, k2, -⟩
  · rcases h' with ⟨-, m1, m2⟩ | ⟨e, -⟩
    · constructor
      · rintro ⟨e1, e2⟩
        refine ⟨by omega, fun j hj => ?_⟩
        have q := e2 j (by omega)
        rw [yvv (k2 j hj).1, yvv (m2 j (by omega)).1] at q
        exact lo8_inj (hf j hj).1 (k2 j hj).2 (hg j (by omega)).1 (m2 j (by omega)).2 q
      · rintro ⟨rfl, e2⟩
        refine ⟨by omega, fun j hj => ?_⟩
        rw [yvv (k2 j (by omega)).1, yvv (m2 j (by omega)).1, e2 j (by omega)]
    · exact absurd e (by decide)
  · rcases h' with ⟨e, -⟩ | ⟨-, m1, m2, -⟩
    · exact absurd e (by decide)
    · constructor
      · rintro ⟨e1, e2⟩
        refine ⟨by omega, fun j hj => ?_⟩
        have q1 := e2 (2 * j) (by omega)
        have q2 := e2 (2 * j + 1) (by omega)
        rw [yvv (k2 j hj).1, yvv (m2 j (by omega)).1] at q1
        rw [yvv (k2 j hj).2, yvv (m2 j (by omega)).2] at q2
        rw [← pair_says (hf j hj).1 (hf j hj).2, ← pair_says (hg j (by omega)).1 (hg j (by omega)).2, q1, q2]
      · rintro ⟨rfl, e2⟩
        refine ⟨by omega, fun i hi => ?_⟩
        rcases Nat.mod_two_eq_zero_or_one i with e | e
        · obtain ⟨j, rfl⟩ : ∃ j, i = 2 * j := ⟨i / 2, by omega⟩
          rw [yvv (k2 j (by omega)).1, yvv (m2 j (by omega)).1, e2 j (by omega)]
        · obtain ⟨j, rfl⟩ : ∃ j, i = 2 * j + 1 := ⟨i / 2, by omega⟩
          rw [yvv (k2 j (by omega)).2, yvv (m2 j (by omega)).2, e2 j (by omega)]
/-- two codings differ: so do the texts -/
theorem Cod.dif {cd cd' : Int32} {n k : Nat} {f g : Nat → Int32} {V V' : Cell} (h : Cod cd n f V) (h' : Cod cd' k g V') (hne : ¬ cd = cd') : ¬ SameT n f k g := by
  rintro ⟨rfl, e⟩
  rcases h with ⟨rfl, -, k2⟩ | ⟨rfl, -, -, j, hj, hw⟩
  · rcases h' with ⟨rfl, -⟩ | ⟨-, -, -, j, hj, hw⟩
    · exact hne rfl
    · exact (k2 j hj).2 (by rw [e j hj]; exact hw)
  · rcases h' with ⟨-, -, m2⟩ | ⟨rfl, -⟩
    · exact (m2 j hj).2 (by rw [← e j hj]; exact hw)
    · exact hne rfl
/-- an object of exactly C is an instance of C -/
theorem cinst {p : Program} {l : Launch} {e : Env} {R : Room} {s : State} {m : MethodId} {args : Array Value} {below : List Frame} {meth : Method} {c : Code} {T : State} {locs : List Loc} {cells slots : Nat} (X : Stand p l e R s m args below meth c T locs cells slots) (hexec : p.tables.exec = Jvm.exec) {own C : String} {index : Nat} (hown : s.vm.findClass own = some m.cls) (hlink : (Cond.classLink own index C).before args s = true) {a : Addr} (hE : Exact C a T)
    {g : JFrame} (hg : g.method = m) {rest : List Value} (hstack : g.stack = .ref a :: rest) (hdg : decode c.code g.pc = .ok (.instanceof index, 3)) :
    ∃ T', Stand p l e R s m args below meth c T' locs cells slots ∧ T'.heap = T.heap ∧ ∀ target, Steps p.tables e below (T'.setTop { g with pc := g.pc + 3, stack := .int 1 :: rest }) target → Steps p.tables e below (T.setTop g) target := by
  obtain ⟨cB, h1, D, h2, h3, h4⟩ := hE
  have h1' : s.vm.findClass C = some cB := by rw [← X.warmed.alike.findClass]; exact h1
  obtain ⟨vm', X', st⟩ := X.instanceofYes hexec hown hlink h2 h4 h1' (by rw [h3]; exact Jvm.Free.SB.assignable_self _ _) hg hstack hdg
  exact ⟨_, X', rfl, st⟩
theorem cself {p : Program} {l : Launch} {e : Env} {R : Room} {s : State} {m : MethodId} {args : Array Value} {below : List Frame} {meth : Method} {c : Code} {T : State} {locs : List Loc} {cells slots : Nat} (X : Stand p l e R s m args below meth c T locs cells slots) (hexec : p.tables.exec = Jvm.exec) {own C : String} {index : Nat} (hown : s.vm.findClass own = some m.cls) (hlink : (Cond.classLink own index C).before args s = true) {a : Addr} (hE : Exact C a T)
    {g : JFrame} (hg : g.method = m) {rest : List Value} (hstack : g.stack = .ref a :: rest) (hdg : decode c.code g.pc = .ok (.checkcast index, 3)) :
    ∃ T', Stand p l e R s m args below meth c T' locs cells slots ∧ T'.heap = T.heap ∧ ∀ target, Steps p.tables e below (T'.setTop { g with pc := g.pc + 3, stack := .ref a :: rest }) target → Steps p.tables e below (T.setTop g) target := by
  obtain ⟨cB, h1, D, h2, h3, h4⟩ := hE
  have h1' : s.vm.findClass C = some cB := by rw [← X.warmed.alike.findClass]; exact h1
  obtain ⟨vm', X', st⟩ := X.checkcastYes hexec hown hlink h2 h4 h1' (by rw [h3]; exact Jvm.Free.SB.assignable_self _ _) hg hstack hdg
  exact ⟨_, X', rfl, fun t h => st t (by rw [← hstack] at h; exact h)⟩
namespace SEq
def yN : MethodName := ⟨"java/lang/String", "equals", "(Ljava/lang/Object;)Z"⟩
abbrev yB : ByteArray := jdk_42_method_66_code
theorem d0 : decode yB 0 = .ok (.aload_n 0, 1) := by decide +kernel
theorem d1 : decode yB 1 = .ok (.aload_n 1, 1) := by decide +kernel
theorem d2 : decode yB 2 = .ok (.if_acmp (.ne) 5, 3) := by decide +kernel
theorem d5 : decode yB 5 = .ok (.iconst 1, 1) := by decide +kernel
theorem d6 : decode yB 6 = .ok (.ireturn, 1) := by decide +kernel
theorem d7 : decode yB 7 = .ok (.aload_n 1, 1) := by decide +kernel
theorem d8 : decode yB 8 = .ok (.instanceof 10, 3) := by decide +kernel
theorem d11 : decode yB 11 = .ok (.ifCond (.eq) 43, 3) := by decide +kernel
theorem d14 : decode yB 14 = .ok (.aload_n 1, 1) := by decide +kernel
theorem d15 : decode yB 15 = .ok (.checkcast 10, 3) := by decide +kernel
theorem d18 : decode yB 18 = .ok (.astore_n 2, 1) := by decide +kernel
theorem d19 : decode yB 19 = .ok (.getstatic 38, 3) := by decide +kernel
theorem d22 : decode yB 22 = .ok (.ifCond (.eq) 14, 3) := by decide +kernel
theorem d25 : decode yB 25 = .ok (.aload_n 0, 1) := by decide +kernel
theorem d26 : decode yB 26 = .ok (.getfield 15, 3) := by decide +kernel
theorem d29 : decode yB 29 = .ok (.aload_n 2, 1) := by decide +kernel
theorem d30 : decode yB 30 = .ok (.getfield 15, 3) := by decide +kernel
theorem d33 : decode yB 33 = .ok (.if_icmp (.ne) 21, 3) := by decide +kernel
theorem d36 : decode yB 36 = .ok (.aload_n 0, 1) := by decide +kernel
theorem d37 : decode yB 37 = .ok (.getfield 9, 3) := by decide +kernel
theorem d40 : decode yB 40 = .ok (.aload_n 2, 1) := by decide +kernel
theorem d41 : decode yB 41 = .ok (.getfield 9, 3) := by decide +kernel
theorem d44 : decode yB 44 = .ok (.invokestatic 541, 3) := by decide +kernel
theorem d47 : decode yB 47 = .ok (.ifCond (.eq) 7, 3) := by decide +kernel
theorem d50 : decode yB 50 = .ok (.iconst 1, 1) := by decide +kernel
theorem d51 : decode yB 51 = .ok (.goto 4, 3) := by decide +kernel
theorem d54 : decode yB 54 = .ok (.iconst 0, 1) := by decide +kernel
theorem d55 : decode yB 55 = .ok (.ireturn, 1) := by decide +kernel
def site : List Cond := [.classLink "java/lang/String" 10 "java/lang/String", .fieldLink "java/lang/String" 38 "java/lang/String" "COMPACT_STRINGS" "Z", .fieldLink "java/lang/String" 15 "java/lang/String" "coder" "B", .fieldLink "java/lang/String" 9 "java/lang/String" "value" "[B", LEq.tab] ++ staticW "java/lang/String" 541 LEq.yN
def tab : Cond := tabOf yN yB 3 (some .boolean) site
def P (x t : Addr) (V : Cell) (cd : Int32) (n : Nat) (f : Nat → Int32) (y t' : Addr) (V' : Cell) (cd' : Int32) (k : Nat) (g : Nat → Int32) (z : Int32) (args : Array Value) (s : State) : Prop := args = #[.ref x, .ref y] ∧ Txt x t V cd n f s ∧ Txt y t' V' cd' k g s ∧ StaticIs s "java/lang/String" "COMPACT_STRINGS" "Z" (.int z) ∧ ¬ z = 0
/-- equals(Object) of two Strings: whether the texts are the same -/
theorem law (l : Launch) (x t : Addr) (V : Cell) (cd : Int32) (n : Nat) (f : Nat → Int32) (y t' : Addr) (V' : Cell) (cd' : Int32) (k : Nat) (g : Nat → Int32) (z : Int32) : Law l yN 2 1 1 14 yB 3 (some .boolean) site (P x t V cd n f y t' V' cd' k g z) (Says01 (SameT n f k g)) [] 0 0 := by
  refine Law.of_walk (plainFor_of_name (by decide +kernel)) (by decide +kernel) (by decide +kernel) (by decide) (fun _ _ h => by rw [h.1]; rfl) (fun _ U U' hal hh h => ⟨h.1, h.2.1.mv hal hh, h.2.2.1.mv hal hh, h.2.2.2.1.there hal hh, h.2.2.2.2⟩) (fun r U U' V V' h1 hal h2 h => Says01.mv r U U' V V' h1 hal h2 h) ?_
  intro p e s m args below meth c s₁ X0 hexec hbytes hml hret hlk hnm hown hh0 W hP
  obtain ⟨rfl, hx, hy, s1, hz⟩ := hP
  have c1 : Steps p.tables e below (s₁.setTop (entryFrame m #[.ref x, .ref y] 3)) (s₁.setTop (mkF m 2 #[.val (.ref x), .val (.ref y), .unset] [.ref y, .ref x])) := Steps.trans (entry rfl) (by
    show Steps p.tables e below (s₁.setTop (mkF m 0 #[.val (.ref x), .val (.ref y), .unset] [])) _
    refine XS.aloadN X0.here hexec rfl (hb hbytes d0) rfl rfl ?_
    refine XS.aloadN X0.here hexec rfl (hb hbytes d1) rfl rfl ?_
    exact Steps.refl _)
  by_cases hxy : x = y
  · have c2 : Steps p.tables e below (s₁.setTop (entryFrame m #[.ref x, .ref y] 3)) (s₁.setTop (mkF m 6 #[.val (.ref x), .val (.ref y), .unset] [.int 1])) := c1.trans (by
      refine acmpNo X0.here hexec rfl (hb hbytes d2) rfl rfl rfl (by simp [acmp, hxy]) ?_
      refine iconstV X0.here hexec rfl 1 (hb hbytes d5) (by decide) ?_
      exact Steps.refl _)
    subst hxy
    have ec : cd = cd' := by
      obtain ⟨D, fd, a1, a2, a3⟩ := hx.2.2.1
      obtain ⟨D', fd', b1, b2, b3⟩ := hy.2.2.1
      cases a1.symm.trans b1
      obtain ⟨q1, q2, q3, q4⟩ := a2.1
      obtain ⟨r1, r2, r3, r4⟩ := b2.1
      cases q4.symm.trans r4
      cases a3.symm.trans b3; rfl
    have et : t = t' := by
      obtain ⟨D, fd, a1, a2, a3⟩ := hx.2.1
      obtain ⟨D', fd', b1, b2, b3⟩ := hy.2.1
      cases a1.symm.trans b1
      obtain ⟨q1, q2, q3, q4⟩ := a2.1
      obtain ⟨r1, r2, r3, r4⟩ := b2.1
      cases q4.symm.trans r4
      cases a3.symm.trans b3; rfl
    subst ec et
    have ev : V = V' := by cases hx.2.2.2.1.1.symm.trans hy.2.2.2.1.1; rfl
    subst ev
    have hs : SameT n f k g := (Cod.eqv hx.2.2.2.2.1 hy.2.2.2.2.1 hx.2.2.2.2.2 hy.2.2.2.2.2).mp ⟨rfl, fun _ _ => rfl⟩
    exact ⟨s₁, some (.int 1), _, _, _, X0, rfl, rfl, rfl, (fun h => by cases h), ⟨1, rfl, hh0, Or.inl ⟨rfl, hs⟩⟩, fun fs hl => c2.trans (X0.ireturnOut hexec hret rfl (Or.inr (Or.inl rfl)) (hb hbytes d6) hl)⟩
  · have c2 : Steps p.tables e below (s₁.setTop (entryFrame m #[.ref x, .ref y] 3)) (s₁.setTop (mkF m 8 #[.val (.ref x), .val (.ref y), .unset] [.ref y])) := c1.trans (by
      refine acmpYes X0.here hexec rfl (pc0 := 2) rfl (hb hbytes d2) rfl rfl rfl (by simp [acmp, hxy]) (by decide) rfl ?_
      refine XS.aloadN X0.here hexec rfl (hb hbytes d7) rfl rfl ?_
      exact Steps.refl _)
    obtain ⟨T3, X3, q3, st3⟩ := cinst X0 hexec hown (wk W (.classLink "java/lang/String" 10 "java/lang/String")) (hy.mv X0.warmed.alike hh0).1 (g := (mkF m 8 #[.val (.ref x), .val (.ref y), .unset] [.ref y])) rfl (rest := []) rfl (hb hbytes d8)
    have hh3 := q3.trans hh0
    have c4 : Steps p.tables e below (s₁.setTop (entryFrame m #[.ref x, .ref y] 3)) (T3.setTop (mkF m 15 #[.val (.ref x), .val (.ref y), .unset] [.ref y])) := (c2.trans (st3 _ (Steps.refl _))).trans (by
      refine XS.ifNo X3.here hexec rfl (hb hbytes d11) rfl (i0_eq_f (by decide)) ?_
      refine XS.aloadN X3.here hexec rfl (hb hbytes d14) rfl rfl ?_
      exact Steps.refl _)
    obtain ⟨T5, X5, q5, st5⟩ := cself X3 hexec hown (wk W (.classLink "java/lang/String" 10 "java/lang/String")) (hy.mv X3.warmed.alike hh3).1 (g := (mkF m 15 #[.val (.ref x), .val (.ref y), .unset] [.ref y])) rfl (rest := []) rfl (hb hbytes d15)
    have hh5 := q5.trans hh3
    have c6 : Steps p.tables e below (s₁.setTop (entryFrame m #[.ref x, .ref y] 3)) (T5.setTop (mkF m 19 #[.val (.ref x), .val (.ref y), .val (.ref y)] [])) := (c4.trans (st5 _ (Steps.refl _))).trans (by
      refine XS.astoreN X5.here hexec rfl (hb hbytes d18) rfl rfl rfl ?_
      exact Steps.refl _)
    obtain ⟨T7, X7, q7, st7⟩ := X5.sget hexec hown (wk W (.fieldLink "java/lang/String" 38 "java/lang/String" "COMPACT_STRINGS" "Z")) s1 (fun _ _ h => by rw [hh5]; exact h) (g := (mkF m 19 #[.val (.ref x), .val (.ref y), .val (.ref y)] [])) rfl (hb hbytes d19)
    have hh7 := q7.trans hh5
    have c8 : Steps p.tables e below (s₁.setTop (entryFrame m #[.ref x, .ref y] 3)) (T7.setTop (mkF m 26 #[.val (.ref x), .val (.ref y), .val (.ref y)] [.ref x])) := (c6.trans (st7 _ (Steps.refl _))).trans (by
      refine XS.ifNo X7.here hexec rfl (hb hbytes d22) rfl (i0_eq_f hz) ?_
      refine XS.aloadN X7.here hexec rfl (hb hbytes d25) rfl rfl ?_
      exact Steps.refl _)
    obtain ⟨T9, X9, q9, st9⟩ := X7.hget hexec hown (wk W (.fieldLink "java/lang/String" 15 "java/lang/String" "coder" "B")) (hx.mv X7.warmed.alike hh7).2.2.1 (g := (mkF m 26 #[.val (.ref x), .val (.ref y), .val (.ref y)] [.ref x])) rfl (rest := []) rfl (hb hbytes d26)
    have hh9 := q9.trans hh7
    have c10 : Steps p.tables e below (s₁.setTop (entryFrame m #[.ref x, .ref y] 3)) (T9.setTop (mkF m 30 #[.val (.ref x), .val (.ref y), .val (.ref y)] [.ref y, .int cd])) := (c8.trans (st9 _ (Steps.refl _))).trans (by
      refine XS.aloadN X9.here hexec rfl (hb hbytes d29) rfl rfl ?_
      exact Steps.refl _)
    obtain ⟨T11, X11, q11, st11⟩ := X9.hget hexec hown (wk W (.fieldLink "java/lang/String" 15 "java/lang/String" "coder" "B")) (hy.mv X9.warmed.alike hh9).2.2.1 (g := (mkF m 30 #[.val (.ref x), .val (.ref y), .val (.ref y)] [.ref y, .int cd])) rfl (rest := [.int cd]) rfl (hb hbytes d30)
    have hh11 := q11.trans hh9
    have c12 : Steps p.tables e below (s₁.setTop (entryFrame m #[.ref x, .ref y] 3)) (T11.setTop (mkF m 33 #[.val (.ref x), .val (.ref y), .val (.ref y)] [.int cd', .int cd])) := c10.trans (st11 _ (Steps.refl _))
    by_cases hcd : cd = cd'
    · subst hcd
      have c13 : Steps p.tables e below (s₁.setTop (entryFrame m #[.ref x, .ref y] 3)) (T11.setTop (mkF m 37 #[.val (.ref x), .val (.ref y), .val (.ref y)] [.ref x])) := c12.trans (by
        refine XS.icmpNo X11.here hexec rfl (hb hbytes d33) rfl (ii_ne_f rfl) ?_
        refine XS.aloadN X11.here hexec rfl (hb hbytes d36) rfl rfl ?_
        exact Steps.refl _)
      obtain ⟨T14, X14, q14, st14⟩ := X11.hget hexec hown (wk W (.fieldLink "java/lang/String" 9 "java/lang/String" "value" "[B")) (hx.mv X11.warmed.alike hh11).2.1 (g := (mkF m 37 #[.val (.ref x), .val (.ref y), .val (.ref y)] [.ref x])) rfl (rest := []) rfl (hb hbytes d37)
      have hh14 := q14.trans hh11
      have c15 : Steps p.tables e below (s₁.setTop (entryFrame m #[.ref x, .ref y] 3)) (T14.setTop (mkF m 41 #[.val (.ref x), .val (.ref y), .val (.ref y)] [.ref y, .ref t])) := (c13.trans (st14 _ (Steps.refl _))).trans (by
        refine XS.aloadN X14.here hexec rfl (hb hbytes d40) rfl rfl ?_
        exact Steps.refl _)
      obtain ⟨T16, X16, q16, st16⟩ := X14.hget hexec hown (wk W (.fieldLink "java/lang/String" 9 "java/lang/String" "value" "[B")) (hy.mv X14.warmed.alike hh14).2.1 (g := (mkF m 41 #[.val (.ref x), .val (.ref y), .val (.ref y)] [.ref y, .ref t])) rfl (rest := [.ref t]) rfl (hb hbytes d41)
      have hh16 := q16.trans hh14
      have c17 : Steps p.tables e below (s₁.setTop (entryFrame m #[.ref x, .ref y] 3)) (T16.setTop (mkF m 44 #[.val (.ref x), .val (.ref y), .val (.ref y)] [.ref t', .ref t])) := c15.trans (st16 _ (Steps.refl _))
      obtain ⟨v18, T18, X18, E18, g18⟩ := X16.callS hexec (LEq.law l t V t' V') hown (wks W (staticW "java/lang/String" 541 LEq.yN)) (wk W LEq.tab) (W := 0) (Nat.le_of_ble_eq_true rfl) (Nat.le_of_ble_eq_true rfl) (Nat.le_refl _) (Nat.le_refl _) (g := (mkF m 44 #[.val (.ref x), .val (.ref y), .val (.ref y)] [.ref t', .ref t])) rfl (by rw [hml]; rfl) c17 (argsL := [.ref t, .ref t']) (rest := []) rfl rfl (by show 2 * 0 + 0 ≤ _; decide) (hb hbytes d44) (⟨rfl, hx.2.2.2.1.mv X16.warmed.alike hh16, hx.2.2.2.2.1.ty, hy.2.2.2.1.mv X16.warmed.alike hh16, hy.2.2.2.2.1.ty⟩)
      obtain ⟨v, rfl, q18, hv⟩ := E18
      have iff := Cod.eqv hx.2.2.2.2.1 hy.2.2.2.2.1 hx.2.2.2.2.2 hy.2.2.2.2.2
      rcases hv with ⟨rfl, he⟩ | ⟨rfl, he⟩
      · have c19 : Steps p.tables e below (s₁.setTop (entryFrame m #[.ref x, .ref y] 3)) (T18.setTop (mkF m 55 #[.val (.ref x), .val (.ref y), .val (.ref y)] [.int 1])) := Steps.trans g18 (by
          refine XS.ifNo X18.here hexec rfl (hb hbytes d47) rfl (i0_eq_f (by decide)) ?_
          refine iconstV X18.here hexec rfl 1 (hb hbytes d50) (by decide) ?_
          refine XS.goto X18.here hexec rfl (pc0 := 51) rfl (hb hbytes d51) (by decide) rfl ?_
          exact Steps.refl _)
        exact ⟨T18, some (.int 1), _, _, _, X18, rfl, rfl, rfl, (fun h => by cases h), ⟨1, rfl, q18.trans hh16, Or.inl ⟨rfl, iff.mp he⟩⟩, fun fs hl => c19.trans (X18.ireturnOut hexec hret rfl (Or.inr (Or.inl rfl)) (hb hbytes d55) hl)⟩
      · have c19 : Steps p.tables e below (s₁.setTop (entryFrame m #[.ref x, .ref y] 3)) (T18.setTop (mkF m 55 #[.val (.ref x), .val (.ref y), .val (.ref y)] [.int 0])) := Steps.trans g18 (by
          refine XS.ifYes X18.here hexec rfl (pc0 := 47) rfl (hb hbytes d47) rfl (i0_eq_t rfl) (by decide) rfl ?_
          refine iconstV X18.here hexec rfl 0 (hb hbytes d54) (by decide) ?_
          exact Steps.refl _)
        exact ⟨T18, some (.int 0), _, _, _, X18, rfl, rfl, rfl, (fun h => by cases h), ⟨0, rfl, q18.trans hh16, Or.inr ⟨rfl, fun q => he (iff.mpr q)⟩⟩, fun fs hl => c19.trans (X18.ireturnOut hexec hret rfl (Or.inr (Or.inl rfl)) (hb hbytes d55) hl)⟩
    · have c13 : Steps p.tables e below (s₁.setTop (entryFrame m #[.ref x, .ref y] 3)) (T11.setTop (mkF m 55 #[.val (.ref x), .val (.ref y), .val (.ref y)] [.int 0])) := c12.trans (by
        refine XS.icmpYes X11.here hexec rfl (pc0 := 33) rfl (hb hbytes d33) rfl (ii_ne_t hcd) (by decide) rfl ?_
        refine iconstV X11.here hexec rfl 0 (hb hbytes d54) (by decide) ?_
        exact Steps.refl _)
      exact ⟨T11, some (.int 0), _, _, _, X11, rfl, rfl, rfl, (fun h => by cases h), ⟨0, rfl, hh11, Or.inr ⟨rfl, Cod.dif hx.2.2.2.2.1 hy.2.2.2.2.1 hcd⟩⟩, fun fs hl => c13.trans (X11.ireturnOut hexec hret rfl (Or.inr (Or.inl rfl)) (hb hbytes d55) hl)⟩
theorem pays {l : Launch} {R : Room} {p : Program} {e : Env} {below : List Frame} {s : State} {sargs : Array Value} {len W : Nat} (x t : Addr) (V : Cell) (cd : Int32) (n : Nat) (f : Nat → Int32) (y t' : Addr) (V' : Cell) (cd' : Int32) (k : Nat) (g : Nat → Int32) (z : Int32) (htab : tab.before sargs s = true) (hfr : 2 ≤ R.frames) (hlo : W + 28 ≤ R.locals) :
    Back l R p e below s sargs yN len W (fun A₁ a₁ => A₁.cells + 0 ≤ R.cells ∧ A₁.slots + 0 ≤ R.slots ∧ P x t V cd n f y t' V' cd' k g z a₁ A₁.U) (fun A₁ _ v₁ B₁ => Says01 (SameT n f k g) v₁ A₁.U B₁.U ∧ B₁.locs = A₁.locs ++ [] ∧ B₁.cells = A₁.cells + 0 ∧ B₁.slots = A₁.slots + 0) :=
  (law l x t V cd n f y t' V' cd' k g z).pays htab hfr (by omega)
end SEq
end StrChars
namespace StrChars.Road
open Jvm Sem ClassFile Op Lib Jvm.Stand Jvm.Free Jvm.Free.XT
open Jvm.Lib.Cold (StaticIs)
/-- the words of String.equals(Object) -/
abbrev wordsEq : List Jvm.Cond := [.code SEq.yN SEq.yB 3 (some .boolean), .initialized ST, .classLink ST 10 ST, .fieldLink ST 38 ST "COMPACT_STRINGS" "Z", .fieldLink ST 15 ST "coder" "B", .fieldLink ST 9 ST "value" "[B", .methodLink ST 541 LEq.yN, .static LEq.yN, .code LEq.yN LEq.yB 3 (some .boolean), .initialized "java/lang/StringLatin1"]
theorem tabEq_of {a : Array Value} {s : State} (h : ∀ w ∈ wordsEq, w.before a s = true) : SEq.tab.before a s = true := by
  have hl : LEq.tab.before a s = true := unparts (wk h (.code LEq.yN LEq.yB 3 (some .boolean))) (wks h (.initialized LEq.yN.cls :: LEq.site))
  have q := consq hl h
  exact unparts (wk q (.code SEq.yN SEq.yB 3 (some .boolean))) (wks q (.initialized SEq.yN.cls :: SEq.site))
theorem movedEq {Z s : State} {a0 args : Array Value} (hZ : Z.Warmed39 s.vm) (hw : ∀ d ∈ wordsEq, d.before a0 Z = true) : ∀ d ∈ wordsEq, d.before args s = true := fun d hd => by
  have t : ∀ d ∈ wordsEq, (d.onTables && d.keepsFace) = true := by decide +kernel
  exact RoadKit.mv hZ (hw d hd) (t d hd)
/-- the road's facts of a String, as the laws ask it -/
theorem txt_of {Z U : State} {a0 : Array Value} {kI : Nat} (wi : (Jvm.Cond.instantiable ST kI).before a0 Z = true) (al : Z.vm.Alike U.vm) {x t : Addr} {kb : ClassId} {cs : List Int32} {cd N2 : Int32} {vs : List Value} (E : RoadKit.Exa Z U.heap x ST) (V : RoadKit.Fld Z U.heap x ST "value" "[B" (.ref t)) (C : RoadKit.Fld Z U.heap x ST "coder" "B" (.int cd)) (K : RoadKit.Arv Z U.heap t kb .byte N2 vs (.int 0)) (hc : CodA cs cd N2 vs) (hb : ∀ c ∈ cs, ¬ c < 0 ∧ ¬ (65535 : Int32) < c) (l2 : cs.length ≤ 4000) :
    ∃ A, Txt x t A cd cs.length (fun j => cs.getD j 0) U := by
  obtain ⟨A, K1, K2, K3, K4, K5, K6⟩ := K
  have hcod := hc.cod (by omega) K3 K5
  obtain ⟨D, fV, fC, hB, F1, F2, g1, g2, -, -⟩ := strObj wi al E V C
  exact ⟨A, ⟨_, hB.2.2.1, D, hB.1, rfl, by cases q : D.vm <;> first | rfl | exact absurd q (hB.2.1.2 _)⟩, Has.of hB F1 g1, Has.of hB F2 g2, ⟨K1.1, State.isArrayOf_alike al K1.2.1, K1.2.2, by rcases hcod with ⟨-, q, -⟩ | ⟨-, q, -⟩ <;> omega⟩, hcod, fun j hj => by
    have e : cs.getD j 0 = cs[j] := by simp [List.getD_eq_getElem?_getD, hj]
    show ¬ cs.getD j 0 < 0 ∧ ¬ 65535 < cs.getD j 0
    rw [e]; exact hb _ (List.getElem_mem _)⟩
theorem same_list (cs ds : List Int32) : SameT cs.length (fun j => cs.getD j 0) ds.length (fun j => ds.getD j 0) ↔ cs = ds := by
  constructor
  · rintro ⟨e, q⟩
    refine List.ext_getElem e fun j h1 h2 => ?_
    have := q j h1
    simpa [List.getD_eq_getElem?_getD, h1, h2] using this
  · rintro rfl
    exact ⟨rfl, fun _ _ => rfl⟩
/-- **equals(Object) OF TWO SUCH STRINGS**: 1 just where the chars are the same -/
theorem eqW {p : Program} {l : Launch} {e : Env} {R : Room} {s : State} {args : Array Value} {below : List Frame} {len W : Nat} {Z : State} {a0 : Array Value} {h : Heap} (hZ : Z.Warmed39 s.vm) (hw : ∀ d ∈ wordsEq, d.before a0 Z = true) {kI : Nat} (wi : (Jvm.Cond.instantiable ST kI).before a0 Z = true)
    {x t : Addr} {kb : ClassId} {cs : List Int32} {cd N2 : Int32} {vs : List Value} (E : RoadKit.Exa Z h x ST) (V : RoadKit.Fld Z h x ST "value" "[B" (.ref t)) (C : RoadKit.Fld Z h x ST "coder" "B" (.int cd)) (K : RoadKit.Arv Z h t kb .byte N2 vs (.int 0)) (hc : CodA cs cd N2 vs) (hb : ∀ c ∈ cs, ¬ c < 0 ∧ ¬ (65535 : Int32) < c) (l2 : cs.length ≤ 4000)
    {y t' : Addr} {kb' : ClassId} {ds : List Int32} {cd' N2' : Int32} {vs' : List Value} (E' : RoadKit.Exa Z h y ST) (V' : RoadKit.Fld Z h y ST "value" "[B" (.ref t')) (C' : RoadKit.Fld Z h y ST "coder" "B" (.int cd')) (K' : RoadKit.Arv Z h t' kb' .byte N2' vs' (.int 0)) (hc' : CodA ds cd' N2' vs') (hb' : ∀ c ∈ ds, ¬ c < 0 ∧ ¬ (65535 : Int32) < c) (l2' : ds.length ≤ 4000)
    {z : Int32} (S : RoadKit.Sta Z h ST "COMPACT_STRINGS" "Z" (.int z)) (hz : ¬ z = 0) (hfr : 2 ≤ R.frames) (hlo : W + 28 ≤ R.locals) :
    Back l R p e below s args (⟨"java/lang/String", "equals", "(Ljava/lang/Object;)Z"⟩ : MethodName) len W (fun P a => a = #[.ref x, .ref y] ∧ P.U.heap = h ∧ P.cells + 0 ≤ R.cells ∧ P.slots + 0 ≤ R.slots)
      (fun P _ v B => ∃ L, (((v = some (.int 1) ∧ cs = ds) ∨ (v = some (.int 0) ∧ ¬ cs = ds)) ∧ L = [] ∧ B.U.heap = h) ∧ B.locs = P.locs ++ L ∧ B.cells = P.cells + 0 ∧ B.slots = P.slots + 0) := by
  intro m meth c P g ig mk a X hg hsize hdg hW hn hp'
  obtain ⟨rfl, rfl, r1, r2⟩ := hp'
  have al : Z.vm.Alike P.U.vm := hZ.alike.trans X.warmed.alike
  obtain ⟨A, hx⟩ := txt_of wi al E V C K hc hb l2
  obtain ⟨A', hy⟩ := txt_of wi al E' V' C' K' hc' hb' l2'
  obtain ⟨v, B, X', ⟨⟨w, hv, hh, hq⟩, hl, hk, hs⟩, st⟩ := SEq.pays x t A cd cs.length (fun j => cs.getD j 0) y t' A' cd' ds.length (fun j => ds.getD j 0) z (tabEq_of (movedEq hZ hw)) hfr hlo m meth c P g ig mk _ X hg hsize hdg hW hn ⟨r1, r2, rfl, hx, hy, sta_is al S, hz⟩
  refine ⟨v, B, X', ⟨[], ⟨?_, rfl, hh⟩, hl, hk, hs⟩, st⟩
  rcases hq with ⟨rfl, q⟩ | ⟨rfl, q⟩
  · exact Or.inl ⟨hv, (same_list cs ds).mp q⟩
  · exact Or.inr ⟨hv, fun e => q ((same_list cs ds).mpr e)⟩
end StrChars.Road
end Jvm.Pilot.@@N@@

namespace Jvm.Pilot.@@N@@
open Jvm Jvm.ClassFile Sem Op Lib Jvm.Free Jvm.Stand Jvm.LawKit Jvm.RoadKit Bundle Jvm.Pilot.@@N@@.Jvm.D
/-! the goal of a body's walk, closed under steps that lead to where it holds -/
def Gl (p : Program) (e : Env) (below : List Frame) (s : State) (Q : Option Value → Heap → List Loc → Prop) (k n : Nat) (S0 : State) : Prop :=
  ∃ s₂ o, Steps p.tables e below S0 s₂ ∧ s₂.status = .running ∧ Ended s₂ below o ∧ ∃ v L, o = .returned v ∧ Q v s₂.heap L ∧ FrameEnd s o s₂ L k n
theorem Gl.back {p : Program} {e : Env} {below : List Frame} {s : State} {Q : Option Value → Heap → List Loc → Prop} {k n : Nat} {S0 S1 : State} (h : ∀ t, Steps p.tables e below S1 t → Steps p.tables e below S0 t) (g : Gl p e below s Q k n S1) : Gl p e below s Q k n S0 := by
  obtain ⟨s₂, o, h1, r⟩ := g; exact ⟨s₂, o, h _ h1, r⟩
theorem Gl.ret {p : Program} {l : Launch} {e : Env} {R : Room} {s : State} {m : MethodId} {args : Array Value} {below : List Frame} {meth : Method} {c : Code} {T : State} {locs : List Loc} {cells slots : Nat} (X : Stand p l e R s m args below meth c T locs cells slots) {h : Heap} (eT : T.heap = h)
    {v : Option Value} (hv : meth.sig.returnType = none → v = none) (hlocks : meth.locks = false) {S0 : State} (st : ∀ fs, (∀ (f : JFrame) (acts : List Action), f.method = m → f.locked = none → f.entered = [] → (doReturn e (T.setTop f) acts v).1 = T.setFrames fs) → Steps p.tables e below S0 (T.setFrames fs))
    {Q : Option Value → Heap → List Loc → Prop} {k n : Nat} (hQ : Q v h locs) (hk : cells ≤ k) (hn : slots ≤ n) : Gl p e below s Q k n S0 := by
  obtain ⟨fs, hr, hrun, hended, hW, hsame⟩ := X.leave (v := v) hv hlocks
  exact ⟨_, _, st fs hr, hrun, hended, v, locs, rfl, eT ▸ hQ, ⟨_, rfl⟩, hW, hsame.mono hk hn⟩
def GlW (p : Program) (e : Env) (below : List Frame) (s : State) (Q : Option Value → Heap → List Loc → Prop) (k n : Nat) (S0 : State) : Prop :=
  ∃ s₂ o, Steps p.tables e below S0 s₂ ∧ s₂.status = .running ∧ Ended s₂ below o ∧ ∃ v L, o = .returned v ∧ Q v s₂.heap L ∧ ReturnedEndW s o s₂ L k n
theorem GlW.back {p : Program} {e : Env} {below : List Frame} {s : State} {Q : Option Value → Heap → List Loc → Prop} {k n : Nat} {S0 S1 : State} (h : ∀ t, Steps p.tables e below S1 t → Steps p.tables e below S0 t) (g : GlW p e below s Q k n S1) : GlW p e below s Q k n S0 := by
  obtain ⟨s₂, o, h1, r⟩ := g; exact ⟨s₂, o, h _ h1, r⟩
theorem GlW.ret {p : Program} {l : Launch} {e : Env} {R : Room} {s : State} {vm0 : Vm} {m : MethodId} {args : Array Value} {below : List Frame} {meth : Method} {c : Code} {T : State} {locs : List Loc} {cells slots : Nat} (X : Stand p l e R (s.setVm vm0) m args below meth c T locs cells slots) {h : Heap} (eT : T.heap = h)
    {k0 : Nat} (hS : s.Since vm0 k0) (hk0 : k0 ≤ h.size) {v : Option Value} (hv : meth.sig.returnType = none → v = none) (hlocks : meth.locks = false) {S0 : State} (st : ∀ fs, (∀ (f : JFrame) (acts : List Action), f.method = m → f.locked = none → f.entered = [] → (doReturn e (T.setTop f) acts v).1 = T.setFrames fs) → Steps p.tables e below S0 (T.setFrames fs))
    {Q : Option Value → Heap → List Loc → Prop} {k n : Nat} (hQ : Q v h locs) (hk : cells ≤ k) (hn : slots ≤ n) : GlW p e below s Q k n S0 := by
  obtain ⟨fs, hr, hrun, hended, hE⟩ := X.leaveW hS (by rw [eT]; exact hk0) (v := v) hv hlocks
  exact ⟨_, _, st fs hr, hrun, hended, v, locs, rfl, eT ▸ hQ, hE.1, hE.2.1, hE.2.2.1, hE.2.2.2.mono hk hn⟩
def GlH (Z : State) (EL : List (String × Nat)) (p : Program) (e : Env) (below : List Frame) (s : State) (Q : Option Value → Heap → List Loc → Prop) (k n : Nat) (S0 : State) : Prop :=
  ∃ s₂ o, Steps p.tables e below S0 s₂ ∧ s₂.status = .running ∧ Ended s₂ below o ∧ ∃ v L, o = .returned v ∧ Q v s₂.heap L ∧ CHr Z EL s.vm s.heap s₂.vm s₂.heap ∧ ReturnedEndW s o s₂ L k n
theorem GlH.back {Z : State} {EL : List (String × Nat)} {p : Program} {e : Env} {below : List Frame} {s : State} {Q : Option Value → Heap → List Loc → Prop} {k n : Nat} {S0 S1 : State} (h : ∀ t, Steps p.tables e below S1 t → Steps p.tables e below S0 t) (g : GlH Z EL p e below s Q k n S1) : GlH Z EL p e below s Q k n S0 := by
  obtain ⟨s₂, o, h1, r⟩ := g; exact ⟨s₂, o, h _ h1, r⟩
theorem GlH.ret {Z : State} {EL : List (String × Nat)} {a0 : Array Value} {p : Program} {l : Launch} {e : Env} {R : Room} {s : State} {vm0 : Vm} {m : MethodId} {args : Array Value} {below : List Frame} {meth : Method} {c : Code} {T : State} {locs : List Loc} {cells slots : Nat} (X : Stand p l e R (s.setVm vm0) m args below meth c T locs cells slots) {h h0 : Heap} (eT : T.heap = h)
    {k0 : Nat} (hS : s.Since vm0 k0) (hk0 : k0 ≤ h.size) (hh : s.heap = h0) (hZ : Z.Warmed39 (s.setVm vm0).vm) (hEL : EW Z a0 EL) (CH : CHr Z EL s.vm h0 (s.setVm vm0).vm h) {v : Option Value} (hv : meth.sig.returnType = none → v = none) (hlocks : meth.locks = false) {S0 : State} (st : ∀ fs, (∀ (f : JFrame) (acts : List Action), f.method = m → f.locked = none → f.entered = [] → (doReturn e (T.setTop f) acts v).1 = T.setFrames fs) → Steps p.tables e below S0 (T.setFrames fs))
    {Q : Option Value → Heap → List Loc → Prop} {k n : Nat} (hQ : Q v h locs) (hk : cells ≤ k) (hn : slots ≤ n) : GlH Z EL p e below s Q k n S0 := by
  obtain ⟨fs, hr, hrun, hended, hE⟩ := X.leaveW hS (by rw [eT]; exact hk0) (v := v) hv hlocks
  have q : CHr Z EL s.vm s.heap T.vm T.heap := by
    rw [hh, eT]; exact CH.trans (CHv.at (vm0 := vm0) X hZ hEL CH.1)
  exact ⟨_, _, st fs hr, hrun, hended, v, locs, rfl, eT ▸ hQ, q, hE.1, hE.2.1, hE.2.2.1, hE.2.2.2.mono hk hn⟩
theorem own_safeNull {Z : State} {EL : List (String × Nat)} {vm : Vm} {h : Heap} {x : Addr} (hal : Z.vm.Alike vm) (E : Exa Z h x "java/lang/String") (F : Fld Z h x "java/lang/String" "value" "[B" .null) : Safe Z EL vm h x := fun B => by
  obtain ⟨cell, cf, k, i, f, f1, f2, -, -, -, -, f7⟩ := F
  obtain ⟨p, -, u, a, -, q, -, G, rfl | rfl⟩ := B
  · obtain ⟨cS, ⟨⟨s1, s2, s3, ⟨cv, kv, iv, s4, s4'⟩, -, s6, s7, s8, -⟩, -, -⟩, -⟩ := G
    cases (show h[q.sa]? = some q.sC from s1).symm.trans f1
    obtain ⟨kv', z4⟩ := ff_back (U := Wst Z vm h) hal s4
    cases f2.symm.trans z4
    cases s8.symm.trans f7
  · obtain ⟨cell', k', e1, e2, -⟩ := E
    cases (show h[q.sd]? = some q.SA from G.hd).symm.trans e1
    obtain ⟨cS, -, -, g, -⟩ := G
    have g' : vm.findClass "[B" = some q.SA.cls := g
    rw [hal.findClass] at g'
    obtain ⟨k1, q1, q2⟩ := Vm.findClass_spec g'
    obtain ⟨k2, q3, q4⟩ := Vm.findClass_spec e2
    cases q1.symm.trans q3
    exact absurd (q2.symm.trans q4) (by decide)
theorem own_lcL {x y : Int64} (h : x < y) : lcmpW x y < 0 := by rw [lcW]; exact (lc_lt x y).mpr h
theorem own_lcLn {x y : Int64} (h : ¬ x < y) : ¬ lcmpW x y < 0 := by rw [lcW]; exact fun q => h ((lc_lt x y).mp q)
theorem own_lcG {x y : Int64} (h : y < x) : 0 < lcmpW x y := by rw [lcW]; exact (lc_gt x y).mpr h
theorem own_lcGn {x y : Int64} (h : ¬ y < x) : ¬ 0 < lcmpW x y := by rw [lcW]; exact fun q => h ((lc_gt x y).mp q)
theorem own_lcE {x y : Int64} (h : x = y) : lcmpW x y = 0 := by rw [lcW]; exact (lc_eq x y).mpr h
theorem own_lcEn {x y : Int64} (h : ¬ x = y) : ¬ lcmpW x y = 0 := by rw [lcW]; exact fun q => h ((lc_eq x y).mp q)
theorem own_fldI {args : Array Value} {s : State} {t : Term} {C n d : String} {k : Int32} {a : Addr} (ev : t.eval args s none [] s = some (.ref a)) (h : (Jvm.Cond.eq (Term.field t C n d) (Term.int k)).value args s none s [] = some true) : Fld s s.heap a C n d (.int k) := by
  have e := fld_at (C := C) (n := n) (dd := d) ev
  obtain ⟨x, y, h1, h2, k1, k2⟩ := cmp_v (Or.inl h)
  obtain rfl : Value.int k = y := Option.some.inj h2
  obtain ⟨z, rfl⟩ := k2
  have q := Jvm.Cond.eq_ints h1 h2
  obtain rfl : z = k := gotT q h
  exact Fld.start (e ▸ h1)
theorem own_len {args : Array Value} {s : State} {t : Term} {z : Int32} (h : (Term.length t).eval args s none [] s = some (.int z)) : ∃ (b : Addr) (cl : Cell), t.eval args s none [] s = some (.ref b) ∧ s.arrayAt? b = some cl ∧ cl.slots.size < 2 ^ 31 ∧ cl.slots.size.toInt32 = z := by
  obtain ⟨b, e⟩ := len_v h
  simp only [Term.eval, e] at h
  cases ha : s.arrayAt? b with
  | none => simp [ha] at h
  | some cl =>
    by_cases q : cl.slots.size < 2 ^ 31
    · simp [ha, q] at h
      exact ⟨b, cl, e, ha, q, h⟩
    · simp [ha, q] at h
theorem own_arrN {args : Array Value} {s : State} {t : Term} {a : Addr} (hf : Fit s) (ev : t.eval args s none [] s = some (.ref a)) (h : (Jvm.Cond.arrayOf t .int).value args s none s [] = some true) (hl : (Jvm.Cond.eq (Term.length t) (Term.int 256)).value args s none s [] = some true) :
    ∃ (k : ClassId) (vs : List Value), Arv s s.heap a k .int 256 vs (.int 0) ∧ ∀ (j v : Int32), (Jvm.Cond.eq (Term.elem t (Term.int j)) (Term.int v)).value args s none s [] = some true → vs.getD j.toNatClampNeg (.int 0) = .int v := by
  obtain ⟨c, A⟩ := Arr.start ev h
  obtain ⟨x, y, h1, h2, k1, k2⟩ := cmp_v (Or.inl hl)
  obtain rfl : Value.int 256 = y := Option.some.inj h2
  obtain ⟨z, rfl⟩ := k2
  obtain rfl : z = 256 := gotT (Jvm.Cond.eq_ints h1 h2) hl
  have hAt : s.arrayAt? a = some c := A.fin (Vm.Alike.refl _)
  obtain ⟨b, cl, e1, e2, e3, e4⟩ := own_len h1
  cases ev.symm.trans e1
  cases hAt.symm.trans e2
  have S : c.slots.size = (256 : Int32).toNatClampNeg := by rw [← e4]; simp only [Int32.toNatClampNeg, len_toInt e3]; rfl
  have H' : Has c c.slots.toList (.int 0) := fun k hk => by simp [List.getD, hk]
  refine ⟨c.cls, c.slots.toList, ⟨c, A, rfl, S, by decide, H', fun j hj => ?_⟩, fun j v hv => ?_⟩
  · have e1 : (Nat.toInt32 j).toNatClampNeg = j := by simp only [Int32.toNatClampNeg, len_toInt (Nat.lt_trans hj e3)]; rfl
    exact elem_fits (j := Nat.toInt32 j) hf A (idx_in hj e3) (by rw [e1]; exact H' j hj)
  · obtain ⟨x, y, g1, g2, l1, l2⟩ := cmp_v (Or.inl hv)
    obtain rfl : Value.int v = y := Option.some.inj g2
    obtain ⟨z, rfl⟩ := l2
    obtain rfl : z = v := gotT (Jvm.Cond.eq_ints g1 g2) hv
    obtain ⟨-, q⟩ := elem_in g1 ev (Term.int_eval j) A.1
    simp [List.getD, q]
def own_nw (c : Int32) : Prop := c = 97 ∨ c = 65 ∨ c = 98 ∨ c = 66 ∨ c = 114
theorem own_nwR : own_nw 114 := by unfold own_nw; decide
def own_A (vs : List Value) : Prop := ∀ c : Int32, own_nw c → ∃ r : Int32, vs.getD c.toNatClampNeg (.int 0) = .int r ∧ ¬ (r &&& (28672 : Int32)) = 16384
theorem own_n4 {x : Int32} (h0 : ¬ x = 0) (h1 : ¬ x = 1) (h2 : ¬ x = 2) (h3 : ¬ x = 3) : ¬ (x = 0 ∨ x = 1 ∨ x = 2 ∨ x = 3) := fun q => by
  rcases q with q | q | q | q
  · exact h0 q
  · exact h1 q
  · exact h2 q
  · exact h3 q
theorem own_nwc {c : Int32} (h : own_nw c) : c.toUInt32.toUInt16.toUInt32.toInt32 = c := by
  rcases h with rfl | rfl | rfl | rfl | rfl <;> decide
theorem own_nwb {c : Int32} (h : own_nw c) : ¬ c < 0 ∧ c < 256 := by
  rcases h with rfl | rfl | rfl | rfl | rfl <;> decide
theorem own_nwr {c : Int32} (h : own_nw c) : some (Value.int (nar .char ((c.toInt8.toInt32 &&& (255 : Int32)).toUInt32.toUInt16.toUInt32.toInt32))) = some (Value.int c) := by
  rcases h with rfl | rfl | rfl | rfl | rfl <;> decide
theorem own_nw32 {c : Int32} (h : own_nw c) : ¬ c = 32 := by
  rcases h with rfl | rfl | rfl | rfl | rfl <;> decide
theorem own_nw9 {c : Int32} (h : own_nw c) : ¬ c = 9 := by
  rcases h with rfl | rfl | rfl | rfl | rfl <;> decide
theorem own_ib {n : Int32} (h : (0 : Int32) < n) : ¬ (0 : Int32) = n >>> ((0 : Int32) &&& 31) := fun e => by
  have q : n >>> ((0 : Int32) &&& 31) = n := by
    apply Int32.toInt_inj.mp
    rw [show ((0 : Int32) &&& 31) = 0 from by decide]
    simp
  rw [q] at e
  rw [← e] at h
  exact absurd h (by decide)
theorem own_char {x : Int32} (h : ¬ x < 0 ∧ ¬ (65535 : Int32) < x) : x.toUInt32.toUInt16.toUInt32.toInt32 = x := by
  have e0 : (0 : Int32).toInt = 0 := by decide
  have e1 : (65535 : Int32).toInt = 65535 := by decide
  rw [Int32.lt_iff_toInt_lt, Int32.lt_iff_toInt_lt, e0, e1] at h
  have nx : x.toBitVec.toNat = x.toInt.toNat := by
    have h : x.toInt = x.toBitVec.toInt := rfl
    rw [BitVec.toInt_eq_toNat_cond] at h; have := x.toBitVec.isLt; split at h <;> omega
  apply Int32.toBitVec_inj.mp
  apply BitVec.eq_of_toNat_eq
  show x.toUInt32.toUInt16.toUInt32.toNat = _
  rw [UInt16.toNat_toUInt32, UInt32.toNat_toUInt16]
  show x.toBitVec.toNat % 2 ^ 16 = _
  omega
theorem own_narc {c : Int32} (h : ¬ c < 0 ∧ ¬ (255 : Int32) < c) : nar .char c = c := by
  show c.toUInt32.toUInt16.toUInt32.toInt32 = c
  exact own_char ⟨h.1, fun q => h.2 (by
    rw [Int32.lt_iff_toInt_lt] at q ⊢
    have e1 : (255 : Int32).toInt = 255 := by decide
    have e2 : (65535 : Int32).toInt = 65535 := by decide
    omega)⟩
def own_cs (n c d : Int32) : List Int32 := if n = 0 then [] else if n = 1 then [c] else [c, d]
theorem own_s1 {n k c d c' d' : Int32} (hn : n = 0 ∨ n = 1 ∨ n = 2) (hk : k = 0 ∨ k = 1 ∨ k = 2) (h : ¬ n = k) : ¬ own_cs n c d = own_cs k c' d' := by
  rcases hn with rfl | rfl | rfl <;> rcases hk with rfl | rfl | rfl <;> simp [own_cs] at h ⊢
theorem own_s2 {n k c d c' d' : Int32} (h : n = k) (h0 : n = 0) : own_cs n c d = own_cs k c' d' := by
  subst h; subst h0; rfl
theorem own_s3 {n k c d c' d' : Int32} (h : n = k) (h0 : ¬ n = 0) (hc : ¬ c = c') : ¬ own_cs n c d = own_cs k c' d' := by
  subst h
  by_cases h1 : n = 1
  · simp [own_cs, h1, hc]
  · simp [own_cs, h0, h1, hc]
theorem own_s4 {n k c d c' d' : Int32} (h : n = k) (h1 : n = 1) (hc : c = c') : own_cs n c d = own_cs k c' d' := by
  subst h; subst h1; subst hc; rfl
theorem own_s5 {n k c d c' d' : Int32} (h : n = k) (h0 : ¬ n = 0) (h1 : ¬ n = 1) (hc : c = c') (hd : d = d') : own_cs n c d = own_cs k c' d' := by
  subst h; subst hc; subst hd; rfl
theorem own_s6 {n k c d c' d' : Int32} (h : n = k) (h0 : ¬ n = 0) (h1 : ¬ n = 1) (hc : c = c') (hd : ¬ d = d') : ¬ own_cs n c d = own_cs k c' d' := by
  subst h
  simp [own_cs, h0, h1, hd]
theorem own_csl (n c d : Int32) : (own_cs n c d).length ≤ 4000 := by
  unfold own_cs; split
  · simp
  · split <;> simp
theorem own_csb {n c d : Int32} (hc : ¬ c < 0 ∧ ¬ (255 : Int32) < c) (hd : ¬ d < 0 ∧ ¬ (255 : Int32) < d) : ∀ x ∈ own_cs n c d, ¬ x < 0 ∧ ¬ (65535 : Int32) < x := by
  have up : ∀ {x : Int32}, (¬ x < 0 ∧ ¬ (255 : Int32) < x) → ¬ x < 0 ∧ ¬ (65535 : Int32) < x := fun {x} h => ⟨h.1, fun q => h.2 (by
    rw [Int32.lt_iff_toInt_lt] at q ⊢
    have e1 : (255 : Int32).toInt = 255 := by decide
    have e2 : (65535 : Int32).toInt = 65535 := by decide
    omega)⟩
  intro x hx
  unfold own_cs at hx
  split at hx
  · cases hx
  · split at hx
    · simp only [List.mem_cons, List.not_mem_nil, or_false] at hx; subst hx; exact up hc
    · simp only [List.mem_cons, List.not_mem_nil, or_false] at hx
      rcases hx with rfl | rfl
      · exact up hc
      · exact up hd
theorem own_n12 (x : Int32) : (1 : Int32) + (x &&& (1 : Int32)) = 1 ∨ (1 : Int32) + (x &&& (1 : Int32)) = 2 := by
  have h := Jvm.Kit.i32_mask x 1 (k := 1) (by decide) (by decide)
  have e1 : (1 : Int32).toInt = 1 := by decide
  have e2 : (2 : Int32).toInt = 2 := by decide
  have s : ((1 : Int32) + (x &&& (1 : Int32))).toInt = (1 : Int32).toInt + (x &&& (1 : Int32)).toInt := Jvm.Kit.i32_add (by omega) (by omega)
  have q : ((1 : Int32) + (x &&& (1 : Int32))).toInt = 1 ∨ ((1 : Int32) + (x &&& (1 : Int32))).toInt = 2 := by omega
  rcases q with q | q
  · exact Or.inl (Int32.toInt_inj.mp (q.trans e1.symm))
  · exact Or.inr (Int32.toInt_inj.mp (q.trans e2.symm))
theorem own_n0 {n : Int32} (h : n = 1 ∨ n = 2) : ¬ n = 0 := by
  rcases h with rfl | rfl <;> decide
theorem own_n3 {n : Int32} (h : n = 1 ∨ n = 2) : n = 0 ∨ n = 1 ∨ n = 2 := Or.inr h
theorem own_and3 (x : Int32) : ((x &&& (3 : Int32)) &&& 7) = 0 ∨ ((x &&& (3 : Int32)) &&& 7) = 1 ∨ ((x &&& (3 : Int32)) &&& 7) = 2 ∨ ((x &&& (3 : Int32)) &&& 7) = 3 := by
  have h := Jvm.Kit.i32_mask x 3 (k := 2) (by decide) (by decide)
  have h2 := Jvm.Kit.i32_mask (x &&& (3 : Int32)) 7 (k := 3) (by decide) (by decide)
  have e0 : (0 : Int32).toInt = 0 := by decide
  have e1 : (1 : Int32).toInt = 1 := by decide
  have e2 : (2 : Int32).toInt = 2 := by decide
  have e3 : (3 : Int32).toInt = 3 := by decide
  have q : ((x &&& (3 : Int32)) &&& 7).toInt = 0 ∨ ((x &&& (3 : Int32)) &&& 7).toInt = 1 ∨ ((x &&& (3 : Int32)) &&& 7).toInt = 2 ∨ ((x &&& (3 : Int32)) &&& 7).toInt = 3 := by omega
  rcases q with q | q | q | q
  · exact Or.inl (Int32.toInt_inj.mp (q.trans e0.symm))
  · exact Or.inr (Or.inl (Int32.toInt_inj.mp (q.trans e1.symm)))
  · exact Or.inr (Or.inr (Or.inl (Int32.toInt_inj.mp (q.trans e2.symm))))
  · exact Or.inr (Or.inr (Or.inr (Int32.toInt_inj.mp (q.trans e3.symm))))
theorem own_k3 {x : Int32} (h : ¬ (x &&& (3 : Int32)) = 3) : (x &&& (3 : Int32)) = 0 ∨ (x &&& (3 : Int32)) = 1 ∨ (x &&& (3 : Int32)) = 2 := by
  have m := Jvm.Kit.i32_mask x 3 (k := 2) (by decide) (by decide)
  have e0 : (0 : Int32).toInt = 0 := by decide
  have e1 : (1 : Int32).toInt = 1 := by decide
  have e2 : (2 : Int32).toInt = 2 := by decide
  have e3 : (3 : Int32).toInt = 3 := by decide
  have n3 : (x &&& (3 : Int32)).toInt ≠ 3 := fun q => h (Int32.toInt_inj.mp (q.trans e3.symm))
  have q : (x &&& (3 : Int32)).toInt = 0 ∨ (x &&& (3 : Int32)).toInt = 1 ∨ (x &&& (3 : Int32)).toInt = 2 := by omega
  rcases q with q | q | q
  · exact Or.inl (Int32.toInt_inj.mp (q.trans e0.symm))
  · exact Or.inr (Or.inl (Int32.toInt_inj.mp (q.trans e1.symm)))
  · exact Or.inr (Or.inr (Int32.toInt_inj.mp (q.trans e2.symm)))
theorem own_cd0 {n c d : Int32} (h : n = 0) : StrChars.Road.CodA (own_cs n c d) 0 (0 : Int32) [] := by
  subst h; exact Or.inl ⟨rfl, rfl, rfl, fun c hc => nomatch hc⟩
theorem own_cd1 {n c d : Int32} (h : n = 1) (hc : ¬ c < 0 ∧ ¬ (255 : Int32) < c) : StrChars.Road.CodA (own_cs n c d) 0 (1 : Int32) [.int (c.toInt8.toInt32)] := by
  subst h
  refine Or.inl ⟨rfl, rfl, rfl, fun x hx => ?_⟩
  have hx' : x ∈ [c] := hx
  simp only [List.mem_cons, List.not_mem_nil, or_false] at hx'
  subst hx'; exact hc.2
theorem own_cd2 {n c d : Int32} (h0 : ¬ n = 0) (h1 : ¬ n = 1) (hc : ¬ c < 0 ∧ ¬ (255 : Int32) < c) (hd : ¬ d < 0 ∧ ¬ (255 : Int32) < d) : StrChars.Road.CodA (own_cs n c d) 0 (2 : Int32) [.int (c.toInt8.toInt32), .int (d.toInt8.toInt32)] := by
  have e : own_cs n c d = [c, d] := by simp [own_cs, h0, h1]
  rw [e]
  refine Or.inl ⟨rfl, rfl, rfl, fun x hx => ?_⟩
  simp only [List.mem_cons, List.not_mem_nil, or_false] at hx
  rcases hx with rfl | rfl
  · exact hc.2
  · exact hd.2
theorem own_EW {Z : State} {a0 : Array Value} (hw : ∀ d ∈ tables_1, d.before a0 Z = true) : EW Z a0 consts_1 := EW.cons (hw _ (List.mem_of_getElem? (i := 56) rfl)) (by decide) (EW.cons (hw _ (List.mem_of_getElem? (i := 61) rfl)) (by decide) (EW.cons (hw _ (List.mem_of_getElem? (i := 62) rfl)) (by decide) (EW.cons (hw _ (List.mem_of_getElem? (i := 63) rfl)) (by decide) (EW.cons (hw _ (List.mem_of_getElem? (i := 11) rfl)) (by decide) (EW.cons (hw _ (List.mem_of_getElem? (i := 127) rfl)) (by decide) (EW.nil))))))
theorem d1_0 : decode method_2_code 0 = .ok (.iload_n 0, 1) := by decide +kernel
theorem d1_1 : decode method_2_code 1 = .ok (.bipush 7, 2) := by decide +kernel
theorem d1_3 : decode method_2_code 3 = .ok (.iand, 1) := by decide +kernel
theorem d1_4 : decode method_2_code 4 = .ok (.istore_n 1, 1) := by decide +kernel
theorem d1_5 : decode method_2_code 5 = .ok (.iload_n 1, 1) := by decide +kernel
theorem d1_6 : decode method_2_code 6 = .ok (.ifCond .ne 6, 3) := by decide +kernel
theorem d1_9 : decode method_2_code 9 = .ok (.bipush 97, 2) := by decide +kernel
theorem d1_11 : decode method_2_code 11 = .ok (.ireturn, 1) := by decide +kernel
theorem d1_12 : decode method_2_code 12 = .ok (.iload_n 1, 1) := by decide +kernel
theorem d1_13 : decode method_2_code 13 = .ok (.iconst 1, 1) := by decide +kernel
theorem d1_14 : decode method_2_code 14 = .ok (.if_icmp .ne 6, 3) := by decide +kernel
theorem d1_17 : decode method_2_code 17 = .ok (.bipush 65, 2) := by decide +kernel
theorem d1_19 : decode method_2_code 19 = .ok (.ireturn, 1) := by decide +kernel
theorem d1_20 : decode method_2_code 20 = .ok (.iload_n 1, 1) := by decide +kernel
theorem d1_21 : decode method_2_code 21 = .ok (.iconst 2, 1) := by decide +kernel
theorem d1_22 : decode method_2_code 22 = .ok (.if_icmp .ne 6, 3) := by decide +kernel
theorem d1_25 : decode method_2_code 25 = .ok (.bipush 98, 2) := by decide +kernel
theorem d1_27 : decode method_2_code 27 = .ok (.ireturn, 1) := by decide +kernel
theorem d1_28 : decode method_2_code 28 = .ok (.iload_n 1, 1) := by decide +kernel
theorem d1_29 : decode method_2_code 29 = .ok (.iconst 3, 1) := by decide +kernel
theorem d1_30 : decode method_2_code 30 = .ok (.if_icmp .ne 6, 3) := by decide +kernel
theorem d1_33 : decode method_2_code 33 = .ok (.bipush 66, 2) := by decide +kernel
theorem d1_35 : decode method_2_code 35 = .ok (.ireturn, 1) := by decide +kernel
theorem d1_36 : decode method_2_code 36 = .ok (.iload_n 1, 1) := by decide +kernel
theorem d1_37 : decode method_2_code 37 = .ok (.iconst 4, 1) := by decide +kernel
theorem d1_38 : decode method_2_code 38 = .ok (.if_icmp .ne 6, 3) := by decide +kernel
theorem d1_41 : decode method_2_code 41 = .ok (.bipush 32, 2) := by decide +kernel
theorem d1_43 : decode method_2_code 43 = .ok (.ireturn, 1) := by decide +kernel
theorem d1_44 : decode method_2_code 44 = .ok (.iload_n 1, 1) := by decide +kernel
theorem d1_45 : decode method_2_code 45 = .ok (.iconst 5, 1) := by decide +kernel
theorem d1_46 : decode method_2_code 46 = .ok (.if_icmp .ne 6, 3) := by decide +kernel
theorem d1_49 : decode method_2_code 49 = .ok (.bipush 48, 2) := by decide +kernel
theorem d1_51 : decode method_2_code 51 = .ok (.ireturn, 1) := by decide +kernel
theorem d1_52 : decode method_2_code 52 = .ok (.iload_n 1, 1) := by decide +kernel
theorem d1_53 : decode method_2_code 53 = .ok (.bipush 6, 2) := by decide +kernel
theorem d1_55 : decode method_2_code 55 = .ok (.if_icmp .ne 7, 3) := by decide +kernel
theorem d1_58 : decode method_2_code 58 = .ok (.sipush 233, 3) := by decide +kernel
theorem d1_61 : decode method_2_code 61 = .ok (.ireturn, 1) := by decide +kernel
theorem d1_62 : decode method_2_code 62 = .ok (.sipush 255, 3) := by decide +kernel
theorem d1_65 : decode method_2_code 65 = .ok (.ireturn, 1) := by decide +kernel
theorem pn_com_example_partition_planner_partitionplanner_RelationshipRelatesPinLaw : plainName "com/example/partition_planner/partitionplanner/RelationshipRelatesPinLaw" = true := by first | (simp [plainName, overriddenIn]; done) | decide +kernel
theorem ef_ch (m : MethodId) (x0 : Int32) : entryFrame m #[(.int x0)] 2 = mkF m 0 #[.val (.int x0), .unset] [] := by first | (simp [entryFrame, mkF, argsToLocals, Value.category]; done) | rfl
def Qch (Z : State) (i : Int32) (h0 : Heap) (n0 : Nat) (v : Option Value) (h : Heap) (L : List Loc) : Prop := Fr n0 L ∧ (∃ r : Int32, v = some (.int r) ∧ (¬ r < 0 ∧ ¬ (255 : Int32) < r) ∧ ((i &&& 7) = 0 ∨ (i &&& 7) = 1 ∨ (i &&& 7) = 2 ∨ (i &&& 7) = 3 → own_nw r) ∧ h = h0)
set_option maxRecDepth 65536 in
set_option maxHeartbeats 40000000 in
theorem rmch (l : Launch) (Z : State) (a0 : Array Value) (hw : ∀ d ∈ tables_1, d.before a0 Z = true) (ws : List Jvm.Cond) (i : Int32) (h0 : Heap) (n0 : Nat) (Z0 : n0 ≤ h0.size) :
    MetFree l (⟨"com/example/partition_planner/partitionplanner/RelationshipRelatesPinLaw", "ch", "(I)C"⟩ : MethodName) (head1 (Jvm.Cond.code (⟨"com/example/partition_planner/partitionplanner/RelationshipRelatesPinLaw", "ch", "(I)C"⟩ : MethodName) method_2_code 2 (some .char) :: ws) ({ frames := 0, cells := 0, slots := 0, locals := 0 } : Room)) (fun as0 U => as0 = #[(.int i)] ∧ Z.Warmed39 U.vm ∧ U.heap = h0) (fun _ _ _ _ _ => True) (fun _ U oc0 U' => ∃ v L, oc0 = .returned v ∧ Qch Z i h0 n0 v U'.heap L ∧ FrameEnd U oc0 U' L ({ frames := 0, cells := 0, slots := 0, locals := 0 } : Room).cells ({ frames := 0, cells := 0, slots := 0, locals := 0 } : Room).slots) := by
  refine MetFree.of_bodySF (plainFor_of_name pn_com_example_partition_planner_partitionplanner_RelationshipRelatesPinLaw) hisR ?_
  intro p e s m args below meth c s₁ Bd hml0 hP hK
  obtain ⟨rfl, hZ, hh⟩ := hP
  have hx := Bd.exec
  have hby := Bd.bytes
  have hml : c.maxLocals = 2 := hml0
  have hown : s.vm.findClass "com/example/partition_planner/partitionplanner/RelationshipRelatesPinLaw" = some m.cls := findClass_of_methodNamed Bd.named
  have hnm := (name_of_methodNamed Bd.named Bd.method).1
  have X0 : Stand p l e ({ frames := 0, cells := 0, slots := 0, locals := 0 } : Room) s m #[(.int i)] below meth c s₁ [] 0 0 := Stand.of_body Bd
  have e0 : s₁.heap = h0 := by rw [← hh, Bd.state]; rfl
  have N0 := Fr.nil n0
  show Gl p e below s (Qch Z i h0 n0) ({ frames := 0, cells := 0, slots := 0, locals := 0 } : Room).cells ({ frames := 0, cells := 0, slots := 0, locals := 0 } : Room).slots (s₁.setTop (entryFrame m #[(.int i)] 2))
  refine Gl.back (fun _ k => castTop (ef_ch m i) k) ?_
  show Gl _ _ _ _ _ _ _ (s₁.setTop (mkF m 0 #[.val (.int i), .unset] []))
  refine Gl.back (fun _ k => XS.iloadN X0.here hx rfl (hb hby d1_0) rfl k) ?_
  show Gl _ _ _ _ _ _ _ (s₁.setTop (mkF m 1 #[.val (.int i), .unset] [(.int i)]))
  refine Gl.back (fun _ k => XS.bipush X0.here hx rfl (hb hby d1_1) k) ?_
  show Gl _ _ _ _ _ _ _ (s₁.setTop (mkF m 3 #[.val (.int i), .unset] [(.int (7 : Int32)), (.int i)]))
  refine Gl.back (fun _ k => XS.iand X0.here hx rfl (hb hby d1_3) rfl k) ?_
  show Gl _ _ _ _ _ _ _ (s₁.setTop (mkF m 4 #[.val (.int i), .unset] [(.int (i &&& (7 : Int32)))]))
  refine Gl.back (fun _ k => XS.istoreN X0.here hx rfl (hb hby d1_4) rfl (l' := #[.val (.int i), .val (.int (i &&& (7 : Int32)))]) rfl k) ?_
  show Gl _ _ _ _ _ _ _ (s₁.setTop (mkF m 5 #[.val (.int i), .val (.int (i &&& (7 : Int32)))] []))
  refine Gl.back (fun _ k => XS.iloadN X0.here hx rfl (hb hby d1_5) rfl k) ?_
  show Gl _ _ _ _ _ _ _ (s₁.setTop (mkF m 6 #[.val (.int i), .val (.int (i &&& (7 : Int32)))] [(.int (i &&& (7 : Int32)))]))
  by_cases hc6_5 : (i &&& (7 : Int32)) = (0 : Int32)
  · refine Gl.back (fun _ k => XS.ifNo X0.here hx rfl (hb hby d1_6) rfl ((if0 _ _).trans (teq hc6_5).2) k) ?_
    show Gl _ _ _ _ _ _ _ (s₁.setTop (mkF m 9 #[.val (.int i), .val (.int (i &&& (7 : Int32)))] []))
    refine Gl.back (fun _ k => XS.bipush X0.here hx rfl (hb hby d1_9) k) ?_
    show Gl _ _ _ _ _ _ _ (s₁.setTop (mkF m 11 #[.val (.int i), .val (.int (i &&& (7 : Int32)))] [(.int (97 : Int32))]))
    exact Gl.ret X0 e0 (v := (some (.int (97 : Int32)))) (fun h => by rw [Bd.returns] at h; cases h) Bd.notSynchronized (fun fs hr => retN X0 hx (t := .char) (z := (97 : Int32)) Bd.returns (by simp) (hb hby d1_11) hr) ⟨N0, _, rfl, ⟨by decide, by decide⟩, fun _ => by unfold own_nw; decide, rfl⟩ (by decide) (by decide)
  · refine Gl.back (fun _ k => XS.ifYes X0.here hx rfl (pc0 := 6) (pc' := 12) rfl (hb hby d1_6) rfl ((if0 _ _).trans (feq hc6_5).2) (by decide) (by decide) k) ?_
    show Gl _ _ _ _ _ _ _ (s₁.setTop (mkF m 12 #[.val (.int i), .val (.int (i &&& (7 : Int32)))] []))
    refine Gl.back (fun _ k => XS.iloadN X0.here hx rfl (hb hby d1_12) rfl k) ?_
    show Gl _ _ _ _ _ _ _ (s₁.setTop (mkF m 13 #[.val (.int i), .val (.int (i &&& (7 : Int32)))] [(.int (i &&& (7 : Int32)))]))
    refine Gl.back (fun _ k => XS.iconst X0.here hx rfl (hb hby d1_13) k) ?_
    show Gl _ _ _ _ _ _ _ (s₁.setTop (mkF m 14 #[.val (.int i), .val (.int (i &&& (7 : Int32)))] [(.int (1 : Int32)), (.int (i &&& (7 : Int32)))]))
    by_cases hc14_6 : (i &&& (7 : Int32)) = (1 : Int32)
    · refine Gl.back (fun _ k => XS.icmpNo X0.here hx rfl (hb hby d1_14) rfl (teq hc14_6).2 k) ?_
      show Gl _ _ _ _ _ _ _ (s₁.setTop (mkF m 17 #[.val (.int i), .val (.int (i &&& (7 : Int32)))] []))
      refine Gl.back (fun _ k => XS.bipush X0.here hx rfl (hb hby d1_17) k) ?_
      show Gl _ _ _ _ _ _ _ (s₁.setTop (mkF m 19 #[.val (.int i), .val (.int (i &&& (7 : Int32)))] [(.int (65 : Int32))]))
      exact Gl.ret X0 e0 (v := (some (.int (65 : Int32)))) (fun h => by rw [Bd.returns] at h; cases h) Bd.notSynchronized (fun fs hr => retN X0 hx (t := .char) (z := (65 : Int32)) Bd.returns (by simp) (hb hby d1_19) hr) ⟨N0, _, rfl, ⟨by decide, by decide⟩, fun _ => by unfold own_nw; decide, rfl⟩ (by decide) (by decide)
    · refine Gl.back (fun _ k => XS.icmpYes X0.here hx rfl (pc0 := 14) (pc' := 20) rfl (hb hby d1_14) rfl (feq hc14_6).2 (by decide) (by decide) k) ?_
      show Gl _ _ _ _ _ _ _ (s₁.setTop (mkF m 20 #[.val (.int i), .val (.int (i &&& (7 : Int32)))] []))
      refine Gl.back (fun _ k => XS.iloadN X0.here hx rfl (hb hby d1_20) rfl k) ?_
      show Gl _ _ _ _ _ _ _ (s₁.setTop (mkF m 21 #[.val (.int i), .val (.int (i &&& (7 : Int32)))] [(.int (i &&& (7 : Int32)))]))
      refine Gl.back (fun _ k => XS.iconst X0.here hx rfl (hb hby d1_21) k) ?_
      show Gl _ _ _ _ _ _ _ (s₁.setTop (mkF m 22 #[.val (.int i), .val (.int (i &&& (7 : Int32)))] [(.int (2 : Int32)), (.int (i &&& (7 : Int32)))]))
      by_cases hc22_7 : (i &&& (7 : Int32)) = (2 : Int32)
      · refine Gl.back (fun _ k => XS.icmpNo X0.here hx rfl (hb hby d1_22) rfl (teq hc22_7).2 k) ?_
        show Gl _ _ _ _ _ _ _ (s₁.setTop (mkF m 25 #[.val (.int i), .val (.int (i &&& (7 : Int32)))] []))
        refine Gl.back (fun _ k => XS.bipush X0.here hx rfl (hb hby d1_25) k) ?_
        show Gl _ _ _ _ _ _ _ (s₁.setTop (mkF m 27 #[.val (.int i), .val (.int (i &&& (7 : Int32)))] [(.int (98 : Int32))]))
        exact Gl.ret X0 e0 (v := (some (.int (98 : Int32)))) (fun h => by rw [Bd.returns] at h; cases h) Bd.notSynchronized (fun fs hr => retN X0 hx (t := .char) (z := (98 : Int32)) Bd.returns (by simp) (hb hby d1_27) hr) ⟨N0, _, rfl, ⟨by decide, by decide⟩, fun _ => by unfold own_nw; decide, rfl⟩ (by decide) (by decide)
      · refine Gl.back (fun _ k => XS.icmpYes X0.here hx rfl (pc0 := 22) (pc' := 28) rfl (hb hby d1_22) rfl (feq hc22_7).2 (by decide) (by decide) k) ?_
        show Gl _ _ _ _ _ _ _ (s₁.setTop (mkF m 28 #[.val (.int i), .val (.int (i &&& (7 : Int32)))] []))
        refine Gl.back (fun _ k => XS.iloadN X0.here hx rfl (hb hby d1_28) rfl k) ?_
        show Gl _ _ _ _ _ _ _ (s₁.setTop (mkF m 29 #[.val (.int i), .val (.int (i &&& (7 : Int32)))] [(.int (i &&& (7 : Int32)))]))
        refine Gl.back (fun _ k => XS.iconst X0.here hx rfl (hb hby d1_29) k) ?_
        show Gl _ _ _ _ _ _ _ (s₁.setTop (mkF m 30 #[.val (.int i), .val (.int (i &&& (7 : Int32)))] [(.int (3 : Int32)), (.int (i &&& (7 : Int32)))]))
        by_cases hc30_8 : (i &&& (7 : Int32)) = (3 : Int32)
        · refine Gl.back (fun _ k => XS.icmpNo X0.here hx rfl (hb hby d1_30) rfl (teq hc30_8).2 k) ?_
          show Gl _ _ _ _ _ _ _ (s₁.setTop (mkF m 33 #[.val (.int i), .val (.int (i &&& (7 : Int32)))] []))
          refine Gl.back (fun _ k => XS.bipush X0.here hx rfl (hb hby d1_33) k) ?_
          show Gl _ _ _ _ _ _ _ (s₁.setTop (mkF m 35 #[.val (.int i), .val (.int (i &&& (7 : Int32)))] [(.int (66 : Int32))]))
          exact Gl.ret X0 e0 (v := (some (.int (66 : Int32)))) (fun h => by rw [Bd.returns] at h; cases h) Bd.notSynchronized (fun fs hr => retN X0 hx (t := .char) (z := (66 : Int32)) Bd.returns (by simp) (hb hby d1_35) hr) ⟨N0, _, rfl, ⟨by decide, by decide⟩, fun _ => by unfold own_nw; decide, rfl⟩ (by decide) (by decide)
        · refine Gl.back (fun _ k => XS.icmpYes X0.here hx rfl (pc0 := 30) (pc' := 36) rfl (hb hby d1_30) rfl (feq hc30_8).2 (by decide) (by decide) k) ?_
          show Gl _ _ _ _ _ _ _ (s₁.setTop (mkF m 36 #[.val (.int i), .val (.int (i &&& (7 : Int32)))] []))
          refine Gl.back (fun _ k => XS.iloadN X0.here hx rfl (hb hby d1_36) rfl k) ?_
          show Gl _ _ _ _ _ _ _ (s₁.setTop (mkF m 37 #[.val (.int i), .val (.int (i &&& (7 : Int32)))] [(.int (i &&& (7 : Int32)))]))
          refine Gl.back (fun _ k => XS.iconst X0.here hx rfl (hb hby d1_37) k) ?_
          show Gl _ _ _ _ _ _ _ (s₁.setTop (mkF m 38 #[.val (.int i), .val (.int (i &&& (7 : Int32)))] [(.int (4 : Int32)), (.int (i &&& (7 : Int32)))]))
          by_cases hc38_9 : (i &&& (7 : Int32)) = (4 : Int32)
          · refine Gl.back (fun _ k => XS.icmpNo X0.here hx rfl (hb hby d1_38) rfl (teq hc38_9).2 k) ?_
            show Gl _ _ _ _ _ _ _ (s₁.setTop (mkF m 41 #[.val (.int i), .val (.int (i &&& (7 : Int32)))] []))
            refine Gl.back (fun _ k => XS.bipush X0.here hx rfl (hb hby d1_41) k) ?_
            show Gl _ _ _ _ _ _ _ (s₁.setTop (mkF m 43 #[.val (.int i), .val (.int (i &&& (7 : Int32)))] [(.int (32 : Int32))]))
            exact Gl.ret X0 e0 (v := (some (.int (32 : Int32)))) (fun h => by rw [Bd.returns] at h; cases h) Bd.notSynchronized (fun fs hr => retN X0 hx (t := .char) (z := (32 : Int32)) Bd.returns (by simp) (hb hby d1_43) hr) ⟨N0, _, rfl, ⟨by decide, by decide⟩, fun q => absurd q (own_n4 hc6_5 hc14_6 hc22_7 hc30_8), rfl⟩ (by decide) (by decide)
          · refine Gl.back (fun _ k => XS.icmpYes X0.here hx rfl (pc0 := 38) (pc' := 44) rfl (hb hby d1_38) rfl (feq hc38_9).2 (by decide) (by decide) k) ?_
            show Gl _ _ _ _ _ _ _ (s₁.setTop (mkF m 44 #[.val (.int i), .val (.int (i &&& (7 : Int32)))] []))
            refine Gl.back (fun _ k => XS.iloadN X0.here hx rfl (hb hby d1_44) rfl k) ?_
            show Gl _ _ _ _ _ _ _ (s₁.setTop (mkF m 45 #[.val (.int i), .val (.int (i &&& (7 : Int32)))] [(.int (i &&& (7 : Int32)))]))
            refine Gl.back (fun _ k => XS.iconst X0.here hx rfl (hb hby d1_45) k) ?_
            show Gl _ _ _ _ _ _ _ (s₁.setTop (mkF m 46 #[.val (.int i), .val (.int (i &&& (7 : Int32)))] [(.int (5 : Int32)), (.int (i &&& (7 : Int32)))]))
            by_cases hc46_10 : (i &&& (7 : Int32)) = (5 : Int32)
            · refine Gl.back (fun _ k => XS.icmpNo X0.here hx rfl (hb hby d1_46) rfl (teq hc46_10).2 k) ?_
              show Gl _ _ _ _ _ _ _ (s₁.setTop (mkF m 49 #[.val (.int i), .val (.int (i &&& (7 : Int32)))] []))
              refine Gl.back (fun _ k => XS.bipush X0.here hx rfl (hb hby d1_49) k) ?_
              show Gl _ _ _ _ _ _ _ (s₁.setTop (mkF m 51 #[.val (.int i), .val (.int (i &&& (7 : Int32)))] [(.int (48 : Int32))]))
              exact Gl.ret X0 e0 (v := (some (.int (48 : Int32)))) (fun h => by rw [Bd.returns] at h; cases h) Bd.notSynchronized (fun fs hr => retN X0 hx (t := .char) (z := (48 : Int32)) Bd.returns (by simp) (hb hby d1_51) hr) ⟨N0, _, rfl, ⟨by decide, by decide⟩, fun q => absurd q (own_n4 hc6_5 hc14_6 hc22_7 hc30_8), rfl⟩ (by decide) (by decide)
            · refine Gl.back (fun _ k => XS.icmpYes X0.here hx rfl (pc0 := 46) (pc' := 52) rfl (hb hby d1_46) rfl (feq hc46_10).2 (by decide) (by decide) k) ?_
              show Gl _ _ _ _ _ _ _ (s₁.setTop (mkF m 52 #[.val (.int i), .val (.int (i &&& (7 : Int32)))] []))
              refine Gl.back (fun _ k => XS.iloadN X0.here hx rfl (hb hby d1_52) rfl k) ?_
              show Gl _ _ _ _ _ _ _ (s₁.setTop (mkF m 53 #[.val (.int i), .val (.int (i &&& (7 : Int32)))] [(.int (i &&& (7 : Int32)))]))
              refine Gl.back (fun _ k => XS.bipush X0.here hx rfl (hb hby d1_53) k) ?_
              show Gl _ _ _ _ _ _ _ (s₁.setTop (mkF m 55 #[.val (.int i), .val (.int (i &&& (7 : Int32)))] [(.int (6 : Int32)), (.int (i &&& (7 : Int32)))]))
              by_cases hc55_11 : (i &&& (7 : Int32)) = (6 : Int32)
              · refine Gl.back (fun _ k => XS.icmpNo X0.here hx rfl (hb hby d1_55) rfl (teq hc55_11).2 k) ?_
                show Gl _ _ _ _ _ _ _ (s₁.setTop (mkF m 58 #[.val (.int i), .val (.int (i &&& (7 : Int32)))] []))
                refine Gl.back (fun _ k => XS.sipush X0.here hx rfl (hb hby d1_58) k) ?_
                show Gl _ _ _ _ _ _ _ (s₁.setTop (mkF m 61 #[.val (.int i), .val (.int (i &&& (7 : Int32)))] [(.int (233 : Int32))]))
                exact Gl.ret X0 e0 (v := (some (.int (233 : Int32)))) (fun h => by rw [Bd.returns] at h; cases h) Bd.notSynchronized (fun fs hr => retN X0 hx (t := .char) (z := (233 : Int32)) Bd.returns (by simp) (hb hby d1_61) hr) ⟨N0, _, rfl, ⟨by decide, by decide⟩, fun q => absurd q (own_n4 hc6_5 hc14_6 hc22_7 hc30_8), rfl⟩ (by decide) (by decide)
              · refine Gl.back (fun _ k => XS.icmpYes X0.here hx rfl (pc0 := 55) (pc' := 62) rfl (hb hby d1_55) rfl (feq hc55_11).2 (by decide) (by decide) k) ?_
                show Gl _ _ _ _ _ _ _ (s₁.setTop (mkF m 62 #[.val (.int i), .val (.int (i &&& (7 : Int32)))] []))
                refine Gl.back (fun _ k => XS.sipush X0.here hx rfl (hb hby d1_62) k) ?_
                show Gl _ _ _ _ _ _ _ (s₁.setTop (mkF m 65 #[.val (.int i), .val (.int (i &&& (7 : Int32)))] [(.int (255 : Int32))]))
                exact Gl.ret X0 e0 (v := (some (.int (255 : Int32)))) (fun h => by rw [Bd.returns] at h; cases h) Bd.notSynchronized (fun fs hr => retN X0 hx (t := .char) (z := (255 : Int32)) Bd.returns (by simp) (hb hby d1_65) hr) ⟨N0, _, rfl, ⟨by decide, by decide⟩, fun q => absurd q (own_n4 hc6_5 hc14_6 hc22_7 hc30_8), rfl⟩ (by decide) (by decide)
theorem d4_0 : decode jdk_42_method_149_code 0 = .ok (.aload_n 0, 1) := by decide +kernel
theorem d4_1 : decode jdk_42_method_149_code 1 = .ok (.invokespecial 1, 3) := by decide +kernel
theorem d4_4 : decode jdk_42_method_149_code 4 = .ok (.iload_n 3, 1) := by decide +kernel
theorem d4_5 : decode jdk_42_method_149_code 5 = .ok (.ifCond .ne 22, 3) := by decide +kernel
theorem d4_8 : decode jdk_42_method_149_code 8 = .ok (.aload_n 0, 1) := by decide +kernel
theorem d4_9 : decode jdk_42_method_149_code 9 = .ok (.ldc 7, 2) := by decide +kernel
theorem d4_11 : decode jdk_42_method_149_code 11 = .ok (.getfield 9, 3) := by decide +kernel
theorem d4_14 : decode jdk_42_method_149_code 14 = .ok (.putfield 9, 3) := by decide +kernel
theorem d4_17 : decode jdk_42_method_149_code 17 = .ok (.aload_n 0, 1) := by decide +kernel
theorem d4_18 : decode jdk_42_method_149_code 18 = .ok (.ldc 7, 2) := by decide +kernel
theorem d4_20 : decode jdk_42_method_149_code 20 = .ok (.getfield 15, 3) := by decide +kernel
theorem d4_23 : decode jdk_42_method_149_code 23 = .ok (.putfield 15, 3) := by decide +kernel
theorem d4_26 : decode jdk_42_method_149_code 26 = .ok (.return_, 1) := by decide +kernel
theorem pn_java_lang_String : plainName "java/lang/String" = true := by first | (simp [plainName, overriddenIn]; done) | decide +kernel
theorem ef_new4 (m : MethodId) (x0 : Addr) (x1 : Addr) : entryFrame m #[(.ref x0), (.ref x1), (.int (0 : Int32)), (.int (0 : Int32)), .null] 6 = mkF m 0 #[.val (.ref x0), .val (.ref x1), .val (.int (0 : Int32)), .val (.int (0 : Int32)), .val .null, .unset] [] := by first | (simp [entryFrame, mkF, argsToLocals, Value.category]; done) | rfl
def Qnew4 (Z : State) (xs : Addr) (b : Addr) (h0 : Heap) (n0 : Nat) (v : Option Value) (h : Heap) (L : List Loc) : Prop := Fr n0 L ∧ (v = none ∧ Keep h0 h [xs] ∧ ∃ (t : Addr) (k : ClassId), Fld Z h xs "java/lang/String" "coder" "B" (.int 0) ∧ Fld Z h xs "java/lang/String" "value" "[B" (.ref t) ∧ Arv Z h t k .byte (0 : Int32) [] (.int (0 : Int32)))
set_option maxRecDepth 65536 in
set_option maxHeartbeats 40000000 in
theorem rmnew4 (l : Launch) (Z : State) (a0 : Array Value) (hw : ∀ d ∈ tables_1, d.before a0 Z = true) (ws : List Jvm.Cond) (xs : Addr) (b : Addr) (h0 : Heap) (n0 : Nat) (Z0 : n0 ≤ h0.size) (g_x : n0 ≤ xs) (E_x : Exa Z h0 xs "java/lang/String") (F_v : Fld Z h0 xs "java/lang/String" "value" "[B" .null) (F_c : Fld Z h0 xs "java/lang/String" "coder" "B" (.int 0)) :
    MetFree l (⟨"java/lang/String", "<init>", "([CIILjava/lang/Void;)V"⟩ : MethodName) (head1 (Jvm.Cond.code (⟨"java/lang/String", "<init>", "([CIILjava/lang/Void;)V"⟩ : MethodName) jdk_42_method_149_code 6 none :: ws) ({ frames := 1, cells := 2, slots := 4, locals := 12 } : Room)) (fun as0 U => as0 = #[(.ref xs), (.ref b), (.int (0 : Int32)), (.int (0 : Int32)), .null] ∧ Z.Warmed39 U.vm ∧ U.heap = h0 ∧ CHv Z consts_1 U.vm h0) (fun _ _ _ _ _ => True) (fun _ U oc0 U' => ∃ v L, oc0 = .returned v ∧ Qnew4 Z xs b h0 n0 v U'.heap L ∧ CHr Z consts_1 U.vm U.heap U'.vm U'.heap ∧ ReturnedEndW U oc0 U' L ({ frames := 1, cells := 2, slots := 4, locals := 12 } : Room).cells ({ frames := 1, cells := 2, slots := 4, locals := 12 } : Room).slots) := by
  refine MetFree.of_bodySF (plainFor_of_name pn_java_lang_String) hisR ?_
  intro p e s m args below meth c s₁ Bd hml0 hP hK
  obtain ⟨rfl, hZ, hh, hCH⟩ := hP
  have hx := Bd.exec
  have hby := Bd.bytes
  have hml : c.maxLocals = 6 := hml0
  have hown : s.vm.findClass "java/lang/String" = some m.cls := findClass_of_methodNamed Bd.named
  have hnm := (name_of_methodNamed Bd.named Bd.method).1
  have X0 : Stand p l e ({ frames := 1, cells := 2, slots := 4, locals := 12 } : Room) (s.setVm s.vm) m #[(.ref xs), (.ref b), (.int (0 : Int32)), (.int (0 : Int32)), .null] below meth c s₁ [] 0 0 := Stand.of_body Bd
  have e0 : s₁.heap = h0 := by rw [← hh, Bd.state]; rfl
  have N0 := Fr.nil n0
  have hZ0 : Z.Warmed39 (s.setVm s.vm).vm := hZ
  have hown0 : (s.setVm s.vm).vm.findClass "java/lang/String" = some m.cls := hown
  have hS0 : s.Since s.vm 0 := (State.WarmedH.refl s).since 0
  have SK0 : 0 ≤ h0.size := Nat.zero_le _
  have hEL : EW Z a0 consts_1 := own_EW hw
  have CH0 : CHr Z consts_1 s.vm h0 (s.setVm s.vm).vm h0 := CHr.refl hCH
  show GlH Z consts_1 p e below s (Qnew4 Z xs b h0 n0) ({ frames := 1, cells := 2, slots := 4, locals := 12 } : Room).cells ({ frames := 1, cells := 2, slots := 4, locals := 12 } : Room).slots (s₁.setTop (entryFrame m #[(.ref xs), (.ref b), (.int (0 : Int32)), (.int (0 : Int32)), .null] 6))
  refine GlH.back (fun _ k => castTop (ef_new4 m xs b) k) ?_
  show GlH Z consts_1 _ _ _ _ _ _ _ (s₁.setTop (mkF m 0 #[.val (.ref xs), .val (.ref b), .val (.int (0 : Int32)), .val (.int (0 : Int32)), .val .null, .unset] []))
  refine GlH.back (fun _ k => XS.aloadN X0.here hx rfl (hb hby d4_0) rfl rfl k) ?_
  show GlH Z consts_1 _ _ _ _ _ _ _ (s₁.setTop (mkF m 1 #[.val (.ref xs), .val (.ref b), .val (.int (0 : Int32)), .val (.int (0 : Int32)), .val .null, .unset] [(.ref xs)]))
  obtain ⟨T12, X12, e12, st12⟩ := initO X0 hx hZ0 hown0 (hw _ (List.mem_of_getElem? (i := 31) rfl)) (hw _ (List.mem_of_getElem? (i := 32) rfl)) (hw _ (List.mem_of_getElem? (i := 33) rfl)) e0 (g := (mkF m 1 #[.val (.ref xs), .val (.ref b), .val (.int (0 : Int32)), .val (.int (0 : Int32)), .val .null, .unset] [(.ref xs)])) rfl (by rw [hml]; rfl) rfl (hb hby d4_1) (by decide) (W := 0) (by show 2 * 0 + _ ≤ _; exact Nat.le_of_eq rfl) (by decide)
  refine GlH.back (fun _ k => st12 _ k) ?_
  show GlH Z consts_1 _ _ _ _ _ _ _ (T12.setTop (mkF m 4 #[.val (.ref xs), .val (.ref b), .val (.int (0 : Int32)), .val (.int (0 : Int32)), .val .null, .unset] []))
  refine GlH.back (fun _ k => XS.iloadN X12.here hx rfl (hb hby d4_4) rfl k) ?_
  show GlH Z consts_1 _ _ _ _ _ _ _ (T12.setTop (mkF m 5 #[.val (.ref xs), .val (.ref b), .val (.int (0 : Int32)), .val (.int (0 : Int32)), .val .null, .unset] [(.int (0 : Int32))]))
  refine GlH.back (fun _ k => XS.ifNo X12.here hx rfl (hb hby d4_5) rfl ((if0 _ _).trans (teq (by decide : (0 : Int32) = (0 : Int32))).2) k) ?_
  show GlH Z consts_1 _ _ _ _ _ _ _ (T12.setTop (mkF m 8 #[.val (.ref xs), .val (.ref b), .val (.int (0 : Int32)), .val (.int (0 : Int32)), .val .null, .unset] []))
  refine GlH.back (fun _ k => XS.aloadN X12.here hx rfl (hb hby d4_8) rfl rfl k) ?_
  show GlH Z consts_1 _ _ _ _ _ _ _ (T12.setTop (mkF m 9 #[.val (.ref xs), .val (.ref b), .val (.int (0 : Int32)), .val (.int (0 : Int32)), .val .null, .unset] [(.ref xs)]))
  have wS : ∀ d ∈ Bundle.stringAtoms, d.before a0 Z = true := fun d hd => hw d ((by decide +kernel : ∀ d ∈ Bundle.stringAtoms, d ∈ tables_1) d hd)
  obtain ⟨b13, T13, h13, k113, t13, k013, X13, e13, E13, hS13, SK13, hZ13, hown13, Ea13, Fc13, Fv13, Va13, lt13a, lt13b, CHq13, Lt13, hne13, st13⟩ := ldcCH X12 hx hZ0 hown0 (hw _ (List.mem_of_getElem? (i := 127) rfl)) wS e12 hS0 SK0 hEL (by decide +kernel) CH0.1 (vs := []) (z := (0 : Int32)) ⟨by decide +kernel, by decide +kernel⟩ (by decide) (by decide) (g := (mkF m 9 #[.val (.ref xs), .val (.ref b), .val (.int (0 : Int32)), .val (.int (0 : Int32)), .val .null, .unset] [(.ref xs)])) rfl (hb hby d4_9) (n := 0) (by decide +kernel) (by decide) (by decide) (by decide)
  have Z13 : n0 ≤ h13.size := Nat.le_trans Z0 E13.1
  have K13 := Keep.ext (Keep.refl h0 [xs]) E13
  have CH13 := CHr.trans CH0 CHq13
  have f14 := (E_x.ext E13)
  have f15 := (F_v.ext E13)
  have ne_xs_b13 : xs ≠ b13 := (hne13 _ (own_safeNull hZ13.alike f14 f15)).1
  have ne_xs_t13 : xs ≠ t13 := (hne13 _ (own_safeNull hZ13.alike f14 f15)).2
  refine GlH.back (fun _ k => st13 _ k) ?_
  show GlH Z consts_1 _ _ _ _ _ _ _ (T13.setTop (mkF m 11 #[.val (.ref xs), .val (.ref b), .val (.int (0 : Int32)), .val (.int (0 : Int32)), .val .null, .unset] [(.ref b13), (.ref xs)]))
  obtain ⟨T16, X16, e16, st16⟩ := getF X13 hx hZ13 hown13 (host := "") (Or.inl (hw _ (List.mem_of_getElem? (i := 46) rfl))) Via.refl e13 Fv13 (g := (mkF m 11 #[.val (.ref xs), .val (.ref b), .val (.int (0 : Int32)), .val (.int (0 : Int32)), .val .null, .unset] [(.ref b13), (.ref xs)])) rfl rfl (hb hby d4_11)
  refine GlH.back (fun _ k => st16 _ k) ?_
  show GlH Z consts_1 _ _ _ _ _ _ _ (T16.setTop (mkF m 14 #[.val (.ref xs), .val (.ref b), .val (.int (0 : Int32)), .val (.int (0 : Int32)), .val .null, .unset] [(.ref t13), (.ref xs)]))
  have sf17 : Safe Z consts_1 _ _ xs := (own_safeNull hZ13.alike f14 f15)
  obtain ⟨T18, h18, X18, e18, W18, st18⟩ := putF X16 hx hZ13 hown13 (host := "") (Or.inl (hw _ (List.mem_of_getElem? (i := 46) rfl))) Via.refl e16 f15 f14 (Or.inr ⟨(hw _ (List.mem_of_getElem? (i := 15) rfl)), rfl, hnm⟩) (hw _ (List.mem_of_getElem? (i := 13) rfl)) (ty := (.array .byte)) (by decide) rfl rfl (g := (mkF m 14 #[.val (.ref xs), .val (.ref b), .val (.int (0 : Int32)), .val (.int (0 : Int32)), .val .null, .unset] [(.ref t13), (.ref xs)])) rfl rfl (hb hby d4_14)
  have Fw18 := f15.same W18
  have K18 := Keep.wr K13 W18 (Or.inl (List.mem_of_getElem? (i := 0) rfl))
  have Z18 : n0 ≤ h18.size := Nat.le_trans Z13 (Keep.of_wr W18).1
  have SK18 := Nat.le_trans SK13 (Keep.of_wr W18).1
  have sf19 := Safe.wr W18 sf17 CH13.1 sf17
  have CH18 := CHr.trans CH13 (CHr.wr W18 sf17 CH13.1)
  have N18 := Fr.snoc X18 N0 g_x
  refine GlH.back (fun _ k => st18 _ k) ?_
  show GlH Z consts_1 _ _ _ _ _ _ _ (T18.setTop (mkF m 17 #[.val (.ref xs), .val (.ref b), .val (.int (0 : Int32)), .val (.int (0 : Int32)), .val .null, .unset] []))
  refine GlH.back (fun _ k => XS.aloadN X18.here hx rfl (hb hby d4_17) rfl rfl k) ?_
  show GlH Z consts_1 _ _ _ _ _ _ _ (T18.setTop (mkF m 18 #[.val (.ref xs), .val (.ref b), .val (.int (0 : Int32)), .val (.int (0 : Int32)), .val .null, .unset] [(.ref xs)]))
  refine GlH.back (fun _ k => ldcAgain X18 hx hZ13 hown13 (hw _ (List.mem_of_getElem? (i := 127) rfl)) Lt13 (g := (mkF m 18 #[.val (.ref xs), .val (.ref b), .val (.int (0 : Int32)), .val (.int (0 : Int32)), .val .null, .unset] [(.ref xs)])) rfl (hb hby d4_18) _ k) ?_
  show GlH Z consts_1 _ _ _ _ _ _ _ (T18.setTop (mkF m 20 #[.val (.ref xs), .val (.ref b), .val (.int (0 : Int32)), .val (.int (0 : Int32)), .val .null, .unset] [(.ref b13), (.ref xs)]))
  have f20 := (Fc13.other W18 (Or.inl (Ne.symm ne_xs_b13)))
  obtain ⟨T21, X21, e21, st21⟩ := getF X18 hx hZ13 hown13 (host := "") (Or.inl (hw _ (List.mem_of_getElem? (i := 45) rfl))) Via.refl e18 f20 (g := (mkF m 20 #[.val (.ref xs), .val (.ref b), .val (.int (0 : Int32)), .val (.int (0 : Int32)), .val .null, .unset] [(.ref b13), (.ref xs)])) rfl rfl (hb hby d4_20)
  refine GlH.back (fun _ k => st21 _ k) ?_
  show GlH Z consts_1 _ _ _ _ _ _ _ (T21.setTop (mkF m 23 #[.val (.ref xs), .val (.ref b), .val (.int (0 : Int32)), .val (.int (0 : Int32)), .val .null, .unset] [(.int (0 : Int32)), (.ref xs)]))
  have sf22 : Safe Z consts_1 _ _ xs := sf19
  have f23 := (f14.wr W18)
  have f24 := ((F_c.ext E13).other W18 (Or.inr (slot_ne (Or.inr (hw _ (List.mem_of_getElem? (i := 16) rfl))) (Or.inr (hw _ (List.mem_of_getElem? (i := 15) rfl))) (by decide) (t := .byte) (t' := (.array .byte)) (by decide) (by decide))))
  obtain ⟨T25, h25, X25, e25, W25, st25⟩ := putFN X21 hx hZ13 hown13 (hw _ (List.mem_of_getElem? (i := 45) rfl)) Via.refl e21 f24 f23 (Or.inr ⟨(hw _ (List.mem_of_getElem? (i := 16) rfl)), rfl, hnm⟩) (hw _ (List.mem_of_getElem? (i := 13) rfl)) (ty := .byte) (v' := (.int (0 : Int32))) (by decide) rfl (by decide) (g := (mkF m 23 #[.val (.ref xs), .val (.ref b), .val (.int (0 : Int32)), .val (.int (0 : Int32)), .val .null, .unset] [(.int (0 : Int32)), (.ref xs)])) rfl rfl (hb hby d4_23)
  have Fw25 := f24.same W25
  have K25 := Keep.wr K18 W25 (Or.inl (List.mem_of_getElem? (i := 0) rfl))
  have Z25 : n0 ≤ h25.size := Nat.le_trans Z18 (Keep.of_wr W25).1
  have SK25 := Nat.le_trans SK18 (Keep.of_wr W25).1
  have sf26 := Safe.wr W25 sf22 CH18.1 sf22
  have CH25 := CHr.trans CH18 (CHr.wr W25 sf22 CH18.1)
  have N25 := Fr.snoc X25 N18 g_x
  refine GlH.back (fun _ k => st25 _ k) ?_
  show GlH Z consts_1 _ _ _ _ _ _ _ (T25.setTop (mkF m 26 #[.val (.ref xs), .val (.ref b), .val (.int (0 : Int32)), .val (.int (0 : Int32)), .val .null, .unset] []))
  have f27 := (Fw18.other W25 (Or.inr (slot_ne (Or.inr (hw _ (List.mem_of_getElem? (i := 15) rfl))) (Or.inr (hw _ (List.mem_of_getElem? (i := 16) rfl))) (by decide) (t := (.array .byte)) (t' := .byte) (by decide) (by decide))))
  have f28 := ((Va13.other W18 (Ne.symm ne_xs_t13)).other W25 (Ne.symm ne_xs_t13))
  exact GlH.ret X25 e25 hS13 SK25 hh hZ13 hEL CH25 (v := none) (fun _ => rfl) Bd.notSynchronized (fun fs hr => X25.returnOut hx Bd.returns (hb hby d4_26) hr) ⟨N25, rfl, K25, t13, k013, Fw25, f27, f28⟩ (by decide) (by decide)
theorem d3_0 : decode jdk_42_method_3_code 0 = .ok (.aload_n 0, 1) := by decide +kernel
theorem d3_1 : decode jdk_42_method_3_code 1 = .ok (.aload_n 1, 1) := by decide +kernel
theorem d3_2 : decode jdk_42_method_3_code 2 = .ok (.iconst 0, 1) := by decide +kernel
theorem d3_3 : decode jdk_42_method_3_code 3 = .ok (.aload_n 1, 1) := by decide +kernel
theorem d3_4 : decode jdk_42_method_3_code 4 = .ok (.arraylength, 1) := by decide +kernel
theorem d3_5 : decode jdk_42_method_3_code 5 = .ok (.aconst_null, 1) := by decide +kernel
theorem d3_6 : decode jdk_42_method_3_code 6 = .ok (.invokespecial 27, 3) := by decide +kernel
theorem pd___CIILjava_lang_Void__V : parseMethodDescriptor "([CIILjava/lang/Void;)V" = some ⟨[(.array .char), .int, .int, (.object "java/lang/Void")], none⟩ := by decide +kernel
theorem d3_9 : decode jdk_42_method_3_code 9 = .ok (.return_, 1) := by decide +kernel
theorem ef_new1 (m : MethodId) (x0 : Addr) (x1 : Addr) : entryFrame m #[(.ref x0), (.ref x1)] 2 = mkF m 0 #[.val (.ref x0), .val (.ref x1)] [] := by first | (simp [entryFrame, mkF, argsToLocals, Value.category]; done) | rfl
def Qnew1 (Z : State) (xs : Addr) (b : Addr) (k_b : ClassId) (h0 : Heap) (n0 : Nat) (v : Option Value) (h : Heap) (L : List Loc) : Prop := Fr n0 L ∧ (v = none ∧ Keep h0 h [xs] ∧ ∃ (t : Addr) (k : ClassId), Fld Z h xs "java/lang/String" "coder" "B" (.int 0) ∧ Fld Z h xs "java/lang/String" "value" "[B" (.ref t) ∧ Arv Z h t k .byte (0 : Int32) [] (.int (0 : Int32)))
set_option maxRecDepth 65536 in
set_option maxHeartbeats 40000000 in
theorem rmnew1 (l : Launch) (Z : State) (a0 : Array Value) (hw : ∀ d ∈ tables_1, d.before a0 Z = true) (ws : List Jvm.Cond) (xs : Addr) (b : Addr) (k_b : ClassId) (h0 : Heap) (n0 : Nat) (Z0 : n0 ≤ h0.size) (g_x : n0 ≤ xs) (E_x : Exa Z h0 xs "java/lang/String") (F_v : Fld Z h0 xs "java/lang/String" "value" "[B" .null) (F_c : Fld Z h0 xs "java/lang/String" "coder" "B" (.int 0)) (V_b : Arv Z h0 b k_b .char (0 : Int32) [] (.int (0 : Int32))) :
    MetFree l (⟨"java/lang/String", "<init>", "([C)V"⟩ : MethodName) (head1 (Jvm.Cond.code (⟨"java/lang/String", "<init>", "([C)V"⟩ : MethodName) jdk_42_method_3_code 2 none :: ws) ({ frames := 2, cells := 2, slots := 4, locals := 29 } : Room)) (fun as0 U => as0 = #[(.ref xs), (.ref b)] ∧ Z.Warmed39 U.vm ∧ U.heap = h0 ∧ CHv Z consts_1 U.vm h0) (fun _ _ _ _ _ => True) (fun _ U oc0 U' => ∃ v L, oc0 = .returned v ∧ Qnew1 Z xs b k_b h0 n0 v U'.heap L ∧ CHr Z consts_1 U.vm U.heap U'.vm U'.heap ∧ ReturnedEndW U oc0 U' L ({ frames := 2, cells := 2, slots := 4, locals := 29 } : Room).cells ({ frames := 2, cells := 2, slots := 4, locals := 29 } : Room).slots) := by
  refine MetFree.of_bodySF (plainFor_of_name pn_java_lang_String) hisR ?_
  intro p e s m args below meth c s₁ Bd hml0 hP hK
  obtain ⟨rfl, hZ, hh, hCH⟩ := hP
  have hx := Bd.exec
  have hby := Bd.bytes
  have hml : c.maxLocals = 2 := hml0
  have hown : s.vm.findClass "java/lang/String" = some m.cls := findClass_of_methodNamed Bd.named
  have hnm := (name_of_methodNamed Bd.named Bd.method).1
  have X0 : Stand p l e ({ frames := 2, cells := 2, slots := 4, locals := 29 } : Room) (s.setVm s.vm) m #[(.ref xs), (.ref b)] below meth c s₁ [] 0 0 := Stand.of_body Bd
  have e0 : s₁.heap = h0 := by rw [← hh, Bd.state]; rfl
  have N0 := Fr.nil n0
  have hZ0 : Z.Warmed39 (s.setVm s.vm).vm := hZ
  have hown0 : (s.setVm s.vm).vm.findClass "java/lang/String" = some m.cls := hown
  have hS0 : s.Since s.vm 0 := (State.WarmedH.refl s).since 0
  have SK0 : 0 ≤ h0.size := Nat.zero_le _
  have hEL : EW Z a0 consts_1 := own_EW hw
  have CH0 : CHr Z consts_1 s.vm h0 (s.setVm s.vm).vm h0 := CHr.refl hCH
  show GlH Z consts_1 p e below s (Qnew1 Z xs b k_b h0 n0) ({ frames := 2, cells := 2, slots := 4, locals := 29 } : Room).cells ({ frames := 2, cells := 2, slots := 4, locals := 29 } : Room).slots (s₁.setTop (entryFrame m #[(.ref xs), (.ref b)] 2))
  refine GlH.back (fun _ k => castTop (ef_new1 m xs b) k) ?_
  show GlH Z consts_1 _ _ _ _ _ _ _ (s₁.setTop (mkF m 0 #[.val (.ref xs), .val (.ref b)] []))
  refine GlH.back (fun _ k => XS.aloadN X0.here hx rfl (hb hby d3_0) rfl rfl k) ?_
  show GlH Z consts_1 _ _ _ _ _ _ _ (s₁.setTop (mkF m 1 #[.val (.ref xs), .val (.ref b)] [(.ref xs)]))
  refine GlH.back (fun _ k => XS.aloadN X0.here hx rfl (hb hby d3_1) rfl rfl k) ?_
  show GlH Z consts_1 _ _ _ _ _ _ _ (s₁.setTop (mkF m 2 #[.val (.ref xs), .val (.ref b)] [(.ref b), (.ref xs)]))
  refine GlH.back (fun _ k => XS.iconst X0.here hx rfl (hb hby d3_2) k) ?_
  show GlH Z consts_1 _ _ _ _ _ _ _ (s₁.setTop (mkF m 3 #[.val (.ref xs), .val (.ref b)] [(.int (0 : Int32)), (.ref b), (.ref xs)]))
  refine GlH.back (fun _ k => XS.aloadN X0.here hx rfl (hb hby d3_3) rfl rfl k) ?_
  show GlH Z consts_1 _ _ _ _ _ _ _ (s₁.setTop (mkF m 4 #[.val (.ref xs), .val (.ref b)] [(.ref b), (.int (0 : Int32)), (.ref b), (.ref xs)]))
  obtain ⟨cl29, Ar29, -, Sz29, Nn29, -, -⟩ := id V_b
  refine GlH.back (fun _ k => X0.arraylength hx (by rw [e0]; exact Ar29.1) (State.isArrayOf_alike hZ0.alike Ar29.2.1) (g := (mkF m 4 #[.val (.ref xs), .val (.ref b)] [(.ref b), (.int (0 : Int32)), (.ref b), (.ref xs)])) rfl rfl (hb hby d3_4) _ k) ?_
  rw [len_of Sz29 Nn29]
  show GlH Z consts_1 _ _ _ _ _ _ _ (s₁.setTop (mkF m 5 #[.val (.ref xs), .val (.ref b)] [(.int (0 : Int32)), (.int (0 : Int32)), (.ref b), (.ref xs)]))
  refine GlH.back (fun _ k => XS.aconstNull X0.here hx rfl (hb hby d3_5) k) ?_
  show GlH Z consts_1 _ _ _ _ _ _ _ (s₁.setTop (mkF m 6 #[.val (.ref xs), .val (.ref b)] [.null, (.int (0 : Int32)), (.int (0 : Int32)), (.ref b), (.ref xs)]))
  obtain ⟨_, _, ⟨T30, L30, k30, n30⟩, -, X30, hS230, hg230, ⟨Lc30, hQ30, l30, y30, z30, hC30⟩, st30⟩ := X0.specialBackS hx (y := (⟨"java/lang/String", "<init>", "([CIILjava/lang/Void;)V"⟩ : MethodName)) rfl hown0 (mvT hZ0 (hw _ (List.mem_of_getElem? (i := 27) rfl))) (mvT hZ0 (hw _ (List.mem_of_getElem? (i := 28) rfl))) (mvT hZ0 (hw _ (List.mem_of_getElem? (i := 30) rfl))) (by decide) (backOfSH (W := 0) (rmnew4 l Z a0 hw [] xs b  h0 n0 Z0 g_x E_x F_v F_c) hZ0 (hw _ (List.mem_of_getElem? (i := 30) rfl)) (hw _ (List.mem_of_getElem? (i := 12) rfl)) (by decide) (by decide) hEL CH0.1) (g := (mkF m 6 #[.val (.ref xs), .val (.ref b)] [.null, (.int (0 : Int32)), (.int (0 : Int32)), (.ref b), (.ref xs)])) rfl (by rw [hml]; rfl) (Steps.refl _) (a := xs) (argsL := [(.ref b), (.int (0 : Int32)), (.int (0 : Int32)), .null]) (rest := []) (lenOf pd___CIILjava_lang_Void__V rfl) rfl (by show 2 * 0 + _ ≤ _; exact Nat.le_of_eq rfl) (hb hby d3_6) (fun _ _ => ⟨rfl, e0, (by decide : 0 + 2 ≤ _), (by decide : 0 + 4 ≤ _)⟩)
  dsimp only [Pt.U, Pt.locs, Pt.cells, Pt.slots] at X30 l30 y30 z30 st30 hQ30 hS230 hg230 hC30
  replace l30 := Eq.symm l30
  replace y30 := Eq.symm y30
  replace z30 := Eq.symm z30
  subst l30 y30 z30
  obtain ⟨X30, hS30, hZ30, hown30⟩ := rebS hS0 (by rw [e0]; exact SK0) X30 hS230 hg230 hZ0 hown0
  have CHr30 := CHr.trans CH0 hC30
  obtain ⟨Nq30, rfl, Kq30, t30, k030, Fc30, Fv30, V30⟩ := hQ30
  have N30 := Fr.app N0 Nq30
  have Kc30 := Keep.trans (Keep.refl h0 [xs]) Kq30 (allS (Or.inl (List.mem_of_getElem? (i := 0) rfl)) all0)
  have Zc30 : n0 ≤ T30.heap.size := Nat.le_trans Z0 Kq30.1
  refine GlH.back (fun _ k => st30.trans k) ?_
  show GlH Z consts_1 _ _ _ _ _ _ _ (T30.setTop (mkF m 9 #[.val (.ref xs), .val (.ref b)] []))
  exact GlH.ret X30 rfl hS30 (Nat.le_refl _) hh hZ30 hEL CHr30 (v := none) (fun _ => rfl) Bd.notSynchronized (fun fs hr => X30.returnOut hx Bd.returns (hb hby d3_9) hr) ⟨N30, rfl, Kc30, t30, k030, Fc30, Fv30, V30⟩ (by decide) (by decide)
theorem d2_0 : decode method_3_code 0 = .ok (.iload_n 0, 1) := by decide +kernel
theorem d2_1 : decode method_3_code 1 = .ok (.ifCond .ne 14, 3) := by decide +kernel
theorem d2_4 : decode method_3_code 4 = .ok (.new 7, 3) := by decide +kernel
theorem d2_7 : decode method_3_code 7 = .ok (.dup, 1) := by decide +kernel
theorem d2_8 : decode method_3_code 8 = .ok (.iconst 0, 1) := by decide +kernel
theorem d2_9 : decode method_3_code 9 = .ok (.newarray .char, 2) := by decide +kernel
theorem d2_11 : decode method_3_code 11 = .ok (.invokespecial 9, 3) := by decide +kernel
theorem pd___C_V : parseMethodDescriptor "([C)V" = some ⟨[(.array .char)], none⟩ := by decide +kernel
theorem d2_14 : decode method_3_code 14 = .ok (.areturn, 1) := by decide +kernel
theorem d2_15 : decode method_3_code 15 = .ok (.iload_n 0, 1) := by decide +kernel
theorem d2_16 : decode method_3_code 16 = .ok (.iconst 1, 1) := by decide +kernel
theorem d2_17 : decode method_3_code 17 = .ok (.if_icmp .ne 18, 3) := by decide +kernel
theorem d2_20 : decode method_3_code 20 = .ok (.new 7, 3) := by decide +kernel
theorem d2_23 : decode method_3_code 23 = .ok (.dup, 1) := by decide +kernel
theorem d2_24 : decode method_3_code 24 = .ok (.iconst 1, 1) := by decide +kernel
theorem d2_25 : decode method_3_code 25 = .ok (.newarray .char, 2) := by decide +kernel
theorem d2_27 : decode method_3_code 27 = .ok (.dup, 1) := by decide +kernel
theorem d2_28 : decode method_3_code 28 = .ok (.iconst 0, 1) := by decide +kernel
theorem d2_29 : decode method_3_code 29 = .ok (.iload_n 1, 1) := by decide +kernel
theorem d2_30 : decode method_3_code 30 = .ok (.castore, 1) := by decide +kernel
theorem d2_31 : decode method_3_code 31 = .ok (.invokespecial 9, 3) := by decide +kernel
theorem d2_34 : decode method_3_code 34 = .ok (.areturn, 1) := by decide +kernel
theorem d2_35 : decode method_3_code 35 = .ok (.new 7, 3) := by decide +kernel
theorem d2_38 : decode method_3_code 38 = .ok (.dup, 1) := by decide +kernel
theorem d2_39 : decode method_3_code 39 = .ok (.iconst 2, 1) := by decide +kernel
theorem d2_40 : decode method_3_code 40 = .ok (.newarray .char, 2) := by decide +kernel
theorem d2_42 : decode method_3_code 42 = .ok (.dup, 1) := by decide +kernel
theorem d2_43 : decode method_3_code 43 = .ok (.iconst 0, 1) := by decide +kernel
theorem d2_44 : decode method_3_code 44 = .ok (.iload_n 1, 1) := by decide +kernel
theorem d2_45 : decode method_3_code 45 = .ok (.castore, 1) := by decide +kernel
theorem d2_46 : decode method_3_code 46 = .ok (.dup, 1) := by decide +kernel
theorem d2_47 : decode method_3_code 47 = .ok (.iconst 1, 1) := by decide +kernel
theorem d2_48 : decode method_3_code 48 = .ok (.iload_n 2, 1) := by decide +kernel
theorem d2_49 : decode method_3_code 49 = .ok (.castore, 1) := by decide +kernel
theorem d2_50 : decode method_3_code 50 = .ok (.invokespecial 9, 3) := by decide +kernel
theorem d2_53 : decode method_3_code 53 = .ok (.areturn, 1) := by decide +kernel
theorem ef_str (m : MethodId) (x0 : Int32) (x1 : Int32) (x2 : Int32) : entryFrame m #[(.int x0), (.int x1), (.int x2)] 3 = mkF m 0 #[.val (.int x0), .val (.int x1), .val (.int x2)] [] := by first | (simp [entryFrame, mkF, argsToLocals, Value.category]; done) | rfl
def Qstr (Z : State) (nn : Int32) (cc : Int32) (dd : Int32) (zc : Int32) (h0 : Heap) (n0 : Nat) (v : Option Value) (h : Heap) (L : List Loc) : Prop := Fr n0 L ∧ (∃ (x t : Addr) (k : ClassId) (N2 : Int32) (vs : List Value), v = some (.ref x) ∧ Keep h0 h [] ∧ h0.size ≤ x ∧ n0 ≤ x ∧ Exa Z h x "java/lang/String" ∧ Fld Z h x "java/lang/String" "coder" "B" (.int 0) ∧ Fld Z h x "java/lang/String" "value" "[B" (.ref t) ∧ Arv Z h t k .byte N2 vs (.int 0) ∧ StrChars.Road.CodA (own_cs nn cc dd) 0 N2 vs ∧ (¬ nn = 0 → h0.size ≤ t ∧ (0 : Int32) < N2 ∧ vs.getD 0 (.int 0) = .int (cc.toInt8.toInt32)))
set_option maxRecDepth 65536 in
set_option maxHeartbeats 40000000 in
theorem rmstr (l : Launch) (Z : State) (a0 : Array Value) (hw : ∀ d ∈ tables_1, d.before a0 Z = true) (ws : List Jvm.Cond) (nn : Int32) (cc : Int32) (dd : Int32) (zc : Int32) (h0 : Heap) (n0 : Nat) (Z0 : n0 ≤ h0.size) (O0 : Old Z n0 h0) (S_C : Sta Z Z.heap "java/lang/String" "COMPACT_STRINGS" "Z" (.int zc)) (P0 : ¬ zc = 0) (hcc : ¬ cc < 0 ∧ ¬ (255 : Int32) < cc) (hdd : ¬ dd < 0 ∧ ¬ (255 : Int32) < dd) :
    MetFree l (⟨"com/example/partition_planner/partitionplanner/RelationshipRelatesPinLaw", "str", "(ICC)Ljava/lang/String;"⟩ : MethodName) (head1 (Jvm.Cond.code (⟨"com/example/partition_planner/partitionplanner/RelationshipRelatesPinLaw", "str", "(ICC)Ljava/lang/String;"⟩ : MethodName) method_3_code 3 (some (.object "java/lang/String")) :: ws) ({ frames := 4, cells := 4, slots := 8, locals := 66 } : Room)) (fun as0 U => as0 = #[(.int nn), (.int cc), (.int dd)] ∧ Z.Warmed39 U.vm ∧ U.heap = h0 ∧ CHv Z consts_1 U.vm h0) (fun _ _ _ _ _ => True) (fun _ U oc0 U' => ∃ v L, oc0 = .returned v ∧ Qstr Z nn cc dd zc h0 n0 v U'.heap L ∧ CHr Z consts_1 U.vm U.heap U'.vm U'.heap ∧ ReturnedEndW U oc0 U' L ({ frames := 4, cells := 4, slots := 8, locals := 66 } : Room).cells ({ frames := 4, cells := 4, slots := 8, locals := 66 } : Room).slots) := by
  refine MetFree.of_bodySF (plainFor_of_name pn_com_example_partition_planner_partitionplanner_RelationshipRelatesPinLaw) hisR ?_
  intro p e s m args below meth c s₁ Bd hml0 hP hK
  obtain ⟨rfl, hZ, hh, hCH⟩ := hP
  have hx := Bd.exec
  have hby := Bd.bytes
  have hml : c.maxLocals = 3 := hml0
  have hown : s.vm.findClass "com/example/partition_planner/partitionplanner/RelationshipRelatesPinLaw" = some m.cls := findClass_of_methodNamed Bd.named
  have hnm := (name_of_methodNamed Bd.named Bd.method).1
  have X0 : Stand p l e ({ frames := 4, cells := 4, slots := 8, locals := 66 } : Room) (s.setVm s.vm) m #[(.int nn), (.int cc), (.int dd)] below meth c s₁ [] 0 0 := Stand.of_body Bd
  have e0 : s₁.heap = h0 := by rw [← hh, Bd.state]; rfl
  have N0 := Fr.nil n0
  have hZ0 : Z.Warmed39 (s.setVm s.vm).vm := hZ
  have hown0 : (s.setVm s.vm).vm.findClass "com/example/partition_planner/partitionplanner/RelationshipRelatesPinLaw" = some m.cls := hown
  have hS0 : s.Since s.vm 0 := (State.WarmedH.refl s).since 0
  have SK0 : 0 ≤ h0.size := Nat.zero_le _
  have hEL : EW Z a0 consts_1 := own_EW hw
  have CH0 : CHr Z consts_1 s.vm h0 (s.setVm s.vm).vm h0 := CHr.refl hCH
  show GlH Z consts_1 p e below s (Qstr Z nn cc dd zc h0 n0) ({ frames := 4, cells := 4, slots := 8, locals := 66 } : Room).cells ({ frames := 4, cells := 4, slots := 8, locals := 66 } : Room).slots (s₁.setTop (entryFrame m #[(.int nn), (.int cc), (.int dd)] 3))
  refine GlH.back (fun _ k => castTop (ef_str m nn cc dd) k) ?_
  show GlH Z consts_1 _ _ _ _ _ _ _ (s₁.setTop (mkF m 0 #[.val (.int nn), .val (.int cc), .val (.int dd)] []))
  refine GlH.back (fun _ k => XS.iloadN X0.here hx rfl (hb hby d2_0) rfl k) ?_
  show GlH Z consts_1 _ _ _ _ _ _ _ (s₁.setTop (mkF m 1 #[.val (.int nn), .val (.int cc), .val (.int dd)] [(.int nn)]))
  by_cases hc1_31 : nn = (0 : Int32)
  · refine GlH.back (fun _ k => XS.ifNo X0.here hx rfl (hb hby d2_1) rfl ((if0 _ _).trans (teq hc1_31).2) k) ?_
    show GlH Z consts_1 _ _ _ _ _ _ _ (s₁.setTop (mkF m 4 #[.val (.int nn), .val (.int cc), .val (.int dd)] []))
    obtain ⟨T32, h32, X32, e32, E32, A32, D32, -, st32⟩ := newO X0 hx hZ0 hown0 (hw _ (List.mem_of_getElem? (i := 22) rfl)) (hw _ (List.mem_of_getElem? (i := 13) rfl)) (hw _ (List.mem_of_getElem? (i := 12) rfl)) e0 (g := (mkF m 4 #[.val (.int nn), .val (.int cc), .val (.int dd)] [])) rfl (hb hby d2_4) (by decide) (by decide)
    obtain ⟨b32, g32⟩ : ∃ z, z = h0.size := ⟨_, rfl⟩
    rw [← g32] at A32 D32 st32
    have g_b32 : n0 ≤ b32 := Nat.le_trans Z0 (Nat.le_of_eq g32.symm)
    have sz_b32 : h0.size ≤ b32 := Nat.le_trans (Keep.refl h0 []).1 (Nat.le_of_eq g32.symm)
    have Z32 : n0 ≤ h32.size := Nat.le_trans Z0 E32.1
    have K32 := Keep.ext (Keep.refl h0 []) E32
    have O32 := Old.ext O0 E32
    have SK32 := Nat.le_trans SK0 E32.1
    have CH32 := CHr.trans CH0 (CHr.ext E32 CH0.1)
    have F32_value : Fld Z h32 b32 "java/lang/String" "value" "[B" .null := D32 (Or.inr (hw _ (List.mem_of_getElem? (i := 15) rfl))) (ty := (.array .byte)) (by decide)
    have F32_coder : Fld Z h32 b32 "java/lang/String" "coder" "B" (.int (0 : Int32)) := D32 (Or.inr (hw _ (List.mem_of_getElem? (i := 16) rfl))) (ty := .byte) (by decide)
    refine GlH.back (fun _ k => st32 _ k) ?_
    show GlH Z consts_1 _ _ _ _ _ _ _ (T32.setTop (mkF m 7 #[.val (.int nn), .val (.int cc), .val (.int dd)] [(.ref b32)]))
    refine GlH.back (fun _ k => XS.dup X32.here hx rfl (hb hby d2_7) rfl rfl k) ?_
    show GlH Z consts_1 _ _ _ _ _ _ _ (T32.setTop (mkF m 8 #[.val (.int nn), .val (.int cc), .val (.int dd)] [(.ref b32), (.ref b32)]))
    refine GlH.back (fun _ k => XS.iconst X32.here hx rfl (hb hby d2_8) k) ?_
    show GlH Z consts_1 _ _ _ _ _ _ _ (T32.setTop (mkF m 9 #[.val (.int nn), .val (.int cc), .val (.int dd)] [(.int (0 : Int32)), (.ref b32), (.ref b32)]))
    obtain ⟨T33, h33, k33, X33, e33, E33, A33, st33⟩ := newP X32 hx hZ0 (hw _ (List.mem_of_getElem? (i := 23) rfl)) e32 (g := (mkF m 9 #[.val (.int nn), .val (.int cc), .val (.int dd)] [(.int (0 : Int32)), (.ref b32), (.ref b32)])) rfl (hb hby d2_9) rfl (by decide) (cap := 0) (by decide) (by decide) (by decide) (by decide)
    obtain ⟨b33, g33⟩ : ∃ z, z = h32.size := ⟨_, rfl⟩
    rw [← g33] at A33 st33
    have V33 : Arv Z h33 b33 k33 .char (0 : Int32) [] (.int (0 : Int32)) := (Arv.new A33 (by decide)).pad (pad_rep [] (.int (0 : Int32)) 0)
    have ne_b32_b33 : b32 ≠ b33 := Nat.ne_of_lt (Nat.lt_of_lt_of_le A32.lt (Nat.le_of_eq g33.symm))
    have g_b33 : n0 ≤ b33 := Nat.le_trans Z32 (Nat.le_of_eq g33.symm)
    have sz_b33 : h0.size ≤ b33 := Nat.le_trans K32.1 (Nat.le_of_eq g33.symm)
    have Z33 : n0 ≤ h33.size := Nat.le_trans Z32 E33.1
    have K33 := Keep.ext K32 E33
    have O33 := Old.ext O32 E33
    have SK33 := Nat.le_trans SK32 E33.1
    have CH33 := CHr.trans CH32 (CHr.ext E33 CH32.1)
    refine GlH.back (fun _ k => st33 _ k) ?_
    show GlH Z consts_1 _ _ _ _ _ _ _ (T33.setTop (mkF m 11 #[.val (.int nn), .val (.int cc), .val (.int dd)] [(.ref b33), (.ref b32), (.ref b32)]))
    have f35 := (A32.ext E33)
    have f36 := (F32_value.ext E33)
    have f37 := (F32_coder.ext E33)
    obtain ⟨_, _, ⟨T34, L34, k34, n34⟩, -, X34, hS234, hg234, ⟨Lc34, hQ34, l34, y34, z34, hC34⟩, st34⟩ := X33.specialBackS hx (y := (⟨"java/lang/String", "<init>", "([C)V"⟩ : MethodName)) rfl hown0 (mvT hZ0 (hw _ (List.mem_of_getElem? (i := 24) rfl))) (mvT hZ0 (hw _ (List.mem_of_getElem? (i := 25) rfl))) (mvT hZ0 (hw _ (List.mem_of_getElem? (i := 26) rfl))) (by decide) (backOfSH (W := 1) (rmnew1 l Z a0 hw [] b32 b33 k33 h33 n0 Z33 g_b32 f35 f36 f37 V33) hZ0 (hw _ (List.mem_of_getElem? (i := 26) rfl)) (hw _ (List.mem_of_getElem? (i := 12) rfl)) (by decide) (by decide) hEL CH33.1) (g := (mkF m 11 #[.val (.int nn), .val (.int cc), .val (.int dd)] [(.ref b33), (.ref b32), (.ref b32)])) rfl (by rw [hml]; rfl) (Steps.refl _) (a := b32) (argsL := [(.ref b33)]) (rest := [(.ref b32)]) (lenOf pd___C_V rfl) rfl (by show 2 * 0 + _ ≤ _; exact Nat.le_of_eq rfl) (hb hby d2_11) (fun _ _ => ⟨rfl, e33, (by decide : 2 + 2 ≤ _), (by decide : 4 + 4 ≤ _)⟩)
    dsimp only [Pt.U, Pt.locs, Pt.cells, Pt.slots] at X34 l34 y34 z34 st34 hQ34 hS234 hg234 hC34
    replace l34 := Eq.symm l34
    replace y34 := Eq.symm y34
    replace z34 := Eq.symm z34
    subst l34 y34 z34
    obtain ⟨X34, hS34, hZ34, hown34⟩ := rebS hS0 (by rw [e33]; exact SK33) X34 hS234 hg234 hZ0 hown0
    have CHr34 := CHr.trans CH33 hC34
    obtain ⟨Nq34, rfl, Kq34, t34, k034, Fc34, Fv34, V34⟩ := hQ34
    have N34 := Fr.app N0 Nq34
    have Kc34 := Keep.trans K33 Kq34 (allS (Or.inr sz_b32) all0)
    have Zc34 : n0 ≤ T34.heap.size := Nat.le_trans Z33 Kq34.1
    have Oc34 := Old.keep O33 Kq34 (allS g_b32 all0)
    refine GlH.back (fun _ k => st34.trans k) ?_
    show GlH Z consts_1 _ _ _ _ _ _ _ (T34.setTop (mkF m 14 #[.val (.int nn), .val (.int cc), .val (.int dd)] [(.ref b32)]))
    have f38 := (f35.keep Kq34)
    exact GlH.ret X34 rfl hS34 (Nat.le_refl _) hh hZ34 hEL CHr34 (v := (some (.ref b32))) (fun h => by rw [Bd.returns] at h; cases h) Bd.notSynchronized (fun fs hr => retOut X34 hx (w := (.ref b32)) Bd.returns rfl (Or.inr (Or.inr (Or.inr (Or.inr ⟨rfl, rfl, rfl⟩)))) (hb hby d2_14) hr) ⟨N34, b32, t34, _, _, _, rfl, Kc34, sz_b32, g_b32, f38, Fc34, Fv34, V34, own_cd0 hc1_31, fun q => absurd hc1_31 q⟩ (by decide) (by decide)
  · refine GlH.back (fun _ k => XS.ifYes X0.here hx rfl (pc0 := 1) (pc' := 15) rfl (hb hby d2_1) rfl ((if0 _ _).trans (feq hc1_31).2) (by decide) (by decide) k) ?_
    show GlH Z consts_1 _ _ _ _ _ _ _ (s₁.setTop (mkF m 15 #[.val (.int nn), .val (.int cc), .val (.int dd)] []))
    refine GlH.back (fun _ k => XS.iloadN X0.here hx rfl (hb hby d2_15) rfl k) ?_
    show GlH Z consts_1 _ _ _ _ _ _ _ (s₁.setTop (mkF m 16 #[.val (.int nn), .val (.int cc), .val (.int dd)] [(.int nn)]))
    refine GlH.back (fun _ k => XS.iconst X0.here hx rfl (hb hby d2_16) k) ?_
    show GlH Z consts_1 _ _ _ _ _ _ _ (s₁.setTop (mkF m 17 #[.val (.int nn), .val (.int cc), .val (.int dd)] [(.int (1 : Int32)), (.int nn)]))
    by_cases hc17_39 : nn = (1 : Int32)
    · refine GlH.back (fun _ k => XS.icmpNo X0.here hx rfl (hb hby d2_17) rfl (teq hc17_39).2 k) ?_
      show GlH Z consts_1 _ _ _ _ _ _ _ (s₁.setTop (mkF m 20 #[.val (.int nn), .val (.int cc), .val (.int dd)] []))
      obtain ⟨T40, h40, X40, e40, E40, A40, D40, -, st40⟩ := newO X0 hx hZ0 hown0 (hw _ (List.mem_of_getElem? (i := 22) rfl)) (hw _ (List.mem_of_getElem? (i := 13) rfl)) (hw _ (List.mem_of_getElem? (i := 12) rfl)) e0 (g := (mkF m 20 #[.val (.int nn), .val (.int cc), .val (.int dd)] [])) rfl (hb hby d2_20) (by decide) (by decide)
      obtain ⟨b40, g40⟩ : ∃ z, z = h0.size := ⟨_, rfl⟩
      rw [← g40] at A40 D40 st40
      have g_b40 : n0 ≤ b40 := Nat.le_trans Z0 (Nat.le_of_eq g40.symm)
      have sz_b40 : h0.size ≤ b40 := Nat.le_trans (Keep.refl h0 []).1 (Nat.le_of_eq g40.symm)
      have Z40 : n0 ≤ h40.size := Nat.le_trans Z0 E40.1
      have K40 := Keep.ext (Keep.refl h0 []) E40
      have O40 := Old.ext O0 E40
      have SK40 := Nat.le_trans SK0 E40.1
      have CH40 := CHr.trans CH0 (CHr.ext E40 CH0.1)
      have F40_value : Fld Z h40 b40 "java/lang/String" "value" "[B" .null := D40 (Or.inr (hw _ (List.mem_of_getElem? (i := 15) rfl))) (ty := (.array .byte)) (by decide)
      have F40_coder : Fld Z h40 b40 "java/lang/String" "coder" "B" (.int (0 : Int32)) := D40 (Or.inr (hw _ (List.mem_of_getElem? (i := 16) rfl))) (ty := .byte) (by decide)
      refine GlH.back (fun _ k => st40 _ k) ?_
      show GlH Z consts_1 _ _ _ _ _ _ _ (T40.setTop (mkF m 23 #[.val (.int nn), .val (.int cc), .val (.int dd)] [(.ref b40)]))
      refine GlH.back (fun _ k => XS.dup X40.here hx rfl (hb hby d2_23) rfl rfl k) ?_
      show GlH Z consts_1 _ _ _ _ _ _ _ (T40.setTop (mkF m 24 #[.val (.int nn), .val (.int cc), .val (.int dd)] [(.ref b40), (.ref b40)]))
      refine GlH.back (fun _ k => XS.iconst X40.here hx rfl (hb hby d2_24) k) ?_
      show GlH Z consts_1 _ _ _ _ _ _ _ (T40.setTop (mkF m 25 #[.val (.int nn), .val (.int cc), .val (.int dd)] [(.int (1 : Int32)), (.ref b40), (.ref b40)]))
      obtain ⟨T41, h41, k41, X41, e41, E41, A41, st41⟩ := newP X40 hx hZ0 (hw _ (List.mem_of_getElem? (i := 23) rfl)) e40 (g := (mkF m 25 #[.val (.int nn), .val (.int cc), .val (.int dd)] [(.int (1 : Int32)), (.ref b40), (.ref b40)])) rfl (hb hby d2_25) rfl (by decide) (cap := 1) (by decide) (by decide) (by decide) (by decide)
      obtain ⟨b41, g41⟩ : ∃ z, z = h40.size := ⟨_, rfl⟩
      rw [← g41] at A41 st41
      have V41 : Arv Z h41 b41 k41 .char (1 : Int32) [(.int (0 : Int32))] (.int (0 : Int32)) := (Arv.new A41 (by decide)).pad (pad_rep [] (.int (0 : Int32)) 1)
      have ne_b40_b41 : b40 ≠ b41 := Nat.ne_of_lt (Nat.lt_of_lt_of_le A40.lt (Nat.le_of_eq g41.symm))
      have g_b41 : n0 ≤ b41 := Nat.le_trans Z40 (Nat.le_of_eq g41.symm)
      have sz_b41 : h0.size ≤ b41 := Nat.le_trans K40.1 (Nat.le_of_eq g41.symm)
      have Z41 : n0 ≤ h41.size := Nat.le_trans Z40 E41.1
      have K41 := Keep.ext K40 E41
      have O41 := Old.ext O40 E41
      have SK41 := Nat.le_trans SK40 E41.1
      have CH41 := CHr.trans CH40 (CHr.ext E41 CH40.1)
      refine GlH.back (fun _ k => st41 _ k) ?_
      show GlH Z consts_1 _ _ _ _ _ _ _ (T41.setTop (mkF m 27 #[.val (.int nn), .val (.int cc), .val (.int dd)] [(.ref b41), (.ref b40), (.ref b40)]))
      refine GlH.back (fun _ k => XS.dup X41.here hx rfl (hb hby d2_27) rfl rfl k) ?_
      show GlH Z consts_1 _ _ _ _ _ _ _ (T41.setTop (mkF m 28 #[.val (.int nn), .val (.int cc), .val (.int dd)] [(.ref b41), (.ref b41), (.ref b40), (.ref b40)]))
      refine GlH.back (fun _ k => XS.iconst X41.here hx rfl (hb hby d2_28) k) ?_
      show GlH Z consts_1 _ _ _ _ _ _ _ (T41.setTop (mkF m 29 #[.val (.int nn), .val (.int cc), .val (.int dd)] [(.int (0 : Int32)), (.ref b41), (.ref b41), (.ref b40), (.ref b40)]))
      refine GlH.back (fun _ k => XS.iloadN X41.here hx rfl (hb hby d2_29) rfl k) ?_
      show GlH Z consts_1 _ _ _ _ _ _ _ (T41.setTop (mkF m 30 #[.val (.int nn), .val (.int cc), .val (.int dd)] [(.int cc), (.int (0 : Int32)), (.ref b41), (.ref b41), (.ref b40), (.ref b40)]))
      have sf42 : Safe Z consts_1 _ _ b41 := (Safe.arv hZ0.alike V41 (by decide))
      obtain ⟨cl43, Ar43, q43, Sz43, Nn43, Hs43, Gf43⟩ := id V41
      have hin43 : ¬ ((0 : Int32) < 0 ∨ cl43.slots.size ≤ ((0 : Int32)).toNatClampNeg) := inb_of Sz43 ⟨by decide, by decide⟩
      obtain ⟨T44, h44, X44, e44, W44, st44⟩ := stC X41 hx hZ0 e41 Ar43 (j := (0 : Int32)) hin43 (g := (mkF m 30 #[.val (.int nn), .val (.int cc), .val (.int dd)] [(.int cc), (.int (0 : Int32)), (.ref b41), (.ref b41), (.ref b40), (.ref b40)])) rfl rfl (hb hby d2_30)
      have V44 := Arv.set Ar43 q43 Sz43 Nn43 Hs43 Gf43 (fits_nar_char _) W44 0 rfl (Nat.le_of_ble_eq_true rfl)
      replace V44 : Arv Z h44 b41 k41 .char (1 : Int32) [(.int (nar .char cc))] (.int (0 : Int32)) := V44
      have K44 := Keep.wr K41 W44 (Or.inr sz_b41)
      have O44 := Old.wr O41 W44 g_b41
      have Z44 : n0 ≤ h44.size := Nat.le_trans Z41 (Keep.of_wr W44).1
      have SK44 := Nat.le_trans SK41 (Keep.of_wr W44).1
      have sf45 := Safe.wr W44 sf42 CH41.1 sf42
      have CH44 := CHr.trans CH41 (CHr.wr W44 sf42 CH41.1)
      have N44 := Fr.snoc X44 N0 g_b41
      refine GlH.back (fun _ k => st44 _ k) ?_
      show GlH Z consts_1 _ _ _ _ _ _ _ (T44.setTop (mkF m 31 #[.val (.int nn), .val (.int cc), .val (.int dd)] [(.ref b41), (.ref b40), (.ref b40)]))
      have Vn46 : Arv Z h44 b41 k41 .char (1 : Int32) [(.int cc)] (.int (0 : Int32)) := by
        have q := V44
        rw [own_narc hcc] at q; exact q
      have f47 := ((A40.ext E41).wr W44)
      have f49 := ((F40_value.ext E41).other W44 (Or.inl ne_b40_b41))
      have sf50 : Safe Z consts_1 _ _ b40 := (own_safeNull hZ0.alike f47 f49)
      have hws51 : ∀ d ∈ StrChars.Road.words, d.before a0 Z = true := fun d hd => hw d ((by decide +kernel : ∀ d ∈ StrChars.Road.words, d ∈ tables_1) d hd)
      have hlat51 : ∀ c ∈ [cc], ¬ c < 0 ∧ ¬ (255 : Int32) < c := by
        intro c hc
        simp only [List.mem_cons, List.not_mem_nil, or_false] at hc
        subst hc
        exact hcc
      have f52 := ((F40_coder.ext E41).other W44 (Or.inl ne_b40_b41))
      obtain ⟨_, _, ⟨T48, L48, k48, n48⟩, -, X48, ⟨Lc48, hQ48, l48, y48, z48⟩, st48⟩ := X44.specialBack hx (y := (⟨"java/lang/String", "<init>", "([C)V"⟩ : MethodName)) rfl hown0 (mvT hZ0 (hw _ (List.mem_of_getElem? (i := 24) rfl))) (mvT hZ0 (hw _ (List.mem_of_getElem? (i := 25) rfl))) (mvT hZ0 (hw _ (List.mem_of_getElem? (i := 26) rfl))) (by decide) (StrChars.Road.backV (W := 1) hZ0 hws51 (kI := 4) (hw _ (List.mem_of_getElem? (i := 13) rfl)) (cs := [cc]) (bs := [(cc).toInt8.toInt32]) (n := 1) g_b40 Z44 f47 f49 f52 Vn46 (S_C.ext O44.2) P0 rfl rfl (by decide) (by decide) hlat51 rfl (by decide) (by decide)) (g := (mkF m 31 #[.val (.int nn), .val (.int cc), .val (.int dd)] [(.ref b41), (.ref b40), (.ref b40)])) rfl (by rw [hml]; rfl) (Steps.refl _) (a := b40) (argsL := [(.ref b41)]) (rest := [(.ref b40)]) (lenOf pd___C_V rfl) rfl (by show 2 * 0 + _ ≤ _; exact Nat.le_of_eq rfl) (hb hby d2_31) (fun _ _ => ⟨rfl, e44, (by decide : 2 + 1 ≤ _), (by decide : 5 + 1 ≤ _)⟩)
      dsimp only [Pt.U, Pt.locs, Pt.cells, Pt.slots] at X48 l48 y48 z48 st48 hQ48
      replace l48 := Eq.symm l48
      replace y48 := Eq.symm y48
      replace z48 := Eq.symm z48
      subst l48 y48 z48
      obtain ⟨rfl, Nq48, Kq48, -, Fc48, t48, kb48, Gt48, St48, Nt48, Fv48, Vt48⟩ := hQ48
      have N48 := Fr.app N44 Nq48
      have Kc48 := Keep.trans K44 Kq48 (allS (Or.inr sz_b40) all0)
      have Zc48 : n0 ≤ T48.heap.size := Nat.le_trans Z44 Kq48.1
      have Oc48 := Old.keep O44 Kq48 (allS g_b40 all0)
      have CHc48 := CHr.trans CH44 (CHr.keep Kq48 (sfS sf50 sf0) CH44.1)
      have SKc48 := Nat.le_trans SK44 Kq48.1
      have ne_b41_t48 : b41 ≠ t48 := Nat.ne_of_lt (Nat.lt_of_lt_of_le (Vn46).lt St48)
      have szt48 : h0.size ≤ t48 := Nat.le_trans K44.1 St48
      refine GlH.back (fun _ k => st48.trans k) ?_
      show GlH Z consts_1 _ _ _ _ _ _ _ (T48.setTop (mkF m 34 #[.val (.int nn), .val (.int cc), .val (.int dd)] [(.ref b40)]))
      have f53 := (f47.keep Kq48)
      exact GlH.ret X48 rfl hS0 SKc48 hh hZ0 hEL CHc48 (v := (some (.ref b40))) (fun h => by rw [Bd.returns] at h; cases h) Bd.notSynchronized (fun fs hr => retOut X48 hx (w := (.ref b40)) Bd.returns rfl (Or.inr (Or.inr (Or.inr (Or.inr ⟨rfl, rfl, rfl⟩)))) (hb hby d2_34) hr) ⟨N48, b40, t48, _, _, _, rfl, Kc48, sz_b40, g_b40, f53, Fc48, Fv48, Vt48, own_cd1 hc17_39 hcc, fun _ => ⟨szt48, by decide, rfl⟩⟩ (by decide) (by decide)
    · refine GlH.back (fun _ k => XS.icmpYes X0.here hx rfl (pc0 := 17) (pc' := 35) rfl (hb hby d2_17) rfl (feq hc17_39).2 (by decide) (by decide) k) ?_
      show GlH Z consts_1 _ _ _ _ _ _ _ (s₁.setTop (mkF m 35 #[.val (.int nn), .val (.int cc), .val (.int dd)] []))
      obtain ⟨T54, h54, X54, e54, E54, A54, D54, -, st54⟩ := newO X0 hx hZ0 hown0 (hw _ (List.mem_of_getElem? (i := 22) rfl)) (hw _ (List.mem_of_getElem? (i := 13) rfl)) (hw _ (List.mem_of_getElem? (i := 12) rfl)) e0 (g := (mkF m 35 #[.val (.int nn), .val (.int cc), .val (.int dd)] [])) rfl (hb hby d2_35) (by decide) (by decide)
      obtain ⟨b54, g54⟩ : ∃ z, z = h0.size := ⟨_, rfl⟩
      rw [← g54] at A54 D54 st54
      have g_b54 : n0 ≤ b54 := Nat.le_trans Z0 (Nat.le_of_eq g54.symm)
      have sz_b54 : h0.size ≤ b54 := Nat.le_trans (Keep.refl h0 []).1 (Nat.le_of_eq g54.symm)
      have Z54 : n0 ≤ h54.size := Nat.le_trans Z0 E54.1
      have K54 := Keep.ext (Keep.refl h0 []) E54
      have O54 := Old.ext O0 E54
      have SK54 := Nat.le_trans SK0 E54.1
      have CH54 := CHr.trans CH0 (CHr.ext E54 CH0.1)
      have F54_value : Fld Z h54 b54 "java/lang/String" "value" "[B" .null := D54 (Or.inr (hw _ (List.mem_of_getElem? (i := 15) rfl))) (ty := (.array .byte)) (by decide)
      have F54_coder : Fld Z h54 b54 "java/lang/String" "coder" "B" (.int (0 : Int32)) := D54 (Or.inr (hw _ (List.mem_of_getElem? (i := 16) rfl))) (ty := .byte) (by decide)
      refine GlH.back (fun _ k => st54 _ k) ?_
      show GlH Z consts_1 _ _ _ _ _ _ _ (T54.setTop (mkF m 38 #[.val (.int nn), .val (.int cc), .val (.int dd)] [(.ref b54)]))
      refine GlH.back (fun _ k => XS.dup X54.here hx rfl (hb hby d2_38) rfl rfl k) ?_
      show GlH Z consts_1 _ _ _ _ _ _ _ (T54.setTop (mkF m 39 #[.val (.int nn), .val (.int cc), .val (.int dd)] [(.ref b54), (.ref b54)]))
      refine GlH.back (fun _ k => XS.iconst X54.here hx rfl (hb hby d2_39) k) ?_
      show GlH Z consts_1 _ _ _ _ _ _ _ (T54.setTop (mkF m 40 #[.val (.int nn), .val (.int cc), .val (.int dd)] [(.int (2 : Int32)), (.ref b54), (.ref b54)]))
      obtain ⟨T55, h55, k55, X55, e55, E55, A55, st55⟩ := newP X54 hx hZ0 (hw _ (List.mem_of_getElem? (i := 23) rfl)) e54 (g := (mkF m 40 #[.val (.int nn), .val (.int cc), .val (.int dd)] [(.int (2 : Int32)), (.ref b54), (.ref b54)])) rfl (hb hby d2_40) rfl (by decide) (cap := 2) (by decide) (by decide) (by decide) (by decide)
      obtain ⟨b55, g55⟩ : ∃ z, z = h54.size := ⟨_, rfl⟩
      rw [← g55] at A55 st55
      have V55 : Arv Z h55 b55 k55 .char (2 : Int32) [(.int (0 : Int32)), (.int (0 : Int32))] (.int (0 : Int32)) := (Arv.new A55 (by decide)).pad (pad_rep [] (.int (0 : Int32)) 2)
      have ne_b54_b55 : b54 ≠ b55 := Nat.ne_of_lt (Nat.lt_of_lt_of_le A54.lt (Nat.le_of_eq g55.symm))
      have g_b55 : n0 ≤ b55 := Nat.le_trans Z54 (Nat.le_of_eq g55.symm)
      have sz_b55 : h0.size ≤ b55 := Nat.le_trans K54.1 (Nat.le_of_eq g55.symm)
      have Z55 : n0 ≤ h55.size := Nat.le_trans Z54 E55.1
      have K55 := Keep.ext K54 E55
      have O55 := Old.ext O54 E55
      have SK55 := Nat.le_trans SK54 E55.1
      have CH55 := CHr.trans CH54 (CHr.ext E55 CH54.1)
      refine GlH.back (fun _ k => st55 _ k) ?_
      show GlH Z consts_1 _ _ _ _ _ _ _ (T55.setTop (mkF m 42 #[.val (.int nn), .val (.int cc), .val (.int dd)] [(.ref b55), (.ref b54), (.ref b54)]))
      refine GlH.back (fun _ k => XS.dup X55.here hx rfl (hb hby d2_42) rfl rfl k) ?_
      show GlH Z consts_1 _ _ _ _ _ _ _ (T55.setTop (mkF m 43 #[.val (.int nn), .val (.int cc), .val (.int dd)] [(.ref b55), (.ref b55), (.ref b54), (.ref b54)]))
      refine GlH.back (fun _ k => XS.iconst X55.here hx rfl (hb hby d2_43) k) ?_
      show GlH Z consts_1 _ _ _ _ _ _ _ (T55.setTop (mkF m 44 #[.val (.int nn), .val (.int cc), .val (.int dd)] [(.int (0 : Int32)), (.ref b55), (.ref b55), (.ref b54), (.ref b54)]))
      refine GlH.back (fun _ k => XS.iloadN X55.here hx rfl (hb hby d2_44) rfl k) ?_
      show GlH Z consts_1 _ _ _ _ _ _ _ (T55.setTop (mkF m 45 #[.val (.int nn), .val (.int cc), .val (.int dd)] [(.int cc), (.int (0 : Int32)), (.ref b55), (.ref b55), (.ref b54), (.ref b54)]))
      have sf56 : Safe Z consts_1 _ _ b55 := (Safe.arv hZ0.alike V55 (by decide))
      obtain ⟨cl57, Ar57, q57, Sz57, Nn57, Hs57, Gf57⟩ := id V55
      have hin57 : ¬ ((0 : Int32) < 0 ∨ cl57.slots.size ≤ ((0 : Int32)).toNatClampNeg) := inb_of Sz57 ⟨by decide, by decide⟩
      obtain ⟨T58, h58, X58, e58, W58, st58⟩ := stC X55 hx hZ0 e55 Ar57 (j := (0 : Int32)) hin57 (g := (mkF m 45 #[.val (.int nn), .val (.int cc), .val (.int dd)] [(.int cc), (.int (0 : Int32)), (.ref b55), (.ref b55), (.ref b54), (.ref b54)])) rfl rfl (hb hby d2_45)
      have V58 := Arv.set Ar57 q57 Sz57 Nn57 Hs57 Gf57 (fits_nar_char _) W58 0 rfl (Nat.le_of_ble_eq_true rfl)
      replace V58 : Arv Z h58 b55 k55 .char (2 : Int32) [(.int (nar .char cc)), (.int (0 : Int32))] (.int (0 : Int32)) := V58
      have K58 := Keep.wr K55 W58 (Or.inr sz_b55)
      have O58 := Old.wr O55 W58 g_b55
      have Z58 : n0 ≤ h58.size := Nat.le_trans Z55 (Keep.of_wr W58).1
      have SK58 := Nat.le_trans SK55 (Keep.of_wr W58).1
      have sf59 := Safe.wr W58 sf56 CH55.1 sf56
      have CH58 := CHr.trans CH55 (CHr.wr W58 sf56 CH55.1)
      have N58 := Fr.snoc X58 N0 g_b55
      refine GlH.back (fun _ k => st58 _ k) ?_
      show GlH Z consts_1 _ _ _ _ _ _ _ (T58.setTop (mkF m 46 #[.val (.int nn), .val (.int cc), .val (.int dd)] [(.ref b55), (.ref b54), (.ref b54)]))
      refine GlH.back (fun _ k => XS.dup X58.here hx rfl (hb hby d2_46) rfl rfl k) ?_
      show GlH Z consts_1 _ _ _ _ _ _ _ (T58.setTop (mkF m 47 #[.val (.int nn), .val (.int cc), .val (.int dd)] [(.ref b55), (.ref b55), (.ref b54), (.ref b54)]))
      refine GlH.back (fun _ k => XS.iconst X58.here hx rfl (hb hby d2_47) k) ?_
      show GlH Z consts_1 _ _ _ _ _ _ _ (T58.setTop (mkF m 48 #[.val (.int nn), .val (.int cc), .val (.int dd)] [(.int (1 : Int32)), (.ref b55), (.ref b55), (.ref b54), (.ref b54)]))
      refine GlH.back (fun _ k => XS.iloadN X58.here hx rfl (hb hby d2_48) rfl k) ?_
      show GlH Z consts_1 _ _ _ _ _ _ _ (T58.setTop (mkF m 49 #[.val (.int nn), .val (.int cc), .val (.int dd)] [(.int dd), (.int (1 : Int32)), (.ref b55), (.ref b55), (.ref b54), (.ref b54)]))
      have sf60 : Safe Z consts_1 _ _ b55 := sf59
      obtain ⟨cl61, Ar61, q61, Sz61, Nn61, Hs61, Gf61⟩ := id V58
      have hin61 : ¬ ((1 : Int32) < 0 ∨ cl61.slots.size ≤ ((1 : Int32)).toNatClampNeg) := inb_of Sz61 ⟨by decide, by decide⟩
      obtain ⟨T62, h62, X62, e62, W62, st62⟩ := stC X58 hx hZ0 e58 Ar61 (j := (1 : Int32)) hin61 (g := (mkF m 49 #[.val (.int nn), .val (.int cc), .val (.int dd)] [(.int dd), (.int (1 : Int32)), (.ref b55), (.ref b55), (.ref b54), (.ref b54)])) rfl rfl (hb hby d2_49)
      have V62 := Arv.set Ar61 q61 Sz61 Nn61 Hs61 Gf61 (fits_nar_char _) W62 1 rfl (Nat.le_of_ble_eq_true rfl)
      replace V62 : Arv Z h62 b55 k55 .char (2 : Int32) [(.int (nar .char cc)), (.int (nar .char dd))] (.int (0 : Int32)) := V62
      have K62 := Keep.wr K58 W62 (Or.inr sz_b55)
      have O62 := Old.wr O58 W62 g_b55
      have Z62 : n0 ≤ h62.size := Nat.le_trans Z58 (Keep.of_wr W62).1
      have SK62 := Nat.le_trans SK58 (Keep.of_wr W62).1
      have sf63 := Safe.wr W62 sf60 CH58.1 sf60
      have CH62 := CHr.trans CH58 (CHr.wr W62 sf60 CH58.1)
      have N62 := Fr.snoc X62 N58 g_b55
      refine GlH.back (fun _ k => st62 _ k) ?_
      show GlH Z consts_1 _ _ _ _ _ _ _ (T62.setTop (mkF m 50 #[.val (.int nn), .val (.int cc), .val (.int dd)] [(.ref b55), (.ref b54), (.ref b54)]))
      have Vn64 : Arv Z h62 b55 k55 .char (2 : Int32) [(.int cc), (.int dd)] (.int (0 : Int32)) := by
        have q := V62
        rw [own_narc hcc, own_narc hdd] at q; exact q
      have f65 := (((A54.ext E55).wr W58).wr W62)
      have f67 := (((F54_value.ext E55).other W58 (Or.inl ne_b54_b55)).other W62 (Or.inl ne_b54_b55))
      have sf68 : Safe Z consts_1 _ _ b54 := (own_safeNull hZ0.alike f65 f67)
      have hws69 : ∀ d ∈ StrChars.Road.words, d.before a0 Z = true := fun d hd => hw d ((by decide +kernel : ∀ d ∈ StrChars.Road.words, d ∈ tables_1) d hd)
      have hlat69 : ∀ c ∈ [cc, dd], ¬ c < 0 ∧ ¬ (255 : Int32) < c := by
        intro c hc
        simp only [List.mem_cons, List.not_mem_nil, or_false] at hc
        rcases hc with rfl | rfl
        · exact hcc
        · exact hdd
      have f70 := (((F54_coder.ext E55).other W58 (Or.inl ne_b54_b55)).other W62 (Or.inl ne_b54_b55))
      obtain ⟨_, _, ⟨T66, L66, k66, n66⟩, -, X66, ⟨Lc66, hQ66, l66, y66, z66⟩, st66⟩ := X62.specialBack hx (y := (⟨"java/lang/String", "<init>", "([C)V"⟩ : MethodName)) rfl hown0 (mvT hZ0 (hw _ (List.mem_of_getElem? (i := 24) rfl))) (mvT hZ0 (hw _ (List.mem_of_getElem? (i := 25) rfl))) (mvT hZ0 (hw _ (List.mem_of_getElem? (i := 26) rfl))) (by decide) (StrChars.Road.backV (W := 1) hZ0 hws69 (kI := 4) (hw _ (List.mem_of_getElem? (i := 13) rfl)) (cs := [cc, dd]) (bs := [(cc).toInt8.toInt32, (dd).toInt8.toInt32]) (n := 2) g_b54 Z62 f65 f67 f70 Vn64 (S_C.ext O62.2) P0 rfl rfl (by decide) (by decide) hlat69 rfl (by decide) (by decide)) (g := (mkF m 50 #[.val (.int nn), .val (.int cc), .val (.int dd)] [(.ref b55), (.ref b54), (.ref b54)])) rfl (by rw [hml]; rfl) (Steps.refl _) (a := b54) (argsL := [(.ref b55)]) (rest := [(.ref b54)]) (lenOf pd___C_V rfl) rfl (by show 2 * 0 + _ ≤ _; exact Nat.le_of_eq rfl) (hb hby d2_50) (fun _ _ => ⟨rfl, e62, (by decide : 2 + 1 ≤ _), (by decide : 6 + 2 ≤ _)⟩)
      dsimp only [Pt.U, Pt.locs, Pt.cells, Pt.slots] at X66 l66 y66 z66 st66 hQ66
      replace l66 := Eq.symm l66
      replace y66 := Eq.symm y66
      replace z66 := Eq.symm z66
      subst l66 y66 z66
      obtain ⟨rfl, Nq66, Kq66, -, Fc66, t66, kb66, Gt66, St66, Nt66, Fv66, Vt66⟩ := hQ66
      have N66 := Fr.app N62 Nq66
      have Kc66 := Keep.trans K62 Kq66 (allS (Or.inr sz_b54) all0)
      have Zc66 : n0 ≤ T66.heap.size := Nat.le_trans Z62 Kq66.1
      have Oc66 := Old.keep O62 Kq66 (allS g_b54 all0)
      have CHc66 := CHr.trans CH62 (CHr.keep Kq66 (sfS sf68 sf0) CH62.1)
      have SKc66 := Nat.le_trans SK62 Kq66.1
      have ne_b55_t66 : b55 ≠ t66 := Nat.ne_of_lt (Nat.lt_of_lt_of_le (Vn64).lt St66)
      have szt66 : h0.size ≤ t66 := Nat.le_trans K62.1 St66
      refine GlH.back (fun _ k => st66.trans k) ?_
      show GlH Z consts_1 _ _ _ _ _ _ _ (T66.setTop (mkF m 53 #[.val (.int nn), .val (.int cc), .val (.int dd)] [(.ref b54)]))
      have f71 := (f65.keep Kq66)
      exact GlH.ret X66 rfl hS0 SKc66 hh hZ0 hEL CHc66 (v := (some (.ref b54))) (fun h => by rw [Bd.returns] at h; cases h) Bd.notSynchronized (fun fs hr => retOut X66 hx (w := (.ref b54)) Bd.returns rfl (Or.inr (Or.inr (Or.inr (Or.inr ⟨rfl, rfl, rfl⟩)))) (hb hby d2_53) hr) ⟨N66, b54, t66, _, _, _, rfl, Kc66, sz_b54, g_b54, f71, Fc66, Fv66, Vt66, own_cd2 hc1_31 hc17_39 hcc hdd, fun _ => ⟨szt66, by decide, rfl⟩⟩ (by decide) (by decide)
theorem d18_0 : decode jdk_116_method_1_code 0 = .ok (.iload_n 1, 1) := by decide +kernel
theorem d18_1 : decode jdk_116_method_1_code 1 = .ok (.i2c, 1) := by decide +kernel
theorem d18_2 : decode jdk_116_method_1_code 2 = .ok (.istore_n 2, 1) := by decide +kernel
theorem d18_3 : decode jdk_116_method_1_code 3 = .ok (.getstatic 1, 3) := by decide +kernel
theorem d18_6 : decode jdk_116_method_1_code 6 = .ok (.iload_n 2, 1) := by decide +kernel
theorem d18_7 : decode jdk_116_method_1_code 7 = .ok (.iaload, 1) := by decide +kernel
theorem d18_8 : decode jdk_116_method_1_code 8 = .ok (.istore_n 3, 1) := by decide +kernel
theorem d18_9 : decode jdk_116_method_1_code 9 = .ok (.iload_n 3, 1) := by decide +kernel
theorem d18_10 : decode jdk_116_method_1_code 10 = .ok (.ireturn, 1) := by decide +kernel
theorem pn_java_lang_CharacterDataLatin1 : plainName "java/lang/CharacterDataLatin1" = true := by first | (simp [plainName, overriddenIn]; done) | decide +kernel
theorem ef_gp (m : MethodId) (x0 : Addr) (x1 : Int32) : entryFrame m #[(.ref x0), (.int x1)] 4 = mkF m 0 #[.val (.ref x0), .val (.int x1), .unset, .unset] [] := by first | (simp [entryFrame, mkF, argsToLocals, Value.category]; done) | rfl
def Qgp (Z : State) (a : Addr) (cq : Int32) (wA : Addr) (kA : ClassId) (vsA : List Value) (r : Int32) (h0 : Heap) (n0 : Nat) (v : Option Value) (h : Heap) (L : List Loc) : Prop := Fr n0 L ∧ (v = some (.int r) ∧ h = h0)
set_option maxRecDepth 65536 in
set_option maxHeartbeats 40000000 in
theorem rmgp (l : Launch) (Z : State) (a0 : Array Value) (hw : ∀ d ∈ tables_1, d.before a0 Z = true) (ws : List Jvm.Cond) (a : Addr) (cq : Int32) (wA : Addr) (kA : ClassId) (vsA : List Value) (r : Int32) (h0 : Heap) (n0 : Nat) (Z0 : n0 ≤ h0.size) (O0 : Old Z n0 h0) (S_A : Sta Z Z.heap "java/lang/CharacterDataLatin1" "A" "[I" (.ref wA)) (V_A : Arv Z Z.heap wA kA .int (256 : Int32) vsA (.int 0)) (hnw : own_nw cq) (hr : vsA.getD cq.toNatClampNeg (.int 0) = .int r) :
    MetFree l (⟨"java/lang/CharacterDataLatin1", "getProperties", "(I)I"⟩ : MethodName) (head1 (Jvm.Cond.code (⟨"java/lang/CharacterDataLatin1", "getProperties", "(I)I"⟩ : MethodName) jdk_116_method_1_code 4 (some .int) :: ws) ({ frames := 0, cells := 0, slots := 0, locals := 0 } : Room)) (fun as0 U => as0 = #[(.ref a), (.int cq)] ∧ Z.Warmed39 U.vm ∧ U.heap = h0) (fun _ _ _ _ _ => True) (fun _ U oc0 U' => ∃ v L, oc0 = .returned v ∧ Qgp Z a cq wA kA vsA r h0 n0 v U'.heap L ∧ FrameEnd U oc0 U' L ({ frames := 0, cells := 0, slots := 0, locals := 0 } : Room).cells ({ frames := 0, cells := 0, slots := 0, locals := 0 } : Room).slots) := by
  refine MetFree.of_bodySF (plainFor_of_name pn_java_lang_CharacterDataLatin1) hisR ?_
  intro p e s m args below meth c s₁ Bd hml0 hP hK
  obtain ⟨rfl, hZ, hh⟩ := hP
  have hx := Bd.exec
  have hby := Bd.bytes
  have hml : c.maxLocals = 4 := hml0
  have hown : s.vm.findClass "java/lang/CharacterDataLatin1" = some m.cls := findClass_of_methodNamed Bd.named
  have hnm := (name_of_methodNamed Bd.named Bd.method).1
  have X0 : Stand p l e ({ frames := 0, cells := 0, slots := 0, locals := 0 } : Room) s m #[(.ref a), (.int cq)] below meth c s₁ [] 0 0 := Stand.of_body Bd
  have e0 : s₁.heap = h0 := by rw [← hh, Bd.state]; rfl
  have N0 := Fr.nil n0
  show Gl p e below s (Qgp Z a cq wA kA vsA r h0 n0) ({ frames := 0, cells := 0, slots := 0, locals := 0 } : Room).cells ({ frames := 0, cells := 0, slots := 0, locals := 0 } : Room).slots (s₁.setTop (entryFrame m #[(.ref a), (.int cq)] 4))
  refine Gl.back (fun _ k => castTop (ef_gp m a cq) k) ?_
  show Gl _ _ _ _ _ _ _ (s₁.setTop (mkF m 0 #[.val (.ref a), .val (.int cq), .unset, .unset] []))
  refine Gl.back (fun _ k => XS.iloadN X0.here hx rfl (hb hby d18_0) rfl k) ?_
  show Gl _ _ _ _ _ _ _ (s₁.setTop (mkF m 1 #[.val (.ref a), .val (.int cq), .unset, .unset] [(.int cq)]))
  refine Gl.back (fun _ k => XS.i2c X0.here hx rfl (hb hby d18_1) rfl k) ?_
  show Gl _ _ _ _ _ _ _ (s₁.setTop (mkF m 2 #[.val (.ref a), .val (.int cq), .unset, .unset] [(.int (cq.toUInt32.toUInt16.toUInt32.toInt32))]))
  rw [own_nwc hnw]
  show Gl _ _ _ _ _ _ _ (s₁.setTop (mkF m 2 #[.val (.ref a), .val (.int cq), .unset, .unset] [(.int cq)]))
  refine Gl.back (fun _ k => XS.istoreN X0.here hx rfl (hb hby d18_2) rfl (l' := #[.val (.ref a), .val (.int cq), .val (.int cq), .unset]) rfl k) ?_
  show Gl _ _ _ _ _ _ _ (s₁.setTop (mkF m 3 #[.val (.ref a), .val (.int cq), .val (.int cq), .unset] []))
  obtain ⟨T72, X72, e72, st72⟩ := getS2 X0 hx hZ hown (host := "") (Or.inl (hw _ (List.mem_of_getElem? (i := 98) rfl))) Via.refl e0 (S_A.ext O0.2) (g := (mkF m 3 #[.val (.ref a), .val (.int cq), .val (.int cq), .unset] [])) rfl (hb hby d18_3)
  refine Gl.back (fun _ k => st72 _ k) ?_
  show Gl _ _ _ _ _ _ _ (T72.setTop (mkF m 6 #[.val (.ref a), .val (.int cq), .val (.int cq), .unset] [(.ref wA)]))
  refine Gl.back (fun _ k => XS.iloadN X72.here hx rfl (hb hby d18_6) rfl k) ?_
  show Gl _ _ _ _ _ _ _ (T72.setTop (mkF m 7 #[.val (.ref a), .val (.int cq), .val (.int cq), .unset] [(.int cq), (.ref wA)]))
  obtain ⟨cl73, Ar73, q73, Sz73, Nn73, Hs73, Gf73⟩ := id (V_A.ext O0.2)
  have hin73 : ¬ (cq < 0 ∨ cl73.slots.size ≤ (cq).toNatClampNeg) := inb_of Sz73 (own_nwb hnw)
  have hat73 : cl73.slots[(cq).toNatClampNeg]? = some (.int r) := Hs73.at hin73 (hr)
  refine Gl.back (fun _ k => X72.iaload hx (j := cq) (v := (.int r)) (by rw [e72]; exact Ar73.1) (State.isArrayOf_alike hZ.alike Ar73.2.1) Ar73.2.2 hin73 hat73 (g := (mkF m 7 #[.val (.ref a), .val (.int cq), .val (.int cq), .unset] [(.int cq), (.ref wA)])) rfl rfl (hb hby d18_7) _ k) ?_
  show Gl _ _ _ _ _ _ _ (T72.setTop (mkF m 8 #[.val (.ref a), .val (.int cq), .val (.int cq), .unset] [(.int r)]))
  refine Gl.back (fun _ k => XS.istoreN X72.here hx rfl (hb hby d18_8) rfl (l' := #[.val (.ref a), .val (.int cq), .val (.int cq), .val (.int r)]) rfl k) ?_
  show Gl _ _ _ _ _ _ _ (T72.setTop (mkF m 9 #[.val (.ref a), .val (.int cq), .val (.int cq), .val (.int r)] []))
  refine Gl.back (fun _ k => XS.iloadN X72.here hx rfl (hb hby d18_9) rfl k) ?_
  show Gl _ _ _ _ _ _ _ (T72.setTop (mkF m 10 #[.val (.ref a), .val (.int cq), .val (.int cq), .val (.int r)] [(.int r)]))
  exact Gl.ret X72 e72 (v := (some (.int r))) (fun h => by rw [Bd.returns] at h; cases h) Bd.notSynchronized (fun fs hr => retOut X72 hx (w := (.int r)) Bd.returns rfl (Or.inl ⟨rfl, Or.inl rfl, _, rfl⟩) (hb hby d18_10) hr) ⟨N0, rfl, rfl⟩ (by decide) (by decide)
theorem d17_0 : decode jdk_116_method_26_code 0 = .ok (.aload_n 0, 1) := by decide +kernel
theorem d17_1 : decode jdk_116_method_26_code 1 = .ok (.iload_n 1, 1) := by decide +kernel
theorem d17_2 : decode jdk_116_method_26_code 2 = .ok (.invokevirtual 15, 3) := by decide +kernel
theorem pd__I_I : parseMethodDescriptor "(I)I" = some ⟨[.int], some .int⟩ := by decide +kernel
theorem d17_5 : decode jdk_116_method_26_code 5 = .ok (.istore_n 2, 1) := by decide +kernel
theorem d17_6 : decode jdk_116_method_26_code 6 = .ok (.iload_n 2, 1) := by decide +kernel
theorem d17_7 : decode jdk_116_method_26_code 7 = .ok (.sipush 28672, 3) := by decide +kernel
theorem d17_10 : decode jdk_116_method_26_code 10 = .ok (.iand, 1) := by decide +kernel
theorem d17_11 : decode jdk_116_method_26_code 11 = .ok (.sipush 16384, 3) := by decide +kernel
theorem d17_14 : decode jdk_116_method_26_code 14 = .ok (.if_icmp .ne 7, 3) := by decide +kernel
theorem d17_21 : decode jdk_116_method_26_code 21 = .ok (.iconst 0, 1) := by decide +kernel
theorem d17_22 : decode jdk_116_method_26_code 22 = .ok (.ireturn, 1) := by decide +kernel
theorem ef_isw (m : MethodId) (x0 : Addr) (x1 : Int32) : entryFrame m #[(.ref x0), (.int x1)] 3 = mkF m 0 #[.val (.ref x0), .val (.int x1), .unset] [] := by first | (simp [entryFrame, mkF, argsToLocals, Value.category]; done) | rfl
def Qisw (Z : State) (wI : Addr) (cq : Int32) (wA : Addr) (kA : ClassId) (vsA : List Value) (r : Int32) (h0 : Heap) (n0 : Nat) (v : Option Value) (h : Heap) (L : List Loc) : Prop := Fr n0 L ∧ (v = some (.int 0) ∧ h = h0)
set_option maxRecDepth 65536 in
set_option maxHeartbeats 40000000 in
theorem rmisw (l : Launch) (Z : State) (a0 : Array Value) (hw : ∀ d ∈ tables_1, d.before a0 Z = true) (ws : List Jvm.Cond) (wI : Addr) (cq : Int32) (wA : Addr) (kA : ClassId) (vsA : List Value) (r : Int32) (h0 : Heap) (n0 : Nat) (Z0 : n0 ≤ h0.size) (O0 : Old Z n0 h0) (S_A : Sta Z Z.heap "java/lang/CharacterDataLatin1" "A" "[I" (.ref wA)) (V_A : Arv Z Z.heap wA kA .int (256 : Int32) vsA (.int 0)) (E_I : Exa Z Z.heap wI "java/lang/CharacterDataLatin1") (hnw : own_nw cq) (hr : vsA.getD cq.toNatClampNeg (.int 0) = .int r) (hr2 : ¬ (r &&& (28672 : Int32)) = 16384) :
    MetFree l (⟨"java/lang/CharacterDataLatin1", "isWhitespace", "(I)Z"⟩ : MethodName) (head1 (Jvm.Cond.code (⟨"java/lang/CharacterDataLatin1", "isWhitespace", "(I)Z"⟩ : MethodName) jdk_116_method_26_code 3 (some .boolean) :: ws) ({ frames := 1, cells := 0, slots := 0, locals := 15 } : Room)) (fun as0 U => as0 = #[(.ref wI), (.int cq)] ∧ Z.Warmed39 U.vm ∧ U.heap = h0) (fun _ _ _ _ _ => True) (fun _ U oc0 U' => ∃ v L, oc0 = .returned v ∧ Qisw Z wI cq wA kA vsA r h0 n0 v U'.heap L ∧ FrameEnd U oc0 U' L ({ frames := 1, cells := 0, slots := 0, locals := 15 } : Room).cells ({ frames := 1, cells := 0, slots := 0, locals := 15 } : Room).slots) := by
  refine MetFree.of_bodySF (plainFor_of_name pn_java_lang_CharacterDataLatin1) hisR ?_
  intro p e s m args below meth c s₁ Bd hml0 hP hK
  obtain ⟨rfl, hZ, hh⟩ := hP
  have hx := Bd.exec
  have hby := Bd.bytes
  have hml : c.maxLocals = 3 := hml0
  have hown : s.vm.findClass "java/lang/CharacterDataLatin1" = some m.cls := findClass_of_methodNamed Bd.named
  have hnm := (name_of_methodNamed Bd.named Bd.method).1
  have X0 : Stand p l e ({ frames := 1, cells := 0, slots := 0, locals := 15 } : Room) s m #[(.ref wI), (.int cq)] below meth c s₁ [] 0 0 := Stand.of_body Bd
  have e0 : s₁.heap = h0 := by rw [← hh, Bd.state]; rfl
  have N0 := Fr.nil n0
  show Gl p e below s (Qisw Z wI cq wA kA vsA r h0 n0) ({ frames := 1, cells := 0, slots := 0, locals := 15 } : Room).cells ({ frames := 1, cells := 0, slots := 0, locals := 15 } : Room).slots (s₁.setTop (entryFrame m #[(.ref wI), (.int cq)] 3))
  refine Gl.back (fun _ k => castTop (ef_isw m wI cq) k) ?_
  show Gl _ _ _ _ _ _ _ (s₁.setTop (mkF m 0 #[.val (.ref wI), .val (.int cq), .unset] []))
  refine Gl.back (fun _ k => XS.aloadN X0.here hx rfl (hb hby d17_0) rfl rfl k) ?_
  show Gl _ _ _ _ _ _ _ (s₁.setTop (mkF m 1 #[.val (.ref wI), .val (.int cq), .unset] [(.ref wI)]))
  refine Gl.back (fun _ k => XS.iloadN X0.here hx rfl (hb hby d17_1) rfl k) ?_
  show Gl _ _ _ _ _ _ _ (s₁.setTop (mkF m 2 #[.val (.ref wI), .val (.int cq), .unset] [(.int cq), (.ref wI)]))
  obtain ⟨cq74, kq74, q74a, q74b, q74c⟩ := isOf hZ e0 (E_I.ext O0.2)
  obtain ⟨_, _, ⟨T74, L74, k74, n74⟩, -, X74, ⟨Lc74, hQ74, l74, y74, z74⟩, st74⟩ := X0.virtualBack hx (y := (⟨"java/lang/CharacterDataLatin1", "getProperties", "(I)I"⟩ : MethodName)) (z := (⟨"java/lang/CharacterDataLatin1", "getProperties", "(I)I"⟩ : MethodName)) hown (mvT hZ (hw _ (List.mem_of_getElem? (i := 93) rfl))) (mvT hZ (hw _ (List.mem_of_getElem? (i := 94) rfl))) (notFace_of_selects (args := #[]) (mvT hZ (hw _ (List.mem_of_getElem? (i := 96) rfl)))) (mvT hZ (hw _ (List.mem_of_getElem? (i := 96) rfl))) (mvT hZ (hw _ (List.mem_of_getElem? (i := 95) rfl))) (by decide) (backOf (W := 0) (rmgp l Z a0 hw [] wI cq wA kA vsA r h0 n0 Z0 O0 S_A V_A hnw hr) hZ (hw _ (List.mem_of_getElem? (i := 97) rfl)) (hw _ (List.mem_of_getElem? (i := 87) rfl)) (by decide) (by decide)) q74a q74c (g := (mkF m 2 #[.val (.ref wI), .val (.int cq), .unset] [(.int cq), (.ref wI)])) rfl (by rw [hml]; rfl) (Steps.refl _) (argsL := [(.int cq)]) (rest := []) (lenOf pd__I_I rfl) rfl (by show 2 * 0 + _ ≤ _; exact Nat.le_of_eq rfl) (hb hby d17_2) (fun _ _ => ⟨rfl, e0, (by decide : 0 + 0 ≤ _), (by decide : 0 + 0 ≤ _)⟩)
  dsimp only [Pt.U, Pt.locs, Pt.cells, Pt.slots] at X74 l74 y74 z74 st74 hQ74
  replace l74 := Eq.symm l74
  replace y74 := Eq.symm y74
  replace z74 := Eq.symm z74
  subst l74 y74 z74
  obtain ⟨Nq74, rfl, eh74⟩ := hQ74
  have N74 := Fr.app N0 Nq74
  refine Gl.back (fun _ k => st74.trans k) ?_
  show Gl _ _ _ _ _ _ _ (T74.setTop (mkF m 5 #[.val (.ref wI), .val (.int cq), .unset] [(.int r)]))
  refine Gl.back (fun _ k => XS.istoreN X74.here hx rfl (hb hby d17_5) rfl (l' := #[.val (.ref wI), .val (.int cq), .val (.int r)]) rfl k) ?_
  show Gl _ _ _ _ _ _ _ (T74.setTop (mkF m 6 #[.val (.ref wI), .val (.int cq), .val (.int r)] []))
  refine Gl.back (fun _ k => XS.iloadN X74.here hx rfl (hb hby d17_6) rfl k) ?_
  show Gl _ _ _ _ _ _ _ (T74.setTop (mkF m 7 #[.val (.ref wI), .val (.int cq), .val (.int r)] [(.int r)]))
  refine Gl.back (fun _ k => XS.sipush X74.here hx rfl (hb hby d17_7) k) ?_
  show Gl _ _ _ _ _ _ _ (T74.setTop (mkF m 10 #[.val (.ref wI), .val (.int cq), .val (.int r)] [(.int (28672 : Int32)), (.int r)]))
  refine Gl.back (fun _ k => XS.iand X74.here hx rfl (hb hby d17_10) rfl k) ?_
  show Gl _ _ _ _ _ _ _ (T74.setTop (mkF m 11 #[.val (.ref wI), .val (.int cq), .val (.int r)] [(.int (r &&& (28672 : Int32)))]))
  refine Gl.back (fun _ k => XS.sipush X74.here hx rfl (hb hby d17_11) k) ?_
  show Gl _ _ _ _ _ _ _ (T74.setTop (mkF m 14 #[.val (.ref wI), .val (.int cq), .val (.int r)] [(.int (16384 : Int32)), (.int (r &&& (28672 : Int32)))]))
  refine Gl.back (fun _ k => XS.icmpYes X74.here hx rfl (pc0 := 14) (pc' := 21) rfl (hb hby d17_14) rfl (feq (hr2 : ¬ (r &&& (28672 : Int32)) = (16384 : Int32))).2 (by decide) (by decide) k) ?_
  show Gl _ _ _ _ _ _ _ (T74.setTop (mkF m 21 #[.val (.ref wI), .val (.int cq), .val (.int r)] []))
  refine Gl.back (fun _ k => XS.iconst X74.here hx rfl (hb hby d17_21) k) ?_
  show Gl _ _ _ _ _ _ _ (T74.setTop (mkF m 22 #[.val (.ref wI), .val (.int cq), .val (.int r)] [(.int (0 : Int32))]))
  exact Gl.ret X74 eh74 (v := (some (.int (0 : Int32)))) (fun h => by rw [Bd.returns] at h; cases h) Bd.notSynchronized (fun fs hr => retN X74 hx (t := .boolean) (z := (0 : Int32)) Bd.returns (by simp) (hb hby d17_22) hr) ⟨N74, rfl, rfl⟩ (by decide) (by decide)
theorem d16_0 : decode jdk_43_method_44_code 0 = .ok (.aload_n 0, 1) := by decide +kernel
theorem d16_1 : decode jdk_43_method_44_code 1 = .ok (.iload_n 1, 1) := by decide +kernel
theorem d16_2 : decode jdk_43_method_44_code 2 = .ok (.baload, 1) := by decide +kernel
theorem d16_3 : decode jdk_43_method_44_code 3 = .ok (.sipush 255, 3) := by decide +kernel
theorem d16_6 : decode jdk_43_method_44_code 6 = .ok (.iand, 1) := by decide +kernel
theorem d16_7 : decode jdk_43_method_44_code 7 = .ok (.i2c, 1) := by decide +kernel
theorem d16_8 : decode jdk_43_method_44_code 8 = .ok (.ireturn, 1) := by decide +kernel
theorem pn_java_lang_StringLatin1 : plainName "java/lang/StringLatin1" = true := by first | (simp [plainName, overriddenIn]; done) | decide +kernel
theorem ef_gch (m : MethodId) (x0 : Addr) : entryFrame m #[(.ref x0), (.int (0 : Int32))] 2 = mkF m 0 #[.val (.ref x0), .val (.int (0 : Int32))] [] := by first | (simp [entryFrame, mkF, argsToLocals, Value.category]; done) | rfl
def Qgch (Z : State) (t : Addr) (k_t : ClassId) (N2 cq : Int32) (vs : List Value) (h0 : Heap) (n0 : Nat) (v : Option Value) (h : Heap) (L : List Loc) : Prop := Fr n0 L ∧ (v = some (.int cq) ∧ h = h0)
set_option maxRecDepth 65536 in
set_option maxHeartbeats 40000000 in
theorem rmgch (l : Launch) (Z : State) (a0 : Array Value) (hw : ∀ d ∈ tables_1, d.before a0 Z = true) (ws : List Jvm.Cond) (t : Addr) (k_t : ClassId) (N2 cq : Int32) (vs : List Value) (h0 : Heap) (n0 : Nat) (Z0 : n0 ≤ h0.size) (V_t : Arv Z h0 t k_t .byte N2 vs (.int 0)) (hN : (0 : Int32) < N2) (hv0 : vs.getD 0 (.int 0) = .int (cq.toInt8.toInt32)) (hnw : own_nw cq) :
    MetFree l (⟨"java/lang/StringLatin1", "getChar", "([BI)C"⟩ : MethodName) (head1 (Jvm.Cond.code (⟨"java/lang/StringLatin1", "getChar", "([BI)C"⟩ : MethodName) jdk_43_method_44_code 2 (some .char) :: ws) ({ frames := 0, cells := 0, slots := 0, locals := 0 } : Room)) (fun as0 U => as0 = #[(.ref t), (.int (0 : Int32))] ∧ Z.Warmed39 U.vm ∧ U.heap = h0) (fun _ _ _ _ _ => True) (fun _ U oc0 U' => ∃ v L, oc0 = .returned v ∧ Qgch Z t k_t N2 cq vs h0 n0 v U'.heap L ∧ FrameEnd U oc0 U' L ({ frames := 0, cells := 0, slots := 0, locals := 0 } : Room).cells ({ frames := 0, cells := 0, slots := 0, locals := 0 } : Room).slots) := by
  refine MetFree.of_bodySF (plainFor_of_name pn_java_lang_StringLatin1) hisR ?_
  intro p e s m args below meth c s₁ Bd hml0 hP hK
  obtain ⟨rfl, hZ, hh⟩ := hP
  have hx := Bd.exec
  have hby := Bd.bytes
  have hml : c.maxLocals = 2 := hml0
  have hown : s.vm.findClass "java/lang/StringLatin1" = some m.cls := findClass_of_methodNamed Bd.named
  have hnm := (name_of_methodNamed Bd.named Bd.method).1
  have X0 : Stand p l e ({ frames := 0, cells := 0, slots := 0, locals := 0 } : Room) s m #[(.ref t), (.int (0 : Int32))] below meth c s₁ [] 0 0 := Stand.of_body Bd
  have e0 : s₁.heap = h0 := by rw [← hh, Bd.state]; rfl
  have N0 := Fr.nil n0
  show Gl p e below s (Qgch Z t k_t N2 cq vs h0 n0) ({ frames := 0, cells := 0, slots := 0, locals := 0 } : Room).cells ({ frames := 0, cells := 0, slots := 0, locals := 0 } : Room).slots (s₁.setTop (entryFrame m #[(.ref t), (.int (0 : Int32))] 2))
  refine Gl.back (fun _ k => castTop (ef_gch m t) k) ?_
  show Gl _ _ _ _ _ _ _ (s₁.setTop (mkF m 0 #[.val (.ref t), .val (.int (0 : Int32))] []))
  refine Gl.back (fun _ k => XS.aloadN X0.here hx rfl (hb hby d16_0) rfl rfl k) ?_
  show Gl _ _ _ _ _ _ _ (s₁.setTop (mkF m 1 #[.val (.ref t), .val (.int (0 : Int32))] [(.ref t)]))
  refine Gl.back (fun _ k => XS.iloadN X0.here hx rfl (hb hby d16_1) rfl k) ?_
  show Gl _ _ _ _ _ _ _ (s₁.setTop (mkF m 2 #[.val (.ref t), .val (.int (0 : Int32))] [(.int (0 : Int32)), (.ref t)]))
  obtain ⟨cl75, Ar75, q75, Sz75, Nn75, Hs75, Gf75⟩ := id V_t
  have hin75 : ¬ ((0 : Int32) < 0 ∨ cl75.slots.size ≤ ((0 : Int32)).toNatClampNeg) := inb_of Sz75 ⟨by decide, hN⟩
  have hat75 : cl75.slots[((0 : Int32)).toNatClampNeg]? = some (.int (cq.toInt8.toInt32)) := Hs75.at hin75 (hv0)
  refine Gl.back (fun _ k => X0.baloadBytes hx (j := (0 : Int32)) (v := (.int (cq.toInt8.toInt32))) (by rw [e0]; exact Ar75.1) (State.isArrayOf_alike hZ.alike Ar75.2.1) Ar75.2.2 hin75 hat75 (g := (mkF m 2 #[.val (.ref t), .val (.int (0 : Int32))] [(.int (0 : Int32)), (.ref t)])) rfl rfl (hb hby d16_2) _ k) ?_
  show Gl _ _ _ _ _ _ _ (s₁.setTop (mkF m 3 #[.val (.ref t), .val (.int (0 : Int32))] [(.int (cq.toInt8.toInt32))]))
  refine Gl.back (fun _ k => XS.sipush X0.here hx rfl (hb hby d16_3) k) ?_
  show Gl _ _ _ _ _ _ _ (s₁.setTop (mkF m 6 #[.val (.ref t), .val (.int (0 : Int32))] [(.int (255 : Int32)), (.int (cq.toInt8.toInt32))]))
  refine Gl.back (fun _ k => XS.iand X0.here hx rfl (hb hby d16_6) rfl k) ?_
  show Gl _ _ _ _ _ _ _ (s₁.setTop (mkF m 7 #[.val (.ref t), .val (.int (0 : Int32))] [(.int ((cq.toInt8.toInt32) &&& (255 : Int32)))]))
  refine Gl.back (fun _ k => XS.i2c X0.here hx rfl (hb hby d16_7) rfl k) ?_
  show Gl _ _ _ _ _ _ _ (s₁.setTop (mkF m 8 #[.val (.ref t), .val (.int (0 : Int32))] [(.int (((cq.toInt8.toInt32) &&& (255 : Int32)).toUInt32.toUInt16.toUInt32.toInt32))]))
  exact Gl.ret X0 e0 (v := (some (.int (nar .char (((cq.toInt8.toInt32) &&& (255 : Int32)).toUInt32.toUInt16.toUInt32.toInt32))))) (fun h => by rw [Bd.returns] at h; cases h) Bd.notSynchronized (fun fs hr => retN X0 hx (t := .char) (z := (((cq.toInt8.toInt32) &&& (255 : Int32)).toUInt32.toUInt16.toUInt32.toInt32)) Bd.returns (by simp) (hb hby d16_8) hr) ⟨N0, own_nwr hnw, rfl⟩ (by decide) (by decide)
theorem d15_0 : decode jdk_43_method_37_code 0 = .ok (.aload_n 0, 1) := by decide +kernel
theorem d15_1 : decode jdk_43_method_37_code 1 = .ok (.arraylength, 1) := by decide +kernel
theorem d15_2 : decode jdk_43_method_37_code 2 = .ok (.istore_n 1, 1) := by decide +kernel
theorem d15_3 : decode jdk_43_method_37_code 3 = .ok (.iconst 0, 1) := by decide +kernel
theorem d15_4 : decode jdk_43_method_37_code 4 = .ok (.istore_n 2, 1) := by decide +kernel
theorem d15_5 : decode jdk_43_method_37_code 5 = .ok (.iload_n 2, 1) := by decide +kernel
theorem d15_6 : decode jdk_43_method_37_code 6 = .ok (.iload_n 1, 1) := by decide +kernel
theorem d15_7 : decode jdk_43_method_37_code 7 = .ok (.if_icmp .ge 40, 3) := by decide +kernel
theorem d15_10 : decode jdk_43_method_37_code 10 = .ok (.aload_n 0, 1) := by decide +kernel
theorem d15_11 : decode jdk_43_method_37_code 11 = .ok (.iload_n 2, 1) := by decide +kernel
theorem d15_12 : decode jdk_43_method_37_code 12 = .ok (.invokestatic 50, 3) := by decide +kernel
theorem pd___BI_C : parseMethodDescriptor "([BI)C" = some ⟨[(.array .byte), .int], some .char⟩ := by decide +kernel
theorem d15_15 : decode jdk_43_method_37_code 15 = .ok (.istore_n 3, 1) := by decide +kernel
theorem d15_16 : decode jdk_43_method_37_code 16 = .ok (.iload_n 3, 1) := by decide +kernel
theorem d15_17 : decode jdk_43_method_37_code 17 = .ok (.bipush 32, 2) := by decide +kernel
theorem d15_19 : decode jdk_43_method_37_code 19 = .ok (.if_icmp .eq 22, 3) := by decide +kernel
theorem d15_22 : decode jdk_43_method_37_code 22 = .ok (.iload_n 3, 1) := by decide +kernel
theorem d15_23 : decode jdk_43_method_37_code 23 = .ok (.bipush 9, 2) := by decide +kernel
theorem d15_25 : decode jdk_43_method_37_code 25 = .ok (.if_icmp .eq 16, 3) := by decide +kernel
theorem d15_28 : decode jdk_43_method_37_code 28 = .ok (.getstatic 66, 3) := by decide +kernel
theorem d15_31 : decode jdk_43_method_37_code 31 = .ok (.iload_n 3, 1) := by decide +kernel
theorem d15_32 : decode jdk_43_method_37_code 32 = .ok (.invokevirtual 211, 3) := by decide +kernel
theorem pd__I_Z : parseMethodDescriptor "(I)Z" = some ⟨[.int], some .boolean⟩ := by decide +kernel
theorem d15_35 : decode jdk_43_method_37_code 35 = .ok (.ifCond .ne 6, 3) := by decide +kernel
theorem d15_38 : decode jdk_43_method_37_code 38 = .ok (.goto 9, 3) := by decide +kernel
theorem d15_47 : decode jdk_43_method_37_code 47 = .ok (.iload_n 2, 1) := by decide +kernel
theorem d15_48 : decode jdk_43_method_37_code 48 = .ok (.ireturn, 1) := by decide +kernel
theorem ef_inw (m : MethodId) (x0 : Addr) : entryFrame m #[(.ref x0)] 4 = mkF m 0 #[.val (.ref x0), .unset, .unset, .unset] [] := by first | (simp [entryFrame, mkF, argsToLocals, Value.category]; done) | rfl
def Qinw (Z : State) (t : Addr) (wA wI : Addr) (kA : ClassId) (vsA : List Value) (k_t : ClassId) (N2 cq : Int32) (vs : List Value) (h0 : Heap) (n0 : Nat) (v : Option Value) (h : Heap) (L : List Loc) : Prop := Fr n0 L ∧ (v = some (.int 0) ∧ h = h0)
set_option maxRecDepth 65536 in
set_option maxHeartbeats 40000000 in
theorem rminw (l : Launch) (Z : State) (a0 : Array Value) (hw : ∀ d ∈ tables_1, d.before a0 Z = true) (ws : List Jvm.Cond) (t : Addr) (wA wI : Addr) (kA : ClassId) (vsA : List Value) (k_t : ClassId) (N2 cq : Int32) (vs : List Value) (h0 : Heap) (n0 : Nat) (Z0 : n0 ≤ h0.size) (O0 : Old Z n0 h0) (S_A : Sta Z Z.heap "java/lang/CharacterDataLatin1" "A" "[I" (.ref wA)) (V_A : Arv Z Z.heap wA kA .int (256 : Int32) vsA (.int 0)) (hA : own_A vsA) (S_I : Sta Z Z.heap "java/lang/CharacterDataLatin1" "instance" "Ljava/lang/CharacterDataLatin1;" (.ref wI)) (E_I : Exa Z Z.heap wI "java/lang/CharacterDataLatin1") (V_t : Arv Z h0 t k_t .byte N2 vs (.int 0)) (hN : (0 : Int32) < N2) (hv0 : vs.getD 0 (.int 0) = .int (cq.toInt8.toInt32)) (hnw : own_nw cq) :
    MetFree l (⟨"java/lang/StringLatin1", "indexOfNonWhitespace", "([B)I"⟩ : MethodName) (head1 (Jvm.Cond.code (⟨"java/lang/StringLatin1", "indexOfNonWhitespace", "([B)I"⟩ : MethodName) jdk_43_method_37_code 4 (some .int) :: ws) ({ frames := 2, cells := 0, slots := 0, locals := 29 } : Room)) (fun as0 U => as0 = #[(.ref t)] ∧ Z.Warmed39 U.vm ∧ U.heap = h0) (fun _ _ _ _ _ => True) (fun _ U oc0 U' => ∃ v L, oc0 = .returned v ∧ Qinw Z t wA wI kA vsA k_t N2 cq vs h0 n0 v U'.heap L ∧ FrameEnd U oc0 U' L ({ frames := 2, cells := 0, slots := 0, locals := 29 } : Room).cells ({ frames := 2, cells := 0, slots := 0, locals := 29 } : Room).slots) := by
  refine MetFree.of_bodySF (plainFor_of_name pn_java_lang_StringLatin1) hisR ?_
  intro p e s m args below meth c s₁ Bd hml0 hP hK
  obtain ⟨rfl, hZ, hh⟩ := hP
  have hx := Bd.exec
  have hby := Bd.bytes
  have hml : c.maxLocals = 4 := hml0
  have hown : s.vm.findClass "java/lang/StringLatin1" = some m.cls := findClass_of_methodNamed Bd.named
  have hnm := (name_of_methodNamed Bd.named Bd.method).1
  have X0 : Stand p l e ({ frames := 2, cells := 0, slots := 0, locals := 29 } : Room) s m #[(.ref t)] below meth c s₁ [] 0 0 := Stand.of_body Bd
  have e0 : s₁.heap = h0 := by rw [← hh, Bd.state]; rfl
  have N0 := Fr.nil n0
  show Gl p e below s (Qinw Z t wA wI kA vsA k_t N2 cq vs h0 n0) ({ frames := 2, cells := 0, slots := 0, locals := 29 } : Room).cells ({ frames := 2, cells := 0, slots := 0, locals := 29 } : Room).slots (s₁.setTop (entryFrame m #[(.ref t)] 4))
  refine Gl.back (fun _ k => castTop (ef_inw m t) k) ?_
  show Gl _ _ _ _ _ _ _ (s₁.setTop (mkF m 0 #[.val (.ref t), .unset, .unset, .unset] []))
  refine Gl.back (fun _ k => XS.aloadN X0.here hx rfl (hb hby d15_0) rfl rfl k) ?_
  show Gl _ _ _ _ _ _ _ (s₁.setTop (mkF m 1 #[.val (.ref t), .unset, .unset, .unset] [(.ref t)]))
  obtain ⟨cl76, Ar76, -, Sz76, Nn76, -, -⟩ := id V_t
  refine Gl.back (fun _ k => X0.arraylength hx (by rw [e0]; exact Ar76.1) (State.isArrayOf_alike hZ.alike Ar76.2.1) (g := (mkF m 1 #[.val (.ref t), .unset, .unset, .unset] [(.ref t)])) rfl rfl (hb hby d15_1) _ k) ?_
  rw [len_of Sz76 Nn76]
  show Gl _ _ _ _ _ _ _ (s₁.setTop (mkF m 2 #[.val (.ref t), .unset, .unset, .unset] [(.int N2)]))
  refine Gl.back (fun _ k => XS.istoreN X0.here hx rfl (hb hby d15_2) rfl (l' := #[.val (.ref t), .val (.int N2), .unset, .unset]) rfl k) ?_
  show Gl _ _ _ _ _ _ _ (s₁.setTop (mkF m 3 #[.val (.ref t), .val (.int N2), .unset, .unset] []))
  refine Gl.back (fun _ k => XS.iconst X0.here hx rfl (hb hby d15_3) k) ?_
  show Gl _ _ _ _ _ _ _ (s₁.setTop (mkF m 4 #[.val (.ref t), .val (.int N2), .unset, .unset] [(.int (0 : Int32))]))
  refine Gl.back (fun _ k => XS.istoreN X0.here hx rfl (hb hby d15_4) rfl (l' := #[.val (.ref t), .val (.int N2), .val (.int (0 : Int32)), .unset]) rfl k) ?_
  show Gl _ _ _ _ _ _ _ (s₁.setTop (mkF m 5 #[.val (.ref t), .val (.int N2), .val (.int (0 : Int32)), .unset] []))
  refine Gl.back (fun _ k => XS.iloadN X0.here hx rfl (hb hby d15_5) rfl k) ?_
  show Gl _ _ _ _ _ _ _ (s₁.setTop (mkF m 6 #[.val (.ref t), .val (.int N2), .val (.int (0 : Int32)), .unset] [(.int (0 : Int32))]))
  refine Gl.back (fun _ k => XS.iloadN X0.here hx rfl (hb hby d15_6) rfl k) ?_
  show Gl _ _ _ _ _ _ _ (s₁.setTop (mkF m 7 #[.val (.ref t), .val (.int N2), .val (.int (0 : Int32)), .unset] [(.int N2), (.int (0 : Int32))]))
  refine Gl.back (fun _ k => XS.icmpNo X0.here hx rfl (hb hby d15_7) rfl (tlt (hN : (0 : Int32) < N2)).2.1 k) ?_
  show Gl _ _ _ _ _ _ _ (s₁.setTop (mkF m 10 #[.val (.ref t), .val (.int N2), .val (.int (0 : Int32)), .unset] []))
  refine Gl.back (fun _ k => XS.aloadN X0.here hx rfl (hb hby d15_10) rfl rfl k) ?_
  show Gl _ _ _ _ _ _ _ (s₁.setTop (mkF m 11 #[.val (.ref t), .val (.int N2), .val (.int (0 : Int32)), .unset] [(.ref t)]))
  refine Gl.back (fun _ k => XS.iloadN X0.here hx rfl (hb hby d15_11) rfl k) ?_
  show Gl _ _ _ _ _ _ _ (s₁.setTop (mkF m 12 #[.val (.ref t), .val (.int N2), .val (.int (0 : Int32)), .unset] [(.int (0 : Int32)), (.ref t)]))
  obtain ⟨_, _, ⟨T77, L77, k77, n77⟩, -, X77, ⟨Lc77, hQ77, l77, y77, z77⟩, st77⟩ := Jvm.LawKit.callS X0 hx (y := (⟨"java/lang/StringLatin1", "getChar", "([BI)C"⟩ : MethodName)) hown (mvT hZ (hw _ (List.mem_of_getElem? (i := 83) rfl))) (mvT hZ (hw _ (List.mem_of_getElem? (i := 84) rfl))) (mvT hZ (hw _ (List.mem_of_getElem? (i := 81) rfl))) (mvT hZ (hw _ (List.mem_of_getElem? (i := 85) rfl))) (by decide) (backOf (W := 0) (rmgch l Z a0 hw [] t k_t N2 cq vs h0 n0 Z0 V_t hN hv0 hnw) hZ (hw _ (List.mem_of_getElem? (i := 85) rfl)) (hw _ (List.mem_of_getElem? (i := 81) rfl)) (by decide) (by decide)) (g := (mkF m 12 #[.val (.ref t), .val (.int N2), .val (.int (0 : Int32)), .unset] [(.int (0 : Int32)), (.ref t)])) rfl (by rw [hml]; rfl) (argsL := [(.ref t), (.int (0 : Int32))]) (rest := []) (lenOf pd___BI_C rfl) rfl (by show 2 * 0 + _ ≤ _; exact Nat.le_of_eq rfl) (hb hby d15_12) (fun _ _ => ⟨rfl, e0, (by decide : 0 + 0 ≤ _), (by decide : 0 + 0 ≤ _)⟩)
  dsimp only [Pt.U, Pt.locs, Pt.cells, Pt.slots] at X77 l77 y77 z77 st77 hQ77
  replace l77 := Eq.symm l77
  replace y77 := Eq.symm y77
  replace z77 := Eq.symm z77
  subst l77 y77 z77
  obtain ⟨Nq77, rfl, eh77⟩ := hQ77
  have N77 := Fr.app N0 Nq77
  refine Gl.back (fun _ k => st77 _ k) ?_
  show Gl _ _ _ _ _ _ _ (T77.setTop (mkF m 15 #[.val (.ref t), .val (.int N2), .val (.int (0 : Int32)), .unset] [(.int cq)]))
  refine Gl.back (fun _ k => XS.istoreN X77.here hx rfl (hb hby d15_15) rfl (l' := #[.val (.ref t), .val (.int N2), .val (.int (0 : Int32)), .val (.int cq)]) rfl k) ?_
  show Gl _ _ _ _ _ _ _ (T77.setTop (mkF m 16 #[.val (.ref t), .val (.int N2), .val (.int (0 : Int32)), .val (.int cq)] []))
  refine Gl.back (fun _ k => XS.iloadN X77.here hx rfl (hb hby d15_16) rfl k) ?_
  show Gl _ _ _ _ _ _ _ (T77.setTop (mkF m 17 #[.val (.ref t), .val (.int N2), .val (.int (0 : Int32)), .val (.int cq)] [(.int cq)]))
  refine Gl.back (fun _ k => XS.bipush X77.here hx rfl (hb hby d15_17) k) ?_
  show Gl _ _ _ _ _ _ _ (T77.setTop (mkF m 19 #[.val (.ref t), .val (.int N2), .val (.int (0 : Int32)), .val (.int cq)] [(.int (32 : Int32)), (.int cq)]))
  refine Gl.back (fun _ k => XS.icmpNo X77.here hx rfl (hb hby d15_19) rfl (feq (own_nw32 hnw : ¬ cq = (32 : Int32))).1 k) ?_
  show Gl _ _ _ _ _ _ _ (T77.setTop (mkF m 22 #[.val (.ref t), .val (.int N2), .val (.int (0 : Int32)), .val (.int cq)] []))
  refine Gl.back (fun _ k => XS.iloadN X77.here hx rfl (hb hby d15_22) rfl k) ?_
  show Gl _ _ _ _ _ _ _ (T77.setTop (mkF m 23 #[.val (.ref t), .val (.int N2), .val (.int (0 : Int32)), .val (.int cq)] [(.int cq)]))
  refine Gl.back (fun _ k => XS.bipush X77.here hx rfl (hb hby d15_23) k) ?_
  show Gl _ _ _ _ _ _ _ (T77.setTop (mkF m 25 #[.val (.ref t), .val (.int N2), .val (.int (0 : Int32)), .val (.int cq)] [(.int (9 : Int32)), (.int cq)]))
  refine Gl.back (fun _ k => XS.icmpNo X77.here hx rfl (hb hby d15_25) rfl (feq (own_nw9 hnw : ¬ cq = (9 : Int32))).1 k) ?_
  show Gl _ _ _ _ _ _ _ (T77.setTop (mkF m 28 #[.val (.ref t), .val (.int N2), .val (.int (0 : Int32)), .val (.int cq)] []))
  obtain ⟨T78, X78, e78, st78⟩ := getS2 X77 hx hZ hown (host := "") (Or.inl (hw _ (List.mem_of_getElem? (i := 86) rfl))) Via.refl eh77 (S_I.ext O0.2) (g := (mkF m 28 #[.val (.ref t), .val (.int N2), .val (.int (0 : Int32)), .val (.int cq)] [])) rfl (hb hby d15_28)
  refine Gl.back (fun _ k => st78 _ k) ?_
  show Gl _ _ _ _ _ _ _ (T78.setTop (mkF m 31 #[.val (.ref t), .val (.int N2), .val (.int (0 : Int32)), .val (.int cq)] [(.ref wI)]))
  refine Gl.back (fun _ k => XS.iloadN X78.here hx rfl (hb hby d15_31) rfl k) ?_
  show Gl _ _ _ _ _ _ _ (T78.setTop (mkF m 32 #[.val (.ref t), .val (.int N2), .val (.int (0 : Int32)), .val (.int cq)] [(.int cq), (.ref wI)]))
  obtain ⟨rw_, hrw1, hrw2⟩ := hA cq hnw
  obtain ⟨cq79, kq79, q79a, q79b, q79c⟩ := isOf hZ e78 (E_I.ext O0.2)
  obtain ⟨_, _, ⟨T79, L79, k79, n79⟩, -, X79, ⟨Lc79, hQ79, l79, y79, z79⟩, st79⟩ := X78.virtualBack hx (y := (⟨"java/lang/CharacterDataLatin1", "isWhitespace", "(I)Z"⟩ : MethodName)) (z := (⟨"java/lang/CharacterDataLatin1", "isWhitespace", "(I)Z"⟩ : MethodName)) hown (mvT hZ (hw _ (List.mem_of_getElem? (i := 88) rfl))) (mvT hZ (hw _ (List.mem_of_getElem? (i := 89) rfl))) (notFace_of_selects (args := #[]) (mvT hZ (hw _ (List.mem_of_getElem? (i := 91) rfl)))) (mvT hZ (hw _ (List.mem_of_getElem? (i := 91) rfl))) (mvT hZ (hw _ (List.mem_of_getElem? (i := 90) rfl))) (by decide) (backOf (W := 0) (rmisw l Z a0 hw [] wI cq wA kA vsA rw_ h0 n0 Z0 O0 S_A V_A E_I hnw hrw1 hrw2) hZ (hw _ (List.mem_of_getElem? (i := 92) rfl)) (hw _ (List.mem_of_getElem? (i := 87) rfl)) (by decide) (by decide)) q79a q79c (g := (mkF m 32 #[.val (.ref t), .val (.int N2), .val (.int (0 : Int32)), .val (.int cq)] [(.int cq), (.ref wI)])) rfl (by rw [hml]; rfl) (Steps.refl _) (argsL := [(.int cq)]) (rest := []) (lenOf pd__I_Z rfl) rfl (by show 2 * 0 + _ ≤ _; exact Nat.le_of_eq rfl) (hb hby d15_32) (fun _ _ => ⟨rfl, e78, (by decide : 0 + 0 ≤ _), (by decide : 0 + 0 ≤ _)⟩)
  dsimp only [Pt.U, Pt.locs, Pt.cells, Pt.slots] at X79 l79 y79 z79 st79 hQ79
  replace l79 := Eq.symm l79
  replace y79 := Eq.symm y79
  replace z79 := Eq.symm z79
  subst l79 y79 z79
  obtain ⟨Nq79, rfl, eh79⟩ := hQ79
  have N79 := Fr.app N77 Nq79
  refine Gl.back (fun _ k => st79.trans k) ?_
  show Gl _ _ _ _ _ _ _ (T79.setTop (mkF m 35 #[.val (.ref t), .val (.int N2), .val (.int (0 : Int32)), .val (.int cq)] [(.int (0 : Int32))]))
  refine Gl.back (fun _ k => XS.ifNo X79.here hx rfl (hb hby d15_35) rfl ((if0 _ _).trans (teq (by decide : (0 : Int32) = (0 : Int32))).2) k) ?_
  show Gl _ _ _ _ _ _ _ (T79.setTop (mkF m 38 #[.val (.ref t), .val (.int N2), .val (.int (0 : Int32)), .val (.int cq)] []))
  refine Gl.back (fun _ k => XS.goto X79.here hx rfl (pc0 := 38) (pc' := 47) rfl (hb hby d15_38) (by decide) (by decide) k) ?_
  show Gl _ _ _ _ _ _ _ (T79.setTop (mkF m 47 #[.val (.ref t), .val (.int N2), .val (.int (0 : Int32)), .val (.int cq)] []))
  refine Gl.back (fun _ k => XS.iloadN X79.here hx rfl (hb hby d15_47) rfl k) ?_
  show Gl _ _ _ _ _ _ _ (T79.setTop (mkF m 48 #[.val (.ref t), .val (.int N2), .val (.int (0 : Int32)), .val (.int cq)] [(.int (0 : Int32))]))
  exact Gl.ret X79 eh79 (v := (some (.int (0 : Int32)))) (fun h => by rw [Bd.returns] at h; cases h) Bd.notSynchronized (fun fs hr => retOut X79 hx (w := (.int (0 : Int32))) Bd.returns rfl (Or.inl ⟨rfl, Or.inl rfl, _, rfl⟩) (hb hby d15_48) hr) ⟨N79, rfl, rfl⟩ (by decide) (by decide)
theorem d14_0 : decode jdk_42_method_154_code 0 = .ok (.getstatic 38, 3) := by decide +kernel
theorem d14_3 : decode jdk_42_method_154_code 3 = .ok (.ifCond .eq 14, 3) := by decide +kernel
theorem d14_6 : decode jdk_42_method_154_code 6 = .ok (.aload_n 0, 1) := by decide +kernel
theorem d14_7 : decode jdk_42_method_154_code 7 = .ok (.getfield 15, 3) := by decide +kernel
theorem d14_10 : decode jdk_42_method_154_code 10 = .ok (.ifCond .ne 7, 3) := by decide +kernel
theorem d14_13 : decode jdk_42_method_154_code 13 = .ok (.iconst 1, 1) := by decide +kernel
theorem d14_14 : decode jdk_42_method_154_code 14 = .ok (.goto 4, 3) := by decide +kernel
theorem d14_18 : decode jdk_42_method_154_code 18 = .ok (.ireturn, 1) := by decide +kernel
theorem ef_isl (m : MethodId) (x0 : Addr) : entryFrame m #[(.ref x0)] 1 = mkF m 0 #[.val (.ref x0)] [] := by first | (simp [entryFrame, mkF, argsToLocals, Value.category]; done) | rfl
def Qisl (Z : State) (xs : Addr) (zc : Int32) (h0 : Heap) (n0 : Nat) (v : Option Value) (h : Heap) (L : List Loc) : Prop := Fr n0 L ∧ (v = some (.int 1) ∧ h = h0)
set_option maxRecDepth 65536 in
set_option maxHeartbeats 40000000 in
theorem rmisl (l : Launch) (Z : State) (a0 : Array Value) (hw : ∀ d ∈ tables_1, d.before a0 Z = true) (ws : List Jvm.Cond) (xs : Addr) (zc : Int32) (h0 : Heap) (n0 : Nat) (Z0 : n0 ≤ h0.size) (O0 : Old Z n0 h0) (S_C : Sta Z Z.heap "java/lang/String" "COMPACT_STRINGS" "Z" (.int zc)) (P0 : ¬ zc = 0) (F_c : Fld Z h0 xs "java/lang/String" "coder" "B" (.int 0)) :
    MetFree l (⟨"java/lang/String", "isLatin1", "()Z"⟩ : MethodName) (head1 (Jvm.Cond.code (⟨"java/lang/String", "isLatin1", "()Z"⟩ : MethodName) jdk_42_method_154_code 1 (some .boolean) :: ws) ({ frames := 0, cells := 0, slots := 0, locals := 0 } : Room)) (fun as0 U => as0 = #[(.ref xs)] ∧ Z.Warmed39 U.vm ∧ U.heap = h0) (fun _ _ _ _ _ => True) (fun _ U oc0 U' => ∃ v L, oc0 = .returned v ∧ Qisl Z xs zc h0 n0 v U'.heap L ∧ FrameEnd U oc0 U' L ({ frames := 0, cells := 0, slots := 0, locals := 0 } : Room).cells ({ frames := 0, cells := 0, slots := 0, locals := 0 } : Room).slots) := by
  refine MetFree.of_bodySF (plainFor_of_name pn_java_lang_String) hisR ?_
  intro p e s m args below meth c s₁ Bd hml0 hP hK
  obtain ⟨rfl, hZ, hh⟩ := hP
  have hx := Bd.exec
  have hby := Bd.bytes
  have hml : c.maxLocals = 1 := hml0
  have hown : s.vm.findClass "java/lang/String" = some m.cls := findClass_of_methodNamed Bd.named
  have hnm := (name_of_methodNamed Bd.named Bd.method).1
  have X0 : Stand p l e ({ frames := 0, cells := 0, slots := 0, locals := 0 } : Room) s m #[(.ref xs)] below meth c s₁ [] 0 0 := Stand.of_body Bd
  have e0 : s₁.heap = h0 := by rw [← hh, Bd.state]; rfl
  have N0 := Fr.nil n0
  show Gl p e below s (Qisl Z xs zc h0 n0) ({ frames := 0, cells := 0, slots := 0, locals := 0 } : Room).cells ({ frames := 0, cells := 0, slots := 0, locals := 0 } : Room).slots (s₁.setTop (entryFrame m #[(.ref xs)] 1))
  refine Gl.back (fun _ k => castTop (ef_isl m xs) k) ?_
  show Gl _ _ _ _ _ _ _ (s₁.setTop (mkF m 0 #[.val (.ref xs)] []))
  obtain ⟨T80, X80, e80, st80⟩ := getS2 X0 hx hZ hown (host := "") (Or.inl (hw _ (List.mem_of_getElem? (i := 34) rfl))) Via.refl e0 (S_C.ext O0.2) (g := (mkF m 0 #[.val (.ref xs)] [])) rfl (hb hby d14_0)
  refine Gl.back (fun _ k => st80 _ k) ?_
  show Gl _ _ _ _ _ _ _ (T80.setTop (mkF m 3 #[.val (.ref xs)] [(.int zc)]))
  refine Gl.back (fun _ k => XS.ifNo X80.here hx rfl (hb hby d14_3) rfl ((if0 _ _).trans (feq (P0 : ¬ zc = (0 : Int32))).1) k) ?_
  show Gl _ _ _ _ _ _ _ (T80.setTop (mkF m 6 #[.val (.ref xs)] []))
  refine Gl.back (fun _ k => XS.aloadN X80.here hx rfl (hb hby d14_6) rfl rfl k) ?_
  show Gl _ _ _ _ _ _ _ (T80.setTop (mkF m 7 #[.val (.ref xs)] [(.ref xs)]))
  obtain ⟨T81, X81, e81, st81⟩ := getF X80 hx hZ hown (host := "") (Or.inl (hw _ (List.mem_of_getElem? (i := 45) rfl))) Via.refl e80 F_c (g := (mkF m 7 #[.val (.ref xs)] [(.ref xs)])) rfl rfl (hb hby d14_7)
  refine Gl.back (fun _ k => st81 _ k) ?_
  show Gl _ _ _ _ _ _ _ (T81.setTop (mkF m 10 #[.val (.ref xs)] [(.int (0 : Int32))]))
  refine Gl.back (fun _ k => XS.ifNo X81.here hx rfl (hb hby d14_10) rfl ((if0 _ _).trans (teq (by decide : (0 : Int32) = (0 : Int32))).2) k) ?_
  show Gl _ _ _ _ _ _ _ (T81.setTop (mkF m 13 #[.val (.ref xs)] []))
  refine Gl.back (fun _ k => XS.iconst X81.here hx rfl (hb hby d14_13) k) ?_
  show Gl _ _ _ _ _ _ _ (T81.setTop (mkF m 14 #[.val (.ref xs)] [(.int (1 : Int32))]))
  refine Gl.back (fun _ k => XS.goto X81.here hx rfl (pc0 := 14) (pc' := 18) rfl (hb hby d14_14) (by decide) (by decide) k) ?_
  show Gl _ _ _ _ _ _ _ (T81.setTop (mkF m 18 #[.val (.ref xs)] [(.int (1 : Int32))]))
  exact Gl.ret X81 e81 (v := (some (.int (1 : Int32)))) (fun h => by rw [Bd.returns] at h; cases h) Bd.notSynchronized (fun fs hr => retN X81 hx (t := .boolean) (z := (1 : Int32)) Bd.returns (by simp) (hb hby d14_18) hr) ⟨N0, rfl, rfl⟩ (by decide) (by decide)
theorem d20_0 : decode jdk_42_method_152_code 0 = .ok (.getstatic 38, 3) := by decide +kernel
theorem d20_3 : decode jdk_42_method_152_code 3 = .ok (.ifCond .eq 10, 3) := by decide +kernel
theorem d20_6 : decode jdk_42_method_152_code 6 = .ok (.aload_n 0, 1) := by decide +kernel
theorem d20_7 : decode jdk_42_method_152_code 7 = .ok (.getfield 15, 3) := by decide +kernel
theorem d20_10 : decode jdk_42_method_152_code 10 = .ok (.goto 4, 3) := by decide +kernel
theorem d20_14 : decode jdk_42_method_152_code 14 = .ok (.ireturn, 1) := by decide +kernel
theorem ef_cdr (m : MethodId) (x0 : Addr) : entryFrame m #[(.ref x0)] 1 = mkF m 0 #[.val (.ref x0)] [] := by first | (simp [entryFrame, mkF, argsToLocals, Value.category]; done) | rfl
def Qcdr (Z : State) (xs : Addr) (zc : Int32) (h0 : Heap) (n0 : Nat) (v : Option Value) (h : Heap) (L : List Loc) : Prop := Fr n0 L ∧ (v = some (.int 0) ∧ h = h0)
set_option maxRecDepth 65536 in
set_option maxHeartbeats 40000000 in
theorem rmcdr (l : Launch) (Z : State) (a0 : Array Value) (hw : ∀ d ∈ tables_1, d.before a0 Z = true) (ws : List Jvm.Cond) (xs : Addr) (zc : Int32) (h0 : Heap) (n0 : Nat) (Z0 : n0 ≤ h0.size) (O0 : Old Z n0 h0) (S_C : Sta Z Z.heap "java/lang/String" "COMPACT_STRINGS" "Z" (.int zc)) (P0 : ¬ zc = 0) (F_c : Fld Z h0 xs "java/lang/String" "coder" "B" (.int 0)) :
    MetFree l (⟨"java/lang/String", "coder", "()B"⟩ : MethodName) (head1 (Jvm.Cond.code (⟨"java/lang/String", "coder", "()B"⟩ : MethodName) jdk_42_method_152_code 1 (some .byte) :: ws) ({ frames := 0, cells := 0, slots := 0, locals := 0 } : Room)) (fun as0 U => as0 = #[(.ref xs)] ∧ Z.Warmed39 U.vm ∧ U.heap = h0) (fun _ _ _ _ _ => True) (fun _ U oc0 U' => ∃ v L, oc0 = .returned v ∧ Qcdr Z xs zc h0 n0 v U'.heap L ∧ FrameEnd U oc0 U' L ({ frames := 0, cells := 0, slots := 0, locals := 0 } : Room).cells ({ frames := 0, cells := 0, slots := 0, locals := 0 } : Room).slots) := by
  refine MetFree.of_bodySF (plainFor_of_name pn_java_lang_String) hisR ?_
  intro p e s m args below meth c s₁ Bd hml0 hP hK
  obtain ⟨rfl, hZ, hh⟩ := hP
  have hx := Bd.exec
  have hby := Bd.bytes
  have hml : c.maxLocals = 1 := hml0
  have hown : s.vm.findClass "java/lang/String" = some m.cls := findClass_of_methodNamed Bd.named
  have hnm := (name_of_methodNamed Bd.named Bd.method).1
  have X0 : Stand p l e ({ frames := 0, cells := 0, slots := 0, locals := 0 } : Room) s m #[(.ref xs)] below meth c s₁ [] 0 0 := Stand.of_body Bd
  have e0 : s₁.heap = h0 := by rw [← hh, Bd.state]; rfl
  have N0 := Fr.nil n0
  show Gl p e below s (Qcdr Z xs zc h0 n0) ({ frames := 0, cells := 0, slots := 0, locals := 0 } : Room).cells ({ frames := 0, cells := 0, slots := 0, locals := 0 } : Room).slots (s₁.setTop (entryFrame m #[(.ref xs)] 1))
  refine Gl.back (fun _ k => castTop (ef_cdr m xs) k) ?_
  show Gl _ _ _ _ _ _ _ (s₁.setTop (mkF m 0 #[.val (.ref xs)] []))
  obtain ⟨T82, X82, e82, st82⟩ := getS2 X0 hx hZ hown (host := "") (Or.inl (hw _ (List.mem_of_getElem? (i := 34) rfl))) Via.refl e0 (S_C.ext O0.2) (g := (mkF m 0 #[.val (.ref xs)] [])) rfl (hb hby d20_0)
  refine Gl.back (fun _ k => st82 _ k) ?_
  show Gl _ _ _ _ _ _ _ (T82.setTop (mkF m 3 #[.val (.ref xs)] [(.int zc)]))
  refine Gl.back (fun _ k => XS.ifNo X82.here hx rfl (hb hby d20_3) rfl ((if0 _ _).trans (feq (P0 : ¬ zc = (0 : Int32))).1) k) ?_
  show Gl _ _ _ _ _ _ _ (T82.setTop (mkF m 6 #[.val (.ref xs)] []))
  refine Gl.back (fun _ k => XS.aloadN X82.here hx rfl (hb hby d20_6) rfl rfl k) ?_
  show Gl _ _ _ _ _ _ _ (T82.setTop (mkF m 7 #[.val (.ref xs)] [(.ref xs)]))
  obtain ⟨T83, X83, e83, st83⟩ := getF X82 hx hZ hown (host := "") (Or.inl (hw _ (List.mem_of_getElem? (i := 45) rfl))) Via.refl e82 F_c (g := (mkF m 7 #[.val (.ref xs)] [(.ref xs)])) rfl rfl (hb hby d20_7)
  refine Gl.back (fun _ k => st83 _ k) ?_
  show Gl _ _ _ _ _ _ _ (T83.setTop (mkF m 10 #[.val (.ref xs)] [(.int (0 : Int32))]))
  refine Gl.back (fun _ k => XS.goto X83.here hx rfl (pc0 := 10) (pc' := 14) rfl (hb hby d20_10) (by decide) (by decide) k) ?_
  show Gl _ _ _ _ _ _ _ (T83.setTop (mkF m 14 #[.val (.ref xs)] [(.int (0 : Int32))]))
  exact Gl.ret X83 e83 (v := (some (.int (0 : Int32)))) (fun h => by rw [Bd.returns] at h; cases h) Bd.notSynchronized (fun fs hr => retN X83 hx (t := .byte) (z := (0 : Int32)) Bd.returns (by simp) (hb hby d20_14) hr) ⟨N0, rfl, rfl⟩ (by decide) (by decide)
theorem d13_0 : decode jdk_42_method_120_code 0 = .ok (.aload_n 0, 1) := by decide +kernel
theorem d13_1 : decode jdk_42_method_120_code 1 = .ok (.invokevirtual 492, 3) := by decide +kernel
theorem pd___Z : parseMethodDescriptor "()Z" = some ⟨[], some .boolean⟩ := by decide +kernel
theorem d13_4 : decode jdk_42_method_120_code 4 = .ok (.ifCond .eq 13, 3) := by decide +kernel
theorem d13_7 : decode jdk_42_method_120_code 7 = .ok (.aload_n 0, 1) := by decide +kernel
theorem d13_8 : decode jdk_42_method_120_code 8 = .ok (.getfield 9, 3) := by decide +kernel
theorem d13_11 : decode jdk_42_method_120_code 11 = .ok (.invokestatic 924, 3) := by decide +kernel
theorem pd___B_I : parseMethodDescriptor "([B)I" = some ⟨[(.array .byte)], some .int⟩ := by decide +kernel
theorem d13_14 : decode jdk_42_method_120_code 14 = .ok (.goto 10, 3) := by decide +kernel
theorem d13_24 : decode jdk_42_method_120_code 24 = .ok (.ireturn, 1) := by decide +kernel
theorem ef_sinw (m : MethodId) (x0 : Addr) : entryFrame m #[(.ref x0)] 1 = mkF m 0 #[.val (.ref x0)] [] := by first | (simp [entryFrame, mkF, argsToLocals, Value.category]; done) | rfl
def Qsinw (Z : State) (xs : Addr) (wA wI : Addr) (kA : ClassId) (vsA : List Value) (t : Addr) (k_t : ClassId) (N2 cq : Int32) (vs : List Value) (zc : Int32) (h0 : Heap) (n0 : Nat) (v : Option Value) (h : Heap) (L : List Loc) : Prop := Fr n0 L ∧ (v = some (.int 0) ∧ h = h0)
set_option maxRecDepth 65536 in
set_option maxHeartbeats 40000000 in
theorem rmsinw (l : Launch) (Z : State) (a0 : Array Value) (hw : ∀ d ∈ tables_1, d.before a0 Z = true) (ws : List Jvm.Cond) (xs : Addr) (wA wI : Addr) (kA : ClassId) (vsA : List Value) (t : Addr) (k_t : ClassId) (N2 cq : Int32) (vs : List Value) (zc : Int32) (h0 : Heap) (n0 : Nat) (Z0 : n0 ≤ h0.size) (O0 : Old Z n0 h0) (S_A : Sta Z Z.heap "java/lang/CharacterDataLatin1" "A" "[I" (.ref wA)) (V_A : Arv Z Z.heap wA kA .int (256 : Int32) vsA (.int 0)) (hA : own_A vsA) (S_I : Sta Z Z.heap "java/lang/CharacterDataLatin1" "instance" "Ljava/lang/CharacterDataLatin1;" (.ref wI)) (E_I : Exa Z Z.heap wI "java/lang/CharacterDataLatin1") (S_C : Sta Z Z.heap "java/lang/String" "COMPACT_STRINGS" "Z" (.int zc)) (P0 : ¬ zc = 0) (E_x : Exa Z h0 xs "java/lang/String") (F_c : Fld Z h0 xs "java/lang/String" "coder" "B" (.int 0)) (F_v : Fld Z h0 xs "java/lang/String" "value" "[B" (.ref t)) (V_t : Arv Z h0 t k_t .byte N2 vs (.int 0)) (hN : (0 : Int32) < N2) (hv0 : vs.getD 0 (.int 0) = .int (cq.toInt8.toInt32)) (hnw : own_nw cq) :
    MetFree l (⟨"java/lang/String", "indexOfNonWhitespace", "()I"⟩ : MethodName) (head1 (Jvm.Cond.code (⟨"java/lang/String", "indexOfNonWhitespace", "()I"⟩ : MethodName) jdk_42_method_120_code 1 (some .int) :: ws) ({ frames := 3, cells := 0, slots := 0, locals := 44 } : Room)) (fun as0 U => as0 = #[(.ref xs)] ∧ Z.Warmed39 U.vm ∧ U.heap = h0) (fun _ _ _ _ _ => True) (fun _ U oc0 U' => ∃ v L, oc0 = .returned v ∧ Qsinw Z xs wA wI kA vsA t k_t N2 cq vs zc h0 n0 v U'.heap L ∧ FrameEnd U oc0 U' L ({ frames := 3, cells := 0, slots := 0, locals := 44 } : Room).cells ({ frames := 3, cells := 0, slots := 0, locals := 44 } : Room).slots) := by
  refine MetFree.of_bodySF (plainFor_of_name pn_java_lang_String) hisR ?_
  intro p e s m args below meth c s₁ Bd hml0 hP hK
  obtain ⟨rfl, hZ, hh⟩ := hP
  have hx := Bd.exec
  have hby := Bd.bytes
  have hml : c.maxLocals = 1 := hml0
  have hown : s.vm.findClass "java/lang/String" = some m.cls := findClass_of_methodNamed Bd.named
  have hnm := (name_of_methodNamed Bd.named Bd.method).1
  have X0 : Stand p l e ({ frames := 3, cells := 0, slots := 0, locals := 44 } : Room) s m #[(.ref xs)] below meth c s₁ [] 0 0 := Stand.of_body Bd
  have e0 : s₁.heap = h0 := by rw [← hh, Bd.state]; rfl
  have N0 := Fr.nil n0
  show Gl p e below s (Qsinw Z xs wA wI kA vsA t k_t N2 cq vs zc h0 n0) ({ frames := 3, cells := 0, slots := 0, locals := 44 } : Room).cells ({ frames := 3, cells := 0, slots := 0, locals := 44 } : Room).slots (s₁.setTop (entryFrame m #[(.ref xs)] 1))
  refine Gl.back (fun _ k => castTop (ef_sinw m xs) k) ?_
  show Gl _ _ _ _ _ _ _ (s₁.setTop (mkF m 0 #[.val (.ref xs)] []))
  refine Gl.back (fun _ k => XS.aloadN X0.here hx rfl (hb hby d13_0) rfl rfl k) ?_
  show Gl _ _ _ _ _ _ _ (s₁.setTop (mkF m 1 #[.val (.ref xs)] [(.ref xs)]))
  obtain ⟨cq84, kq84, q84a, q84b, q84c⟩ := isOf hZ e0 E_x
  obtain ⟨_, _, ⟨T84, L84, k84, n84⟩, -, X84, ⟨Lc84, hQ84, l84, y84, z84⟩, st84⟩ := X0.virtualBack hx (y := (⟨"java/lang/String", "isLatin1", "()Z"⟩ : MethodName)) (z := (⟨"java/lang/String", "isLatin1", "()Z"⟩ : MethodName)) hown (mvT hZ (hw _ (List.mem_of_getElem? (i := 74) rfl))) (mvT hZ (hw _ (List.mem_of_getElem? (i := 75) rfl))) (notFace_of_selects (args := #[]) (mvT hZ (hw _ (List.mem_of_getElem? (i := 77) rfl)))) (mvT hZ (hw _ (List.mem_of_getElem? (i := 77) rfl))) (mvT hZ (hw _ (List.mem_of_getElem? (i := 76) rfl))) (by decide) (backOf (W := 0) (rmisl l Z a0 hw [] xs zc h0 n0 Z0 O0 S_C P0 F_c) hZ (hw _ (List.mem_of_getElem? (i := 78) rfl)) (hw _ (List.mem_of_getElem? (i := 12) rfl)) (by decide) (by decide)) q84a q84c (g := (mkF m 1 #[.val (.ref xs)] [(.ref xs)])) rfl (by rw [hml]; rfl) (Steps.refl _) (argsL := []) (rest := []) (lenOf pd___Z rfl) rfl (by show 2 * 0 + _ ≤ _; exact Nat.le_of_eq rfl) (hb hby d13_1) (fun _ _ => ⟨rfl, e0, (by decide : 0 + 0 ≤ _), (by decide : 0 + 0 ≤ _)⟩)
  dsimp only [Pt.U, Pt.locs, Pt.cells, Pt.slots] at X84 l84 y84 z84 st84 hQ84
  replace l84 := Eq.symm l84
  replace y84 := Eq.symm y84
  replace z84 := Eq.symm z84
  subst l84 y84 z84
  obtain ⟨Nq84, rfl, eh84⟩ := hQ84
  have N84 := Fr.app N0 Nq84
  refine Gl.back (fun _ k => st84.trans k) ?_
  show Gl _ _ _ _ _ _ _ (T84.setTop (mkF m 4 #[.val (.ref xs)] [(.int (1 : Int32))]))
  refine Gl.back (fun _ k => XS.ifNo X84.here hx rfl (hb hby d13_4) rfl ((if0 _ _).trans (feq (by decide : ¬ (1 : Int32) = (0 : Int32))).1) k) ?_
  show Gl _ _ _ _ _ _ _ (T84.setTop (mkF m 7 #[.val (.ref xs)] []))
  refine Gl.back (fun _ k => XS.aloadN X84.here hx rfl (hb hby d13_7) rfl rfl k) ?_
  show Gl _ _ _ _ _ _ _ (T84.setTop (mkF m 8 #[.val (.ref xs)] [(.ref xs)]))
  obtain ⟨T85, X85, e85, st85⟩ := getF X84 hx hZ hown (host := "") (Or.inl (hw _ (List.mem_of_getElem? (i := 46) rfl))) Via.refl eh84 F_v (g := (mkF m 8 #[.val (.ref xs)] [(.ref xs)])) rfl rfl (hb hby d13_8)
  refine Gl.back (fun _ k => st85 _ k) ?_
  show Gl _ _ _ _ _ _ _ (T85.setTop (mkF m 11 #[.val (.ref xs)] [(.ref t)]))
  obtain ⟨_, _, ⟨T86, L86, k86, n86⟩, -, X86, ⟨Lc86, hQ86, l86, y86, z86⟩, st86⟩ := Jvm.LawKit.callS X85 hx (y := (⟨"java/lang/StringLatin1", "indexOfNonWhitespace", "([B)I"⟩ : MethodName)) hown (mvT hZ (hw _ (List.mem_of_getElem? (i := 79) rfl))) (mvT hZ (hw _ (List.mem_of_getElem? (i := 80) rfl))) (mvT hZ (hw _ (List.mem_of_getElem? (i := 81) rfl))) (mvT hZ (hw _ (List.mem_of_getElem? (i := 82) rfl))) (by decide) (backOf (W := 0) (rminw l Z a0 hw [] t wA wI kA vsA k_t N2 cq vs h0 n0 Z0 O0 S_A V_A hA S_I E_I V_t hN hv0 hnw) hZ (hw _ (List.mem_of_getElem? (i := 82) rfl)) (hw _ (List.mem_of_getElem? (i := 81) rfl)) (by decide) (by decide)) (g := (mkF m 11 #[.val (.ref xs)] [(.ref t)])) rfl (by rw [hml]; rfl) (argsL := [(.ref t)]) (rest := []) (lenOf pd___B_I rfl) rfl (by show 2 * 0 + _ ≤ _; exact Nat.le_of_eq rfl) (hb hby d13_11) (fun _ _ => ⟨rfl, e85, (by decide : 0 + 0 ≤ _), (by decide : 0 + 0 ≤ _)⟩)
  dsimp only [Pt.U, Pt.locs, Pt.cells, Pt.slots] at X86 l86 y86 z86 st86 hQ86
  replace l86 := Eq.symm l86
  replace y86 := Eq.symm y86
  replace z86 := Eq.symm z86
  subst l86 y86 z86
  obtain ⟨Nq86, rfl, eh86⟩ := hQ86
  have N86 := Fr.app N84 Nq86
  refine Gl.back (fun _ k => st86 _ k) ?_
  show Gl _ _ _ _ _ _ _ (T86.setTop (mkF m 14 #[.val (.ref xs)] [(.int (0 : Int32))]))
  refine Gl.back (fun _ k => XS.goto X86.here hx rfl (pc0 := 14) (pc' := 24) rfl (hb hby d13_14) (by decide) (by decide) k) ?_
  show Gl _ _ _ _ _ _ _ (T86.setTop (mkF m 24 #[.val (.ref xs)] [(.int (0 : Int32))]))
  exact Gl.ret X86 eh86 (v := (some (.int (0 : Int32)))) (fun h => by rw [Bd.returns] at h; cases h) Bd.notSynchronized (fun fs hr => retOut X86 hx (w := (.int (0 : Int32))) Bd.returns rfl (Or.inl ⟨rfl, Or.inl rfl, _, rfl⟩) (hb hby d13_24) hr) ⟨N86, rfl, rfl⟩ (by decide) (by decide)
theorem d19_0 : decode jdk_42_method_54_code 0 = .ok (.aload_n 0, 1) := by decide +kernel
theorem d19_1 : decode jdk_42_method_54_code 1 = .ok (.getfield 9, 3) := by decide +kernel
theorem d19_4 : decode jdk_42_method_54_code 4 = .ok (.arraylength, 1) := by decide +kernel
theorem d19_5 : decode jdk_42_method_54_code 5 = .ok (.aload_n 0, 1) := by decide +kernel
theorem d19_6 : decode jdk_42_method_54_code 6 = .ok (.invokevirtual 335, 3) := by decide +kernel
theorem pd___B : parseMethodDescriptor "()B" = some ⟨[], some .byte⟩ := by decide +kernel
theorem d19_9 : decode jdk_42_method_54_code 9 = .ok (.ishr, 1) := by decide +kernel
theorem d19_10 : decode jdk_42_method_54_code 10 = .ok (.ireturn, 1) := by decide +kernel
theorem ef_slen (m : MethodId) (x0 : Addr) : entryFrame m #[(.ref x0)] 1 = mkF m 0 #[.val (.ref x0)] [] := by first | (simp [entryFrame, mkF, argsToLocals, Value.category]; done) | rfl
def Qslen (Z : State) (xs : Addr) (t : Addr) (k_t : ClassId) (N2 : Int32) (vs : List Value) (zc : Int32) (h0 : Heap) (n0 : Nat) (v : Option Value) (h : Heap) (L : List Loc) : Prop := Fr n0 L ∧ (v = some (.int (N2 >>> ((0 : Int32) &&& 31))) ∧ h = h0)
set_option maxRecDepth 65536 in
set_option maxHeartbeats 40000000 in
theorem rmslen (l : Launch) (Z : State) (a0 : Array Value) (hw : ∀ d ∈ tables_1, d.before a0 Z = true) (ws : List Jvm.Cond) (xs : Addr) (t : Addr) (k_t : ClassId) (N2 : Int32) (vs : List Value) (zc : Int32) (h0 : Heap) (n0 : Nat) (Z0 : n0 ≤ h0.size) (O0 : Old Z n0 h0) (S_C : Sta Z Z.heap "java/lang/String" "COMPACT_STRINGS" "Z" (.int zc)) (P0 : ¬ zc = 0) (E_x : Exa Z h0 xs "java/lang/String") (F_c : Fld Z h0 xs "java/lang/String" "coder" "B" (.int 0)) (F_v : Fld Z h0 xs "java/lang/String" "value" "[B" (.ref t)) (V_t : Arv Z h0 t k_t .byte N2 vs (.int 0)) :
    MetFree l (⟨"java/lang/String", "length", "()I"⟩ : MethodName) (head1 (Jvm.Cond.code (⟨"java/lang/String", "length", "()I"⟩ : MethodName) jdk_42_method_54_code 1 (some .int) :: ws) ({ frames := 1, cells := 0, slots := 0, locals := 13 } : Room)) (fun as0 U => as0 = #[(.ref xs)] ∧ Z.Warmed39 U.vm ∧ U.heap = h0) (fun _ _ _ _ _ => True) (fun _ U oc0 U' => ∃ v L, oc0 = .returned v ∧ Qslen Z xs t k_t N2 vs zc h0 n0 v U'.heap L ∧ FrameEnd U oc0 U' L ({ frames := 1, cells := 0, slots := 0, locals := 13 } : Room).cells ({ frames := 1, cells := 0, slots := 0, locals := 13 } : Room).slots) := by
  refine MetFree.of_bodySF (plainFor_of_name pn_java_lang_String) hisR ?_
  intro p e s m args below meth c s₁ Bd hml0 hP hK
  obtain ⟨rfl, hZ, hh⟩ := hP
  have hx := Bd.exec
  have hby := Bd.bytes
  have hml : c.maxLocals = 1 := hml0
  have hown : s.vm.findClass "java/lang/String" = some m.cls := findClass_of_methodNamed Bd.named
  have hnm := (name_of_methodNamed Bd.named Bd.method).1
  have X0 : Stand p l e ({ frames := 1, cells := 0, slots := 0, locals := 13 } : Room) s m #[(.ref xs)] below meth c s₁ [] 0 0 := Stand.of_body Bd
  have e0 : s₁.heap = h0 := by rw [← hh, Bd.state]; rfl
  have N0 := Fr.nil n0
  show Gl p e below s (Qslen Z xs t k_t N2 vs zc h0 n0) ({ frames := 1, cells := 0, slots := 0, locals := 13 } : Room).cells ({ frames := 1, cells := 0, slots := 0, locals := 13 } : Room).slots (s₁.setTop (entryFrame m #[(.ref xs)] 1))
  refine Gl.back (fun _ k => castTop (ef_slen m xs) k) ?_
  show Gl _ _ _ _ _ _ _ (s₁.setTop (mkF m 0 #[.val (.ref xs)] []))
  refine Gl.back (fun _ k => XS.aloadN X0.here hx rfl (hb hby d19_0) rfl rfl k) ?_
  show Gl _ _ _ _ _ _ _ (s₁.setTop (mkF m 1 #[.val (.ref xs)] [(.ref xs)]))
  obtain ⟨T87, X87, e87, st87⟩ := getF X0 hx hZ hown (host := "") (Or.inl (hw _ (List.mem_of_getElem? (i := 46) rfl))) Via.refl e0 F_v (g := (mkF m 1 #[.val (.ref xs)] [(.ref xs)])) rfl rfl (hb hby d19_1)
  refine Gl.back (fun _ k => st87 _ k) ?_
  show Gl _ _ _ _ _ _ _ (T87.setTop (mkF m 4 #[.val (.ref xs)] [(.ref t)]))
  obtain ⟨cl88, Ar88, -, Sz88, Nn88, -, -⟩ := id V_t
  refine Gl.back (fun _ k => X87.arraylength hx (by rw [e87]; exact Ar88.1) (State.isArrayOf_alike hZ.alike Ar88.2.1) (g := (mkF m 4 #[.val (.ref xs)] [(.ref t)])) rfl rfl (hb hby d19_4) _ k) ?_
  rw [len_of Sz88 Nn88]
  show Gl _ _ _ _ _ _ _ (T87.setTop (mkF m 5 #[.val (.ref xs)] [(.int N2)]))
  refine Gl.back (fun _ k => XS.aloadN X87.here hx rfl (hb hby d19_5) rfl rfl k) ?_
  show Gl _ _ _ _ _ _ _ (T87.setTop (mkF m 6 #[.val (.ref xs)] [(.ref xs), (.int N2)]))
  obtain ⟨cq89, kq89, q89a, q89b, q89c⟩ := isOf hZ e87 E_x
  obtain ⟨_, _, ⟨T89, L89, k89, n89⟩, -, X89, ⟨Lc89, hQ89, l89, y89, z89⟩, st89⟩ := X87.virtualBack hx (y := (⟨"java/lang/String", "coder", "()B"⟩ : MethodName)) (z := (⟨"java/lang/String", "coder", "()B"⟩ : MethodName)) hown (mvT hZ (hw _ (List.mem_of_getElem? (i := 104) rfl))) (mvT hZ (hw _ (List.mem_of_getElem? (i := 105) rfl))) (notFace_of_selects (args := #[]) (mvT hZ (hw _ (List.mem_of_getElem? (i := 107) rfl)))) (mvT hZ (hw _ (List.mem_of_getElem? (i := 107) rfl))) (mvT hZ (hw _ (List.mem_of_getElem? (i := 106) rfl))) (by decide) (backOf (W := 1) (rmcdr l Z a0 hw [] xs zc h0 n0 Z0 O0 S_C P0 F_c) hZ (hw _ (List.mem_of_getElem? (i := 108) rfl)) (hw _ (List.mem_of_getElem? (i := 12) rfl)) (by decide) (by decide)) q89a q89c (g := (mkF m 6 #[.val (.ref xs)] [(.ref xs), (.int N2)])) rfl (by rw [hml]; rfl) (Steps.refl _) (argsL := []) (rest := [(.int N2)]) (lenOf pd___B rfl) rfl (by show 2 * 0 + _ ≤ _; exact Nat.le_of_eq rfl) (hb hby d19_6) (fun _ _ => ⟨rfl, e87, (by decide : 0 + 0 ≤ _), (by decide : 0 + 0 ≤ _)⟩)
  dsimp only [Pt.U, Pt.locs, Pt.cells, Pt.slots] at X89 l89 y89 z89 st89 hQ89
  replace l89 := Eq.symm l89
  replace y89 := Eq.symm y89
  replace z89 := Eq.symm z89
  subst l89 y89 z89
  obtain ⟨Nq89, rfl, eh89⟩ := hQ89
  have N89 := Fr.app N0 Nq89
  refine Gl.back (fun _ k => st89.trans k) ?_
  show Gl _ _ _ _ _ _ _ (T89.setTop (mkF m 9 #[.val (.ref xs)] [(.int (0 : Int32)), (.int N2)]))
  refine Gl.back (fun _ k => XS.ishr X89.here hx rfl (hb hby d19_9) rfl k) ?_
  show Gl _ _ _ _ _ _ _ (T89.setTop (mkF m 10 #[.val (.ref xs)] [(.int (N2 >>> ((0 : Int32) &&& 31)))]))
  exact Gl.ret X89 eh89 (v := (some (.int (N2 >>> ((0 : Int32) &&& 31))))) (fun h => by rw [Bd.returns] at h; cases h) Bd.notSynchronized (fun fs hr => retOut X89 hx (w := (.int (N2 >>> ((0 : Int32) &&& 31)))) Bd.returns rfl (Or.inl ⟨rfl, Or.inl rfl, _, rfl⟩) (hb hby d19_10) hr) ⟨N89, rfl, rfl⟩ (by decide) (by decide)
theorem d12_0 : decode jdk_42_method_117_code 0 = .ok (.aload_n 0, 1) := by decide +kernel
theorem d12_1 : decode jdk_42_method_117_code 1 = .ok (.invokevirtual 876, 3) := by decide +kernel
theorem pd___I : parseMethodDescriptor "()I" = some ⟨[], some .int⟩ := by decide +kernel
theorem d12_4 : decode jdk_42_method_117_code 4 = .ok (.aload_n 0, 1) := by decide +kernel
theorem d12_5 : decode jdk_42_method_117_code 5 = .ok (.invokevirtual 505, 3) := by decide +kernel
theorem d12_8 : decode jdk_42_method_117_code 8 = .ok (.if_icmp .ne 7, 3) := by decide +kernel
theorem d12_15 : decode jdk_42_method_117_code 15 = .ok (.iconst 0, 1) := by decide +kernel
theorem d12_16 : decode jdk_42_method_117_code 16 = .ok (.ireturn, 1) := by decide +kernel
theorem ef_blank (m : MethodId) (x0 : Addr) : entryFrame m #[(.ref x0)] 1 = mkF m 0 #[.val (.ref x0)] [] := by first | (simp [entryFrame, mkF, argsToLocals, Value.category]; done) | rfl
def Qblank (Z : State) (xs : Addr) (wA wI : Addr) (kA : ClassId) (vsA : List Value) (t : Addr) (k_t : ClassId) (N2 cq : Int32) (vs : List Value) (zc : Int32) (h0 : Heap) (n0 : Nat) (v : Option Value) (h : Heap) (L : List Loc) : Prop := Fr n0 L ∧ (v = some (.int 0) ∧ h = h0)
set_option maxRecDepth 65536 in
set_option maxHeartbeats 40000000 in
theorem rmblank (l : Launch) (Z : State) (a0 : Array Value) (hw : ∀ d ∈ tables_1, d.before a0 Z = true) (ws : List Jvm.Cond) (xs : Addr) (wA wI : Addr) (kA : ClassId) (vsA : List Value) (t : Addr) (k_t : ClassId) (N2 cq : Int32) (vs : List Value) (zc : Int32) (h0 : Heap) (n0 : Nat) (Z0 : n0 ≤ h0.size) (O0 : Old Z n0 h0) (S_A : Sta Z Z.heap "java/lang/CharacterDataLatin1" "A" "[I" (.ref wA)) (V_A : Arv Z Z.heap wA kA .int (256 : Int32) vsA (.int 0)) (hA : own_A vsA) (S_I : Sta Z Z.heap "java/lang/CharacterDataLatin1" "instance" "Ljava/lang/CharacterDataLatin1;" (.ref wI)) (E_I : Exa Z Z.heap wI "java/lang/CharacterDataLatin1") (S_C : Sta Z Z.heap "java/lang/String" "COMPACT_STRINGS" "Z" (.int zc)) (P0 : ¬ zc = 0) (E_x : Exa Z h0 xs "java/lang/String") (F_c : Fld Z h0 xs "java/lang/String" "coder" "B" (.int 0)) (F_v : Fld Z h0 xs "java/lang/String" "value" "[B" (.ref t)) (V_t : Arv Z h0 t k_t .byte N2 vs (.int 0)) (hN : (0 : Int32) < N2) (hv0 : vs.getD 0 (.int 0) = .int (cq.toInt8.toInt32)) (hnw : own_nw cq) :
    MetFree l (⟨"java/lang/String", "isBlank", "()Z"⟩ : MethodName) (head1 (Jvm.Cond.code (⟨"java/lang/String", "isBlank", "()Z"⟩ : MethodName) jdk_42_method_117_code 1 (some .boolean) :: ws) ({ frames := 4, cells := 0, slots := 0, locals := 56 } : Room)) (fun as0 U => as0 = #[(.ref xs)] ∧ Z.Warmed39 U.vm ∧ U.heap = h0) (fun _ _ _ _ _ => True) (fun _ U oc0 U' => ∃ v L, oc0 = .returned v ∧ Qblank Z xs wA wI kA vsA t k_t N2 cq vs zc h0 n0 v U'.heap L ∧ FrameEnd U oc0 U' L ({ frames := 4, cells := 0, slots := 0, locals := 56 } : Room).cells ({ frames := 4, cells := 0, slots := 0, locals := 56 } : Room).slots) := by
  refine MetFree.of_bodySF (plainFor_of_name pn_java_lang_String) hisR ?_
  intro p e s m args below meth c s₁ Bd hml0 hP hK
  obtain ⟨rfl, hZ, hh⟩ := hP
  have hx := Bd.exec
  have hby := Bd.bytes
  have hml : c.maxLocals = 1 := hml0
  have hown : s.vm.findClass "java/lang/String" = some m.cls := findClass_of_methodNamed Bd.named
  have hnm := (name_of_methodNamed Bd.named Bd.method).1
  have X0 : Stand p l e ({ frames := 4, cells := 0, slots := 0, locals := 56 } : Room) s m #[(.ref xs)] below meth c s₁ [] 0 0 := Stand.of_body Bd
  have e0 : s₁.heap = h0 := by rw [← hh, Bd.state]; rfl
  have N0 := Fr.nil n0
  show Gl p e below s (Qblank Z xs wA wI kA vsA t k_t N2 cq vs zc h0 n0) ({ frames := 4, cells := 0, slots := 0, locals := 56 } : Room).cells ({ frames := 4, cells := 0, slots := 0, locals := 56 } : Room).slots (s₁.setTop (entryFrame m #[(.ref xs)] 1))
  refine Gl.back (fun _ k => castTop (ef_blank m xs) k) ?_
  show Gl _ _ _ _ _ _ _ (s₁.setTop (mkF m 0 #[.val (.ref xs)] []))
  refine Gl.back (fun _ k => XS.aloadN X0.here hx rfl (hb hby d12_0) rfl rfl k) ?_
  show Gl _ _ _ _ _ _ _ (s₁.setTop (mkF m 1 #[.val (.ref xs)] [(.ref xs)]))
  obtain ⟨cq90, q90, q90'⟩ := E_x.cell
  obtain ⟨_, _, ⟨T90, L90, k90, n90⟩, -, X90, ⟨Lc90, hQ90, l90, y90, z90⟩, st90⟩ := X0.privateBack hx (y := (⟨"java/lang/String", "indexOfNonWhitespace", "()I"⟩ : MethodName)) hown (mvT hZ (hw _ (List.mem_of_getElem? (i := 69) rfl))) (mvT hZ (hw _ (List.mem_of_getElem? (i := 70) rfl))) (mvT hZ (hw _ (List.mem_of_getElem? (i := 72) rfl))) (Cond.privateMethod_at (mvP hZ (hw _ (List.mem_of_getElem? (i := 71) rfl)) (args := #[]))) (mvT hZ (hw _ (List.mem_of_getElem? (i := 73) rfl))) (by decide) (backOf (W := 0) (rmsinw l Z a0 hw [] xs wA wI kA vsA t k_t N2 cq vs zc h0 n0 Z0 O0 S_A V_A hA S_I E_I S_C P0 E_x F_c F_v V_t hN hv0 hnw) hZ (hw _ (List.mem_of_getElem? (i := 73) rfl)) (hw _ (List.mem_of_getElem? (i := 12) rfl)) (by decide) (by decide)) (g := (mkF m 1 #[.val (.ref xs)] [(.ref xs)])) rfl (by rw [hml]; rfl) (Steps.refl _) (a := xs) (by rw [e0]; exact q90) q90' (argsL := []) (rest := []) (lenOf pd___I rfl) rfl (by show 2 * 0 + _ ≤ _; exact Nat.le_of_eq rfl) (hb hby d12_1) (fun _ _ => ⟨rfl, e0, (by decide : 0 + 0 ≤ _), (by decide : 0 + 0 ≤ _)⟩)
  dsimp only [Pt.U, Pt.locs, Pt.cells, Pt.slots] at X90 l90 y90 z90 st90 hQ90
  replace l90 := Eq.symm l90
  replace y90 := Eq.symm y90
  replace z90 := Eq.symm z90
  subst l90 y90 z90
  obtain ⟨Nq90, rfl, eh90⟩ := hQ90
  have N90 := Fr.app N0 Nq90
  refine Gl.back (fun _ k => st90.trans k) ?_
  show Gl _ _ _ _ _ _ _ (T90.setTop (mkF m 4 #[.val (.ref xs)] [(.int (0 : Int32))]))
  refine Gl.back (fun _ k => XS.aloadN X90.here hx rfl (hb hby d12_4) rfl rfl k) ?_
  show Gl _ _ _ _ _ _ _ (T90.setTop (mkF m 5 #[.val (.ref xs)] [(.ref xs), (.int (0 : Int32))]))
  obtain ⟨cq91, kq91, q91a, q91b, q91c⟩ := isOf hZ eh90 E_x
  obtain ⟨_, _, ⟨T91, L91, k91, n91⟩, -, X91, ⟨Lc91, hQ91, l91, y91, z91⟩, st91⟩ := X90.virtualBack hx (y := (⟨"java/lang/String", "length", "()I"⟩ : MethodName)) (z := (⟨"java/lang/String", "length", "()I"⟩ : MethodName)) hown (mvT hZ (hw _ (List.mem_of_getElem? (i := 99) rfl))) (mvT hZ (hw _ (List.mem_of_getElem? (i := 100) rfl))) (notFace_of_selects (args := #[]) (mvT hZ (hw _ (List.mem_of_getElem? (i := 102) rfl)))) (mvT hZ (hw _ (List.mem_of_getElem? (i := 102) rfl))) (mvT hZ (hw _ (List.mem_of_getElem? (i := 101) rfl))) (by decide) (backOf (W := 1) (rmslen l Z a0 hw [] xs t k_t N2 vs zc h0 n0 Z0 O0 S_C P0 E_x F_c F_v V_t) hZ (hw _ (List.mem_of_getElem? (i := 103) rfl)) (hw _ (List.mem_of_getElem? (i := 12) rfl)) (by decide) (by decide)) q91a q91c (g := (mkF m 5 #[.val (.ref xs)] [(.ref xs), (.int (0 : Int32))])) rfl (by rw [hml]; rfl) (Steps.refl _) (argsL := []) (rest := [(.int (0 : Int32))]) (lenOf pd___I rfl) rfl (by show 2 * 0 + _ ≤ _; exact Nat.le_of_eq rfl) (hb hby d12_5) (fun _ _ => ⟨rfl, eh90, (by decide : 0 + 0 ≤ _), (by decide : 0 + 0 ≤ _)⟩)
  dsimp only [Pt.U, Pt.locs, Pt.cells, Pt.slots] at X91 l91 y91 z91 st91 hQ91
  replace l91 := Eq.symm l91
  replace y91 := Eq.symm y91
  replace z91 := Eq.symm z91
  subst l91 y91 z91
  obtain ⟨Nq91, rfl, eh91⟩ := hQ91
  have N91 := Fr.app N90 Nq91
  refine Gl.back (fun _ k => st91.trans k) ?_
  show Gl _ _ _ _ _ _ _ (T91.setTop (mkF m 8 #[.val (.ref xs)] [(.int (N2 >>> ((0 : Int32) &&& 31))), (.int (0 : Int32))]))
  refine Gl.back (fun _ k => XS.icmpYes X91.here hx rfl (pc0 := 8) (pc' := 15) rfl (hb hby d12_8) rfl (feq (own_ib hN : ¬ (0 : Int32) = (N2 >>> ((0 : Int32) &&& 31)))).2 (by decide) (by decide) k) ?_
  show Gl _ _ _ _ _ _ _ (T91.setTop (mkF m 15 #[.val (.ref xs)] []))
  refine Gl.back (fun _ k => XS.iconst X91.here hx rfl (hb hby d12_15) k) ?_
  show Gl _ _ _ _ _ _ _ (T91.setTop (mkF m 16 #[.val (.ref xs)] [(.int (0 : Int32))]))
  exact Gl.ret X91 eh91 (v := (some (.int (0 : Int32)))) (fun h => by rw [Bd.returns] at h; cases h) Bd.notSynchronized (fun fs hr => retN X91 hx (t := .boolean) (z := (0 : Int32)) Bd.returns (by simp) (hb hby d12_16) hr) ⟨N91, rfl, rfl⟩ (by decide) (by decide)
theorem d11_0 : decode jdk_31_method_11_code 0 = .ok (.aload_n 0, 1) := by decide +kernel
theorem d11_1 : decode jdk_31_method_11_code 1 = .ok (.ifnonnull 12, 3) := by decide +kernel
theorem d11_13 : decode jdk_31_method_11_code 13 = .ok (.aload_n 0, 1) := by decide +kernel
theorem d11_14 : decode jdk_31_method_11_code 14 = .ok (.areturn, 1) := by decide +kernel
theorem pn_java_util_Objects : plainName "java/util/Objects" = true := by first | (simp [plainName, overriddenIn]; done) | decide +kernel
theorem ef_rnn (m : MethodId) (x0 : Addr) (x1 : Addr) : entryFrame m #[(.ref x0), (.ref x1)] 2 = mkF m 0 #[.val (.ref x0), .val (.ref x1)] [] := by first | (simp [entryFrame, mkF, argsToLocals, Value.category]; done) | rfl
def Qrnn (Z : State) (a : Addr) (b : Addr) (h0 : Heap) (n0 : Nat) (v : Option Value) (h : Heap) (L : List Loc) : Prop := Fr n0 L ∧ (v = some (.ref a) ∧ h = h0)
set_option maxRecDepth 65536 in
set_option maxHeartbeats 40000000 in
theorem rmrnn (l : Launch) (Z : State) (a0 : Array Value) (hw : ∀ d ∈ tables_1, d.before a0 Z = true) (ws : List Jvm.Cond) (a : Addr) (b : Addr) (h0 : Heap) (n0 : Nat) (Z0 : n0 ≤ h0.size) :
    MetFree l (⟨"java/util/Objects", "requireNonNull", "(Ljava/lang/Object;Ljava/lang/String;)Ljava/lang/Object;"⟩ : MethodName) (head1 (Jvm.Cond.code (⟨"java/util/Objects", "requireNonNull", "(Ljava/lang/Object;Ljava/lang/String;)Ljava/lang/Object;"⟩ : MethodName) jdk_31_method_11_code 2 (some (.object "java/lang/Object")) :: ws) ({ frames := 0, cells := 0, slots := 0, locals := 0 } : Room)) (fun as0 U => as0 = #[(.ref a), (.ref b)] ∧ Z.Warmed39 U.vm ∧ U.heap = h0) (fun _ _ _ _ _ => True) (fun _ U oc0 U' => ∃ v L, oc0 = .returned v ∧ Qrnn Z a b h0 n0 v U'.heap L ∧ FrameEnd U oc0 U' L ({ frames := 0, cells := 0, slots := 0, locals := 0 } : Room).cells ({ frames := 0, cells := 0, slots := 0, locals := 0 } : Room).slots) := by
  refine MetFree.of_bodySF (plainFor_of_name pn_java_util_Objects) hisR ?_
  intro p e s m args below meth c s₁ Bd hml0 hP hK
  obtain ⟨rfl, hZ, hh⟩ := hP
  have hx := Bd.exec
  have hby := Bd.bytes
  have hml : c.maxLocals = 2 := hml0
  have hown : s.vm.findClass "java/util/Objects" = some m.cls := findClass_of_methodNamed Bd.named
  have hnm := (name_of_methodNamed Bd.named Bd.method).1
  have X0 : Stand p l e ({ frames := 0, cells := 0, slots := 0, locals := 0 } : Room) s m #[(.ref a), (.ref b)] below meth c s₁ [] 0 0 := Stand.of_body Bd
  have e0 : s₁.heap = h0 := by rw [← hh, Bd.state]; rfl
  have N0 := Fr.nil n0
  show Gl p e below s (Qrnn Z a b h0 n0) ({ frames := 0, cells := 0, slots := 0, locals := 0 } : Room).cells ({ frames := 0, cells := 0, slots := 0, locals := 0 } : Room).slots (s₁.setTop (entryFrame m #[(.ref a), (.ref b)] 2))
  refine Gl.back (fun _ k => castTop (ef_rnn m a b) k) ?_
  show Gl _ _ _ _ _ _ _ (s₁.setTop (mkF m 0 #[.val (.ref a), .val (.ref b)] []))
  refine Gl.back (fun _ k => XS.aloadN X0.here hx rfl (hb hby d11_0) rfl rfl k) ?_
  show Gl _ _ _ _ _ _ _ (s₁.setTop (mkF m 1 #[.val (.ref a), .val (.ref b)] [(.ref a)]))
  refine Gl.back (fun _ k => XS.ifnonnullYes X0.here hx rfl (pc0 := 1) (pc' := 13) rfl (hb hby d11_1) rfl (by decide) (by decide) k) ?_
  show Gl _ _ _ _ _ _ _ (s₁.setTop (mkF m 13 #[.val (.ref a), .val (.ref b)] []))
  refine Gl.back (fun _ k => XS.aloadN X0.here hx rfl (hb hby d11_13) rfl rfl k) ?_
  show Gl _ _ _ _ _ _ _ (s₁.setTop (mkF m 14 #[.val (.ref a), .val (.ref b)] [(.ref a)]))
  exact Gl.ret X0 e0 (v := (some (.ref a))) (fun h => by rw [Bd.returns] at h; cases h) Bd.notSynchronized (fun fs hr => retOut X0 hx (w := (.ref a)) Bd.returns rfl (Or.inr (Or.inr (Or.inr (Or.inr ⟨rfl, rfl, rfl⟩)))) (hb hby d11_14) hr) ⟨N0, rfl, rfl⟩ (by decide) (by decide)
theorem d10_0 : decode jdk_30_method_1_code 0 = .ok (.aload_n 0, 1) := by decide +kernel
theorem d10_1 : decode jdk_30_method_1_code 1 = .ok (.invokespecial 1, 3) := by decide +kernel
theorem d10_4 : decode jdk_30_method_1_code 4 = .ok (.return_, 1) := by decide +kernel
theorem pn_java_lang_Record : plainName "java/lang/Record" = true := by first | (simp [plainName, overriddenIn]; done) | decide +kernel
theorem ef_rec (m : MethodId) (x0 : Addr) : entryFrame m #[(.ref x0)] 1 = mkF m 0 #[.val (.ref x0)] [] := by first | (simp [entryFrame, mkF, argsToLocals, Value.category]; done) | rfl
def Qrec (Z : State) (a : Addr) (h0 : Heap) (n0 : Nat) (v : Option Value) (h : Heap) (L : List Loc) : Prop := Fr n0 L ∧ (v = none ∧ h = h0)
set_option maxRecDepth 65536 in
set_option maxHeartbeats 40000000 in
theorem rmrec (l : Launch) (Z : State) (a0 : Array Value) (hw : ∀ d ∈ tables_1, d.before a0 Z = true) (ws : List Jvm.Cond) (a : Addr) (h0 : Heap) (n0 : Nat) (Z0 : n0 ≤ h0.size) :
    MetFree l (⟨"java/lang/Record", "<init>", "()V"⟩ : MethodName) (head1 (Jvm.Cond.code (⟨"java/lang/Record", "<init>", "()V"⟩ : MethodName) jdk_30_method_1_code 1 none :: ws) ({ frames := 1, cells := 0, slots := 0, locals := 12 } : Room)) (fun as0 U => as0 = #[(.ref a)] ∧ Z.Warmed39 U.vm ∧ U.heap = h0) (fun _ _ _ _ _ => True) (fun _ U oc0 U' => ∃ v L, oc0 = .returned v ∧ Qrec Z a h0 n0 v U'.heap L ∧ FrameEnd U oc0 U' L ({ frames := 1, cells := 0, slots := 0, locals := 12 } : Room).cells ({ frames := 1, cells := 0, slots := 0, locals := 12 } : Room).slots) := by
  refine MetFree.of_bodySF (plainFor_of_name pn_java_lang_Record) hisR ?_
  intro p e s m args below meth c s₁ Bd hml0 hP hK
  obtain ⟨rfl, hZ, hh⟩ := hP
  have hx := Bd.exec
  have hby := Bd.bytes
  have hml : c.maxLocals = 1 := hml0
  have hown : s.vm.findClass "java/lang/Record" = some m.cls := findClass_of_methodNamed Bd.named
  have hnm := (name_of_methodNamed Bd.named Bd.method).1
  have X0 : Stand p l e ({ frames := 1, cells := 0, slots := 0, locals := 12 } : Room) s m #[(.ref a)] below meth c s₁ [] 0 0 := Stand.of_body Bd
  have e0 : s₁.heap = h0 := by rw [← hh, Bd.state]; rfl
  have N0 := Fr.nil n0
  show Gl p e below s (Qrec Z a h0 n0) ({ frames := 1, cells := 0, slots := 0, locals := 12 } : Room).cells ({ frames := 1, cells := 0, slots := 0, locals := 12 } : Room).slots (s₁.setTop (entryFrame m #[(.ref a)] 1))
  refine Gl.back (fun _ k => castTop (ef_rec m a) k) ?_
  show Gl _ _ _ _ _ _ _ (s₁.setTop (mkF m 0 #[.val (.ref a)] []))
  refine Gl.back (fun _ k => XS.aloadN X0.here hx rfl (hb hby d10_0) rfl rfl k) ?_
  show Gl _ _ _ _ _ _ _ (s₁.setTop (mkF m 1 #[.val (.ref a)] [(.ref a)]))
  obtain ⟨T92, X92, e92, st92⟩ := initO X0 hx hZ hown (hw _ (List.mem_of_getElem? (i := 55) rfl)) (hw _ (List.mem_of_getElem? (i := 32) rfl)) (hw _ (List.mem_of_getElem? (i := 33) rfl)) e0 (g := (mkF m 1 #[.val (.ref a)] [(.ref a)])) rfl (by rw [hml]; rfl) rfl (hb hby d10_1) (by decide) (W := 0) (by show 2 * 0 + _ ≤ _; exact Nat.le_of_eq rfl) (by decide)
  refine Gl.back (fun _ k => st92 _ k) ?_
  show Gl _ _ _ _ _ _ _ (T92.setTop (mkF m 4 #[.val (.ref a)] []))
  exact Gl.ret X92 e92 (v := none) (fun _ => rfl) Bd.notSynchronized (fun fs hr => X92.returnOut hx Bd.returns (hb hby d10_4) hr) ⟨N0, rfl, rfl⟩ (by decide) (by decide)
theorem d9_0 : decode prog_25_method_1_code 0 = .ok (.aload_n 0, 1) := by decide +kernel
theorem d9_1 : decode prog_25_method_1_code 1 = .ok (.invokespecial 1, 3) := by decide +kernel
theorem pd___V : parseMethodDescriptor "()V" = some ⟨[], none⟩ := by decide +kernel
theorem d9_4 : decode prog_25_method_1_code 4 = .ok (.aload_n 1, 1) := by decide +kernel
theorem d9_5 : decode prog_25_method_1_code 5 = .ok (.ldc 7, 2) := by decide +kernel
theorem d9_7 : decode prog_25_method_1_code 7 = .ok (.invokestatic 9, 3) := by decide +kernel
theorem pd__Ljava_lang_Object_Ljava_lang_String__Ljava_lang_Object_ : parseMethodDescriptor "(Ljava/lang/Object;Ljava/lang/String;)Ljava/lang/Object;" = some ⟨[(.object "java/lang/Object"), (.object "java/lang/String")], some (.object "java/lang/Object")⟩ := by decide +kernel
theorem d9_10 : decode prog_25_method_1_code 10 = .ok (.pop, 1) := by decide +kernel
theorem d9_11 : decode prog_25_method_1_code 11 = .ok (.aload_n 2, 1) := by decide +kernel
theorem d9_12 : decode prog_25_method_1_code 12 = .ok (.ldc 15, 2) := by decide +kernel
theorem d9_14 : decode prog_25_method_1_code 14 = .ok (.invokestatic 9, 3) := by decide +kernel
theorem d9_17 : decode prog_25_method_1_code 17 = .ok (.pop, 1) := by decide +kernel
theorem d9_18 : decode prog_25_method_1_code 18 = .ok (.aload_n 3, 1) := by decide +kernel
theorem d9_19 : decode prog_25_method_1_code 19 = .ok (.ldc 17, 2) := by decide +kernel
theorem d9_21 : decode prog_25_method_1_code 21 = .ok (.invokestatic 9, 3) := by decide +kernel
theorem d9_24 : decode prog_25_method_1_code 24 = .ok (.pop, 1) := by decide +kernel
theorem d9_25 : decode prog_25_method_1_code 25 = .ok (.aload 4, 2) := by decide +kernel
theorem d9_27 : decode prog_25_method_1_code 27 = .ok (.ldc 19, 2) := by decide +kernel
theorem d9_29 : decode prog_25_method_1_code 29 = .ok (.invokestatic 9, 3) := by decide +kernel
theorem d9_32 : decode prog_25_method_1_code 32 = .ok (.pop, 1) := by decide +kernel
theorem d9_33 : decode prog_25_method_1_code 33 = .ok (.aload_n 1, 1) := by decide +kernel
theorem d9_34 : decode prog_25_method_1_code 34 = .ok (.invokevirtual 21, 3) := by decide +kernel
theorem d9_37 : decode prog_25_method_1_code 37 = .ok (.ifCond .ne 17, 3) := by decide +kernel
theorem d9_40 : decode prog_25_method_1_code 40 = .ok (.aload_n 2, 1) := by decide +kernel
theorem d9_41 : decode prog_25_method_1_code 41 = .ok (.invokevirtual 21, 3) := by decide +kernel
theorem d9_44 : decode prog_25_method_1_code 44 = .ok (.ifCond .ne 10, 3) := by decide +kernel
theorem d9_47 : decode prog_25_method_1_code 47 = .ok (.aload_n 3, 1) := by decide +kernel
theorem d9_48 : decode prog_25_method_1_code 48 = .ok (.invokevirtual 21, 3) := by decide +kernel
theorem d9_51 : decode prog_25_method_1_code 51 = .ok (.ifCond .eq 19, 3) := by decide +kernel
theorem d9_70 : decode prog_25_method_1_code 70 = .ok (.aload_n 0, 1) := by decide +kernel
theorem d9_71 : decode prog_25_method_1_code 71 = .ok (.aload_n 1, 1) := by decide +kernel
theorem d9_72 : decode prog_25_method_1_code 72 = .ok (.putfield 36, 3) := by decide +kernel
theorem d9_75 : decode prog_25_method_1_code 75 = .ok (.aload_n 0, 1) := by decide +kernel
theorem d9_76 : decode prog_25_method_1_code 76 = .ok (.aload_n 2, 1) := by decide +kernel
theorem d9_77 : decode prog_25_method_1_code 77 = .ok (.putfield 41, 3) := by decide +kernel
theorem d9_80 : decode prog_25_method_1_code 80 = .ok (.aload_n 0, 1) := by decide +kernel
theorem d9_81 : decode prog_25_method_1_code 81 = .ok (.aload_n 3, 1) := by decide +kernel
theorem d9_82 : decode prog_25_method_1_code 82 = .ok (.putfield 43, 3) := by decide +kernel
theorem d9_85 : decode prog_25_method_1_code 85 = .ok (.aload_n 0, 1) := by decide +kernel
theorem d9_86 : decode prog_25_method_1_code 86 = .ok (.aload 4, 2) := by decide +kernel
theorem d9_88 : decode prog_25_method_1_code 88 = .ok (.putfield 45, 3) := by decide +kernel
theorem d9_91 : decode prog_25_method_1_code 91 = .ok (.return_, 1) := by decide +kernel
theorem pn_com_example_partition_planner_partitionplanner_Relationship : plainName "com/example/partition_planner/partitionplanner/Relationship" = true := by first | (simp [plainName, overriddenIn]; done) | decide +kernel
theorem ef_rinit (m : MethodId) (x0 : Addr) (x1 : Addr) (x2 : Addr) (x3 : Addr) (x4 : Addr) : entryFrame m #[(.ref x0), (.ref x1), (.ref x2), (.ref x3), (.ref x4)] 5 = mkF m 0 #[.val (.ref x0), .val (.ref x1), .val (.ref x2), .val (.ref x3), .val (.ref x4)] [] := by first | (simp [entryFrame, mkF, argsToLocals, Value.category]; done) | rfl
def Qrinit (Z : State) (a : Addr) (r : Addr) (x1 : Addr) (x2 : Addr) (wc : Addr) (wA wI : Addr) (kA : ClassId) (vsA : List Value) (tr t1 t2 : Addr) (kr k1 k2 : ClassId) (N_r N_x1 N_x2 cr c1 c2 : Int32) (vr v1 v2 : List Value) (zc : Int32) (h0 : Heap) (n0 : Nat) (v : Option Value) (h : Heap) (L : List Loc) : Prop := Fr n0 L ∧ (v = none ∧ Keep h0 h [a] ∧ Fld Z h a "com/example/partition_planner/partitionplanner/Relationship" "first" "Ljava/lang/String;" (.ref x1) ∧ Fld Z h a "com/example/partition_planner/partitionplanner/Relationship" "second" "Ljava/lang/String;" (.ref x2))
set_option maxRecDepth 65536 in
set_option maxHeartbeats 40000000 in
theorem rmrinit (l : Launch) (Z : State) (a0 : Array Value) (hw : ∀ d ∈ tables_1, d.before a0 Z = true) (ws : List Jvm.Cond) (a : Addr) (r : Addr) (x1 : Addr) (x2 : Addr) (wc : Addr) (wA wI : Addr) (kA : ClassId) (vsA : List Value) (tr t1 t2 : Addr) (kr k1 k2 : ClassId) (N_r N_x1 N_x2 cr c1 c2 : Int32) (vr v1 v2 : List Value) (zc : Int32) (h0 : Heap) (n0 : Nat) (Z0 : n0 ≤ h0.size) (O0 : Old Z n0 h0) (S_A : Sta Z Z.heap "java/lang/CharacterDataLatin1" "A" "[I" (.ref wA)) (V_A : Arv Z Z.heap wA kA .int (256 : Int32) vsA (.int 0)) (hA : own_A vsA) (S_I : Sta Z Z.heap "java/lang/CharacterDataLatin1" "instance" "Ljava/lang/CharacterDataLatin1;" (.ref wI)) (E_I : Exa Z Z.heap wI "java/lang/CharacterDataLatin1") (S_C : Sta Z Z.heap "java/lang/String" "COMPACT_STRINGS" "Z" (.int zc)) (P0 : ¬ zc = 0) (g_a : n0 ≤ a) (E_a : Exa Z h0 a "com/example/partition_planner/partitionplanner/Relationship") (F_name : Fld Z h0 a "com/example/partition_planner/partitionplanner/Relationship" "name" "Ljava/lang/String;" .null) (F_first : Fld Z h0 a "com/example/partition_planner/partitionplanner/Relationship" "first" "Ljava/lang/String;" .null) (F_second : Fld Z h0 a "com/example/partition_planner/partitionplanner/Relationship" "second" "Ljava/lang/String;" .null) (F_cardinality : Fld Z h0 a "com/example/partition_planner/partitionplanner/Relationship" "cardinality" "Lcom/example/partition_planner/partitionplanner/Cardinality;" .null) (E_r : Exa Z h0 r "java/lang/String") (Fc_r : Fld Z h0 r "java/lang/String" "coder" "B" (.int 0)) (Fv_r : Fld Z h0 r "java/lang/String" "value" "[B" (.ref tr)) (V_r : Arv Z h0 tr kr .byte N_r vr (.int 0)) (hN_r : (0 : Int32) < N_r) (hv_r : vr.getD 0 (.int 0) = .int (cr.toInt8.toInt32)) (hw_r : own_nw cr) (E_x1 : Exa Z h0 x1 "java/lang/String") (Fc_x1 : Fld Z h0 x1 "java/lang/String" "coder" "B" (.int 0)) (Fv_x1 : Fld Z h0 x1 "java/lang/String" "value" "[B" (.ref t1)) (V_x1 : Arv Z h0 t1 k1 .byte N_x1 v1 (.int 0)) (hN_x1 : (0 : Int32) < N_x1) (hv_x1 : v1.getD 0 (.int 0) = .int (c1.toInt8.toInt32)) (hw_x1 : own_nw c1) (E_x2 : Exa Z h0 x2 "java/lang/String") (Fc_x2 : Fld Z h0 x2 "java/lang/String" "coder" "B" (.int 0)) (Fv_x2 : Fld Z h0 x2 "java/lang/String" "value" "[B" (.ref t2)) (V_x2 : Arv Z h0 t2 k2 .byte N_x2 v2 (.int 0)) (hN_x2 : (0 : Int32) < N_x2) (hv_x2 : v2.getD 0 (.int 0) = .int (c2.toInt8.toInt32)) (hw_x2 : own_nw c2) (hn_r : a ≠ r) (hn_tr : a ≠ tr) (hn_x1 : a ≠ x1) (hn_t1 : a ≠ t1) (hn_x2 : a ≠ x2) (hn_t2 : a ≠ t2) :
    MetFree l (⟨"com/example/partition_planner/partitionplanner/Relationship", "<init>", "(Ljava/lang/String;Ljava/lang/String;Ljava/lang/String;Lcom/example/partition_planner/partitionplanner/Cardinality;)V"⟩ : MethodName) (head1 (Jvm.Cond.code (⟨"com/example/partition_planner/partitionplanner/Relationship", "<init>", "(Ljava/lang/String;Ljava/lang/String;Ljava/lang/String;Lcom/example/partition_planner/partitionplanner/Cardinality;)V"⟩ : MethodName) prog_25_method_1_code 5 none :: ws) ({ frames := 5, cells := 8, slots := 120, locals := 68 } : Room)) (fun as0 U => as0 = #[(.ref a), (.ref r), (.ref x1), (.ref x2), (.ref wc)] ∧ Z.Warmed39 U.vm ∧ U.heap = h0 ∧ CHv Z consts_1 U.vm h0) (fun _ _ _ _ _ => True) (fun _ U oc0 U' => ∃ v L, oc0 = .returned v ∧ Qrinit Z a r x1 x2 wc wA wI kA vsA tr t1 t2 kr k1 k2 N_r N_x1 N_x2 cr c1 c2 vr v1 v2 zc h0 n0 v U'.heap L ∧ CHr Z consts_1 U.vm U.heap U'.vm U'.heap ∧ ReturnedEndW U oc0 U' L ({ frames := 5, cells := 8, slots := 120, locals := 68 } : Room).cells ({ frames := 5, cells := 8, slots := 120, locals := 68 } : Room).slots) := by
  refine MetFree.of_bodySF (plainFor_of_name pn_com_example_partition_planner_partitionplanner_Relationship) hisR ?_
  intro p e s m args below meth c s₁ Bd hml0 hP hK
  obtain ⟨rfl, hZ, hh, hCH⟩ := hP
  have hx := Bd.exec
  have hby := Bd.bytes
  have hml : c.maxLocals = 5 := hml0
  have hown : s.vm.findClass "com/example/partition_planner/partitionplanner/Relationship" = some m.cls := findClass_of_methodNamed Bd.named
  have hnm := (name_of_methodNamed Bd.named Bd.method).1
  have X0 : Stand p l e ({ frames := 5, cells := 8, slots := 120, locals := 68 } : Room) (s.setVm s.vm) m #[(.ref a), (.ref r), (.ref x1), (.ref x2), (.ref wc)] below meth c s₁ [] 0 0 := Stand.of_body Bd
  have e0 : s₁.heap = h0 := by rw [← hh, Bd.state]; rfl
  have N0 := Fr.nil n0
  have hZ0 : Z.Warmed39 (s.setVm s.vm).vm := hZ
  have hown0 : (s.setVm s.vm).vm.findClass "com/example/partition_planner/partitionplanner/Relationship" = some m.cls := hown
  have hS0 : s.Since s.vm 0 := (State.WarmedH.refl s).since 0
  have SK0 : 0 ≤ h0.size := Nat.zero_le _
  have hEL : EW Z a0 consts_1 := own_EW hw
  have CH0 : CHr Z consts_1 s.vm h0 (s.setVm s.vm).vm h0 := CHr.refl hCH
  show GlH Z consts_1 p e below s (Qrinit Z a r x1 x2 wc wA wI kA vsA tr t1 t2 kr k1 k2 N_r N_x1 N_x2 cr c1 c2 vr v1 v2 zc h0 n0) ({ frames := 5, cells := 8, slots := 120, locals := 68 } : Room).cells ({ frames := 5, cells := 8, slots := 120, locals := 68 } : Room).slots (s₁.setTop (entryFrame m #[(.ref a), (.ref r), (.ref x1), (.ref x2), (.ref wc)] 5))
  refine GlH.back (fun _ k => castTop (ef_rinit m a r x1 x2 wc) k) ?_
  show GlH Z consts_1 _ _ _ _ _ _ _ (s₁.setTop (mkF m 0 #[.val (.ref a), .val (.ref r), .val (.ref x1), .val (.ref x2), .val (.ref wc)] []))
  refine GlH.back (fun _ k => XS.aloadN X0.here hx rfl (hb hby d9_0) rfl rfl k) ?_
  show GlH Z consts_1 _ _ _ _ _ _ _ (s₁.setTop (mkF m 1 #[.val (.ref a), .val (.ref r), .val (.ref x1), .val (.ref x2), .val (.ref wc)] [(.ref a)]))
  obtain ⟨_, _, ⟨T93, L93, k93, n93⟩, -, X93, ⟨Lc93, hQ93, l93, y93, z93⟩, st93⟩ := X0.specialBack hx (y := (⟨"java/lang/Record", "<init>", "()V"⟩ : MethodName)) rfl hown0 (mvT hZ0 (hw _ (List.mem_of_getElem? (i := 50) rfl))) (mvT hZ0 (hw _ (List.mem_of_getElem? (i := 51) rfl))) (mvT hZ0 (hw _ (List.mem_of_getElem? (i := 54) rfl))) (by decide) (backOf (W := 0) (rmrec l Z a0 hw [] a  h0 n0 Z0 ) hZ0 (hw _ (List.mem_of_getElem? (i := 54) rfl)) (hw _ (List.mem_of_getElem? (i := 53) rfl)) (by decide) (by decide)) (g := (mkF m 1 #[.val (.ref a), .val (.ref r), .val (.ref x1), .val (.ref x2), .val (.ref wc)] [(.ref a)])) rfl (by rw [hml]; rfl) (Steps.refl _) (a := a) (argsL := []) (rest := []) (lenOf pd___V rfl) rfl (by show 2 * 0 + _ ≤ _; exact Nat.le_of_eq rfl) (hb hby d9_1) (fun _ _ => ⟨rfl, e0, (by decide : 0 + 0 ≤ _), (by decide : 0 + 0 ≤ _)⟩)
  dsimp only [Pt.U, Pt.locs, Pt.cells, Pt.slots] at X93 l93 y93 z93 st93 hQ93
  replace l93 := Eq.symm l93
  replace y93 := Eq.symm y93
  replace z93 := Eq.symm z93
  subst l93 y93 z93
  obtain ⟨Nq93, rfl, eh93⟩ := hQ93
  have N93 := Fr.app N0 Nq93
  refine GlH.back (fun _ k => st93.trans k) ?_
  show GlH Z consts_1 _ _ _ _ _ _ _ (T93.setTop (mkF m 4 #[.val (.ref a), .val (.ref r), .val (.ref x1), .val (.ref x2), .val (.ref wc)] []))
  refine GlH.back (fun _ k => XS.aloadN X93.here hx rfl (hb hby d9_4) rfl rfl k) ?_
  show GlH Z consts_1 _ _ _ _ _ _ _ (T93.setTop (mkF m 5 #[.val (.ref a), .val (.ref r), .val (.ref x1), .val (.ref x2), .val (.ref wc)] [(.ref r)]))
  have wS : ∀ d ∈ Bundle.stringAtoms, d.before a0 Z = true := fun d hd => hw d ((by decide +kernel : ∀ d ∈ Bundle.stringAtoms, d ∈ tables_1) d hd)
  obtain ⟨b94, T94, h94, k194, X94, e94, E94, hS94, SK94, hZ94, hown94, CHq94, Lt94, st94⟩ := ldcOH X93 hx hZ0 hown0 (hw _ (List.mem_of_getElem? (i := 56) rfl)) wS eh93 hS0 SK0 hEL CH0.1 (g := (mkF m 5 #[.val (.ref a), .val (.ref r), .val (.ref x1), .val (.ref x2), .val (.ref wc)] [(.ref r)])) rfl (hb hby d9_5) (n := 16) (by decide +kernel) (by decide) (by decide) (by decide)
  have Z94 : n0 ≤ h94.size := Nat.le_trans Z0 E94.1
  have K94 := Keep.ext (Keep.refl h0 [a]) E94
  have O94 := Old.ext O0 E94
  have CH94 := CHr.trans CH0 CHq94
  refine GlH.back (fun _ k => st94 _ k) ?_
  show GlH Z consts_1 _ _ _ _ _ _ _ (T94.setTop (mkF m 7 #[.val (.ref a), .val (.ref r), .val (.ref x1), .val (.ref x2), .val (.ref wc)] [(.ref b94), (.ref r)]))
  obtain ⟨_, _, ⟨T95, L95, k95, n95⟩, -, X95, ⟨Lc95, hQ95, l95, y95, z95⟩, st95⟩ := Jvm.LawKit.callS X94 hx (y := (⟨"java/util/Objects", "requireNonNull", "(Ljava/lang/Object;Ljava/lang/String;)Ljava/lang/Object;"⟩ : MethodName)) hown94 (mvT hZ94 (hw _ (List.mem_of_getElem? (i := 57) rfl))) (mvT hZ94 (hw _ (List.mem_of_getElem? (i := 58) rfl))) (mvT hZ94 (hw _ (List.mem_of_getElem? (i := 59) rfl))) (mvT hZ94 (hw _ (List.mem_of_getElem? (i := 60) rfl))) (by decide) (backOf (W := 0) (rmrnn l Z a0 hw [] r b94  h94 n0 Z94 ) hZ94 (hw _ (List.mem_of_getElem? (i := 60) rfl)) (hw _ (List.mem_of_getElem? (i := 59) rfl)) (by decide) (by decide)) (g := (mkF m 7 #[.val (.ref a), .val (.ref r), .val (.ref x1), .val (.ref x2), .val (.ref wc)] [(.ref b94), (.ref r)])) rfl (by rw [hml]; rfl) (argsL := [(.ref r), (.ref b94)]) (rest := []) (lenOf pd__Ljava_lang_Object_Ljava_lang_String__Ljava_lang_Object_ rfl) rfl (by show 2 * 0 + _ ≤ _; exact Nat.le_of_eq rfl) (hb hby d9_7) (fun _ _ => ⟨rfl, e94, (by decide : 2 + 0 ≤ _), (by decide : 20 + 0 ≤ _)⟩)
  dsimp only [Pt.U, Pt.locs, Pt.cells, Pt.slots] at X95 l95 y95 z95 st95 hQ95
  replace l95 := Eq.symm l95
  replace y95 := Eq.symm y95
  replace z95 := Eq.symm z95
  subst l95 y95 z95
  obtain ⟨Nq95, rfl, eh95⟩ := hQ95
  have N95 := Fr.app N93 Nq95
  refine GlH.back (fun _ k => st95 _ k) ?_
  show GlH Z consts_1 _ _ _ _ _ _ _ (T95.setTop (mkF m 10 #[.val (.ref a), .val (.ref r), .val (.ref x1), .val (.ref x2), .val (.ref wc)] [(.ref r)]))
  refine GlH.back (fun _ k => XS.pop X95.here hx rfl (hb hby d9_10) rfl rfl k) ?_
  show GlH Z consts_1 _ _ _ _ _ _ _ (T95.setTop (mkF m 11 #[.val (.ref a), .val (.ref r), .val (.ref x1), .val (.ref x2), .val (.ref wc)] []))
  refine GlH.back (fun _ k => XS.aloadN X95.here hx rfl (hb hby d9_11) rfl rfl k) ?_
  show GlH Z consts_1 _ _ _ _ _ _ _ (T95.setTop (mkF m 12 #[.val (.ref a), .val (.ref r), .val (.ref x1), .val (.ref x2), .val (.ref wc)] [(.ref x1)]))
  have wS : ∀ d ∈ Bundle.stringAtoms, d.before a0 Z = true := fun d hd => hw d ((by decide +kernel : ∀ d ∈ Bundle.stringAtoms, d ∈ tables_1) d hd)
  obtain ⟨b96, T96, h96, k196, X96, e96, E96, hS96, SK96, hZ96, hown96, CHq96, Lt96, st96⟩ := ldcOH X95 hx hZ94 hown94 (hw _ (List.mem_of_getElem? (i := 61) rfl)) wS eh95 hS94 SK94 hEL CH94.1 (g := (mkF m 12 #[.val (.ref a), .val (.ref r), .val (.ref x1), .val (.ref x2), .val (.ref wc)] [(.ref x1)])) rfl (hb hby d9_12) (n := 20) (by decide +kernel) (by decide) (by decide) (by decide)
  have Z96 : n0 ≤ h96.size := Nat.le_trans Z94 E96.1
  have K96 := Keep.ext K94 E96
  have O96 := Old.ext O94 E96
  have CH96 := CHr.trans CH94 CHq96
  refine GlH.back (fun _ k => st96 _ k) ?_
  show GlH Z consts_1 _ _ _ _ _ _ _ (T96.setTop (mkF m 14 #[.val (.ref a), .val (.ref r), .val (.ref x1), .val (.ref x2), .val (.ref wc)] [(.ref b96), (.ref x1)]))
  obtain ⟨_, _, ⟨T97, L97, k97, n97⟩, -, X97, ⟨Lc97, hQ97, l97, y97, z97⟩, st97⟩ := Jvm.LawKit.callS X96 hx (y := (⟨"java/util/Objects", "requireNonNull", "(Ljava/lang/Object;Ljava/lang/String;)Ljava/lang/Object;"⟩ : MethodName)) hown96 (mvT hZ96 (hw _ (List.mem_of_getElem? (i := 57) rfl))) (mvT hZ96 (hw _ (List.mem_of_getElem? (i := 58) rfl))) (mvT hZ96 (hw _ (List.mem_of_getElem? (i := 59) rfl))) (mvT hZ96 (hw _ (List.mem_of_getElem? (i := 60) rfl))) (by decide) (backOf (W := 0) (rmrnn l Z a0 hw [] x1 b96  h96 n0 Z96 ) hZ96 (hw _ (List.mem_of_getElem? (i := 60) rfl)) (hw _ (List.mem_of_getElem? (i := 59) rfl)) (by decide) (by decide)) (g := (mkF m 14 #[.val (.ref a), .val (.ref r), .val (.ref x1), .val (.ref x2), .val (.ref wc)] [(.ref b96), (.ref x1)])) rfl (by rw [hml]; rfl) (argsL := [(.ref x1), (.ref b96)]) (rest := []) (lenOf pd__Ljava_lang_Object_Ljava_lang_String__Ljava_lang_Object_ rfl) rfl (by show 2 * 0 + _ ≤ _; exact Nat.le_of_eq rfl) (hb hby d9_14) (fun _ _ => ⟨rfl, e96, (by decide : 4 + 0 ≤ _), (by decide : 44 + 0 ≤ _)⟩)
  dsimp only [Pt.U, Pt.locs, Pt.cells, Pt.slots] at X97 l97 y97 z97 st97 hQ97
  replace l97 := Eq.symm l97
  replace y97 := Eq.symm y97
  replace z97 := Eq.symm z97
  subst l97 y97 z97
  obtain ⟨Nq97, rfl, eh97⟩ := hQ97
  have N97 := Fr.app N95 Nq97
  refine GlH.back (fun _ k => st97 _ k) ?_
  show GlH Z consts_1 _ _ _ _ _ _ _ (T97.setTop (mkF m 17 #[.val (.ref a), .val (.ref r), .val (.ref x1), .val (.ref x2), .val (.ref wc)] [(.ref x1)]))
  refine GlH.back (fun _ k => XS.pop X97.here hx rfl (hb hby d9_17) rfl rfl k) ?_
  show GlH Z consts_1 _ _ _ _ _ _ _ (T97.setTop (mkF m 18 #[.val (.ref a), .val (.ref r), .val (.ref x1), .val (.ref x2), .val (.ref wc)] []))
  refine GlH.back (fun _ k => XS.aloadN X97.here hx rfl (hb hby d9_18) rfl rfl k) ?_
  show GlH Z consts_1 _ _ _ _ _ _ _ (T97.setTop (mkF m 19 #[.val (.ref a), .val (.ref r), .val (.ref x1), .val (.ref x2), .val (.ref wc)] [(.ref x2)]))
  have wS : ∀ d ∈ Bundle.stringAtoms, d.before a0 Z = true := fun d hd => hw d ((by decide +kernel : ∀ d ∈ Bundle.stringAtoms, d ∈ tables_1) d hd)
  obtain ⟨b98, T98, h98, k198, X98, e98, E98, hS98, SK98, hZ98, hown98, CHq98, Lt98, st98⟩ := ldcOH X97 hx hZ96 hown96 (hw _ (List.mem_of_getElem? (i := 62) rfl)) wS eh97 hS96 SK96 hEL CH96.1 (g := (mkF m 19 #[.val (.ref a), .val (.ref r), .val (.ref x1), .val (.ref x2), .val (.ref wc)] [(.ref x2)])) rfl (hb hby d9_19) (n := 24) (by decide +kernel) (by decide) (by decide) (by decide)
  have Z98 : n0 ≤ h98.size := Nat.le_trans Z96 E98.1
  have K98 := Keep.ext K96 E98
  have O98 := Old.ext O96 E98
  have CH98 := CHr.trans CH96 CHq98
  refine GlH.back (fun _ k => st98 _ k) ?_
  show GlH Z consts_1 _ _ _ _ _ _ _ (T98.setTop (mkF m 21 #[.val (.ref a), .val (.ref r), .val (.ref x1), .val (.ref x2), .val (.ref wc)] [(.ref b98), (.ref x2)]))
  obtain ⟨_, _, ⟨T99, L99, k99, n99⟩, -, X99, ⟨Lc99, hQ99, l99, y99, z99⟩, st99⟩ := Jvm.LawKit.callS X98 hx (y := (⟨"java/util/Objects", "requireNonNull", "(Ljava/lang/Object;Ljava/lang/String;)Ljava/lang/Object;"⟩ : MethodName)) hown98 (mvT hZ98 (hw _ (List.mem_of_getElem? (i := 57) rfl))) (mvT hZ98 (hw _ (List.mem_of_getElem? (i := 58) rfl))) (mvT hZ98 (hw _ (List.mem_of_getElem? (i := 59) rfl))) (mvT hZ98 (hw _ (List.mem_of_getElem? (i := 60) rfl))) (by decide) (backOf (W := 0) (rmrnn l Z a0 hw [] x2 b98  h98 n0 Z98 ) hZ98 (hw _ (List.mem_of_getElem? (i := 60) rfl)) (hw _ (List.mem_of_getElem? (i := 59) rfl)) (by decide) (by decide)) (g := (mkF m 21 #[.val (.ref a), .val (.ref r), .val (.ref x1), .val (.ref x2), .val (.ref wc)] [(.ref b98), (.ref x2)])) rfl (by rw [hml]; rfl) (argsL := [(.ref x2), (.ref b98)]) (rest := []) (lenOf pd__Ljava_lang_Object_Ljava_lang_String__Ljava_lang_Object_ rfl) rfl (by show 2 * 0 + _ ≤ _; exact Nat.le_of_eq rfl) (hb hby d9_21) (fun _ _ => ⟨rfl, e98, (by decide : 6 + 0 ≤ _), (by decide : 72 + 0 ≤ _)⟩)
  dsimp only [Pt.U, Pt.locs, Pt.cells, Pt.slots] at X99 l99 y99 z99 st99 hQ99
  replace l99 := Eq.symm l99
  replace y99 := Eq.symm y99
  replace z99 := Eq.symm z99
  subst l99 y99 z99
  obtain ⟨Nq99, rfl, eh99⟩ := hQ99
  have N99 := Fr.app N97 Nq99
  refine GlH.back (fun _ k => st99 _ k) ?_
  show GlH Z consts_1 _ _ _ _ _ _ _ (T99.setTop (mkF m 24 #[.val (.ref a), .val (.ref r), .val (.ref x1), .val (.ref x2), .val (.ref wc)] [(.ref x2)]))
  refine GlH.back (fun _ k => XS.pop X99.here hx rfl (hb hby d9_24) rfl rfl k) ?_
  show GlH Z consts_1 _ _ _ _ _ _ _ (T99.setTop (mkF m 25 #[.val (.ref a), .val (.ref r), .val (.ref x1), .val (.ref x2), .val (.ref wc)] []))
  refine GlH.back (fun _ k => XS.aload X99.here hx rfl (hb hby d9_25) rfl rfl k) ?_
  show GlH Z consts_1 _ _ _ _ _ _ _ (T99.setTop (mkF m 27 #[.val (.ref a), .val (.ref r), .val (.ref x1), .val (.ref x2), .val (.ref wc)] [(.ref wc)]))
  have wS : ∀ d ∈ Bundle.stringAtoms, d.before a0 Z = true := fun d hd => hw d ((by decide +kernel : ∀ d ∈ Bundle.stringAtoms, d ∈ tables_1) d hd)
  obtain ⟨b100, T100, h100, k1100, X100, e100, E100, hS100, SK100, hZ100, hown100, CHq100, Lt100, st100⟩ := ldcOH X99 hx hZ98 hown98 (hw _ (List.mem_of_getElem? (i := 63) rfl)) wS eh99 hS98 SK98 hEL CH98.1 (g := (mkF m 27 #[.val (.ref a), .val (.ref r), .val (.ref x1), .val (.ref x2), .val (.ref wc)] [(.ref wc)])) rfl (hb hby d9_27) (n := 44) (by decide +kernel) (by decide) (by decide) (by decide)
  have Z100 : n0 ≤ h100.size := Nat.le_trans Z98 E100.1
  have K100 := Keep.ext K98 E100
  have O100 := Old.ext O98 E100
  have CH100 := CHr.trans CH98 CHq100
  refine GlH.back (fun _ k => st100 _ k) ?_
  show GlH Z consts_1 _ _ _ _ _ _ _ (T100.setTop (mkF m 29 #[.val (.ref a), .val (.ref r), .val (.ref x1), .val (.ref x2), .val (.ref wc)] [(.ref b100), (.ref wc)]))
  obtain ⟨_, _, ⟨T101, L101, k101, n101⟩, -, X101, ⟨Lc101, hQ101, l101, y101, z101⟩, st101⟩ := Jvm.LawKit.callS X100 hx (y := (⟨"java/util/Objects", "requireNonNull", "(Ljava/lang/Object;Ljava/lang/String;)Ljava/lang/Object;"⟩ : MethodName)) hown100 (mvT hZ100 (hw _ (List.mem_of_getElem? (i := 57) rfl))) (mvT hZ100 (hw _ (List.mem_of_getElem? (i := 58) rfl))) (mvT hZ100 (hw _ (List.mem_of_getElem? (i := 59) rfl))) (mvT hZ100 (hw _ (List.mem_of_getElem? (i := 60) rfl))) (by decide) (backOf (W := 0) (rmrnn l Z a0 hw [] wc b100  h100 n0 Z100 ) hZ100 (hw _ (List.mem_of_getElem? (i := 60) rfl)) (hw _ (List.mem_of_getElem? (i := 59) rfl)) (by decide) (by decide)) (g := (mkF m 29 #[.val (.ref a), .val (.ref r), .val (.ref x1), .val (.ref x2), .val (.ref wc)] [(.ref b100), (.ref wc)])) rfl (by rw [hml]; rfl) (argsL := [(.ref wc), (.ref b100)]) (rest := []) (lenOf pd__Ljava_lang_Object_Ljava_lang_String__Ljava_lang_Object_ rfl) rfl (by show 2 * 0 + _ ≤ _; exact Nat.le_of_eq rfl) (hb hby d9_29) (fun _ _ => ⟨rfl, e100, (by decide : 8 + 0 ≤ _), (by decide : 120 + 0 ≤ _)⟩)
  dsimp only [Pt.U, Pt.locs, Pt.cells, Pt.slots] at X101 l101 y101 z101 st101 hQ101
  replace l101 := Eq.symm l101
  replace y101 := Eq.symm y101
  replace z101 := Eq.symm z101
  subst l101 y101 z101
  obtain ⟨Nq101, rfl, eh101⟩ := hQ101
  have N101 := Fr.app N99 Nq101
  refine GlH.back (fun _ k => st101 _ k) ?_
  show GlH Z consts_1 _ _ _ _ _ _ _ (T101.setTop (mkF m 32 #[.val (.ref a), .val (.ref r), .val (.ref x1), .val (.ref x2), .val (.ref wc)] [(.ref wc)]))
  refine GlH.back (fun _ k => XS.pop X101.here hx rfl (hb hby d9_32) rfl rfl k) ?_
  show GlH Z consts_1 _ _ _ _ _ _ _ (T101.setTop (mkF m 33 #[.val (.ref a), .val (.ref r), .val (.ref x1), .val (.ref x2), .val (.ref wc)] []))
  refine GlH.back (fun _ k => XS.aloadN X101.here hx rfl (hb hby d9_33) rfl rfl k) ?_
  show GlH Z consts_1 _ _ _ _ _ _ _ (T101.setTop (mkF m 34 #[.val (.ref a), .val (.ref r), .val (.ref x1), .val (.ref x2), .val (.ref wc)] [(.ref r)]))
  have f103 := ((((E_r.ext E94).ext E96).ext E98).ext E100)
  have f104 := ((((Fc_r.ext E94).ext E96).ext E98).ext E100)
  have f105 := ((((Fv_r.ext E94).ext E96).ext E98).ext E100)
  have f106 := ((((V_r.ext E94).ext E96).ext E98).ext E100)
  obtain ⟨cq102, kq102, q102a, q102b, q102c⟩ := isOf hZ100 eh101 f103
  obtain ⟨_, _, ⟨T102, L102, k102, n102⟩, -, X102, ⟨Lc102, hQ102, l102, y102, z102⟩, st102⟩ := X101.virtualBack hx (y := (⟨"java/lang/String", "isBlank", "()Z"⟩ : MethodName)) (z := (⟨"java/lang/String", "isBlank", "()Z"⟩ : MethodName)) hown100 (mvT hZ100 (hw _ (List.mem_of_getElem? (i := 64) rfl))) (mvT hZ100 (hw _ (List.mem_of_getElem? (i := 65) rfl))) (notFace_of_selects (args := #[]) (mvT hZ100 (hw _ (List.mem_of_getElem? (i := 67) rfl)))) (mvT hZ100 (hw _ (List.mem_of_getElem? (i := 67) rfl))) (mvT hZ100 (hw _ (List.mem_of_getElem? (i := 66) rfl))) (by decide) (backOf (W := 0) (rmblank l Z a0 hw [] r wA wI kA vsA tr kr N_r cr vr zc h100 n0 Z100 O100 S_A V_A hA S_I E_I S_C P0 f103 f104 f105 f106 hN_r hv_r hw_r) hZ100 (hw _ (List.mem_of_getElem? (i := 68) rfl)) (hw _ (List.mem_of_getElem? (i := 12) rfl)) (by decide) (by decide)) q102a q102c (g := (mkF m 34 #[.val (.ref a), .val (.ref r), .val (.ref x1), .val (.ref x2), .val (.ref wc)] [(.ref r)])) rfl (by rw [hml]; rfl) (Steps.refl _) (argsL := []) (rest := []) (lenOf pd___Z rfl) rfl (by show 2 * 0 + _ ≤ _; exact Nat.le_of_eq rfl) (hb hby d9_34) (fun _ _ => ⟨rfl, eh101, (by decide : 8 + 0 ≤ _), (by decide : 120 + 0 ≤ _)⟩)
  dsimp only [Pt.U, Pt.locs, Pt.cells, Pt.slots] at X102 l102 y102 z102 st102 hQ102
  replace l102 := Eq.symm l102
  replace y102 := Eq.symm y102
  replace z102 := Eq.symm z102
  subst l102 y102 z102
  obtain ⟨Nq102, rfl, eh102⟩ := hQ102
  have N102 := Fr.app N101 Nq102
  refine GlH.back (fun _ k => st102.trans k) ?_
  show GlH Z consts_1 _ _ _ _ _ _ _ (T102.setTop (mkF m 37 #[.val (.ref a), .val (.ref r), .val (.ref x1), .val (.ref x2), .val (.ref wc)] [(.int (0 : Int32))]))
  refine GlH.back (fun _ k => XS.ifNo X102.here hx rfl (hb hby d9_37) rfl ((if0 _ _).trans (teq (by decide : (0 : Int32) = (0 : Int32))).2) k) ?_
  show GlH Z consts_1 _ _ _ _ _ _ _ (T102.setTop (mkF m 40 #[.val (.ref a), .val (.ref r), .val (.ref x1), .val (.ref x2), .val (.ref wc)] []))
  refine GlH.back (fun _ k => XS.aloadN X102.here hx rfl (hb hby d9_40) rfl rfl k) ?_
  show GlH Z consts_1 _ _ _ _ _ _ _ (T102.setTop (mkF m 41 #[.val (.ref a), .val (.ref r), .val (.ref x1), .val (.ref x2), .val (.ref wc)] [(.ref x1)]))
  have f108 := ((((E_x1.ext E94).ext E96).ext E98).ext E100)
  have f109 := ((((Fc_x1.ext E94).ext E96).ext E98).ext E100)
  have f110 := ((((Fv_x1.ext E94).ext E96).ext E98).ext E100)
  have f111 := ((((V_x1.ext E94).ext E96).ext E98).ext E100)
  obtain ⟨cq107, kq107, q107a, q107b, q107c⟩ := isOf hZ100 eh102 f108
  obtain ⟨_, _, ⟨T107, L107, k107, n107⟩, -, X107, ⟨Lc107, hQ107, l107, y107, z107⟩, st107⟩ := X102.virtualBack hx (y := (⟨"java/lang/String", "isBlank", "()Z"⟩ : MethodName)) (z := (⟨"java/lang/String", "isBlank", "()Z"⟩ : MethodName)) hown100 (mvT hZ100 (hw _ (List.mem_of_getElem? (i := 64) rfl))) (mvT hZ100 (hw _ (List.mem_of_getElem? (i := 65) rfl))) (notFace_of_selects (args := #[]) (mvT hZ100 (hw _ (List.mem_of_getElem? (i := 67) rfl)))) (mvT hZ100 (hw _ (List.mem_of_getElem? (i := 67) rfl))) (mvT hZ100 (hw _ (List.mem_of_getElem? (i := 66) rfl))) (by decide) (backOf (W := 0) (rmblank l Z a0 hw [] x1 wA wI kA vsA t1 k1 N_x1 c1 v1 zc h100 n0 Z100 O100 S_A V_A hA S_I E_I S_C P0 f108 f109 f110 f111 hN_x1 hv_x1 hw_x1) hZ100 (hw _ (List.mem_of_getElem? (i := 68) rfl)) (hw _ (List.mem_of_getElem? (i := 12) rfl)) (by decide) (by decide)) q107a q107c (g := (mkF m 41 #[.val (.ref a), .val (.ref r), .val (.ref x1), .val (.ref x2), .val (.ref wc)] [(.ref x1)])) rfl (by rw [hml]; rfl) (Steps.refl _) (argsL := []) (rest := []) (lenOf pd___Z rfl) rfl (by show 2 * 0 + _ ≤ _; exact Nat.le_of_eq rfl) (hb hby d9_41) (fun _ _ => ⟨rfl, eh102, (by decide : 8 + 0 ≤ _), (by decide : 120 + 0 ≤ _)⟩)
  dsimp only [Pt.U, Pt.locs, Pt.cells, Pt.slots] at X107 l107 y107 z107 st107 hQ107
  replace l107 := Eq.symm l107
  replace y107 := Eq.symm y107
  replace z107 := Eq.symm z107
  subst l107 y107 z107
  obtain ⟨Nq107, rfl, eh107⟩ := hQ107
  have N107 := Fr.app N102 Nq107
  refine GlH.back (fun _ k => st107.trans k) ?_
  show GlH Z consts_1 _ _ _ _ _ _ _ (T107.setTop (mkF m 44 #[.val (.ref a), .val (.ref r), .val (.ref x1), .val (.ref x2), .val (.ref wc)] [(.int (0 : Int32))]))
  refine GlH.back (fun _ k => XS.ifNo X107.here hx rfl (hb hby d9_44) rfl ((if0 _ _).trans (teq (by decide : (0 : Int32) = (0 : Int32))).2) k) ?_
  show GlH Z consts_1 _ _ _ _ _ _ _ (T107.setTop (mkF m 47 #[.val (.ref a), .val (.ref r), .val (.ref x1), .val (.ref x2), .val (.ref wc)] []))
  refine GlH.back (fun _ k => XS.aloadN X107.here hx rfl (hb hby d9_47) rfl rfl k) ?_
  show GlH Z consts_1 _ _ _ _ _ _ _ (T107.setTop (mkF m 48 #[.val (.ref a), .val (.ref r), .val (.ref x1), .val (.ref x2), .val (.ref wc)] [(.ref x2)]))
  have f113 := ((((E_x2.ext E94).ext E96).ext E98).ext E100)
  have f114 := ((((Fc_x2.ext E94).ext E96).ext E98).ext E100)
  have f115 := ((((Fv_x2.ext E94).ext E96).ext E98).ext E100)
  have f116 := ((((V_x2.ext E94).ext E96).ext E98).ext E100)
  obtain ⟨cq112, kq112, q112a, q112b, q112c⟩ := isOf hZ100 eh107 f113
  obtain ⟨_, _, ⟨T112, L112, k112, n112⟩, -, X112, ⟨Lc112, hQ112, l112, y112, z112⟩, st112⟩ := X107.virtualBack hx (y := (⟨"java/lang/String", "isBlank", "()Z"⟩ : MethodName)) (z := (⟨"java/lang/String", "isBlank", "()Z"⟩ : MethodName)) hown100 (mvT hZ100 (hw _ (List.mem_of_getElem? (i := 64) rfl))) (mvT hZ100 (hw _ (List.mem_of_getElem? (i := 65) rfl))) (notFace_of_selects (args := #[]) (mvT hZ100 (hw _ (List.mem_of_getElem? (i := 67) rfl)))) (mvT hZ100 (hw _ (List.mem_of_getElem? (i := 67) rfl))) (mvT hZ100 (hw _ (List.mem_of_getElem? (i := 66) rfl))) (by decide) (backOf (W := 0) (rmblank l Z a0 hw [] x2 wA wI kA vsA t2 k2 N_x2 c2 v2 zc h100 n0 Z100 O100 S_A V_A hA S_I E_I S_C P0 f113 f114 f115 f116 hN_x2 hv_x2 hw_x2) hZ100 (hw _ (List.mem_of_getElem? (i := 68) rfl)) (hw _ (List.mem_of_getElem? (i := 12) rfl)) (by decide) (by decide)) q112a q112c (g := (mkF m 48 #[.val (.ref a), .val (.ref r), .val (.ref x1), .val (.ref x2), .val (.ref wc)] [(.ref x2)])) rfl (by rw [hml]; rfl) (Steps.refl _) (argsL := []) (rest := []) (lenOf pd___Z rfl) rfl (by show 2 * 0 + _ ≤ _; exact Nat.le_of_eq rfl) (hb hby d9_48) (fun _ _ => ⟨rfl, eh107, (by decide : 8 + 0 ≤ _), (by decide : 120 + 0 ≤ _)⟩)
  dsimp only [Pt.U, Pt.locs, Pt.cells, Pt.slots] at X112 l112 y112 z112 st112 hQ112
  replace l112 := Eq.symm l112
  replace y112 := Eq.symm y112
  replace z112 := Eq.symm z112
  subst l112 y112 z112
  obtain ⟨Nq112, rfl, eh112⟩ := hQ112
  have N112 := Fr.app N107 Nq112
  refine GlH.back (fun _ k => st112.trans k) ?_
  show GlH Z consts_1 _ _ _ _ _ _ _ (T112.setTop (mkF m 51 #[.val (.ref a), .val (.ref r), .val (.ref x1), .val (.ref x2), .val (.ref wc)] [(.int (0 : Int32))]))
  refine GlH.back (fun _ k => XS.ifYes X112.here hx rfl (pc0 := 51) (pc' := 70) rfl (hb hby d9_51) rfl ((if0 _ _).trans (teq (by decide : (0 : Int32) = (0 : Int32))).1) (by decide) (by decide) k) ?_
  show GlH Z consts_1 _ _ _ _ _ _ _ (T112.setTop (mkF m 70 #[.val (.ref a), .val (.ref r), .val (.ref x1), .val (.ref x2), .val (.ref wc)] []))
  refine GlH.back (fun _ k => XS.aloadN X112.here hx rfl (hb hby d9_70) rfl rfl k) ?_
  show GlH Z consts_1 _ _ _ _ _ _ _ (T112.setTop (mkF m 71 #[.val (.ref a), .val (.ref r), .val (.ref x1), .val (.ref x2), .val (.ref wc)] [(.ref a)]))
  refine GlH.back (fun _ k => XS.aloadN X112.here hx rfl (hb hby d9_71) rfl rfl k) ?_
  show GlH Z consts_1 _ _ _ _ _ _ _ (T112.setTop (mkF m 72 #[.val (.ref a), .val (.ref r), .val (.ref x1), .val (.ref x2), .val (.ref wc)] [(.ref r), (.ref a)]))
  have f117 := ((((E_a.ext E94).ext E96).ext E98).ext E100)
  have sf118 : Safe Z consts_1 _ _ a := (Safe.exa hZ100.alike f117 (by decide) (by decide))
  have f119 := ((((F_name.ext E94).ext E96).ext E98).ext E100)
  obtain ⟨T120, h120, X120, e120, W120, st120⟩ := putF X112 hx hZ100 hown100 (host := "") (Or.inl (hw _ (List.mem_of_getElem? (i := 109) rfl))) Via.refl eh112 f119 f117 (Or.inr ⟨(hw _ (List.mem_of_getElem? (i := 110) rfl)), rfl, hnm⟩) (hw _ (List.mem_of_getElem? (i := 9) rfl)) (ty := (.object "java/lang/String")) (by decide) rfl rfl (g := (mkF m 72 #[.val (.ref a), .val (.ref r), .val (.ref x1), .val (.ref x2), .val (.ref wc)] [(.ref r), (.ref a)])) rfl rfl (hb hby d9_72)
  have Fw120 := f119.same W120
  have K120 := Keep.wr K100 W120 (Or.inl (List.mem_of_getElem? (i := 0) rfl))
  have O120 := Old.wr O100 W120 g_a
  have Z120 : n0 ≤ h120.size := Nat.le_trans Z100 (Keep.of_wr W120).1
  have SK120 := Nat.le_trans SK100 (Keep.of_wr W120).1
  have sf121 := Safe.wr W120 sf118 CH100.1 sf118
  have CH120 := CHr.trans CH100 (CHr.wr W120 sf118 CH100.1)
  have N120 := Fr.snoc X120 N112 g_a
  refine GlH.back (fun _ k => st120 _ k) ?_
  show GlH Z consts_1 _ _ _ _ _ _ _ (T120.setTop (mkF m 75 #[.val (.ref a), .val (.ref r), .val (.ref x1), .val (.ref x2), .val (.ref wc)] []))
  refine GlH.back (fun _ k => XS.aloadN X120.here hx rfl (hb hby d9_75) rfl rfl k) ?_
  show GlH Z consts_1 _ _ _ _ _ _ _ (T120.setTop (mkF m 76 #[.val (.ref a), .val (.ref r), .val (.ref x1), .val (.ref x2), .val (.ref wc)] [(.ref a)]))
  refine GlH.back (fun _ k => XS.aloadN X120.here hx rfl (hb hby d9_76) rfl rfl k) ?_
  show GlH Z consts_1 _ _ _ _ _ _ _ (T120.setTop (mkF m 77 #[.val (.ref a), .val (.ref r), .val (.ref x1), .val (.ref x2), .val (.ref wc)] [(.ref x1), (.ref a)]))
  have sf122 : Safe Z consts_1 _ _ a := sf121
  have f123 := (f117.wr W120)
  have f124 := (((((F_first.ext E94).ext E96).ext E98).ext E100).other W120 (Or.inr (slot_ne (Or.inr (hw _ (List.mem_of_getElem? (i := 112) rfl))) (Or.inr (hw _ (List.mem_of_getElem? (i := 110) rfl))) (by decide) (t := (.object "java/lang/String")) (t' := (.object "java/lang/String")) (by decide) (by decide))))
  obtain ⟨T125, h125, X125, e125, W125, st125⟩ := putF X120 hx hZ100 hown100 (host := "") (Or.inl (hw _ (List.mem_of_getElem? (i := 111) rfl))) Via.refl e120 f124 f123 (Or.inr ⟨(hw _ (List.mem_of_getElem? (i := 112) rfl)), rfl, hnm⟩) (hw _ (List.mem_of_getElem? (i := 9) rfl)) (ty := (.object "java/lang/String")) (by decide) rfl rfl (g := (mkF m 77 #[.val (.ref a), .val (.ref r), .val (.ref x1), .val (.ref x2), .val (.ref wc)] [(.ref x1), (.ref a)])) rfl rfl (hb hby d9_77)
  have Fw125 := f124.same W125
  have K125 := Keep.wr K120 W125 (Or.inl (List.mem_of_getElem? (i := 0) rfl))
  have O125 := Old.wr O120 W125 g_a
  have Z125 : n0 ≤ h125.size := Nat.le_trans Z120 (Keep.of_wr W125).1
  have SK125 := Nat.le_trans SK120 (Keep.of_wr W125).1
  have sf126 := Safe.wr W125 sf122 CH120.1 sf122
  have CH125 := CHr.trans CH120 (CHr.wr W125 sf122 CH120.1)
  have N125 := Fr.snoc X125 N120 g_a
  refine GlH.back (fun _ k => st125 _ k) ?_
  show GlH Z consts_1 _ _ _ _ _ _ _ (T125.setTop (mkF m 80 #[.val (.ref a), .val (.ref r), .val (.ref x1), .val (.ref x2), .val (.ref wc)] []))
  refine GlH.back (fun _ k => XS.aloadN X125.here hx rfl (hb hby d9_80) rfl rfl k) ?_
  show GlH Z consts_1 _ _ _ _ _ _ _ (T125.setTop (mkF m 81 #[.val (.ref a), .val (.ref r), .val (.ref x1), .val (.ref x2), .val (.ref wc)] [(.ref a)]))
  refine GlH.back (fun _ k => XS.aloadN X125.here hx rfl (hb hby d9_81) rfl rfl k) ?_
  show GlH Z consts_1 _ _ _ _ _ _ _ (T125.setTop (mkF m 82 #[.val (.ref a), .val (.ref r), .val (.ref x1), .val (.ref x2), .val (.ref wc)] [(.ref x2), (.ref a)]))
  have sf127 : Safe Z consts_1 _ _ a := sf126
  have f128 := (f123.wr W125)
  have f129 := ((((((F_second.ext E94).ext E96).ext E98).ext E100).other W120 (Or.inr (slot_ne (Or.inr (hw _ (List.mem_of_getElem? (i := 114) rfl))) (Or.inr (hw _ (List.mem_of_getElem? (i := 110) rfl))) (by decide) (t := (.object "java/lang/String")) (t' := (.object "java/lang/String")) (by decide) (by decide)))).other W125 (Or.inr (slot_ne (Or.inr (hw _ (List.mem_of_getElem? (i := 114) rfl))) (Or.inr (hw _ (List.mem_of_getElem? (i := 112) rfl))) (by decide) (t := (.object "java/lang/String")) (t' := (.object "java/lang/String")) (by decide) (by decide))))
  obtain ⟨T130, h130, X130, e130, W130, st130⟩ := putF X125 hx hZ100 hown100 (host := "") (Or.inl (hw _ (List.mem_of_getElem? (i := 113) rfl))) Via.refl e125 f129 f128 (Or.inr ⟨(hw _ (List.mem_of_getElem? (i := 114) rfl)), rfl, hnm⟩) (hw _ (List.mem_of_getElem? (i := 9) rfl)) (ty := (.object "java/lang/String")) (by decide) rfl rfl (g := (mkF m 82 #[.val (.ref a), .val (.ref r), .val (.ref x1), .val (.ref x2), .val (.ref wc)] [(.ref x2), (.ref a)])) rfl rfl (hb hby d9_82)
  have Fw130 := f129.same W130
  have K130 := Keep.wr K125 W130 (Or.inl (List.mem_of_getElem? (i := 0) rfl))
  have O130 := Old.wr O125 W130 g_a
  have Z130 : n0 ≤ h130.size := Nat.le_trans Z125 (Keep.of_wr W130).1
  have SK130 := Nat.le_trans SK125 (Keep.of_wr W130).1
  have sf131 := Safe.wr W130 sf127 CH125.1 sf127
  have CH130 := CHr.trans CH125 (CHr.wr W130 sf127 CH125.1)
  have N130 := Fr.snoc X130 N125 g_a
  refine GlH.back (fun _ k => st130 _ k) ?_
  show GlH Z consts_1 _ _ _ _ _ _ _ (T130.setTop (mkF m 85 #[.val (.ref a), .val (.ref r), .val (.ref x1), .val (.ref x2), .val (.ref wc)] []))
  refine GlH.back (fun _ k => XS.aloadN X130.here hx rfl (hb hby d9_85) rfl rfl k) ?_
  show GlH Z consts_1 _ _ _ _ _ _ _ (T130.setTop (mkF m 86 #[.val (.ref a), .val (.ref r), .val (.ref x1), .val (.ref x2), .val (.ref wc)] [(.ref a)]))
  refine GlH.back (fun _ k => XS.aload X130.here hx rfl (hb hby d9_86) rfl rfl k) ?_
  show GlH Z consts_1 _ _ _ _ _ _ _ (T130.setTop (mkF m 88 #[.val (.ref a), .val (.ref r), .val (.ref x1), .val (.ref x2), .val (.ref wc)] [(.ref wc), (.ref a)]))
  have sf132 : Safe Z consts_1 _ _ a := sf131
  have f133 := (f128.wr W130)
  have f134 := (((((((F_cardinality.ext E94).ext E96).ext E98).ext E100).other W120 (Or.inr (slot_ne (Or.inr (hw _ (List.mem_of_getElem? (i := 116) rfl))) (Or.inr (hw _ (List.mem_of_getElem? (i := 110) rfl))) (by decide) (t := (.object "com/example/partition_planner/partitionplanner/Cardinality")) (t' := (.object "java/lang/String")) (by decide) (by decide)))).other W125 (Or.inr (slot_ne (Or.inr (hw _ (List.mem_of_getElem? (i := 116) rfl))) (Or.inr (hw _ (List.mem_of_getElem? (i := 112) rfl))) (by decide) (t := (.object "com/example/partition_planner/partitionplanner/Cardinality")) (t' := (.object "java/lang/String")) (by decide) (by decide)))).other W130 (Or.inr (slot_ne (Or.inr (hw _ (List.mem_of_getElem? (i := 116) rfl))) (Or.inr (hw _ (List.mem_of_getElem? (i := 114) rfl))) (by decide) (t := (.object "com/example/partition_planner/partitionplanner/Cardinality")) (t' := (.object "java/lang/String")) (by decide) (by decide))))
  obtain ⟨T135, h135, X135, e135, W135, st135⟩ := putF X130 hx hZ100 hown100 (host := "") (Or.inl (hw _ (List.mem_of_getElem? (i := 115) rfl))) Via.refl e130 f134 f133 (Or.inr ⟨(hw _ (List.mem_of_getElem? (i := 116) rfl)), rfl, hnm⟩) (hw _ (List.mem_of_getElem? (i := 9) rfl)) (ty := (.object "com/example/partition_planner/partitionplanner/Cardinality")) (by decide) rfl rfl (g := (mkF m 88 #[.val (.ref a), .val (.ref r), .val (.ref x1), .val (.ref x2), .val (.ref wc)] [(.ref wc), (.ref a)])) rfl rfl (hb hby d9_88)
  have Fw135 := f134.same W135
  have K135 := Keep.wr K130 W135 (Or.inl (List.mem_of_getElem? (i := 0) rfl))
  have O135 := Old.wr O130 W135 g_a
  have Z135 : n0 ≤ h135.size := Nat.le_trans Z130 (Keep.of_wr W135).1
  have SK135 := Nat.le_trans SK130 (Keep.of_wr W135).1
  have sf136 := Safe.wr W135 sf132 CH130.1 sf132
  have CH135 := CHr.trans CH130 (CHr.wr W135 sf132 CH130.1)
  have N135 := Fr.snoc X135 N130 g_a
  refine GlH.back (fun _ k => st135 _ k) ?_
  show GlH Z consts_1 _ _ _ _ _ _ _ (T135.setTop (mkF m 91 #[.val (.ref a), .val (.ref r), .val (.ref x1), .val (.ref x2), .val (.ref wc)] []))
  have f137 := ((Fw125.other W130 (Or.inr (slot_ne (Or.inr (hw _ (List.mem_of_getElem? (i := 112) rfl))) (Or.inr (hw _ (List.mem_of_getElem? (i := 114) rfl))) (by decide) (t := (.object "java/lang/String")) (t' := (.object "java/lang/String")) (by decide) (by decide)))).other W135 (Or.inr (slot_ne (Or.inr (hw _ (List.mem_of_getElem? (i := 112) rfl))) (Or.inr (hw _ (List.mem_of_getElem? (i := 116) rfl))) (by decide) (t := (.object "java/lang/String")) (t' := (.object "com/example/partition_planner/partitionplanner/Cardinality")) (by decide) (by decide))))
  have f138 := (Fw130.other W135 (Or.inr (slot_ne (Or.inr (hw _ (List.mem_of_getElem? (i := 114) rfl))) (Or.inr (hw _ (List.mem_of_getElem? (i := 116) rfl))) (by decide) (t := (.object "java/lang/String")) (t' := (.object "com/example/partition_planner/partitionplanner/Cardinality")) (by decide) (by decide))))
  exact GlH.ret X135 e135 hS100 SK135 hh hZ100 hEL CH135 (v := none) (fun _ => rfl) Bd.notSynchronized (fun fs hr => X135.returnOut hx Bd.returns (hb hby d9_91) hr) ⟨N135, rfl, K135, f137, f138⟩ (by decide) (by decide)
theorem d22_0 : decode jdk_42_method_66_code 0 = .ok (.aload_n 0, 1) := by decide +kernel
theorem d22_1 : decode jdk_42_method_66_code 1 = .ok (.aload_n 1, 1) := by decide +kernel
theorem d22_2 : decode jdk_42_method_66_code 2 = .ok (.if_acmp .ne 5, 3) := by decide +kernel
theorem d22_7 : decode jdk_42_method_66_code 7 = .ok (.aload_n 1, 1) := by decide +kernel
theorem d22_8 : decode jdk_42_method_66_code 8 = .ok (.instanceof 10, 3) := by decide +kernel
theorem d22_11 : decode jdk_42_method_66_code 11 = .ok (.ifCond .eq 43, 3) := by decide +kernel
theorem d22_54 : decode jdk_42_method_66_code 54 = .ok (.iconst 0, 1) := by decide +kernel
theorem d22_55 : decode jdk_42_method_66_code 55 = .ok (.ireturn, 1) := by decide +kernel
theorem ef_eqn (m : MethodId) (x0 : Addr) : entryFrame m #[(.ref x0), .null] 3 = mkF m 0 #[.val (.ref x0), .val .null, .unset] [] := by first | (simp [entryFrame, mkF, argsToLocals, Value.category]; done) | rfl
def Qeqn (Z : State) (xs : Addr) (h0 : Heap) (n0 : Nat) (v : Option Value) (h : Heap) (L : List Loc) : Prop := Fr n0 L ∧ (v = some (.int 0) ∧ h = h0)
set_option maxRecDepth 65536 in
set_option maxHeartbeats 40000000 in
theorem rmeqn (l : Launch) (Z : State) (a0 : Array Value) (hw : ∀ d ∈ tables_1, d.before a0 Z = true) (ws : List Jvm.Cond) (xs : Addr) (h0 : Heap) (n0 : Nat) (Z0 : n0 ≤ h0.size) :
    MetFree l (⟨"java/lang/String", "equals", "(Ljava/lang/Object;)Z"⟩ : MethodName) (head1 (Jvm.Cond.code (⟨"java/lang/String", "equals", "(Ljava/lang/Object;)Z"⟩ : MethodName) jdk_42_method_66_code 3 (some .boolean) :: ws) ({ frames := 0, cells := 0, slots := 0, locals := 0 } : Room)) (fun as0 U => as0 = #[(.ref xs), .null] ∧ Z.Warmed39 U.vm ∧ U.heap = h0) (fun _ _ _ _ _ => True) (fun _ U oc0 U' => ∃ v L, oc0 = .returned v ∧ Qeqn Z xs h0 n0 v U'.heap L ∧ FrameEnd U oc0 U' L ({ frames := 0, cells := 0, slots := 0, locals := 0 } : Room).cells ({ frames := 0, cells := 0, slots := 0, locals := 0 } : Room).slots) := by
  refine MetFree.of_bodySF (plainFor_of_name pn_java_lang_String) hisR ?_
  intro p e s m args below meth c s₁ Bd hml0 hP hK
  obtain ⟨rfl, hZ, hh⟩ := hP
  have hx := Bd.exec
  have hby := Bd.bytes
  have hml : c.maxLocals = 3 := hml0
  have hown : s.vm.findClass "java/lang/String" = some m.cls := findClass_of_methodNamed Bd.named
  have hnm := (name_of_methodNamed Bd.named Bd.method).1
  have X0 : Stand p l e ({ frames := 0, cells := 0, slots := 0, locals := 0 } : Room) s m #[(.ref xs), .null] below meth c s₁ [] 0 0 := Stand.of_body Bd
  have e0 : s₁.heap = h0 := by rw [← hh, Bd.state]; rfl
  have N0 := Fr.nil n0
  show Gl p e below s (Qeqn Z xs h0 n0) ({ frames := 0, cells := 0, slots := 0, locals := 0 } : Room).cells ({ frames := 0, cells := 0, slots := 0, locals := 0 } : Room).slots (s₁.setTop (entryFrame m #[(.ref xs), .null] 3))
  refine Gl.back (fun _ k => castTop (ef_eqn m xs) k) ?_
  show Gl _ _ _ _ _ _ _ (s₁.setTop (mkF m 0 #[.val (.ref xs), .val .null, .unset] []))
  refine Gl.back (fun _ k => XS.aloadN X0.here hx rfl (hb hby d22_0) rfl rfl k) ?_
  show Gl _ _ _ _ _ _ _ (s₁.setTop (mkF m 1 #[.val (.ref xs), .val .null, .unset] [(.ref xs)]))
  refine Gl.back (fun _ k => XS.aloadN X0.here hx rfl (hb hby d22_1) rfl rfl k) ?_
  show Gl _ _ _ _ _ _ _ (s₁.setTop (mkF m 2 #[.val (.ref xs), .val .null, .unset] [.null, (.ref xs)]))
  refine Gl.back (fun _ k => Jvm.RoadKit.acmp (g := (mkF m 2 #[.val (.ref xs), .val .null, .unset] [.null, (.ref xs)])) X0 hx rfl rfl rfl (pc0 := 2) (pc' := 7) (same := false) rfl (hb hby d22_2) rfl (decide_eq_false nofun) (by decide) (by decide) k) ?_
  show Gl _ _ _ _ _ _ _ (s₁.setTop (mkF m 7 #[.val (.ref xs), .val .null, .unset] []))
  refine Gl.back (fun _ k => XS.aloadN X0.here hx rfl (hb hby d22_7) rfl rfl k) ?_
  show Gl _ _ _ _ _ _ _ (s₁.setTop (mkF m 8 #[.val (.ref xs), .val .null, .unset] [.null]))
  refine Gl.back (fun _ k => X0.instanceofNull hx (g := (mkF m 8 #[.val (.ref xs), .val .null, .unset] [.null])) rfl rfl (hb hby d22_8) _ k) ?_
  show Gl _ _ _ _ _ _ _ (s₁.setTop (mkF m 11 #[.val (.ref xs), .val .null, .unset] [(.int (0 : Int32))]))
  refine Gl.back (fun _ k => XS.ifYes X0.here hx rfl (pc0 := 11) (pc' := 54) rfl (hb hby d22_11) rfl ((if0 _ _).trans (teq (by decide : (0 : Int32) = (0 : Int32))).1) (by decide) (by decide) k) ?_
  show Gl _ _ _ _ _ _ _ (s₁.setTop (mkF m 54 #[.val (.ref xs), .val .null, .unset] []))
  refine Gl.back (fun _ k => XS.iconst X0.here hx rfl (hb hby d22_54) k) ?_
  show Gl _ _ _ _ _ _ _ (s₁.setTop (mkF m 55 #[.val (.ref xs), .val .null, .unset] [(.int (0 : Int32))]))
  exact Gl.ret X0 e0 (v := (some (.int (0 : Int32)))) (fun h => by rw [Bd.returns] at h; cases h) Bd.notSynchronized (fun fs hr => retN X0 hx (t := .boolean) (z := (0 : Int32)) Bd.returns (by simp) (hb hby d22_55) hr) ⟨N0, rfl, rfl⟩ (by decide) (by decide)
theorem d21_0 : decode prog_25_method_2_code 0 = .ok (.aload_n 0, 1) := by decide +kernel
theorem d21_1 : decode prog_25_method_2_code 1 = .ok (.getfield 41, 3) := by decide +kernel
theorem d21_4 : decode prog_25_method_2_code 4 = .ok (.aload_n 1, 1) := by decide +kernel
theorem d21_5 : decode prog_25_method_2_code 5 = .ok (.invokevirtual 48, 3) := by decide +kernel
theorem pd__Ljava_lang_Object__Z : parseMethodDescriptor "(Ljava/lang/Object;)Z" = some ⟨[(.object "java/lang/Object")], some .boolean⟩ := by decide +kernel
theorem d21_8 : decode prog_25_method_2_code 8 = .ok (.ifCond .ne 14, 3) := by decide +kernel
theorem d21_11 : decode prog_25_method_2_code 11 = .ok (.aload_n 0, 1) := by decide +kernel
theorem d21_12 : decode prog_25_method_2_code 12 = .ok (.getfield 43, 3) := by decide +kernel
theorem d21_15 : decode prog_25_method_2_code 15 = .ok (.aload_n 1, 1) := by decide +kernel
theorem d21_16 : decode prog_25_method_2_code 16 = .ok (.invokevirtual 48, 3) := by decide +kernel
theorem d21_19 : decode prog_25_method_2_code 19 = .ok (.ifCond .eq 7, 3) := by decide +kernel
theorem d21_26 : decode prog_25_method_2_code 26 = .ok (.iconst 0, 1) := by decide +kernel
theorem d21_27 : decode prog_25_method_2_code 27 = .ok (.ireturn, 1) := by decide +kernel
theorem ef_relN (m : MethodId) (x0 : Addr) : entryFrame m #[(.ref x0), .null] 2 = mkF m 0 #[.val (.ref x0), .val .null] [] := by first | (simp [entryFrame, mkF, argsToLocals, Value.category]; done) | rfl
def QrelN (Z : State) (a : Addr) (x1 x2 : Addr) (h0 : Heap) (n0 : Nat) (v : Option Value) (h : Heap) (L : List Loc) : Prop := Fr n0 L ∧ (v = some (.int 0) ∧ h = h0)
set_option maxRecDepth 65536 in
set_option maxHeartbeats 40000000 in
theorem rmrelN (l : Launch) (Z : State) (a0 : Array Value) (hw : ∀ d ∈ tables_1, d.before a0 Z = true) (ws : List Jvm.Cond) (a : Addr) (x1 x2 : Addr) (h0 : Heap) (n0 : Nat) (Z0 : n0 ≤ h0.size) (E_a : Exa Z h0 a "com/example/partition_planner/partitionplanner/Relationship") (F_first : Fld Z h0 a "com/example/partition_planner/partitionplanner/Relationship" "first" "Ljava/lang/String;" (.ref x1)) (F_second : Fld Z h0 a "com/example/partition_planner/partitionplanner/Relationship" "second" "Ljava/lang/String;" (.ref x2)) (E_x1 : Exa Z h0 x1 "java/lang/String") (E_x2 : Exa Z h0 x2 "java/lang/String") :
    MetFree l (⟨"com/example/partition_planner/partitionplanner/Relationship", "relates", "(Ljava/lang/String;)Z"⟩ : MethodName) (head1 (Jvm.Cond.code (⟨"com/example/partition_planner/partitionplanner/Relationship", "relates", "(Ljava/lang/String;)Z"⟩ : MethodName) prog_25_method_2_code 2 (some .boolean) :: ws) ({ frames := 1, cells := 0, slots := 0, locals := 14 } : Room)) (fun as0 U => as0 = #[(.ref a), .null] ∧ Z.Warmed39 U.vm ∧ U.heap = h0) (fun _ _ _ _ _ => True) (fun _ U oc0 U' => ∃ v L, oc0 = .returned v ∧ QrelN Z a x1 x2 h0 n0 v U'.heap L ∧ FrameEnd U oc0 U' L ({ frames := 1, cells := 0, slots := 0, locals := 14 } : Room).cells ({ frames := 1, cells := 0, slots := 0, locals := 14 } : Room).slots) := by
  refine MetFree.of_bodySF (plainFor_of_name pn_com_example_partition_planner_partitionplanner_Relationship) hisR ?_
  intro p e s m args below meth c s₁ Bd hml0 hP hK
  obtain ⟨rfl, hZ, hh⟩ := hP
  have hx := Bd.exec
  have hby := Bd.bytes
  have hml : c.maxLocals = 2 := hml0
  have hown : s.vm.findClass "com/example/partition_planner/partitionplanner/Relationship" = some m.cls := findClass_of_methodNamed Bd.named
  have hnm := (name_of_methodNamed Bd.named Bd.method).1
  have X0 : Stand p l e ({ frames := 1, cells := 0, slots := 0, locals := 14 } : Room) s m #[(.ref a), .null] below meth c s₁ [] 0 0 := Stand.of_body Bd
  have e0 : s₁.heap = h0 := by rw [← hh, Bd.state]; rfl
  have N0 := Fr.nil n0
  show Gl p e below s (QrelN Z a x1 x2 h0 n0) ({ frames := 1, cells := 0, slots := 0, locals := 14 } : Room).cells ({ frames := 1, cells := 0, slots := 0, locals := 14 } : Room).slots (s₁.setTop (entryFrame m #[(.ref a), .null] 2))
  refine Gl.back (fun _ k => castTop (ef_relN m a) k) ?_
  show Gl _ _ _ _ _ _ _ (s₁.setTop (mkF m 0 #[.val (.ref a), .val .null] []))
  refine Gl.back (fun _ k => XS.aloadN X0.here hx rfl (hb hby d21_0) rfl rfl k) ?_
  show Gl _ _ _ _ _ _ _ (s₁.setTop (mkF m 1 #[.val (.ref a), .val .null] [(.ref a)]))
  obtain ⟨T139, X139, e139, st139⟩ := getF X0 hx hZ hown (host := "") (Or.inl (hw _ (List.mem_of_getElem? (i := 111) rfl))) Via.refl e0 F_first (g := (mkF m 1 #[.val (.ref a), .val .null] [(.ref a)])) rfl rfl (hb hby d21_1)
  refine Gl.back (fun _ k => st139 _ k) ?_
  show Gl _ _ _ _ _ _ _ (T139.setTop (mkF m 4 #[.val (.ref a), .val .null] [(.ref x1)]))
  refine Gl.back (fun _ k => XS.aloadN X139.here hx rfl (hb hby d21_4) rfl rfl k) ?_
  show Gl _ _ _ _ _ _ _ (T139.setTop (mkF m 5 #[.val (.ref a), .val .null] [.null, (.ref x1)]))
  obtain ⟨cq140, kq140, q140a, q140b, q140c⟩ := isOf hZ e139 E_x1
  obtain ⟨_, _, ⟨T140, L140, k140, n140⟩, -, X140, ⟨Lc140, hQ140, l140, y140, z140⟩, st140⟩ := X139.virtualBack hx (y := (⟨"java/lang/String", "equals", "(Ljava/lang/Object;)Z"⟩ : MethodName)) (z := (⟨"java/lang/String", "equals", "(Ljava/lang/Object;)Z"⟩ : MethodName)) hown (mvT hZ (hw _ (List.mem_of_getElem? (i := 122) rfl))) (mvT hZ (hw _ (List.mem_of_getElem? (i := 123) rfl))) (notFace_of_selects (args := #[]) (mvT hZ (hw _ (List.mem_of_getElem? (i := 125) rfl)))) (mvT hZ (hw _ (List.mem_of_getElem? (i := 125) rfl))) (mvT hZ (hw _ (List.mem_of_getElem? (i := 124) rfl))) (by decide) (backOf (W := 0) (rmeqn l Z a0 hw [] x1  h0 n0 Z0 ) hZ (hw _ (List.mem_of_getElem? (i := 126) rfl)) (hw _ (List.mem_of_getElem? (i := 12) rfl)) (by decide) (by decide)) q140a q140c (g := (mkF m 5 #[.val (.ref a), .val .null] [.null, (.ref x1)])) rfl (by rw [hml]; rfl) (Steps.refl _) (argsL := [.null]) (rest := []) (lenOf pd__Ljava_lang_Object__Z rfl) rfl (by show 2 * 0 + _ ≤ _; exact Nat.le_of_eq rfl) (hb hby d21_5) (fun _ _ => ⟨rfl, e139, (by decide : 0 + 0 ≤ _), (by decide : 0 + 0 ≤ _)⟩)
  dsimp only [Pt.U, Pt.locs, Pt.cells, Pt.slots] at X140 l140 y140 z140 st140 hQ140
  replace l140 := Eq.symm l140
  replace y140 := Eq.symm y140
  replace z140 := Eq.symm z140
  subst l140 y140 z140
  obtain ⟨Nq140, rfl, eh140⟩ := hQ140
  have N140 := Fr.app N0 Nq140
  refine Gl.back (fun _ k => st140.trans k) ?_
  show Gl _ _ _ _ _ _ _ (T140.setTop (mkF m 8 #[.val (.ref a), .val .null] [(.int (0 : Int32))]))
  refine Gl.back (fun _ k => XS.ifNo X140.here hx rfl (hb hby d21_8) rfl ((if0 _ _).trans (teq (by decide : (0 : Int32) = (0 : Int32))).2) k) ?_
  show Gl _ _ _ _ _ _ _ (T140.setTop (mkF m 11 #[.val (.ref a), .val .null] []))
  refine Gl.back (fun _ k => XS.aloadN X140.here hx rfl (hb hby d21_11) rfl rfl k) ?_
  show Gl _ _ _ _ _ _ _ (T140.setTop (mkF m 12 #[.val (.ref a), .val .null] [(.ref a)]))
  obtain ⟨T141, X141, e141, st141⟩ := getF X140 hx hZ hown (host := "") (Or.inl (hw _ (List.mem_of_getElem? (i := 113) rfl))) Via.refl eh140 F_second (g := (mkF m 12 #[.val (.ref a), .val .null] [(.ref a)])) rfl rfl (hb hby d21_12)
  refine Gl.back (fun _ k => st141 _ k) ?_
  show Gl _ _ _ _ _ _ _ (T141.setTop (mkF m 15 #[.val (.ref a), .val .null] [(.ref x2)]))
  refine Gl.back (fun _ k => XS.aloadN X141.here hx rfl (hb hby d21_15) rfl rfl k) ?_
  show Gl _ _ _ _ _ _ _ (T141.setTop (mkF m 16 #[.val (.ref a), .val .null] [.null, (.ref x2)]))
  obtain ⟨cq142, kq142, q142a, q142b, q142c⟩ := isOf hZ e141 E_x2
  obtain ⟨_, _, ⟨T142, L142, k142, n142⟩, -, X142, ⟨Lc142, hQ142, l142, y142, z142⟩, st142⟩ := X141.virtualBack hx (y := (⟨"java/lang/String", "equals", "(Ljava/lang/Object;)Z"⟩ : MethodName)) (z := (⟨"java/lang/String", "equals", "(Ljava/lang/Object;)Z"⟩ : MethodName)) hown (mvT hZ (hw _ (List.mem_of_getElem? (i := 122) rfl))) (mvT hZ (hw _ (List.mem_of_getElem? (i := 123) rfl))) (notFace_of_selects (args := #[]) (mvT hZ (hw _ (List.mem_of_getElem? (i := 125) rfl)))) (mvT hZ (hw _ (List.mem_of_getElem? (i := 125) rfl))) (mvT hZ (hw _ (List.mem_of_getElem? (i := 124) rfl))) (by decide) (backOf (W := 0) (rmeqn l Z a0 hw [] x2  h0 n0 Z0 ) hZ (hw _ (List.mem_of_getElem? (i := 126) rfl)) (hw _ (List.mem_of_getElem? (i := 12) rfl)) (by decide) (by decide)) q142a q142c (g := (mkF m 16 #[.val (.ref a), .val .null] [.null, (.ref x2)])) rfl (by rw [hml]; rfl) (Steps.refl _) (argsL := [.null]) (rest := []) (lenOf pd__Ljava_lang_Object__Z rfl) rfl (by show 2 * 0 + _ ≤ _; exact Nat.le_of_eq rfl) (hb hby d21_16) (fun _ _ => ⟨rfl, e141, (by decide : 0 + 0 ≤ _), (by decide : 0 + 0 ≤ _)⟩)
  dsimp only [Pt.U, Pt.locs, Pt.cells, Pt.slots] at X142 l142 y142 z142 st142 hQ142
  replace l142 := Eq.symm l142
  replace y142 := Eq.symm y142
  replace z142 := Eq.symm z142
  subst l142 y142 z142
  obtain ⟨Nq142, rfl, eh142⟩ := hQ142
  have N142 := Fr.app N140 Nq142
  refine Gl.back (fun _ k => st142.trans k) ?_
  show Gl _ _ _ _ _ _ _ (T142.setTop (mkF m 19 #[.val (.ref a), .val .null] [(.int (0 : Int32))]))
  refine Gl.back (fun _ k => XS.ifYes X142.here hx rfl (pc0 := 19) (pc' := 26) rfl (hb hby d21_19) rfl ((if0 _ _).trans (teq (by decide : (0 : Int32) = (0 : Int32))).1) (by decide) (by decide) k) ?_
  show Gl _ _ _ _ _ _ _ (T142.setTop (mkF m 26 #[.val (.ref a), .val .null] []))
  refine Gl.back (fun _ k => XS.iconst X142.here hx rfl (hb hby d21_26) k) ?_
  show Gl _ _ _ _ _ _ _ (T142.setTop (mkF m 27 #[.val (.ref a), .val .null] [(.int (0 : Int32))]))
  exact Gl.ret X142 eh142 (v := (some (.int (0 : Int32)))) (fun h => by rw [Bd.returns] at h; cases h) Bd.notSynchronized (fun fs hr => retN X142 hx (t := .boolean) (z := (0 : Int32)) Bd.returns (by simp) (hb hby d21_27) hr) ⟨N142, rfl, rfl⟩ (by decide) (by decide)
theorem d21_22 : decode prog_25_method_2_code 22 = .ok (.iconst 1, 1) := by decide +kernel
theorem d21_23 : decode prog_25_method_2_code 23 = .ok (.goto 4, 3) := by decide +kernel
theorem ef_relY (m : MethodId) (x0 : Addr) (x1 : Addr) : entryFrame m #[(.ref x0), (.ref x1)] 2 = mkF m 0 #[.val (.ref x0), .val (.ref x1)] [] := by first | (simp [entryFrame, mkF, argsToLocals, Value.category]; done) | rfl
def QrelY (Z : State) (a : Addr) (y : Addr) (x1 x2 : Addr) (t_x1 : Addr) (k_x1 : ClassId) (N_x1 : Int32) (v_x1 : List Value) (cs_x1 : List Int32) (t_x2 : Addr) (k_x2 : ClassId) (N_x2 : Int32) (v_x2 : List Value) (cs_x2 : List Int32) (t_y : Addr) (k_y : ClassId) (N_y : Int32) (v_y : List Value) (cs_y : List Int32) (zc : Int32) (h0 : Heap) (n0 : Nat) (v : Option Value) (h : Heap) (L : List Loc) : Prop := Fr n0 L ∧ ((v = some (.int 1) ∧ h = h0 ∧ (cs_x1 = cs_y ∨ cs_x2 = cs_y)) ∨ (v = some (.int 0) ∧ h = h0 ∧ ¬ cs_x1 = cs_y ∧ ¬ cs_x2 = cs_y))
set_option maxRecDepth 65536 in
set_option maxHeartbeats 40000000 in
theorem rmrelY (l : Launch) (Z : State) (a0 : Array Value) (hw : ∀ d ∈ tables_1, d.before a0 Z = true) (ws : List Jvm.Cond) (a : Addr) (y : Addr) (x1 x2 : Addr) (t_x1 : Addr) (k_x1 : ClassId) (N_x1 : Int32) (v_x1 : List Value) (cs_x1 : List Int32) (t_x2 : Addr) (k_x2 : ClassId) (N_x2 : Int32) (v_x2 : List Value) (cs_x2 : List Int32) (t_y : Addr) (k_y : ClassId) (N_y : Int32) (v_y : List Value) (cs_y : List Int32) (zc : Int32) (h0 : Heap) (n0 : Nat) (Z0 : n0 ≤ h0.size) (O0 : Old Z n0 h0) (S_C : Sta Z Z.heap "java/lang/String" "COMPACT_STRINGS" "Z" (.int zc)) (P0 : ¬ zc = 0) (E_a : Exa Z h0 a "com/example/partition_planner/partitionplanner/Relationship") (F_first : Fld Z h0 a "com/example/partition_planner/partitionplanner/Relationship" "first" "Ljava/lang/String;" (.ref x1)) (F_second : Fld Z h0 a "com/example/partition_planner/partitionplanner/Relationship" "second" "Ljava/lang/String;" (.ref x2)) (E_x1 : Exa Z h0 x1 "java/lang/String") (Fc_x1 : Fld Z h0 x1 "java/lang/String" "coder" "B" (.int 0)) (Fv_x1 : Fld Z h0 x1 "java/lang/String" "value" "[B" (.ref t_x1)) (V_x1 : Arv Z h0 t_x1 k_x1 .byte N_x1 v_x1 (.int 0)) (hc_x1 : StrChars.Road.CodA cs_x1 0 N_x1 v_x1) (hb_x1 : ∀ c ∈ cs_x1, ¬ c < 0 ∧ ¬ (65535 : Int32) < c) (hl_x1 : cs_x1.length ≤ 4000) (E_x2 : Exa Z h0 x2 "java/lang/String") (Fc_x2 : Fld Z h0 x2 "java/lang/String" "coder" "B" (.int 0)) (Fv_x2 : Fld Z h0 x2 "java/lang/String" "value" "[B" (.ref t_x2)) (V_x2 : Arv Z h0 t_x2 k_x2 .byte N_x2 v_x2 (.int 0)) (hc_x2 : StrChars.Road.CodA cs_x2 0 N_x2 v_x2) (hb_x2 : ∀ c ∈ cs_x2, ¬ c < 0 ∧ ¬ (65535 : Int32) < c) (hl_x2 : cs_x2.length ≤ 4000) (E_y : Exa Z h0 y "java/lang/String") (Fc_y : Fld Z h0 y "java/lang/String" "coder" "B" (.int 0)) (Fv_y : Fld Z h0 y "java/lang/String" "value" "[B" (.ref t_y)) (V_y : Arv Z h0 t_y k_y .byte N_y v_y (.int 0)) (hc_y : StrChars.Road.CodA cs_y 0 N_y v_y) (hb_y : ∀ c ∈ cs_y, ¬ c < 0 ∧ ¬ (65535 : Int32) < c) (hl_y : cs_y.length ≤ 4000) :
    MetFree l (⟨"com/example/partition_planner/partitionplanner/Relationship", "relates", "(Ljava/lang/String;)Z"⟩ : MethodName) (head1 (Jvm.Cond.code (⟨"com/example/partition_planner/partitionplanner/Relationship", "relates", "(Ljava/lang/String;)Z"⟩ : MethodName) prog_25_method_2_code 2 (some .boolean) :: ws) ({ frames := 2, cells := 0, slots := 0, locals := 28 } : Room)) (fun as0 U => as0 = #[(.ref a), (.ref y)] ∧ Z.Warmed39 U.vm ∧ U.heap = h0) (fun _ _ _ _ _ => True) (fun _ U oc0 U' => ∃ v L, oc0 = .returned v ∧ QrelY Z a y x1 x2 t_x1 k_x1 N_x1 v_x1 cs_x1 t_x2 k_x2 N_x2 v_x2 cs_x2 t_y k_y N_y v_y cs_y zc h0 n0 v U'.heap L ∧ FrameEnd U oc0 U' L ({ frames := 2, cells := 0, slots := 0, locals := 28 } : Room).cells ({ frames := 2, cells := 0, slots := 0, locals := 28 } : Room).slots) := by
  refine MetFree.of_bodySF (plainFor_of_name pn_com_example_partition_planner_partitionplanner_Relationship) hisR ?_
  intro p e s m args below meth c s₁ Bd hml0 hP hK
  obtain ⟨rfl, hZ, hh⟩ := hP
  have hx := Bd.exec
  have hby := Bd.bytes
  have hml : c.maxLocals = 2 := hml0
  have hown : s.vm.findClass "com/example/partition_planner/partitionplanner/Relationship" = some m.cls := findClass_of_methodNamed Bd.named
  have hnm := (name_of_methodNamed Bd.named Bd.method).1
  have X0 : Stand p l e ({ frames := 2, cells := 0, slots := 0, locals := 28 } : Room) s m #[(.ref a), (.ref y)] below meth c s₁ [] 0 0 := Stand.of_body Bd
  have e0 : s₁.heap = h0 := by rw [← hh, Bd.state]; rfl
  have N0 := Fr.nil n0
  show Gl p e below s (QrelY Z a y x1 x2 t_x1 k_x1 N_x1 v_x1 cs_x1 t_x2 k_x2 N_x2 v_x2 cs_x2 t_y k_y N_y v_y cs_y zc h0 n0) ({ frames := 2, cells := 0, slots := 0, locals := 28 } : Room).cells ({ frames := 2, cells := 0, slots := 0, locals := 28 } : Room).slots (s₁.setTop (entryFrame m #[(.ref a), (.ref y)] 2))
  refine Gl.back (fun _ k => castTop (ef_relY m a y) k) ?_
  show Gl _ _ _ _ _ _ _ (s₁.setTop (mkF m 0 #[.val (.ref a), .val (.ref y)] []))
  refine Gl.back (fun _ k => XS.aloadN X0.here hx rfl (hb hby d21_0) rfl rfl k) ?_
  show Gl _ _ _ _ _ _ _ (s₁.setTop (mkF m 1 #[.val (.ref a), .val (.ref y)] [(.ref a)]))
  obtain ⟨T143, X143, e143, st143⟩ := getF X0 hx hZ hown (host := "") (Or.inl (hw _ (List.mem_of_getElem? (i := 111) rfl))) Via.refl e0 F_first (g := (mkF m 1 #[.val (.ref a), .val (.ref y)] [(.ref a)])) rfl rfl (hb hby d21_1)
  refine Gl.back (fun _ k => st143 _ k) ?_
  show Gl _ _ _ _ _ _ _ (T143.setTop (mkF m 4 #[.val (.ref a), .val (.ref y)] [(.ref x1)]))
  refine Gl.back (fun _ k => XS.aloadN X143.here hx rfl (hb hby d21_4) rfl rfl k) ?_
  show Gl _ _ _ _ _ _ _ (T143.setTop (mkF m 5 #[.val (.ref a), .val (.ref y)] [(.ref y), (.ref x1)]))
  have hws145 : ∀ d ∈ StrChars.Road.wordsEq, d.before a0 Z = true := fun d hd => hw d ((by decide +kernel : ∀ d ∈ StrChars.Road.wordsEq, d ∈ tables_1) d hd)
  obtain ⟨cq144, kq144, q144a, q144b, q144c⟩ := isOf hZ e143 E_x1
  obtain ⟨_, _, ⟨T144, L144, k144, n144⟩, -, X144, ⟨Lc144, hQ144, l144, y144, z144⟩, st144⟩ := X143.virtualBack hx (y := (⟨"java/lang/String", "equals", "(Ljava/lang/Object;)Z"⟩ : MethodName)) (z := (⟨"java/lang/String", "equals", "(Ljava/lang/Object;)Z"⟩ : MethodName)) hown (mvT hZ (hw _ (List.mem_of_getElem? (i := 122) rfl))) (mvT hZ (hw _ (List.mem_of_getElem? (i := 123) rfl))) (notFace_of_selects (args := #[]) (mvT hZ (hw _ (List.mem_of_getElem? (i := 125) rfl)))) (mvT hZ (hw _ (List.mem_of_getElem? (i := 125) rfl))) (mvT hZ (hw _ (List.mem_of_getElem? (i := 124) rfl))) (by decide) (StrChars.Road.eqW (W := 0) hZ hws145 (kI := 4) (hw _ (List.mem_of_getElem? (i := 13) rfl)) E_x1 Fv_x1 Fc_x1 V_x1 hc_x1 hb_x1 hl_x1 E_y Fv_y Fc_y V_y hc_y hb_y hl_y ((S_C.ext O0.2)) P0 (by decide) (by decide)) q144a q144c (g := (mkF m 5 #[.val (.ref a), .val (.ref y)] [(.ref y), (.ref x1)])) rfl (by rw [hml]; rfl) (Steps.refl _) (argsL := [(.ref y)]) (rest := []) (lenOf pd__Ljava_lang_Object__Z rfl) rfl (by show 2 * 0 + _ ≤ _; exact Nat.le_of_eq rfl) (hb hby d21_5) (fun _ _ => ⟨rfl, e143, (by decide : 0 + 0 ≤ _), (by decide : 0 + 0 ≤ _)⟩)
  dsimp only [Pt.U, Pt.locs, Pt.cells, Pt.slots] at X144 l144 y144 z144 st144 hQ144
  replace l144 := Eq.symm l144
  replace y144 := Eq.symm y144
  replace z144 := Eq.symm z144
  subst l144 y144 z144
  obtain ⟨hQ144, Le144, eh144⟩ := hQ144
  rcases hQ144 with ⟨rfl, hq144⟩ | ⟨rfl, hq144⟩
  · subst Le144
    have Nq144 : Fr n0 [] := Fr.nil n0
    have N144 := Fr.app N0 Nq144
    refine Gl.back (fun _ k => st144.trans k) ?_
    show Gl _ _ _ _ _ _ _ (T144.setTop (mkF m 8 #[.val (.ref a), .val (.ref y)] [(.int (1 : Int32))]))
    refine Gl.back (fun _ k => XS.ifYes X144.here hx rfl (pc0 := 8) (pc' := 22) rfl (hb hby d21_8) rfl ((if0 _ _).trans (feq (by decide : ¬ (1 : Int32) = (0 : Int32))).2) (by decide) (by decide) k) ?_
    show Gl _ _ _ _ _ _ _ (T144.setTop (mkF m 22 #[.val (.ref a), .val (.ref y)] []))
    refine Gl.back (fun _ k => XS.iconst X144.here hx rfl (hb hby d21_22) k) ?_
    show Gl _ _ _ _ _ _ _ (T144.setTop (mkF m 23 #[.val (.ref a), .val (.ref y)] [(.int (1 : Int32))]))
    refine Gl.back (fun _ k => XS.goto X144.here hx rfl (pc0 := 23) (pc' := 27) rfl (hb hby d21_23) (by decide) (by decide) k) ?_
    show Gl _ _ _ _ _ _ _ (T144.setTop (mkF m 27 #[.val (.ref a), .val (.ref y)] [(.int (1 : Int32))]))
    exact Gl.ret X144 eh144 (v := (some (.int (1 : Int32)))) (fun h => by rw [Bd.returns] at h; cases h) Bd.notSynchronized (fun fs hr => retN X144 hx (t := .boolean) (z := (1 : Int32)) Bd.returns (by simp) (hb hby d21_27) hr) ⟨N144, Or.inl ⟨rfl, rfl, Or.inl hq144⟩⟩ (by decide) (by decide)
  · subst Le144
    have Nq144 : Fr n0 [] := Fr.nil n0
    have N144 := Fr.app N0 Nq144
    refine Gl.back (fun _ k => st144.trans k) ?_
    show Gl _ _ _ _ _ _ _ (T144.setTop (mkF m 8 #[.val (.ref a), .val (.ref y)] [(.int (0 : Int32))]))
    refine Gl.back (fun _ k => XS.ifNo X144.here hx rfl (hb hby d21_8) rfl ((if0 _ _).trans (teq (by decide : (0 : Int32) = (0 : Int32))).2) k) ?_
    show Gl _ _ _ _ _ _ _ (T144.setTop (mkF m 11 #[.val (.ref a), .val (.ref y)] []))
    refine Gl.back (fun _ k => XS.aloadN X144.here hx rfl (hb hby d21_11) rfl rfl k) ?_
    show Gl _ _ _ _ _ _ _ (T144.setTop (mkF m 12 #[.val (.ref a), .val (.ref y)] [(.ref a)]))
    obtain ⟨T146, X146, e146, st146⟩ := getF X144 hx hZ hown (host := "") (Or.inl (hw _ (List.mem_of_getElem? (i := 113) rfl))) Via.refl eh144 F_second (g := (mkF m 12 #[.val (.ref a), .val (.ref y)] [(.ref a)])) rfl rfl (hb hby d21_12)
    refine Gl.back (fun _ k => st146 _ k) ?_
    show Gl _ _ _ _ _ _ _ (T146.setTop (mkF m 15 #[.val (.ref a), .val (.ref y)] [(.ref x2)]))
    refine Gl.back (fun _ k => XS.aloadN X146.here hx rfl (hb hby d21_15) rfl rfl k) ?_
    show Gl _ _ _ _ _ _ _ (T146.setTop (mkF m 16 #[.val (.ref a), .val (.ref y)] [(.ref y), (.ref x2)]))
    have hws148 : ∀ d ∈ StrChars.Road.wordsEq, d.before a0 Z = true := fun d hd => hw d ((by decide +kernel : ∀ d ∈ StrChars.Road.wordsEq, d ∈ tables_1) d hd)
    obtain ⟨cq147, kq147, q147a, q147b, q147c⟩ := isOf hZ e146 E_x2
    obtain ⟨_, _, ⟨T147, L147, k147, n147⟩, -, X147, ⟨Lc147, hQ147, l147, y147, z147⟩, st147⟩ := X146.virtualBack hx (y := (⟨"java/lang/String", "equals", "(Ljava/lang/Object;)Z"⟩ : MethodName)) (z := (⟨"java/lang/String", "equals", "(Ljava/lang/Object;)Z"⟩ : MethodName)) hown (mvT hZ (hw _ (List.mem_of_getElem? (i := 122) rfl))) (mvT hZ (hw _ (List.mem_of_getElem? (i := 123) rfl))) (notFace_of_selects (args := #[]) (mvT hZ (hw _ (List.mem_of_getElem? (i := 125) rfl)))) (mvT hZ (hw _ (List.mem_of_getElem? (i := 125) rfl))) (mvT hZ (hw _ (List.mem_of_getElem? (i := 124) rfl))) (by decide) (StrChars.Road.eqW (W := 0) hZ hws148 (kI := 4) (hw _ (List.mem_of_getElem? (i := 13) rfl)) E_x2 Fv_x2 Fc_x2 V_x2 hc_x2 hb_x2 hl_x2 E_y Fv_y Fc_y V_y hc_y hb_y hl_y ((S_C.ext O0.2)) P0 (by decide) (by decide)) q147a q147c (g := (mkF m 16 #[.val (.ref a), .val (.ref y)] [(.ref y), (.ref x2)])) rfl (by rw [hml]; rfl) (Steps.refl _) (argsL := [(.ref y)]) (rest := []) (lenOf pd__Ljava_lang_Object__Z rfl) rfl (by show 2 * 0 + _ ≤ _; exact Nat.le_of_eq rfl) (hb hby d21_16) (fun _ _ => ⟨rfl, e146, (by decide : 0 + 0 ≤ _), (by decide : 0 + 0 ≤ _)⟩)
    dsimp only [Pt.U, Pt.locs, Pt.cells, Pt.slots] at X147 l147 y147 z147 st147 hQ147
    replace l147 := Eq.symm l147
    replace y147 := Eq.symm y147
    replace z147 := Eq.symm z147
    subst l147 y147 z147
    obtain ⟨hQ147, Le147, eh147⟩ := hQ147
    rcases hQ147 with ⟨rfl, hq147⟩ | ⟨rfl, hq147⟩
    · subst Le147
      have Nq147 : Fr n0 [] := Fr.nil n0
      have N147 := Fr.app N144 Nq147
      refine Gl.back (fun _ k => st147.trans k) ?_
      show Gl _ _ _ _ _ _ _ (T147.setTop (mkF m 19 #[.val (.ref a), .val (.ref y)] [(.int (1 : Int32))]))
      refine Gl.back (fun _ k => XS.ifNo X147.here hx rfl (hb hby d21_19) rfl ((if0 _ _).trans (feq (by decide : ¬ (1 : Int32) = (0 : Int32))).1) k) ?_
      show Gl _ _ _ _ _ _ _ (T147.setTop (mkF m 22 #[.val (.ref a), .val (.ref y)] []))
      refine Gl.back (fun _ k => XS.iconst X147.here hx rfl (hb hby d21_22) k) ?_
      show Gl _ _ _ _ _ _ _ (T147.setTop (mkF m 23 #[.val (.ref a), .val (.ref y)] [(.int (1 : Int32))]))
      refine Gl.back (fun _ k => XS.goto X147.here hx rfl (pc0 := 23) (pc' := 27) rfl (hb hby d21_23) (by decide) (by decide) k) ?_
      show Gl _ _ _ _ _ _ _ (T147.setTop (mkF m 27 #[.val (.ref a), .val (.ref y)] [(.int (1 : Int32))]))
      exact Gl.ret X147 eh147 (v := (some (.int (1 : Int32)))) (fun h => by rw [Bd.returns] at h; cases h) Bd.notSynchronized (fun fs hr => retN X147 hx (t := .boolean) (z := (1 : Int32)) Bd.returns (by simp) (hb hby d21_27) hr) ⟨N147, Or.inl ⟨rfl, rfl, Or.inr hq147⟩⟩ (by decide) (by decide)
    · subst Le147
      have Nq147 : Fr n0 [] := Fr.nil n0
      have N147 := Fr.app N144 Nq147
      refine Gl.back (fun _ k => st147.trans k) ?_
      show Gl _ _ _ _ _ _ _ (T147.setTop (mkF m 19 #[.val (.ref a), .val (.ref y)] [(.int (0 : Int32))]))
      refine Gl.back (fun _ k => XS.ifYes X147.here hx rfl (pc0 := 19) (pc' := 26) rfl (hb hby d21_19) rfl ((if0 _ _).trans (teq (by decide : (0 : Int32) = (0 : Int32))).1) (by decide) (by decide) k) ?_
      show Gl _ _ _ _ _ _ _ (T147.setTop (mkF m 26 #[.val (.ref a), .val (.ref y)] []))
      refine Gl.back (fun _ k => XS.iconst X147.here hx rfl (hb hby d21_26) k) ?_
      show Gl _ _ _ _ _ _ _ (T147.setTop (mkF m 27 #[.val (.ref a), .val (.ref y)] [(.int (0 : Int32))]))
      exact Gl.ret X147 eh147 (v := (some (.int (0 : Int32)))) (fun h => by rw [Bd.returns] at h; cases h) Bd.notSynchronized (fun fs hr => retN X147 hx (t := .boolean) (z := (0 : Int32)) Bd.returns (by simp) (hb hby d21_27) hr) ⟨N147, Or.inr ⟨rfl, rfl, hq144, hq147⟩⟩ (by decide) (by decide)
theorem d24_0 : decode method_4_code 0 = .ok (.iload_n 0, 1) := by decide +kernel
theorem d24_1 : decode method_4_code 1 = .ok (.iload_n 3, 1) := by decide +kernel
theorem d24_2 : decode method_4_code 2 = .ok (.if_icmp .eq 5, 3) := by decide +kernel
theorem d24_7 : decode method_4_code 7 = .ok (.iload_n 0, 1) := by decide +kernel
theorem d24_8 : decode method_4_code 8 = .ok (.ifCond .ne 5, 3) := by decide +kernel
theorem d24_11 : decode method_4_code 11 = .ok (.iconst 1, 1) := by decide +kernel
theorem d24_12 : decode method_4_code 12 = .ok (.ireturn, 1) := by decide +kernel
theorem d24_13 : decode method_4_code 13 = .ok (.iload_n 1, 1) := by decide +kernel
theorem d24_14 : decode method_4_code 14 = .ok (.iload 4, 2) := by decide +kernel
theorem d24_16 : decode method_4_code 16 = .ok (.if_icmp .eq 5, 3) := by decide +kernel
theorem d24_21 : decode method_4_code 21 = .ok (.iload_n 0, 1) := by decide +kernel
theorem d24_22 : decode method_4_code 22 = .ok (.iconst 1, 1) := by decide +kernel
theorem d24_23 : decode method_4_code 23 = .ok (.if_icmp .ne 5, 3) := by decide +kernel
theorem d24_26 : decode method_4_code 26 = .ok (.iconst 1, 1) := by decide +kernel
theorem d24_27 : decode method_4_code 27 = .ok (.ireturn, 1) := by decide +kernel
theorem d24_28 : decode method_4_code 28 = .ok (.iload_n 2, 1) := by decide +kernel
theorem d24_29 : decode method_4_code 29 = .ok (.iload 5, 2) := by decide +kernel
theorem d24_31 : decode method_4_code 31 = .ok (.if_icmp .ne 7, 3) := by decide +kernel
theorem d24_34 : decode method_4_code 34 = .ok (.iconst 1, 1) := by decide +kernel
theorem d24_35 : decode method_4_code 35 = .ok (.goto 4, 3) := by decide +kernel
theorem d24_39 : decode method_4_code 39 = .ok (.ireturn, 1) := by decide +kernel
theorem d24_38 : decode method_4_code 38 = .ok (.iconst 0, 1) := by decide +kernel
theorem d24_19 : decode method_4_code 19 = .ok (.iconst 0, 1) := by decide +kernel
theorem d24_20 : decode method_4_code 20 = .ok (.ireturn, 1) := by decide +kernel
theorem d24_5 : decode method_4_code 5 = .ok (.iconst 0, 1) := by decide +kernel
theorem d24_6 : decode method_4_code 6 = .ok (.ireturn, 1) := by decide +kernel
theorem ef_sm (m : MethodId) (x0 : Int32) (x1 : Int32) (x2 : Int32) (x3 : Int32) (x4 : Int32) (x5 : Int32) : entryFrame m #[(.int x0), (.int x1), (.int x2), (.int x3), (.int x4), (.int x5)] 6 = mkF m 0 #[.val (.int x0), .val (.int x1), .val (.int x2), .val (.int x3), .val (.int x4), .val (.int x5)] [] := by first | (simp [entryFrame, mkF, argsToLocals, Value.category]; done) | rfl
def Qsm (Z : State) (nn : Int32) (cc : Int32) (dd : Int32) (kk : Int32) (ce : Int32) (de : Int32) (h0 : Heap) (n0 : Nat) (v : Option Value) (h : Heap) (L : List Loc) : Prop := Fr n0 L ∧ ((v = some (.int 1) ∧ h = h0 ∧ own_cs nn cc dd = own_cs kk ce de) ∨ (v = some (.int 0) ∧ h = h0 ∧ ¬ own_cs nn cc dd = own_cs kk ce de))
set_option maxRecDepth 65536 in
set_option maxHeartbeats 40000000 in
theorem rmsm (l : Launch) (Z : State) (a0 : Array Value) (hw : ∀ d ∈ tables_1, d.before a0 Z = true) (ws : List Jvm.Cond) (nn : Int32) (cc : Int32) (dd : Int32) (kk : Int32) (ce : Int32) (de : Int32) (h0 : Heap) (n0 : Nat) (Z0 : n0 ≤ h0.size) (hn : nn = 0 ∨ nn = 1 ∨ nn = 2) (hk : kk = 0 ∨ kk = 1 ∨ kk = 2) :
    MetFree l (⟨"com/example/partition_planner/partitionplanner/RelationshipRelatesPinLaw", "same", "(ICCICC)Z"⟩ : MethodName) (head1 (Jvm.Cond.code (⟨"com/example/partition_planner/partitionplanner/RelationshipRelatesPinLaw", "same", "(ICCICC)Z"⟩ : MethodName) method_4_code 6 (some .boolean) :: ws) ({ frames := 0, cells := 0, slots := 0, locals := 0 } : Room)) (fun as0 U => as0 = #[(.int nn), (.int cc), (.int dd), (.int kk), (.int ce), (.int de)] ∧ Z.Warmed39 U.vm ∧ U.heap = h0) (fun _ _ _ _ _ => True) (fun _ U oc0 U' => ∃ v L, oc0 = .returned v ∧ Qsm Z nn cc dd kk ce de h0 n0 v U'.heap L ∧ FrameEnd U oc0 U' L ({ frames := 0, cells := 0, slots := 0, locals := 0 } : Room).cells ({ frames := 0, cells := 0, slots := 0, locals := 0 } : Room).slots) := by
  refine MetFree.of_bodySF (plainFor_of_name pn_com_example_partition_planner_partitionplanner_RelationshipRelatesPinLaw) hisR ?_
  intro p e s m args below meth c s₁ Bd hml0 hP hK
  obtain ⟨rfl, hZ, hh⟩ := hP
  have hx := Bd.exec
  have hby := Bd.bytes
  have hml : c.maxLocals = 6 := hml0
  have hown : s.vm.findClass "com/example/partition_planner/partitionplanner/RelationshipRelatesPinLaw" = some m.cls := findClass_of_methodNamed Bd.named
  have hnm := (name_of_methodNamed Bd.named Bd.method).1
  have X0 : Stand p l e ({ frames := 0, cells := 0, slots := 0, locals := 0 } : Room) s m #[(.int nn), (.int cc), (.int dd), (.int kk), (.int ce), (.int de)] below meth c s₁ [] 0 0 := Stand.of_body Bd
  have e0 : s₁.heap = h0 := by rw [← hh, Bd.state]; rfl
  have N0 := Fr.nil n0
  show Gl p e below s (Qsm Z nn cc dd kk ce de h0 n0) ({ frames := 0, cells := 0, slots := 0, locals := 0 } : Room).cells ({ frames := 0, cells := 0, slots := 0, locals := 0 } : Room).slots (s₁.setTop (entryFrame m #[(.int nn), (.int cc), (.int dd), (.int kk), (.int ce), (.int de)] 6))
  refine Gl.back (fun _ k => castTop (ef_sm m nn cc dd kk ce de) k) ?_
  show Gl _ _ _ _ _ _ _ (s₁.setTop (mkF m 0 #[.val (.int nn), .val (.int cc), .val (.int dd), .val (.int kk), .val (.int ce), .val (.int de)] []))
  refine Gl.back (fun _ k => XS.iloadN X0.here hx rfl (hb hby d24_0) rfl k) ?_
  show Gl _ _ _ _ _ _ _ (s₁.setTop (mkF m 1 #[.val (.int nn), .val (.int cc), .val (.int dd), .val (.int kk), .val (.int ce), .val (.int de)] [(.int nn)]))
  refine Gl.back (fun _ k => XS.iloadN X0.here hx rfl (hb hby d24_1) rfl k) ?_
  show Gl _ _ _ _ _ _ _ (s₁.setTop (mkF m 2 #[.val (.int nn), .val (.int cc), .val (.int dd), .val (.int kk), .val (.int ce), .val (.int de)] [(.int kk), (.int nn)]))
  by_cases hc2_149 : nn = kk
  · refine Gl.back (fun _ k => XS.icmpYes X0.here hx rfl (pc0 := 2) (pc' := 7) rfl (hb hby d24_2) rfl (teq hc2_149).1 (by decide) (by decide) k) ?_
    show Gl _ _ _ _ _ _ _ (s₁.setTop (mkF m 7 #[.val (.int nn), .val (.int cc), .val (.int dd), .val (.int kk), .val (.int ce), .val (.int de)] []))
    refine Gl.back (fun _ k => XS.iloadN X0.here hx rfl (hb hby d24_7) rfl k) ?_
    show Gl _ _ _ _ _ _ _ (s₁.setTop (mkF m 8 #[.val (.int nn), .val (.int cc), .val (.int dd), .val (.int kk), .val (.int ce), .val (.int de)] [(.int nn)]))
    by_cases hc8_150 : nn = (0 : Int32)
    · refine Gl.back (fun _ k => XS.ifNo X0.here hx rfl (hb hby d24_8) rfl ((if0 _ _).trans (teq hc8_150).2) k) ?_
      show Gl _ _ _ _ _ _ _ (s₁.setTop (mkF m 11 #[.val (.int nn), .val (.int cc), .val (.int dd), .val (.int kk), .val (.int ce), .val (.int de)] []))
      refine Gl.back (fun _ k => XS.iconst X0.here hx rfl (hb hby d24_11) k) ?_
      show Gl _ _ _ _ _ _ _ (s₁.setTop (mkF m 12 #[.val (.int nn), .val (.int cc), .val (.int dd), .val (.int kk), .val (.int ce), .val (.int de)] [(.int (1 : Int32))]))
      exact Gl.ret X0 e0 (v := (some (.int (1 : Int32)))) (fun h => by rw [Bd.returns] at h; cases h) Bd.notSynchronized (fun fs hr => retN X0 hx (t := .boolean) (z := (1 : Int32)) Bd.returns (by simp) (hb hby d24_12) hr) ⟨N0, Or.inl ⟨rfl, rfl, own_s2 hc2_149 hc8_150⟩⟩ (by decide) (by decide)
    · refine Gl.back (fun _ k => XS.ifYes X0.here hx rfl (pc0 := 8) (pc' := 13) rfl (hb hby d24_8) rfl ((if0 _ _).trans (feq hc8_150).2) (by decide) (by decide) k) ?_
      show Gl _ _ _ _ _ _ _ (s₁.setTop (mkF m 13 #[.val (.int nn), .val (.int cc), .val (.int dd), .val (.int kk), .val (.int ce), .val (.int de)] []))
      refine Gl.back (fun _ k => XS.iloadN X0.here hx rfl (hb hby d24_13) rfl k) ?_
      show Gl _ _ _ _ _ _ _ (s₁.setTop (mkF m 14 #[.val (.int nn), .val (.int cc), .val (.int dd), .val (.int kk), .val (.int ce), .val (.int de)] [(.int cc)]))
      refine Gl.back (fun _ k => XS.iload X0.here hx rfl (hb hby d24_14) rfl k) ?_
      show Gl _ _ _ _ _ _ _ (s₁.setTop (mkF m 16 #[.val (.int nn), .val (.int cc), .val (.int dd), .val (.int kk), .val (.int ce), .val (.int de)] [(.int ce), (.int cc)]))
      by_cases hc16_151 : cc = ce
      · refine Gl.back (fun _ k => XS.icmpYes X0.here hx rfl (pc0 := 16) (pc' := 21) rfl (hb hby d24_16) rfl (teq hc16_151).1 (by decide) (by decide) k) ?_
        show Gl _ _ _ _ _ _ _ (s₁.setTop (mkF m 21 #[.val (.int nn), .val (.int cc), .val (.int dd), .val (.int kk), .val (.int ce), .val (.int de)] []))
        refine Gl.back (fun _ k => XS.iloadN X0.here hx rfl (hb hby d24_21) rfl k) ?_
        show Gl _ _ _ _ _ _ _ (s₁.setTop (mkF m 22 #[.val (.int nn), .val (.int cc), .val (.int dd), .val (.int kk), .val (.int ce), .val (.int de)] [(.int nn)]))
        refine Gl.back (fun _ k => XS.iconst X0.here hx rfl (hb hby d24_22) k) ?_
        show Gl _ _ _ _ _ _ _ (s₁.setTop (mkF m 23 #[.val (.int nn), .val (.int cc), .val (.int dd), .val (.int kk), .val (.int ce), .val (.int de)] [(.int (1 : Int32)), (.int nn)]))
        by_cases hc23_152 : nn = (1 : Int32)
        · refine Gl.back (fun _ k => XS.icmpNo X0.here hx rfl (hb hby d24_23) rfl (teq hc23_152).2 k) ?_
          show Gl _ _ _ _ _ _ _ (s₁.setTop (mkF m 26 #[.val (.int nn), .val (.int cc), .val (.int dd), .val (.int kk), .val (.int ce), .val (.int de)] []))
          refine Gl.back (fun _ k => XS.iconst X0.here hx rfl (hb hby d24_26) k) ?_
          show Gl _ _ _ _ _ _ _ (s₁.setTop (mkF m 27 #[.val (.int nn), .val (.int cc), .val (.int dd), .val (.int kk), .val (.int ce), .val (.int de)] [(.int (1 : Int32))]))
          exact Gl.ret X0 e0 (v := (some (.int (1 : Int32)))) (fun h => by rw [Bd.returns] at h; cases h) Bd.notSynchronized (fun fs hr => retN X0 hx (t := .boolean) (z := (1 : Int32)) Bd.returns (by simp) (hb hby d24_27) hr) ⟨N0, Or.inl ⟨rfl, rfl, own_s4 hc2_149 hc23_152 hc16_151⟩⟩ (by decide) (by decide)
        · refine Gl.back (fun _ k => XS.icmpYes X0.here hx rfl (pc0 := 23) (pc' := 28) rfl (hb hby d24_23) rfl (feq hc23_152).2 (by decide) (by decide) k) ?_
          show Gl _ _ _ _ _ _ _ (s₁.setTop (mkF m 28 #[.val (.int nn), .val (.int cc), .val (.int dd), .val (.int kk), .val (.int ce), .val (.int de)] []))
          refine Gl.back (fun _ k => XS.iloadN X0.here hx rfl (hb hby d24_28) rfl k) ?_
          show Gl _ _ _ _ _ _ _ (s₁.setTop (mkF m 29 #[.val (.int nn), .val (.int cc), .val (.int dd), .val (.int kk), .val (.int ce), .val (.int de)] [(.int dd)]))
          refine Gl.back (fun _ k => XS.iload X0.here hx rfl (hb hby d24_29) rfl k) ?_
          show Gl _ _ _ _ _ _ _ (s₁.setTop (mkF m 31 #[.val (.int nn), .val (.int cc), .val (.int dd), .val (.int kk), .val (.int ce), .val (.int de)] [(.int de), (.int dd)]))
          by_cases hc31_153 : dd = de
          · refine Gl.back (fun _ k => XS.icmpNo X0.here hx rfl (hb hby d24_31) rfl (teq hc31_153).2 k) ?_
            show Gl _ _ _ _ _ _ _ (s₁.setTop (mkF m 34 #[.val (.int nn), .val (.int cc), .val (.int dd), .val (.int kk), .val (.int ce), .val (.int de)] []))
            refine Gl.back (fun _ k => XS.iconst X0.here hx rfl (hb hby d24_34) k) ?_
            show Gl _ _ _ _ _ _ _ (s₁.setTop (mkF m 35 #[.val (.int nn), .val (.int cc), .val (.int dd), .val (.int kk), .val (.int ce), .val (.int de)] [(.int (1 : Int32))]))
            refine Gl.back (fun _ k => XS.goto X0.here hx rfl (pc0 := 35) (pc' := 39) rfl (hb hby d24_35) (by decide) (by decide) k) ?_
            show Gl _ _ _ _ _ _ _ (s₁.setTop (mkF m 39 #[.val (.int nn), .val (.int cc), .val (.int dd), .val (.int kk), .val (.int ce), .val (.int de)] [(.int (1 : Int32))]))
            exact Gl.ret X0 e0 (v := (some (.int (1 : Int32)))) (fun h => by rw [Bd.returns] at h; cases h) Bd.notSynchronized (fun fs hr => retN X0 hx (t := .boolean) (z := (1 : Int32)) Bd.returns (by simp) (hb hby d24_39) hr) ⟨N0, Or.inl ⟨rfl, rfl, own_s5 hc2_149 hc8_150 hc23_152 hc16_151 hc31_153⟩⟩ (by decide) (by decide)
          · refine Gl.back (fun _ k => XS.icmpYes X0.here hx rfl (pc0 := 31) (pc' := 38) rfl (hb hby d24_31) rfl (feq hc31_153).2 (by decide) (by decide) k) ?_
            show Gl _ _ _ _ _ _ _ (s₁.setTop (mkF m 38 #[.val (.int nn), .val (.int cc), .val (.int dd), .val (.int kk), .val (.int ce), .val (.int de)] []))
            refine Gl.back (fun _ k => XS.iconst X0.here hx rfl (hb hby d24_38) k) ?_
            show Gl _ _ _ _ _ _ _ (s₁.setTop (mkF m 39 #[.val (.int nn), .val (.int cc), .val (.int dd), .val (.int kk), .val (.int ce), .val (.int de)] [(.int (0 : Int32))]))
            exact Gl.ret X0 e0 (v := (some (.int (0 : Int32)))) (fun h => by rw [Bd.returns] at h; cases h) Bd.notSynchronized (fun fs hr => retN X0 hx (t := .boolean) (z := (0 : Int32)) Bd.returns (by simp) (hb hby d24_39) hr) ⟨N0, Or.inr ⟨rfl, rfl, own_s6 hc2_149 hc8_150 hc23_152 hc16_151 hc31_153⟩⟩ (by decide) (by decide)
      · refine Gl.back (fun _ k => XS.icmpNo X0.here hx rfl (hb hby d24_16) rfl (feq hc16_151).1 k) ?_
        show Gl _ _ _ _ _ _ _ (s₁.setTop (mkF m 19 #[.val (.int nn), .val (.int cc), .val (.int dd), .val (.int kk), .val (.int ce), .val (.int de)] []))
        refine Gl.back (fun _ k => XS.iconst X0.here hx rfl (hb hby d24_19) k) ?_
        show Gl _ _ _ _ _ _ _ (s₁.setTop (mkF m 20 #[.val (.int nn), .val (.int cc), .val (.int dd), .val (.int kk), .val (.int ce), .val (.int de)] [(.int (0 : Int32))]))
        exact Gl.ret X0 e0 (v := (some (.int (0 : Int32)))) (fun h => by rw [Bd.returns] at h; cases h) Bd.notSynchronized (fun fs hr => retN X0 hx (t := .boolean) (z := (0 : Int32)) Bd.returns (by simp) (hb hby d24_20) hr) ⟨N0, Or.inr ⟨rfl, rfl, own_s3 hc2_149 hc8_150 hc16_151⟩⟩ (by decide) (by decide)
  · refine Gl.back (fun _ k => XS.icmpNo X0.here hx rfl (hb hby d24_2) rfl (feq hc2_149).1 k) ?_
    show Gl _ _ _ _ _ _ _ (s₁.setTop (mkF m 5 #[.val (.int nn), .val (.int cc), .val (.int dd), .val (.int kk), .val (.int ce), .val (.int de)] []))
    refine Gl.back (fun _ k => XS.iconst X0.here hx rfl (hb hby d24_5) k) ?_
    show Gl _ _ _ _ _ _ _ (s₁.setTop (mkF m 6 #[.val (.int nn), .val (.int cc), .val (.int dd), .val (.int kk), .val (.int ce), .val (.int de)] [(.int (0 : Int32))]))
    exact Gl.ret X0 e0 (v := (some (.int (0 : Int32)))) (fun h => by rw [Bd.returns] at h; cases h) Bd.notSynchronized (fun fs hr => retN X0 hx (t := .boolean) (z := (0 : Int32)) Bd.returns (by simp) (hb hby d24_6) hr) ⟨N0, Or.inr ⟨rfl, rfl, own_s1 hn hk hc2_149⟩⟩ (by decide) (by decide)
theorem pd__I_C : parseMethodDescriptor "(I)C" = some ⟨[.int], some .char⟩ := by decide +kernel
theorem pd__ICC_Ljava_lang_String_ : parseMethodDescriptor "(ICC)Ljava/lang/String;" = some ⟨[.int, .char, .char], some (.object "java/lang/String")⟩ := by decide +kernel
theorem pd__Ljava_lang_String_Ljava_lang_String_Ljava_lang_String_Lcom_example_partition_planner_partitionplanner_Cardinality__V : parseMethodDescriptor "(Ljava/lang/String;Ljava/lang/String;Ljava/lang/String;Lcom/example/partition_planner/partitionplanner/Cardinality;)V" = some ⟨[(.object "java/lang/String"), (.object "java/lang/String"), (.object "java/lang/String"), (.object "com/example/partition_planner/partitionplanner/Cardinality")], none⟩ := by decide +kernel
theorem pd__Ljava_lang_String__Z : parseMethodDescriptor "(Ljava/lang/String;)Z" = some ⟨[(.object "java/lang/String")], some .boolean⟩ := by decide +kernel
theorem pd__ICCICC_Z : parseMethodDescriptor "(ICCICC)Z" = some ⟨[.int, .char, .char, .int, .char, .char], some .boolean⟩ := by decide +kernel
theorem ef_0 (m : MethodId) (x0 : Int32) (x1 : Int32) (x2 : Int32) (x3 : Int32) : entryFrame m #[(.int x0), (.int x1), (.int x2), (.int x3)] maxLocals = mkF m 0 #[.val (.int x0), .val (.int x1), .val (.int x2), .val (.int x3), .unset, .unset, .unset, .unset, .unset, .unset, .unset, .unset, .unset, .unset, .unset, .unset, .unset, .unset, .unset, .unset] [] := by first | (simp [entryFrame, mkF, argsToLocals, Value.category, maxLocals]; done) | rfl
def Q0 (Z : State) (j0 : Int32) (j1 : Int32) (j2 : Int32) (j3 : Int32) (w_ONE_TO_MANY : Addr) (w_MANY_TO_MANY : Addr) (w_ONE_TO_ONE : Addr) (wA wI : Addr) (kA : ClassId) (vsA : List Value) (zc : Int32) (h0 : Heap) (n0 : Nat) (v : Option Value) (h : Heap) (L : List Loc) : Prop := Fr n0 L ∧ (v = some (.int 1))
set_option maxRecDepth 65536 in
set_option maxHeartbeats 40000000 in
theorem rm0 (l : Launch) (Z : State) (a0 : Array Value) (hw : ∀ d ∈ tables_1, d.before a0 Z = true) (ws : List Jvm.Cond) (j0 : Int32) (j1 : Int32) (j2 : Int32) (j3 : Int32) (w_ONE_TO_MANY : Addr) (w_MANY_TO_MANY : Addr) (w_ONE_TO_ONE : Addr) (wA wI : Addr) (kA : ClassId) (vsA : List Value) (zc : Int32) (h0 : Heap) (n0 : Nat) (Z0 : n0 ≤ h0.size) (O0 : Old Z n0 h0) (S_ONE_TO_MANY : Sta Z Z.heap "com/example/partition_planner/partitionplanner/Cardinality" "ONE_TO_MANY" "Lcom/example/partition_planner/partitionplanner/Cardinality;" (.ref w_ONE_TO_MANY)) (S_MANY_TO_MANY : Sta Z Z.heap "com/example/partition_planner/partitionplanner/Cardinality" "MANY_TO_MANY" "Lcom/example/partition_planner/partitionplanner/Cardinality;" (.ref w_MANY_TO_MANY)) (S_ONE_TO_ONE : Sta Z Z.heap "com/example/partition_planner/partitionplanner/Cardinality" "ONE_TO_ONE" "Lcom/example/partition_planner/partitionplanner/Cardinality;" (.ref w_ONE_TO_ONE)) (S_A : Sta Z Z.heap "java/lang/CharacterDataLatin1" "A" "[I" (.ref wA)) (V_A : Arv Z Z.heap wA kA .int (256 : Int32) vsA (.int 0)) (hA : own_A vsA) (S_I : Sta Z Z.heap "java/lang/CharacterDataLatin1" "instance" "Ljava/lang/CharacterDataLatin1;" (.ref wI)) (E_I : Exa Z Z.heap wI "java/lang/CharacterDataLatin1") (S_C : Sta Z Z.heap "java/lang/String" "COMPACT_STRINGS" "Z" (.int zc)) (P0 : ¬ zc = 0) :
    MetFree l x (head1 (Jvm.Cond.code x code maxLocals ret :: ws) room_1) (fun as0 U => as0 = #[(.int j0), (.int j1), (.int j2), (.int j3)] ∧ Z.Warmed39 U.vm ∧ U.heap = h0 ∧ CHv Z consts_1 U.vm h0) (fun _ _ _ _ _ => True) (fun _ U oc0 U' => ∃ v L, oc0 = .returned v ∧ Q0 Z j0 j1 j2 j3 w_ONE_TO_MANY w_MANY_TO_MANY w_ONE_TO_ONE wA wI kA vsA zc h0 n0 v U'.heap L ∧ CHr Z consts_1 U.vm U.heap U'.vm U'.heap ∧ ReturnedEndW U oc0 U' L room_1.cells room_1.slots) := by
  refine MetFree.of_bodySF (plainFor_of_name pn_com_example_partition_planner_partitionplanner_RelationshipRelatesPinLaw) hisR ?_
  intro p e s m args below meth c s₁ Bd hml0 hP hK
  obtain ⟨rfl, hZ, hh, hCH⟩ := hP
  have hx := Bd.exec
  have hby := Bd.bytes
  have hml : c.maxLocals = 20 := hml0
  have hown : s.vm.findClass "com/example/partition_planner/partitionplanner/RelationshipRelatesPinLaw" = some m.cls := findClass_of_methodNamed Bd.named
  have hnm := (name_of_methodNamed Bd.named Bd.method).1
  have X0 : Stand p l e room_1 (s.setVm s.vm) m #[(.int j0), (.int j1), (.int j2), (.int j3)] below meth c s₁ [] 0 0 := Stand.of_body Bd
  have e0 : s₁.heap = h0 := by rw [← hh, Bd.state]; rfl
  have N0 := Fr.nil n0
  have hZ0 : Z.Warmed39 (s.setVm s.vm).vm := hZ
  have hown0 : (s.setVm s.vm).vm.findClass "com/example/partition_planner/partitionplanner/RelationshipRelatesPinLaw" = some m.cls := hown
  have hS0 : s.Since s.vm 0 := (State.WarmedH.refl s).since 0
  have SK0 : 0 ≤ h0.size := Nat.zero_le _
  have hEL : EW Z a0 consts_1 := own_EW hw
  have CH0 : CHr Z consts_1 s.vm h0 (s.setVm s.vm).vm h0 := CHr.refl hCH
  show GlH Z consts_1 p e below s (Q0 Z j0 j1 j2 j3 w_ONE_TO_MANY w_MANY_TO_MANY w_ONE_TO_ONE wA wI kA vsA zc h0 n0) room_1.cells room_1.slots (s₁.setTop (entryFrame m #[(.int j0), (.int j1), (.int j2), (.int j3)] maxLocals))
  refine GlH.back (fun _ k => castTop (ef_0 m j0 j1 j2 j3) k) ?_
  show GlH Z consts_1 _ _ _ _ _ _ _ (s₁.setTop (mkF m 0 #[.val (.int j0), .val (.int j1), .val (.int j2), .val (.int j3), .unset, .unset, .unset, .unset, .unset, .unset, .unset, .unset, .unset, .unset, .unset, .unset, .unset, .unset, .unset, .unset] []))
  refine GlH.back (fun _ k => XS.iconst X0.here hx rfl (hb hby at_0) k) ?_
  show GlH Z consts_1 _ _ _ _ _ _ _ (s₁.setTop (mkF m 1 #[.val (.int j0), .val (.int j1), .val (.int j2), .val (.int j3), .unset, .unset, .unset, .unset, .unset, .unset, .unset, .unset, .unset, .unset, .unset, .unset, .unset, .unset, .unset, .unset] [(.int (1 : Int32))]))
  refine GlH.back (fun _ k => XS.iloadN X0.here hx rfl (hb hby at_1) rfl k) ?_
  show GlH Z consts_1 _ _ _ _ _ _ _ (s₁.setTop (mkF m 2 #[.val (.int j0), .val (.int j1), .val (.int j2), .val (.int j3), .unset, .unset, .unset, .unset, .unset, .unset, .unset, .unset, .unset, .unset, .unset, .unset, .unset, .unset, .unset, .unset] [(.int j0), (.int (1 : Int32))]))
  refine GlH.back (fun _ k => XS.iconst X0.here hx rfl (hb hby at_2) k) ?_
  show GlH Z consts_1 _ _ _ _ _ _ _ (s₁.setTop (mkF m 3 #[.val (.int j0), .val (.int j1), .val (.int j2), .val (.int j3), .unset, .unset, .unset, .unset, .unset, .unset, .unset, .unset, .unset, .unset, .unset, .unset, .unset, .unset, .unset, .unset] [(.int (1 : Int32)), (.int j0), (.int (1 : Int32))]))
  refine GlH.back (fun _ k => XS.iand X0.here hx rfl (hb hby at_3) rfl k) ?_
  show GlH Z consts_1 _ _ _ _ _ _ _ (s₁.setTop (mkF m 4 #[.val (.int j0), .val (.int j1), .val (.int j2), .val (.int j3), .unset, .unset, .unset, .unset, .unset, .unset, .unset, .unset, .unset, .unset, .unset, .unset, .unset, .unset, .unset, .unset] [(.int (j0 &&& (1 : Int32))), (.int (1 : Int32))]))
  refine GlH.back (fun _ k => XS.iadd X0.here hx rfl (hb hby at_4) rfl k) ?_
  show GlH Z consts_1 _ _ _ _ _ _ _ (s₁.setTop (mkF m 5 #[.val (.int j0), .val (.int j1), .val (.int j2), .val (.int j3), .unset, .unset, .unset, .unset, .unset, .unset, .unset, .unset, .unset, .unset, .unset, .unset, .unset, .unset, .unset, .unset] [(.int ((1 : Int32) + (j0 &&& (1 : Int32))))]))
  have hn1 := own_n12 j0
  generalize ((1 : Int32) + (j0 &&& (1 : Int32))) = n1 at *
  show GlH Z consts_1 _ _ _ _ _ _ _ (s₁.setTop (mkF m 5 #[.val (.int j0), .val (.int j1), .val (.int j2), .val (.int j3), .unset, .unset, .unset, .unset, .unset, .unset, .unset, .unset, .unset, .unset, .unset, .unset, .unset, .unset, .unset, .unset] [(.int n1)]))
  refine GlH.back (fun _ k => XS.istore X0.here hx rfl (hb hby at_5) rfl (l' := #[.val (.int j0), .val (.int j1), .val (.int j2), .val (.int j3), .val (.int n1), .unset, .unset, .unset, .unset, .unset, .unset, .unset, .unset, .unset, .unset, .unset, .unset, .unset, .unset, .unset]) rfl k) ?_
  show GlH Z consts_1 _ _ _ _ _ _ _ (s₁.setTop (mkF m 7 #[.val (.int j0), .val (.int j1), .val (.int j2), .val (.int j3), .val (.int n1), .unset, .unset, .unset, .unset, .unset, .unset, .unset, .unset, .unset, .unset, .unset, .unset, .unset, .unset, .unset] []))
  refine GlH.back (fun _ k => XS.iloadN X0.here hx rfl (hb hby at_7) rfl k) ?_
  show GlH Z consts_1 _ _ _ _ _ _ _ (s₁.setTop (mkF m 8 #[.val (.int j0), .val (.int j1), .val (.int j2), .val (.int j3), .val (.int n1), .unset, .unset, .unset, .unset, .unset, .unset, .unset, .unset, .unset, .unset, .unset, .unset, .unset, .unset, .unset] [(.int j0)]))
  refine GlH.back (fun _ k => XS.iconst X0.here hx rfl (hb hby at_8) k) ?_
  show GlH Z consts_1 _ _ _ _ _ _ _ (s₁.setTop (mkF m 9 #[.val (.int j0), .val (.int j1), .val (.int j2), .val (.int j3), .val (.int n1), .unset, .unset, .unset, .unset, .unset, .unset, .unset, .unset, .unset, .unset, .unset, .unset, .unset, .unset, .unset] [(.int (1 : Int32)), (.int j0)]))
  refine GlH.back (fun _ k => XS.iushr X0.here hx rfl (hb hby at_9) rfl k) ?_
  show GlH Z consts_1 _ _ _ _ _ _ _ (s₁.setTop (mkF m 10 #[.val (.int j0), .val (.int j1), .val (.int j2), .val (.int j3), .val (.int n1), .unset, .unset, .unset, .unset, .unset, .unset, .unset, .unset, .unset, .unset, .unset, .unset, .unset, .unset, .unset] [(.int ((j0.toUInt32 >>> ((1 : Int32) &&& 31).toUInt32).toInt32))]))
  refine GlH.back (fun _ k => XS.iconst X0.here hx rfl (hb hby at_10) k) ?_
  show GlH Z consts_1 _ _ _ _ _ _ _ (s₁.setTop (mkF m 11 #[.val (.int j0), .val (.int j1), .val (.int j2), .val (.int j3), .val (.int n1), .unset, .unset, .unset, .unset, .unset, .unset, .unset, .unset, .unset, .unset, .unset, .unset, .unset, .unset, .unset] [(.int (3 : Int32)), (.int ((j0.toUInt32 >>> ((1 : Int32) &&& 31).toUInt32).toInt32))]))
  refine GlH.back (fun _ k => XS.iand X0.here hx rfl (hb hby at_11) rfl k) ?_
  show GlH Z consts_1 _ _ _ _ _ _ _ (s₁.setTop (mkF m 12 #[.val (.int j0), .val (.int j1), .val (.int j2), .val (.int j3), .val (.int n1), .unset, .unset, .unset, .unset, .unset, .unset, .unset, .unset, .unset, .unset, .unset, .unset, .unset, .unset, .unset] [(.int (((j0.toUInt32 >>> ((1 : Int32) &&& 31).toUInt32).toInt32) &&& (3 : Int32)))]))
  obtain ⟨_, _, ⟨T154, L154, k154, n154⟩, -, X154, ⟨Lc154, hQ154, l154, y154, z154⟩, st154⟩ := Jvm.LawKit.callS X0 hx (y := (⟨"com/example/partition_planner/partitionplanner/RelationshipRelatesPinLaw", "ch", "(I)C"⟩ : MethodName)) hown0 (mvT hZ0 (hw _ (List.mem_of_getElem? (i := 0) rfl))) (mvT hZ0 (hw _ (List.mem_of_getElem? (i := 1) rfl))) (mvT hZ0 (hw _ (List.mem_of_getElem? (i := 2) rfl))) (mvT hZ0 (hw _ (List.mem_of_getElem? (i := 3) rfl))) (by decide) (backOf (W := 0) (rmch l Z a0 hw [] (((j0.toUInt32 >>> ((1 : Int32) &&& 31).toUInt32).toInt32) &&& (3 : Int32))  h0 n0 Z0 ) hZ0 (hw _ (List.mem_of_getElem? (i := 3) rfl)) (hw _ (List.mem_of_getElem? (i := 2) rfl)) (by decide) (by decide)) (g := (mkF m 12 #[.val (.int j0), .val (.int j1), .val (.int j2), .val (.int j3), .val (.int n1), .unset, .unset, .unset, .unset, .unset, .unset, .unset, .unset, .unset, .unset, .unset, .unset, .unset, .unset, .unset] [(.int (((j0.toUInt32 >>> ((1 : Int32) &&& 31).toUInt32).toInt32) &&& (3 : Int32)))])) rfl (by rw [hml]; rfl) (argsL := [(.int (((j0.toUInt32 >>> ((1 : Int32) &&& 31).toUInt32).toInt32) &&& (3 : Int32)))]) (rest := []) (lenOf pd__I_C rfl) rfl (by show 2 * 0 + _ ≤ _; exact Nat.le_of_eq rfl) (hb hby at_12) (fun _ _ => ⟨rfl, e0, (by decide : 0 + 0 ≤ _), (by decide : 0 + 0 ≤ _)⟩)
  dsimp only [Pt.U, Pt.locs, Pt.cells, Pt.slots] at X154 l154 y154 z154 st154 hQ154
  replace l154 := Eq.symm l154
  replace y154 := Eq.symm y154
  replace z154 := Eq.symm z154
  subst l154 y154 z154
  obtain ⟨Nq154, r154, rfl, hr154, hw154, eh154⟩ := hQ154
  have N154 := Fr.app N0 Nq154
  refine GlH.back (fun _ k => st154 _ k) ?_
  show GlH Z consts_1 _ _ _ _ _ _ _ (T154.setTop (mkF m 15 #[.val (.int j0), .val (.int j1), .val (.int j2), .val (.int j3), .val (.int n1), .unset, .unset, .unset, .unset, .unset, .unset, .unset, .unset, .unset, .unset, .unset, .unset, .unset, .unset, .unset] [(.int r154)]))
  refine GlH.back (fun _ k => XS.istore X154.here hx rfl (hb hby at_15) rfl (l' := #[.val (.int j0), .val (.int j1), .val (.int j2), .val (.int j3), .val (.int n1), .val (.int r154), .unset, .unset, .unset, .unset, .unset, .unset, .unset, .unset, .unset, .unset, .unset, .unset, .unset, .unset]) rfl k) ?_
  show GlH Z consts_1 _ _ _ _ _ _ _ (T154.setTop (mkF m 17 #[.val (.int j0), .val (.int j1), .val (.int j2), .val (.int j3), .val (.int n1), .val (.int r154), .unset, .unset, .unset, .unset, .unset, .unset, .unset, .unset, .unset, .unset, .unset, .unset, .unset, .unset] []))
  refine GlH.back (fun _ k => XS.iloadN X154.here hx rfl (hb hby at_17) rfl k) ?_
  show GlH Z consts_1 _ _ _ _ _ _ _ (T154.setTop (mkF m 18 #[.val (.int j0), .val (.int j1), .val (.int j2), .val (.int j3), .val (.int n1), .val (.int r154), .unset, .unset, .unset, .unset, .unset, .unset, .unset, .unset, .unset, .unset, .unset, .unset, .unset, .unset] [(.int j0)]))
  refine GlH.back (fun _ k => XS.iconst X154.here hx rfl (hb hby at_18) k) ?_
  show GlH Z consts_1 _ _ _ _ _ _ _ (T154.setTop (mkF m 19 #[.val (.int j0), .val (.int j1), .val (.int j2), .val (.int j3), .val (.int n1), .val (.int r154), .unset, .unset, .unset, .unset, .unset, .unset, .unset, .unset, .unset, .unset, .unset, .unset, .unset, .unset] [(.int (3 : Int32)), (.int j0)]))
  refine GlH.back (fun _ k => XS.iushr X154.here hx rfl (hb hby at_19) rfl k) ?_
  show GlH Z consts_1 _ _ _ _ _ _ _ (T154.setTop (mkF m 20 #[.val (.int j0), .val (.int j1), .val (.int j2), .val (.int j3), .val (.int n1), .val (.int r154), .unset, .unset, .unset, .unset, .unset, .unset, .unset, .unset, .unset, .unset, .unset, .unset, .unset, .unset] [(.int ((j0.toUInt32 >>> ((3 : Int32) &&& 31).toUInt32).toInt32))]))
  obtain ⟨_, _, ⟨T155, L155, k155, n155⟩, -, X155, ⟨Lc155, hQ155, l155, y155, z155⟩, st155⟩ := Jvm.LawKit.callS X154 hx (y := (⟨"com/example/partition_planner/partitionplanner/RelationshipRelatesPinLaw", "ch", "(I)C"⟩ : MethodName)) hown0 (mvT hZ0 (hw _ (List.mem_of_getElem? (i := 0) rfl))) (mvT hZ0 (hw _ (List.mem_of_getElem? (i := 1) rfl))) (mvT hZ0 (hw _ (List.mem_of_getElem? (i := 2) rfl))) (mvT hZ0 (hw _ (List.mem_of_getElem? (i := 3) rfl))) (by decide) (backOf (W := 0) (rmch l Z a0 hw [] ((j0.toUInt32 >>> ((3 : Int32) &&& 31).toUInt32).toInt32)  h0 n0 Z0 ) hZ0 (hw _ (List.mem_of_getElem? (i := 3) rfl)) (hw _ (List.mem_of_getElem? (i := 2) rfl)) (by decide) (by decide)) (g := (mkF m 20 #[.val (.int j0), .val (.int j1), .val (.int j2), .val (.int j3), .val (.int n1), .val (.int r154), .unset, .unset, .unset, .unset, .unset, .unset, .unset, .unset, .unset, .unset, .unset, .unset, .unset, .unset] [(.int ((j0.toUInt32 >>> ((3 : Int32) &&& 31).toUInt32).toInt32))])) rfl (by rw [hml]; rfl) (argsL := [(.int ((j0.toUInt32 >>> ((3 : Int32) &&& 31).toUInt32).toInt32))]) (rest := []) (lenOf pd__I_C rfl) rfl (by show 2 * 0 + _ ≤ _; exact Nat.le_of_eq rfl) (hb hby at_20) (fun _ _ => ⟨rfl, eh154, (by decide : 0 + 0 ≤ _), (by decide : 0 + 0 ≤ _)⟩)
  dsimp only [Pt.U, Pt.locs, Pt.cells, Pt.slots] at X155 l155 y155 z155 st155 hQ155
  replace l155 := Eq.symm l155
  replace y155 := Eq.symm y155
  replace z155 := Eq.symm z155
  subst l155 y155 z155
  obtain ⟨Nq155, r155, rfl, hr155, hw155, eh155⟩ := hQ155
  have N155 := Fr.app N154 Nq155
  refine GlH.back (fun _ k => st155 _ k) ?_
  show GlH Z consts_1 _ _ _ _ _ _ _ (T155.setTop (mkF m 23 #[.val (.int j0), .val (.int j1), .val (.int j2), .val (.int j3), .val (.int n1), .val (.int r154), .unset, .unset, .unset, .unset, .unset, .unset, .unset, .unset, .unset, .unset, .unset, .unset, .unset, .unset] [(.int r155)]))
  refine GlH.back (fun _ k => XS.istore X155.here hx rfl (hb hby at_23) rfl (l' := #[.val (.int j0), .val (.int j1), .val (.int j2), .val (.int j3), .val (.int n1), .val (.int r154), .val (.int r155), .unset, .unset, .unset, .unset, .unset, .unset, .unset, .unset, .unset, .unset, .unset, .unset, .unset]) rfl k) ?_
  show GlH Z consts_1 _ _ _ _ _ _ _ (T155.setTop (mkF m 25 #[.val (.int j0), .val (.int j1), .val (.int j2), .val (.int j3), .val (.int n1), .val (.int r154), .val (.int r155), .unset, .unset, .unset, .unset, .unset, .unset, .unset, .unset, .unset, .unset, .unset, .unset, .unset] []))
  refine GlH.back (fun _ k => XS.iconst X155.here hx rfl (hb hby at_25) k) ?_
  show GlH Z consts_1 _ _ _ _ _ _ _ (T155.setTop (mkF m 26 #[.val (.int j0), .val (.int j1), .val (.int j2), .val (.int j3), .val (.int n1), .val (.int r154), .val (.int r155), .unset, .unset, .unset, .unset, .unset, .unset, .unset, .unset, .unset, .unset, .unset, .unset, .unset] [(.int (1 : Int32))]))
  refine GlH.back (fun _ k => XS.iloadN X155.here hx rfl (hb hby at_26) rfl k) ?_
  show GlH Z consts_1 _ _ _ _ _ _ _ (T155.setTop (mkF m 27 #[.val (.int j0), .val (.int j1), .val (.int j2), .val (.int j3), .val (.int n1), .val (.int r154), .val (.int r155), .unset, .unset, .unset, .unset, .unset, .unset, .unset, .unset, .unset, .unset, .unset, .unset, .unset] [(.int j1), (.int (1 : Int32))]))
  refine GlH.back (fun _ k => XS.iconst X155.here hx rfl (hb hby at_27) k) ?_
  show GlH Z consts_1 _ _ _ _ _ _ _ (T155.setTop (mkF m 28 #[.val (.int j0), .val (.int j1), .val (.int j2), .val (.int j3), .val (.int n1), .val (.int r154), .val (.int r155), .unset, .unset, .unset, .unset, .unset, .unset, .unset, .unset, .unset, .unset, .unset, .unset, .unset] [(.int (1 : Int32)), (.int j1), (.int (1 : Int32))]))
  refine GlH.back (fun _ k => XS.iand X155.here hx rfl (hb hby at_28) rfl k) ?_
  show GlH Z consts_1 _ _ _ _ _ _ _ (T155.setTop (mkF m 29 #[.val (.int j0), .val (.int j1), .val (.int j2), .val (.int j3), .val (.int n1), .val (.int r154), .val (.int r155), .unset, .unset, .unset, .unset, .unset, .unset, .unset, .unset, .unset, .unset, .unset, .unset, .unset] [(.int (j1 &&& (1 : Int32))), (.int (1 : Int32))]))
  refine GlH.back (fun _ k => XS.iadd X155.here hx rfl (hb hby at_29) rfl k) ?_
  show GlH Z consts_1 _ _ _ _ _ _ _ (T155.setTop (mkF m 30 #[.val (.int j0), .val (.int j1), .val (.int j2), .val (.int j3), .val (.int n1), .val (.int r154), .val (.int r155), .unset, .unset, .unset, .unset, .unset, .unset, .unset, .unset, .unset, .unset, .unset, .unset, .unset] [(.int ((1 : Int32) + (j1 &&& (1 : Int32))))]))
  have hn2 := own_n12 j1
  generalize ((1 : Int32) + (j1 &&& (1 : Int32))) = n2 at *
  show GlH Z consts_1 _ _ _ _ _ _ _ (T155.setTop (mkF m 30 #[.val (.int j0), .val (.int j1), .val (.int j2), .val (.int j3), .val (.int n1), .val (.int r154), .val (.int r155), .unset, .unset, .unset, .unset, .unset, .unset, .unset, .unset, .unset, .unset, .unset, .unset, .unset] [(.int n2)]))
  refine GlH.back (fun _ k => XS.istore X155.here hx rfl (hb hby at_30) rfl (l' := #[.val (.int j0), .val (.int j1), .val (.int j2), .val (.int j3), .val (.int n1), .val (.int r154), .val (.int r155), .val (.int n2), .unset, .unset, .unset, .unset, .unset, .unset, .unset, .unset, .unset, .unset, .unset, .unset]) rfl k) ?_
  show GlH Z consts_1 _ _ _ _ _ _ _ (T155.setTop (mkF m 32 #[.val (.int j0), .val (.int j1), .val (.int j2), .val (.int j3), .val (.int n1), .val (.int r154), .val (.int r155), .val (.int n2), .unset, .unset, .unset, .unset, .unset, .unset, .unset, .unset, .unset, .unset, .unset, .unset] []))
  refine GlH.back (fun _ k => XS.iloadN X155.here hx rfl (hb hby at_32) rfl k) ?_
  show GlH Z consts_1 _ _ _ _ _ _ _ (T155.setTop (mkF m 33 #[.val (.int j0), .val (.int j1), .val (.int j2), .val (.int j3), .val (.int n1), .val (.int r154), .val (.int r155), .val (.int n2), .unset, .unset, .unset, .unset, .unset, .unset, .unset, .unset, .unset, .unset, .unset, .unset] [(.int j1)]))
  refine GlH.back (fun _ k => XS.iconst X155.here hx rfl (hb hby at_33) k) ?_
  show GlH Z consts_1 _ _ _ _ _ _ _ (T155.setTop (mkF m 34 #[.val (.int j0), .val (.int j1), .val (.int j2), .val (.int j3), .val (.int n1), .val (.int r154), .val (.int r155), .val (.int n2), .unset, .unset, .unset, .unset, .unset, .unset, .unset, .unset, .unset, .unset, .unset, .unset] [(.int (1 : Int32)), (.int j1)]))
  refine GlH.back (fun _ k => XS.iushr X155.here hx rfl (hb hby at_34) rfl k) ?_
  show GlH Z consts_1 _ _ _ _ _ _ _ (T155.setTop (mkF m 35 #[.val (.int j0), .val (.int j1), .val (.int j2), .val (.int j3), .val (.int n1), .val (.int r154), .val (.int r155), .val (.int n2), .unset, .unset, .unset, .unset, .unset, .unset, .unset, .unset, .unset, .unset, .unset, .unset] [(.int ((j1.toUInt32 >>> ((1 : Int32) &&& 31).toUInt32).toInt32))]))
  refine GlH.back (fun _ k => XS.iconst X155.here hx rfl (hb hby at_35) k) ?_
  show GlH Z consts_1 _ _ _ _ _ _ _ (T155.setTop (mkF m 36 #[.val (.int j0), .val (.int j1), .val (.int j2), .val (.int j3), .val (.int n1), .val (.int r154), .val (.int r155), .val (.int n2), .unset, .unset, .unset, .unset, .unset, .unset, .unset, .unset, .unset, .unset, .unset, .unset] [(.int (3 : Int32)), (.int ((j1.toUInt32 >>> ((1 : Int32) &&& 31).toUInt32).toInt32))]))
  refine GlH.back (fun _ k => XS.iand X155.here hx rfl (hb hby at_36) rfl k) ?_
  show GlH Z consts_1 _ _ _ _ _ _ _ (T155.setTop (mkF m 37 #[.val (.int j0), .val (.int j1), .val (.int j2), .val (.int j3), .val (.int n1), .val (.int r154), .val (.int r155), .val (.int n2), .unset, .unset, .unset, .unset, .unset, .unset, .unset, .unset, .unset, .unset, .unset, .unset] [(.int (((j1.toUInt32 >>> ((1 : Int32) &&& 31).toUInt32).toInt32) &&& (3 : Int32)))]))
  obtain ⟨_, _, ⟨T156, L156, k156, n156⟩, -, X156, ⟨Lc156, hQ156, l156, y156, z156⟩, st156⟩ := Jvm.LawKit.callS X155 hx (y := (⟨"com/example/partition_planner/partitionplanner/RelationshipRelatesPinLaw", "ch", "(I)C"⟩ : MethodName)) hown0 (mvT hZ0 (hw _ (List.mem_of_getElem? (i := 0) rfl))) (mvT hZ0 (hw _ (List.mem_of_getElem? (i := 1) rfl))) (mvT hZ0 (hw _ (List.mem_of_getElem? (i := 2) rfl))) (mvT hZ0 (hw _ (List.mem_of_getElem? (i := 3) rfl))) (by decide) (backOf (W := 0) (rmch l Z a0 hw [] (((j1.toUInt32 >>> ((1 : Int32) &&& 31).toUInt32).toInt32) &&& (3 : Int32))  h0 n0 Z0 ) hZ0 (hw _ (List.mem_of_getElem? (i := 3) rfl)) (hw _ (List.mem_of_getElem? (i := 2) rfl)) (by decide) (by decide)) (g := (mkF m 37 #[.val (.int j0), .val (.int j1), .val (.int j2), .val (.int j3), .val (.int n1), .val (.int r154), .val (.int r155), .val (.int n2), .unset, .unset, .unset, .unset, .unset, .unset, .unset, .unset, .unset, .unset, .unset, .unset] [(.int (((j1.toUInt32 >>> ((1 : Int32) &&& 31).toUInt32).toInt32) &&& (3 : Int32)))])) rfl (by rw [hml]; rfl) (argsL := [(.int (((j1.toUInt32 >>> ((1 : Int32) &&& 31).toUInt32).toInt32) &&& (3 : Int32)))]) (rest := []) (lenOf pd__I_C rfl) rfl (by show 2 * 0 + _ ≤ _; exact Nat.le_of_eq rfl) (hb hby at_37) (fun _ _ => ⟨rfl, eh155, (by decide : 0 + 0 ≤ _), (by decide : 0 + 0 ≤ _)⟩)
  dsimp only [Pt.U, Pt.locs, Pt.cells, Pt.slots] at X156 l156 y156 z156 st156 hQ156
  replace l156 := Eq.symm l156
  replace y156 := Eq.symm y156
  replace z156 := Eq.symm z156
  subst l156 y156 z156
  obtain ⟨Nq156, r156, rfl, hr156, hw156, eh156⟩ := hQ156
  have N156 := Fr.app N155 Nq156
  refine GlH.back (fun _ k => st156 _ k) ?_
  show GlH Z consts_1 _ _ _ _ _ _ _ (T156.setTop (mkF m 40 #[.val (.int j0), .val (.int j1), .val (.int j2), .val (.int j3), .val (.int n1), .val (.int r154), .val (.int r155), .val (.int n2), .unset, .unset, .unset, .unset, .unset, .unset, .unset, .unset, .unset, .unset, .unset, .unset] [(.int r156)]))
  refine GlH.back (fun _ k => XS.istore X156.here hx rfl (hb hby at_40) rfl (l' := #[.val (.int j0), .val (.int j1), .val (.int j2), .val (.int j3), .val (.int n1), .val (.int r154), .val (.int r155), .val (.int n2), .val (.int r156), .unset, .unset, .unset, .unset, .unset, .unset, .unset, .unset, .unset, .unset, .unset]) rfl k) ?_
  show GlH Z consts_1 _ _ _ _ _ _ _ (T156.setTop (mkF m 42 #[.val (.int j0), .val (.int j1), .val (.int j2), .val (.int j3), .val (.int n1), .val (.int r154), .val (.int r155), .val (.int n2), .val (.int r156), .unset, .unset, .unset, .unset, .unset, .unset, .unset, .unset, .unset, .unset, .unset] []))
  refine GlH.back (fun _ k => XS.iloadN X156.here hx rfl (hb hby at_42) rfl k) ?_
  show GlH Z consts_1 _ _ _ _ _ _ _ (T156.setTop (mkF m 43 #[.val (.int j0), .val (.int j1), .val (.int j2), .val (.int j3), .val (.int n1), .val (.int r154), .val (.int r155), .val (.int n2), .val (.int r156), .unset, .unset, .unset, .unset, .unset, .unset, .unset, .unset, .unset, .unset, .unset] [(.int j1)]))
  refine GlH.back (fun _ k => XS.iconst X156.here hx rfl (hb hby at_43) k) ?_
  show GlH Z consts_1 _ _ _ _ _ _ _ (T156.setTop (mkF m 44 #[.val (.int j0), .val (.int j1), .val (.int j2), .val (.int j3), .val (.int n1), .val (.int r154), .val (.int r155), .val (.int n2), .val (.int r156), .unset, .unset, .unset, .unset, .unset, .unset, .unset, .unset, .unset, .unset, .unset] [(.int (3 : Int32)), (.int j1)]))
  refine GlH.back (fun _ k => XS.iushr X156.here hx rfl (hb hby at_44) rfl k) ?_
  show GlH Z consts_1 _ _ _ _ _ _ _ (T156.setTop (mkF m 45 #[.val (.int j0), .val (.int j1), .val (.int j2), .val (.int j3), .val (.int n1), .val (.int r154), .val (.int r155), .val (.int n2), .val (.int r156), .unset, .unset, .unset, .unset, .unset, .unset, .unset, .unset, .unset, .unset, .unset] [(.int ((j1.toUInt32 >>> ((3 : Int32) &&& 31).toUInt32).toInt32))]))
  obtain ⟨_, _, ⟨T157, L157, k157, n157⟩, -, X157, ⟨Lc157, hQ157, l157, y157, z157⟩, st157⟩ := Jvm.LawKit.callS X156 hx (y := (⟨"com/example/partition_planner/partitionplanner/RelationshipRelatesPinLaw", "ch", "(I)C"⟩ : MethodName)) hown0 (mvT hZ0 (hw _ (List.mem_of_getElem? (i := 0) rfl))) (mvT hZ0 (hw _ (List.mem_of_getElem? (i := 1) rfl))) (mvT hZ0 (hw _ (List.mem_of_getElem? (i := 2) rfl))) (mvT hZ0 (hw _ (List.mem_of_getElem? (i := 3) rfl))) (by decide) (backOf (W := 0) (rmch l Z a0 hw [] ((j1.toUInt32 >>> ((3 : Int32) &&& 31).toUInt32).toInt32)  h0 n0 Z0 ) hZ0 (hw _ (List.mem_of_getElem? (i := 3) rfl)) (hw _ (List.mem_of_getElem? (i := 2) rfl)) (by decide) (by decide)) (g := (mkF m 45 #[.val (.int j0), .val (.int j1), .val (.int j2), .val (.int j3), .val (.int n1), .val (.int r154), .val (.int r155), .val (.int n2), .val (.int r156), .unset, .unset, .unset, .unset, .unset, .unset, .unset, .unset, .unset, .unset, .unset] [(.int ((j1.toUInt32 >>> ((3 : Int32) &&& 31).toUInt32).toInt32))])) rfl (by rw [hml]; rfl) (argsL := [(.int ((j1.toUInt32 >>> ((3 : Int32) &&& 31).toUInt32).toInt32))]) (rest := []) (lenOf pd__I_C rfl) rfl (by show 2 * 0 + _ ≤ _; exact Nat.le_of_eq rfl) (hb hby at_45) (fun _ _ => ⟨rfl, eh156, (by decide : 0 + 0 ≤ _), (by decide : 0 + 0 ≤ _)⟩)
  dsimp only [Pt.U, Pt.locs, Pt.cells, Pt.slots] at X157 l157 y157 z157 st157 hQ157
  replace l157 := Eq.symm l157
  replace y157 := Eq.symm y157
  replace z157 := Eq.symm z157
  subst l157 y157 z157
  obtain ⟨Nq157, r157, rfl, hr157, hw157, eh157⟩ := hQ157
  have N157 := Fr.app N156 Nq157
  refine GlH.back (fun _ k => st157 _ k) ?_
  show GlH Z consts_1 _ _ _ _ _ _ _ (T157.setTop (mkF m 48 #[.val (.int j0), .val (.int j1), .val (.int j2), .val (.int j3), .val (.int n1), .val (.int r154), .val (.int r155), .val (.int n2), .val (.int r156), .unset, .unset, .unset, .unset, .unset, .unset, .unset, .unset, .unset, .unset, .unset] [(.int r157)]))
  refine GlH.back (fun _ k => XS.istore X157.here hx rfl (hb hby at_48) rfl (l' := #[.val (.int j0), .val (.int j1), .val (.int j2), .val (.int j3), .val (.int n1), .val (.int r154), .val (.int r155), .val (.int n2), .val (.int r156), .val (.int r157), .unset, .unset, .unset, .unset, .unset, .unset, .unset, .unset, .unset, .unset]) rfl k) ?_
  show GlH Z consts_1 _ _ _ _ _ _ _ (T157.setTop (mkF m 50 #[.val (.int j0), .val (.int j1), .val (.int j2), .val (.int j3), .val (.int n1), .val (.int r154), .val (.int r155), .val (.int n2), .val (.int r156), .val (.int r157), .unset, .unset, .unset, .unset, .unset, .unset, .unset, .unset, .unset, .unset] []))
  refine GlH.back (fun _ k => XS.iloadN X157.here hx rfl (hb hby at_50) rfl k) ?_
  show GlH Z consts_1 _ _ _ _ _ _ _ (T157.setTop (mkF m 51 #[.val (.int j0), .val (.int j1), .val (.int j2), .val (.int j3), .val (.int n1), .val (.int r154), .val (.int r155), .val (.int n2), .val (.int r156), .val (.int r157), .unset, .unset, .unset, .unset, .unset, .unset, .unset, .unset, .unset, .unset] [(.int j2)]))
  refine GlH.back (fun _ k => XS.iconst X157.here hx rfl (hb hby at_51) k) ?_
  show GlH Z consts_1 _ _ _ _ _ _ _ (T157.setTop (mkF m 52 #[.val (.int j0), .val (.int j1), .val (.int j2), .val (.int j3), .val (.int n1), .val (.int r154), .val (.int r155), .val (.int n2), .val (.int r156), .val (.int r157), .unset, .unset, .unset, .unset, .unset, .unset, .unset, .unset, .unset, .unset] [(.int (3 : Int32)), (.int j2)]))
  refine GlH.back (fun _ k => XS.iand X157.here hx rfl (hb hby at_52) rfl k) ?_
  show GlH Z consts_1 _ _ _ _ _ _ _ (T157.setTop (mkF m 53 #[.val (.int j0), .val (.int j1), .val (.int j2), .val (.int j3), .val (.int n1), .val (.int r154), .val (.int r155), .val (.int n2), .val (.int r156), .val (.int r157), .unset, .unset, .unset, .unset, .unset, .unset, .unset, .unset, .unset, .unset] [(.int (j2 &&& (3 : Int32)))]))
  refine GlH.back (fun _ k => XS.istore X157.here hx rfl (hb hby at_53) rfl (l' := #[.val (.int j0), .val (.int j1), .val (.int j2), .val (.int j3), .val (.int n1), .val (.int r154), .val (.int r155), .val (.int n2), .val (.int r156), .val (.int r157), .val (.int (j2 &&& (3 : Int32))), .unset, .unset, .unset, .unset, .unset, .unset, .unset, .unset, .unset]) rfl k) ?_
  show GlH Z consts_1 _ _ _ _ _ _ _ (T157.setTop (mkF m 55 #[.val (.int j0), .val (.int j1), .val (.int j2), .val (.int j3), .val (.int n1), .val (.int r154), .val (.int r155), .val (.int n2), .val (.int r156), .val (.int r157), .val (.int (j2 &&& (3 : Int32))), .unset, .unset, .unset, .unset, .unset, .unset, .unset, .unset, .unset] []))
  have J64 : ∀ (kk : Int32) (hkk : kk = 0 ∨ kk = 1 ∨ kk = 2), GlH Z consts_1  p e below s (Q0 Z j0 j1 j2 j3 w_ONE_TO_MANY w_MANY_TO_MANY w_ONE_TO_ONE wA wI kA vsA zc h0 n0) room_1.cells room_1.slots (T157.setTop (mkF m 64 #[.val (.int j0), .val (.int j1), .val (.int j2), .val (.int j3), .val (.int n1), .val (.int r154), .val (.int r155), .val (.int n2), .val (.int r156), .val (.int r157), .val (.int kk), .unset, .unset, .unset, .unset, .unset, .unset, .unset, .unset, .unset] [])) := by
    intro kk hkk
    show GlH Z consts_1 _ _ _ _ _ _ _ (T157.setTop (mkF m 64 #[.val (.int j0), .val (.int j1), .val (.int j2), .val (.int j3), .val (.int n1), .val (.int r154), .val (.int r155), .val (.int n2), .val (.int r156), .val (.int r157), .val (.int kk), .unset, .unset, .unset, .unset, .unset, .unset, .unset, .unset, .unset] []))
    have J80 : ∀ (nu : Int32), GlH Z consts_1  p e below s (Q0 Z j0 j1 j2 j3 w_ONE_TO_MANY w_MANY_TO_MANY w_ONE_TO_ONE wA wI kA vsA zc h0 n0) room_1.cells room_1.slots (T157.setTop (mkF m 80 #[.val (.int j0), .val (.int j1), .val (.int j2), .val (.int j3), .val (.int n1), .val (.int r154), .val (.int r155), .val (.int n2), .val (.int r156), .val (.int r157), .val (.int kk), .val (.int nu), .unset, .unset, .unset, .unset, .unset, .unset, .unset, .unset] [])) := by
      intro nu
      show GlH Z consts_1 _ _ _ _ _ _ _ (T157.setTop (mkF m 80 #[.val (.int j0), .val (.int j1), .val (.int j2), .val (.int j3), .val (.int n1), .val (.int r154), .val (.int r155), .val (.int n2), .val (.int r156), .val (.int r157), .val (.int kk), .val (.int nu), .unset, .unset, .unset, .unset, .unset, .unset, .unset, .unset] []))
      refine GlH.back (fun _ k => XS.iloadN X157.here hx rfl (hb hby at_80) rfl k) ?_
      show GlH Z consts_1 _ _ _ _ _ _ _ (T157.setTop (mkF m 81 #[.val (.int j0), .val (.int j1), .val (.int j2), .val (.int j3), .val (.int n1), .val (.int r154), .val (.int r155), .val (.int n2), .val (.int r156), .val (.int r157), .val (.int kk), .val (.int nu), .unset, .unset, .unset, .unset, .unset, .unset, .unset, .unset] [(.int j2)]))
      refine GlH.back (fun _ k => XS.iconst X157.here hx rfl (hb hby at_81) k) ?_
      show GlH Z consts_1 _ _ _ _ _ _ _ (T157.setTop (mkF m 82 #[.val (.int j0), .val (.int j1), .val (.int j2), .val (.int j3), .val (.int n1), .val (.int r154), .val (.int r155), .val (.int n2), .val (.int r156), .val (.int r157), .val (.int kk), .val (.int nu), .unset, .unset, .unset, .unset, .unset, .unset, .unset, .unset] [(.int (5 : Int32)), (.int j2)]))
      refine GlH.back (fun _ k => XS.iushr X157.here hx rfl (hb hby at_82) rfl k) ?_
      show GlH Z consts_1 _ _ _ _ _ _ _ (T157.setTop (mkF m 83 #[.val (.int j0), .val (.int j1), .val (.int j2), .val (.int j3), .val (.int n1), .val (.int r154), .val (.int r155), .val (.int n2), .val (.int r156), .val (.int r157), .val (.int kk), .val (.int nu), .unset, .unset, .unset, .unset, .unset, .unset, .unset, .unset] [(.int ((j2.toUInt32 >>> ((5 : Int32) &&& 31).toUInt32).toInt32))]))
      obtain ⟨_, _, ⟨T158, L158, k158, n158⟩, -, X158, ⟨Lc158, hQ158, l158, y158, z158⟩, st158⟩ := Jvm.LawKit.callS X157 hx (y := (⟨"com/example/partition_planner/partitionplanner/RelationshipRelatesPinLaw", "ch", "(I)C"⟩ : MethodName)) hown0 (mvT hZ0 (hw _ (List.mem_of_getElem? (i := 0) rfl))) (mvT hZ0 (hw _ (List.mem_of_getElem? (i := 1) rfl))) (mvT hZ0 (hw _ (List.mem_of_getElem? (i := 2) rfl))) (mvT hZ0 (hw _ (List.mem_of_getElem? (i := 3) rfl))) (by decide) (backOf (W := 0) (rmch l Z a0 hw [] ((j2.toUInt32 >>> ((5 : Int32) &&& 31).toUInt32).toInt32)  h0 n0 Z0 ) hZ0 (hw _ (List.mem_of_getElem? (i := 3) rfl)) (hw _ (List.mem_of_getElem? (i := 2) rfl)) (by decide) (by decide)) (g := (mkF m 83 #[.val (.int j0), .val (.int j1), .val (.int j2), .val (.int j3), .val (.int n1), .val (.int r154), .val (.int r155), .val (.int n2), .val (.int r156), .val (.int r157), .val (.int kk), .val (.int nu), .unset, .unset, .unset, .unset, .unset, .unset, .unset, .unset] [(.int ((j2.toUInt32 >>> ((5 : Int32) &&& 31).toUInt32).toInt32))])) rfl (by rw [hml]; rfl) (argsL := [(.int ((j2.toUInt32 >>> ((5 : Int32) &&& 31).toUInt32).toInt32))]) (rest := []) (lenOf pd__I_C rfl) rfl (by show 2 * 0 + _ ≤ _; exact Nat.le_of_eq rfl) (hb hby at_83) (fun _ _ => ⟨rfl, eh157, (by decide : 0 + 0 ≤ _), (by decide : 0 + 0 ≤ _)⟩)
      dsimp only [Pt.U, Pt.locs, Pt.cells, Pt.slots] at X158 l158 y158 z158 st158 hQ158
      replace l158 := Eq.symm l158
      replace y158 := Eq.symm y158
      replace z158 := Eq.symm z158
      subst l158 y158 z158
      obtain ⟨Nq158, r158, rfl, hr158, hw158, eh158⟩ := hQ158
      have N158 := Fr.app N157 Nq158
      refine GlH.back (fun _ k => st158 _ k) ?_
      show GlH Z consts_1 _ _ _ _ _ _ _ (T158.setTop (mkF m 86 #[.val (.int j0), .val (.int j1), .val (.int j2), .val (.int j3), .val (.int n1), .val (.int r154), .val (.int r155), .val (.int n2), .val (.int r156), .val (.int r157), .val (.int kk), .val (.int nu), .unset, .unset, .unset, .unset, .unset, .unset, .unset, .unset] [(.int r158)]))
      refine GlH.back (fun _ k => XS.istore X158.here hx rfl (hb hby at_86) rfl (l' := #[.val (.int j0), .val (.int j1), .val (.int j2), .val (.int j3), .val (.int n1), .val (.int r154), .val (.int r155), .val (.int n2), .val (.int r156), .val (.int r157), .val (.int kk), .val (.int nu), .val (.int r158), .unset, .unset, .unset, .unset, .unset, .unset, .unset]) rfl k) ?_
      show GlH Z consts_1 _ _ _ _ _ _ _ (T158.setTop (mkF m 88 #[.val (.int j0), .val (.int j1), .val (.int j2), .val (.int j3), .val (.int n1), .val (.int r154), .val (.int r155), .val (.int n2), .val (.int r156), .val (.int r157), .val (.int kk), .val (.int nu), .val (.int r158), .unset, .unset, .unset, .unset, .unset, .unset, .unset] []))
      refine GlH.back (fun _ k => XS.iloadN X158.here hx rfl (hb hby at_88) rfl k) ?_
      show GlH Z consts_1 _ _ _ _ _ _ _ (T158.setTop (mkF m 89 #[.val (.int j0), .val (.int j1), .val (.int j2), .val (.int j3), .val (.int n1), .val (.int r154), .val (.int r155), .val (.int n2), .val (.int r156), .val (.int r157), .val (.int kk), .val (.int nu), .val (.int r158), .unset, .unset, .unset, .unset, .unset, .unset, .unset] [(.int j2)]))
      refine GlH.back (fun _ k => XS.bipush X158.here hx rfl (hb hby at_89) k) ?_
      show GlH Z consts_1 _ _ _ _ _ _ _ (T158.setTop (mkF m 91 #[.val (.int j0), .val (.int j1), .val (.int j2), .val (.int j3), .val (.int n1), .val (.int r154), .val (.int r155), .val (.int n2), .val (.int r156), .val (.int r157), .val (.int kk), .val (.int nu), .val (.int r158), .unset, .unset, .unset, .unset, .unset, .unset, .unset] [(.int (8 : Int32)), (.int j2)]))
      refine GlH.back (fun _ k => XS.iushr X158.here hx rfl (hb hby at_91) rfl k) ?_
      show GlH Z consts_1 _ _ _ _ _ _ _ (T158.setTop (mkF m 92 #[.val (.int j0), .val (.int j1), .val (.int j2), .val (.int j3), .val (.int n1), .val (.int r154), .val (.int r155), .val (.int n2), .val (.int r156), .val (.int r157), .val (.int kk), .val (.int nu), .val (.int r158), .unset, .unset, .unset, .unset, .unset, .unset, .unset] [(.int ((j2.toUInt32 >>> ((8 : Int32) &&& 31).toUInt32).toInt32))]))
      obtain ⟨_, _, ⟨T159, L159, k159, n159⟩, -, X159, ⟨Lc159, hQ159, l159, y159, z159⟩, st159⟩ := Jvm.LawKit.callS X158 hx (y := (⟨"com/example/partition_planner/partitionplanner/RelationshipRelatesPinLaw", "ch", "(I)C"⟩ : MethodName)) hown0 (mvT hZ0 (hw _ (List.mem_of_getElem? (i := 0) rfl))) (mvT hZ0 (hw _ (List.mem_of_getElem? (i := 1) rfl))) (mvT hZ0 (hw _ (List.mem_of_getElem? (i := 2) rfl))) (mvT hZ0 (hw _ (List.mem_of_getElem? (i := 3) rfl))) (by decide) (backOf (W := 0) (rmch l Z a0 hw [] ((j2.toUInt32 >>> ((8 : Int32) &&& 31).toUInt32).toInt32)  h0 n0 Z0 ) hZ0 (hw _ (List.mem_of_getElem? (i := 3) rfl)) (hw _ (List.mem_of_getElem? (i := 2) rfl)) (by decide) (by decide)) (g := (mkF m 92 #[.val (.int j0), .val (.int j1), .val (.int j2), .val (.int j3), .val (.int n1), .val (.int r154), .val (.int r155), .val (.int n2), .val (.int r156), .val (.int r157), .val (.int kk), .val (.int nu), .val (.int r158), .unset, .unset, .unset, .unset, .unset, .unset, .unset] [(.int ((j2.toUInt32 >>> ((8 : Int32) &&& 31).toUInt32).toInt32))])) rfl (by rw [hml]; rfl) (argsL := [(.int ((j2.toUInt32 >>> ((8 : Int32) &&& 31).toUInt32).toInt32))]) (rest := []) (lenOf pd__I_C rfl) rfl (by show 2 * 0 + _ ≤ _; exact Nat.le_of_eq rfl) (hb hby at_92) (fun _ _ => ⟨rfl, eh158, (by decide : 0 + 0 ≤ _), (by decide : 0 + 0 ≤ _)⟩)
      dsimp only [Pt.U, Pt.locs, Pt.cells, Pt.slots] at X159 l159 y159 z159 st159 hQ159
      replace l159 := Eq.symm l159
      replace y159 := Eq.symm y159
      replace z159 := Eq.symm z159
      subst l159 y159 z159
      obtain ⟨Nq159, r159, rfl, hr159, hw159, eh159⟩ := hQ159
      have N159 := Fr.app N158 Nq159
      refine GlH.back (fun _ k => st159 _ k) ?_
      show GlH Z consts_1 _ _ _ _ _ _ _ (T159.setTop (mkF m 95 #[.val (.int j0), .val (.int j1), .val (.int j2), .val (.int j3), .val (.int n1), .val (.int r154), .val (.int r155), .val (.int n2), .val (.int r156), .val (.int r157), .val (.int kk), .val (.int nu), .val (.int r158), .unset, .unset, .unset, .unset, .unset, .unset, .unset] [(.int r159)]))
      refine GlH.back (fun _ k => XS.istore X159.here hx rfl (hb hby at_95) rfl (l' := #[.val (.int j0), .val (.int j1), .val (.int j2), .val (.int j3), .val (.int n1), .val (.int r154), .val (.int r155), .val (.int n2), .val (.int r156), .val (.int r157), .val (.int kk), .val (.int nu), .val (.int r158), .val (.int r159), .unset, .unset, .unset, .unset, .unset, .unset]) rfl k) ?_
      show GlH Z consts_1 _ _ _ _ _ _ _ (T159.setTop (mkF m 97 #[.val (.int j0), .val (.int j1), .val (.int j2), .val (.int j3), .val (.int n1), .val (.int r154), .val (.int r155), .val (.int n2), .val (.int r156), .val (.int r157), .val (.int kk), .val (.int nu), .val (.int r158), .val (.int r159), .unset, .unset, .unset, .unset, .unset, .unset] []))
      refine GlH.back (fun _ k => XS.iloadN X159.here hx rfl (hb hby at_97) rfl k) ?_
      show GlH Z consts_1 _ _ _ _ _ _ _ (T159.setTop (mkF m 98 #[.val (.int j0), .val (.int j1), .val (.int j2), .val (.int j3), .val (.int n1), .val (.int r154), .val (.int r155), .val (.int n2), .val (.int r156), .val (.int r157), .val (.int kk), .val (.int nu), .val (.int r158), .val (.int r159), .unset, .unset, .unset, .unset, .unset, .unset] [(.int j3)]))
      refine GlH.back (fun _ k => X159.ldcInt hx hown0 (mvT hZ0 (hw _ (List.mem_of_getElem? (i := 4) rfl))) (g := (mkF m 98 #[.val (.int j0), .val (.int j1), .val (.int j2), .val (.int j3), .val (.int n1), .val (.int r154), .val (.int r155), .val (.int n2), .val (.int r156), .val (.int r157), .val (.int kk), .val (.int nu), .val (.int r158), .val (.int r159), .unset, .unset, .unset, .unset, .unset, .unset] [(.int j3)])) rfl (hb hby at_98) _ k) ?_
      show GlH Z consts_1 _ _ _ _ _ _ _ (T159.setTop (mkF m 100 #[.val (.int j0), .val (.int j1), .val (.int j2), .val (.int j3), .val (.int n1), .val (.int r154), .val (.int r155), .val (.int n2), .val (.int r156), .val (.int r157), .val (.int kk), .val (.int nu), .val (.int r158), .val (.int r159), .unset, .unset, .unset, .unset, .unset, .unset] [(.int (2147483647 : Int32)), (.int j3)]))
      refine GlH.back (fun _ k => XS.iand X159.here hx rfl (hb hby at_100) rfl k) ?_
      show GlH Z consts_1 _ _ _ _ _ _ _ (T159.setTop (mkF m 101 #[.val (.int j0), .val (.int j1), .val (.int j2), .val (.int j3), .val (.int n1), .val (.int r154), .val (.int r155), .val (.int n2), .val (.int r156), .val (.int r157), .val (.int kk), .val (.int nu), .val (.int r158), .val (.int r159), .unset, .unset, .unset, .unset, .unset, .unset] [(.int (j3 &&& (2147483647 : Int32)))]))
      refine GlH.back (fun _ k => XS.iconst X159.here hx rfl (hb hby at_101) k) ?_
      show GlH Z consts_1 _ _ _ _ _ _ _ (T159.setTop (mkF m 102 #[.val (.int j0), .val (.int j1), .val (.int j2), .val (.int j3), .val (.int n1), .val (.int r154), .val (.int r155), .val (.int n2), .val (.int r156), .val (.int r157), .val (.int kk), .val (.int nu), .val (.int r158), .val (.int r159), .unset, .unset, .unset, .unset, .unset, .unset] [(.int (3 : Int32)), (.int (j3 &&& (2147483647 : Int32)))]))
      refine GlH.back (fun _ k => iremM X159 hx rfl (hb hby at_102) rfl (by decide) k) ?_
      show GlH Z consts_1 _ _ _ _ _ _ _ (T159.setTop (mkF m 103 #[.val (.int j0), .val (.int j1), .val (.int j2), .val (.int j3), .val (.int n1), .val (.int r154), .val (.int r155), .val (.int n2), .val (.int r156), .val (.int r157), .val (.int kk), .val (.int nu), .val (.int r158), .val (.int r159), .unset, .unset, .unset, .unset, .unset, .unset] [(.int ((j3 &&& (2147483647 : Int32)) % (3 : Int32)))]))
      refine GlH.back (fun _ k => XS.istore X159.here hx rfl (hb hby at_103) rfl (l' := #[.val (.int j0), .val (.int j1), .val (.int j2), .val (.int j3), .val (.int n1), .val (.int r154), .val (.int r155), .val (.int n2), .val (.int r156), .val (.int r157), .val (.int kk), .val (.int nu), .val (.int r158), .val (.int r159), .val (.int ((j3 &&& (2147483647 : Int32)) % (3 : Int32))), .unset, .unset, .unset, .unset, .unset]) rfl k) ?_
      show GlH Z consts_1 _ _ _ _ _ _ _ (T159.setTop (mkF m 105 #[.val (.int j0), .val (.int j1), .val (.int j2), .val (.int j3), .val (.int n1), .val (.int r154), .val (.int r155), .val (.int n2), .val (.int r156), .val (.int r157), .val (.int kk), .val (.int nu), .val (.int r158), .val (.int r159), .val (.int ((j3 &&& (2147483647 : Int32)) % (3 : Int32))), .unset, .unset, .unset, .unset, .unset] []))
      refine GlH.back (fun _ k => XS.iload X159.here hx rfl (hb hby at_105) rfl k) ?_
      show GlH Z consts_1 _ _ _ _ _ _ _ (T159.setTop (mkF m 107 #[.val (.int j0), .val (.int j1), .val (.int j2), .val (.int j3), .val (.int n1), .val (.int r154), .val (.int r155), .val (.int n2), .val (.int r156), .val (.int r157), .val (.int kk), .val (.int nu), .val (.int r158), .val (.int r159), .val (.int ((j3 &&& (2147483647 : Int32)) % (3 : Int32))), .unset, .unset, .unset, .unset, .unset] [(.int ((j3 &&& (2147483647 : Int32)) % (3 : Int32)))]))
      by_cases hc107_160 : ((j3 &&& (2147483647 : Int32)) % (3 : Int32)) = (0 : Int32)
      · refine GlH.back (fun _ k => XS.ifNo X159.here hx rfl (hb hby at_107) rfl ((if0 _ _).trans (teq hc107_160).2) k) ?_
        show GlH Z consts_1 _ _ _ _ _ _ _ (T159.setTop (mkF m 110 #[.val (.int j0), .val (.int j1), .val (.int j2), .val (.int j3), .val (.int n1), .val (.int r154), .val (.int r155), .val (.int n2), .val (.int r156), .val (.int r157), .val (.int kk), .val (.int nu), .val (.int r158), .val (.int r159), .val (.int ((j3 &&& (2147483647 : Int32)) % (3 : Int32))), .unset, .unset, .unset, .unset, .unset] []))
        obtain ⟨T161, X161, e161, st161⟩ := getS2 X159 hx hZ0 hown0 (host := "") (Or.inl (hw _ (List.mem_of_getElem? (i := 137) rfl))) Via.refl eh159 (S_ONE_TO_ONE.ext O0.2) (g := (mkF m 110 #[.val (.int j0), .val (.int j1), .val (.int j2), .val (.int j3), .val (.int n1), .val (.int r154), .val (.int r155), .val (.int n2), .val (.int r156), .val (.int r157), .val (.int kk), .val (.int nu), .val (.int r158), .val (.int r159), .val (.int ((j3 &&& (2147483647 : Int32)) % (3 : Int32))), .unset, .unset, .unset, .unset, .unset] [])) rfl (hb hby at_110)
        refine GlH.back (fun _ k => st161 _ k) ?_
        show GlH Z consts_1 _ _ _ _ _ _ _ (T161.setTop (mkF m 113 #[.val (.int j0), .val (.int j1), .val (.int j2), .val (.int j3), .val (.int n1), .val (.int r154), .val (.int r155), .val (.int n2), .val (.int r156), .val (.int r157), .val (.int kk), .val (.int nu), .val (.int r158), .val (.int r159), .val (.int ((j3 &&& (2147483647 : Int32)) % (3 : Int32))), .unset, .unset, .unset, .unset, .unset] [(.ref w_ONE_TO_ONE)]))
        refine GlH.back (fun _ k => XS.astore X161.here hx rfl (hb hby at_113) rfl rfl (l' := #[.val (.int j0), .val (.int j1), .val (.int j2), .val (.int j3), .val (.int n1), .val (.int r154), .val (.int r155), .val (.int n2), .val (.int r156), .val (.int r157), .val (.int kk), .val (.int nu), .val (.int r158), .val (.int r159), .val (.int ((j3 &&& (2147483647 : Int32)) % (3 : Int32))), .val (.ref w_ONE_TO_ONE), .unset, .unset, .unset, .unset]) rfl k) ?_
        show GlH Z consts_1 _ _ _ _ _ _ _ (T161.setTop (mkF m 115 #[.val (.int j0), .val (.int j1), .val (.int j2), .val (.int j3), .val (.int n1), .val (.int r154), .val (.int r155), .val (.int n2), .val (.int r156), .val (.int r157), .val (.int kk), .val (.int nu), .val (.int r158), .val (.int r159), .val (.int ((j3 &&& (2147483647 : Int32)) % (3 : Int32))), .val (.ref w_ONE_TO_ONE), .unset, .unset, .unset, .unset] []))
        refine GlH.back (fun _ k => XS.goto X161.here hx rfl (pc0 := 115) (pc' := 137) rfl (hb hby at_115) (by decide) (by decide) k) ?_
        show GlH Z consts_1 _ _ _ _ _ _ _ (T161.setTop (mkF m 137 #[.val (.int j0), .val (.int j1), .val (.int j2), .val (.int j3), .val (.int n1), .val (.int r154), .val (.int r155), .val (.int n2), .val (.int r156), .val (.int r157), .val (.int kk), .val (.int nu), .val (.int r158), .val (.int r159), .val (.int ((j3 &&& (2147483647 : Int32)) % (3 : Int32))), .val (.ref w_ONE_TO_ONE), .unset, .unset, .unset, .unset] []))
        obtain ⟨T162, h162, X162, e162, E162, A162, D162, -, st162⟩ := newO X161 hx hZ0 hown0 (hw _ (List.mem_of_getElem? (i := 8) rfl)) (hw _ (List.mem_of_getElem? (i := 9) rfl)) (hw _ (List.mem_of_getElem? (i := 10) rfl)) e161 (g := (mkF m 137 #[.val (.int j0), .val (.int j1), .val (.int j2), .val (.int j3), .val (.int n1), .val (.int r154), .val (.int r155), .val (.int n2), .val (.int r156), .val (.int r157), .val (.int kk), .val (.int nu), .val (.int r158), .val (.int r159), .val (.int ((j3 &&& (2147483647 : Int32)) % (3 : Int32))), .val (.ref w_ONE_TO_ONE), .unset, .unset, .unset, .unset] [])) rfl (hb hby at_137) (by decide) (by decide)
        obtain ⟨b162, g162⟩ : ∃ z, z = h0.size := ⟨_, rfl⟩
        rw [← g162] at A162 D162 st162
        have g_b162 : n0 ≤ b162 := Nat.le_trans Z0 (Nat.le_of_eq g162.symm)
        have sz_b162 : h0.size ≤ b162 := Nat.le_trans (Keep.refl h0 []).1 (Nat.le_of_eq g162.symm)
        have Z162 : n0 ≤ h162.size := Nat.le_trans Z0 E162.1
        have K162 := Keep.ext (Keep.refl h0 []) E162
        have O162 := Old.ext O0 E162
        have SK162 := Nat.le_trans SK0 E162.1
        have CH162 := CHr.trans CH0 (CHr.ext E162 CH0.1)
        have F162_name : Fld Z h162 b162 "com/example/partition_planner/partitionplanner/Relationship" "name" "Ljava/lang/String;" .null := D162 (Or.inr (hw _ (List.mem_of_getElem? (i := 110) rfl))) (ty := (.object "java/lang/String")) (by decide)
        have F162_first : Fld Z h162 b162 "com/example/partition_planner/partitionplanner/Relationship" "first" "Ljava/lang/String;" .null := D162 (Or.inr (hw _ (List.mem_of_getElem? (i := 112) rfl))) (ty := (.object "java/lang/String")) (by decide)
        have F162_second : Fld Z h162 b162 "com/example/partition_planner/partitionplanner/Relationship" "second" "Ljava/lang/String;" .null := D162 (Or.inr (hw _ (List.mem_of_getElem? (i := 114) rfl))) (ty := (.object "java/lang/String")) (by decide)
        have F162_cardinality : Fld Z h162 b162 "com/example/partition_planner/partitionplanner/Relationship" "cardinality" "Lcom/example/partition_planner/partitionplanner/Cardinality;" .null := D162 (Or.inr (hw _ (List.mem_of_getElem? (i := 116) rfl))) (ty := (.object "com/example/partition_planner/partitionplanner/Cardinality")) (by decide)
        refine GlH.back (fun _ k => st162 _ k) ?_
        show GlH Z consts_1 _ _ _ _ _ _ _ (T162.setTop (mkF m 140 #[.val (.int j0), .val (.int j1), .val (.int j2), .val (.int j3), .val (.int n1), .val (.int r154), .val (.int r155), .val (.int n2), .val (.int r156), .val (.int r157), .val (.int kk), .val (.int nu), .val (.int r158), .val (.int r159), .val (.int ((j3 &&& (2147483647 : Int32)) % (3 : Int32))), .val (.ref w_ONE_TO_ONE), .unset, .unset, .unset, .unset] [(.ref b162)]))
        refine GlH.back (fun _ k => XS.dup X162.here hx rfl (hb hby at_140) rfl rfl k) ?_
        show GlH Z consts_1 _ _ _ _ _ _ _ (T162.setTop (mkF m 141 #[.val (.int j0), .val (.int j1), .val (.int j2), .val (.int j3), .val (.int n1), .val (.int r154), .val (.int r155), .val (.int n2), .val (.int r156), .val (.int r157), .val (.int kk), .val (.int nu), .val (.int r158), .val (.int r159), .val (.int ((j3 &&& (2147483647 : Int32)) % (3 : Int32))), .val (.ref w_ONE_TO_ONE), .unset, .unset, .unset, .unset] [(.ref b162), (.ref b162)]))
        have wS : ∀ d ∈ Bundle.stringAtoms, d.before a0 Z = true := fun d hd => hw d ((by decide +kernel : ∀ d ∈ Bundle.stringAtoms, d ∈ tables_1) d hd)
        obtain ⟨b163, T163, h163, k1163, t163, k0163, X163, e163, E163, hS163, SK163, hZ163, hown163, Ea163, Fc163, Fv163, Va163, lt163a, lt163b, CHq163, Lt163, hne163, st163⟩ := ldcCH X162 hx hZ0 hown0 (hw _ (List.mem_of_getElem? (i := 11) rfl)) wS e162 hS0 SK162 hEL (by decide +kernel) CH162.1 (vs := [(.int (114 : Int32))]) (z := (1 : Int32)) ⟨by decide +kernel, by decide +kernel⟩ (by decide) (by decide) (g := (mkF m 141 #[.val (.int j0), .val (.int j1), .val (.int j2), .val (.int j3), .val (.int n1), .val (.int r154), .val (.int r155), .val (.int n2), .val (.int r156), .val (.int r157), .val (.int kk), .val (.int nu), .val (.int r158), .val (.int r159), .val (.int ((j3 &&& (2147483647 : Int32)) % (3 : Int32))), .val (.ref w_ONE_TO_ONE), .unset, .unset, .unset, .unset] [(.ref b162), (.ref b162)])) rfl (hb hby at_141) (n := 4) (by decide +kernel) (by decide) (by decide) (by decide)
        have Z163 : n0 ≤ h163.size := Nat.le_trans Z162 E163.1
        have K163 := Keep.ext K162 E163
        have O163 := Old.ext O162 E163
        have CH163 := CHr.trans CH162 CHq163
        have f164 := (A162.ext E163)
        have ne_b162_b163 : b162 ≠ b163 := (hne163 _ (Safe.exa hZ163.alike f164 (by decide) (by decide))).1
        have ne_b162_t163 : b162 ≠ t163 := (hne163 _ (Safe.exa hZ163.alike f164 (by decide) (by decide))).2
        refine GlH.back (fun _ k => st163 _ k) ?_
        show GlH Z consts_1 _ _ _ _ _ _ _ (T163.setTop (mkF m 143 #[.val (.int j0), .val (.int j1), .val (.int j2), .val (.int j3), .val (.int n1), .val (.int r154), .val (.int r155), .val (.int n2), .val (.int r156), .val (.int r157), .val (.int kk), .val (.int nu), .val (.int r158), .val (.int r159), .val (.int ((j3 &&& (2147483647 : Int32)) % (3 : Int32))), .val (.ref w_ONE_TO_ONE), .unset, .unset, .unset, .unset] [(.ref b163), (.ref b162), (.ref b162)]))
        refine GlH.back (fun _ k => XS.iload X163.here hx rfl (hb hby at_143) rfl k) ?_
        show GlH Z consts_1 _ _ _ _ _ _ _ (T163.setTop (mkF m 145 #[.val (.int j0), .val (.int j1), .val (.int j2), .val (.int j3), .val (.int n1), .val (.int r154), .val (.int r155), .val (.int n2), .val (.int r156), .val (.int r157), .val (.int kk), .val (.int nu), .val (.int r158), .val (.int r159), .val (.int ((j3 &&& (2147483647 : Int32)) % (3 : Int32))), .val (.ref w_ONE_TO_ONE), .unset, .unset, .unset, .unset] [(.int n1), (.ref b163), (.ref b162), (.ref b162)]))
        refine GlH.back (fun _ k => XS.iload X163.here hx rfl (hb hby at_145) rfl k) ?_
        show GlH Z consts_1 _ _ _ _ _ _ _ (T163.setTop (mkF m 147 #[.val (.int j0), .val (.int j1), .val (.int j2), .val (.int j3), .val (.int n1), .val (.int r154), .val (.int r155), .val (.int n2), .val (.int r156), .val (.int r157), .val (.int kk), .val (.int nu), .val (.int r158), .val (.int r159), .val (.int ((j3 &&& (2147483647 : Int32)) % (3 : Int32))), .val (.ref w_ONE_TO_ONE), .unset, .unset, .unset, .unset] [(.int r154), (.int n1), (.ref b163), (.ref b162), (.ref b162)]))
        refine GlH.back (fun _ k => XS.iload X163.here hx rfl (hb hby at_147) rfl k) ?_
        show GlH Z consts_1 _ _ _ _ _ _ _ (T163.setTop (mkF m 149 #[.val (.int j0), .val (.int j1), .val (.int j2), .val (.int j3), .val (.int n1), .val (.int r154), .val (.int r155), .val (.int n2), .val (.int r156), .val (.int r157), .val (.int kk), .val (.int nu), .val (.int r158), .val (.int r159), .val (.int ((j3 &&& (2147483647 : Int32)) % (3 : Int32))), .val (.ref w_ONE_TO_ONE), .unset, .unset, .unset, .unset] [(.int r155), (.int r154), (.int n1), (.ref b163), (.ref b162), (.ref b162)]))
        obtain ⟨_, _, ⟨T165, L165, k165, n165⟩, -, X165, hS2165, hg2165, ⟨Lc165, hQ165, l165, y165, z165, hC165⟩, st165⟩ := callSS X163 hx (y := (⟨"com/example/partition_planner/partitionplanner/RelationshipRelatesPinLaw", "str", "(ICC)Ljava/lang/String;"⟩ : MethodName)) hown163 (mvT hZ163 (hw _ (List.mem_of_getElem? (i := 19) rfl))) (mvT hZ163 (hw _ (List.mem_of_getElem? (i := 20) rfl))) (mvT hZ163 (hw _ (List.mem_of_getElem? (i := 2) rfl))) (mvT hZ163 (hw _ (List.mem_of_getElem? (i := 21) rfl))) (by decide) (backOfSH (W := 3) (rmstr l Z a0 hw [] n1 r154 r155 zc h163 n0 Z163 O163 S_C P0 hr154 hr155) hZ163 (hw _ (List.mem_of_getElem? (i := 21) rfl)) (hw _ (List.mem_of_getElem? (i := 2) rfl)) (by decide) (by decide) hEL CH163.1) (g := (mkF m 149 #[.val (.int j0), .val (.int j1), .val (.int j2), .val (.int j3), .val (.int n1), .val (.int r154), .val (.int r155), .val (.int n2), .val (.int r156), .val (.int r157), .val (.int kk), .val (.int nu), .val (.int r158), .val (.int r159), .val (.int ((j3 &&& (2147483647 : Int32)) % (3 : Int32))), .val (.ref w_ONE_TO_ONE), .unset, .unset, .unset, .unset] [(.int r155), (.int r154), (.int n1), (.ref b163), (.ref b162), (.ref b162)])) rfl (by rw [hml]; rfl) (argsL := [(.int n1), (.int r154), (.int r155)]) (rest := [(.ref b163), (.ref b162), (.ref b162)]) (lenOf pd__ICC_Ljava_lang_String_ rfl) rfl (by show 2 * 0 + _ ≤ _; exact Nat.le_of_eq rfl) (hb hby at_149) (fun _ _ => ⟨rfl, e163, (by decide : 3 + 4 ≤ _), (by decide : 12 + 8 ≤ _)⟩)
        dsimp only [Pt.U, Pt.locs, Pt.cells, Pt.slots] at X165 l165 y165 z165 st165 hQ165 hS2165 hg2165 hC165
        replace l165 := Eq.symm l165
        replace y165 := Eq.symm y165
        replace z165 := Eq.symm z165
        subst l165 y165 z165
        obtain ⟨X165, hS165, hZ165, hown165⟩ := rebS hS163 (by rw [e163]; exact SK163) X165 hS2165 hg2165 hZ163 hown163
        have CHr165 := CHr.trans CH163 hC165
        obtain ⟨Nq165, b165, t165, k0165, M165, vs165, rfl, Kq165, Sx165, Gx165, Ex165, Fc165, Fv165, V165, cd165, hz165⟩ := hQ165
        obtain ⟨Sv165, hN165, hv165⟩ := hz165 (own_n0 hn1)
        have Gv165 : n0 ≤ t165 := Nat.le_trans Z163 Sv165
        have N165 := Fr.app N159 Nq165
        have Kc165 := Keep.trans K163 Kq165 all0
        have Zc165 : n0 ≤ T165.heap.size := Nat.le_trans Z163 Kq165.1
        have Oc165 := Old.keep O163 Kq165 all0
        have ne_b162_b165 : b162 ≠ b165 := Nat.ne_of_lt (Nat.lt_of_lt_of_le (f164).lt Sx165)
        have ne_b163_b165 : b163 ≠ b165 := Nat.ne_of_lt (Nat.lt_of_lt_of_le (Ea163).lt Sx165)
        have ne_t163_b165 : t163 ≠ b165 := Nat.ne_of_lt (Nat.lt_of_lt_of_le (Va163).lt Sx165)
        have sz_b165 : h0.size ≤ b165 := Nat.le_trans K163.1 Sx165
        have ne_b162_t165 : b162 ≠ t165 := Nat.ne_of_lt (Nat.lt_of_lt_of_le (f164).lt Sv165)
        have ne_b163_t165 : b163 ≠ t165 := Nat.ne_of_lt (Nat.lt_of_lt_of_le (Ea163).lt Sv165)
        have ne_t163_t165 : t163 ≠ t165 := Nat.ne_of_lt (Nat.lt_of_lt_of_le (Va163).lt Sv165)
        have sz_t165 : h0.size ≤ t165 := Nat.le_trans K163.1 Sv165
        refine GlH.back (fun _ k => st165.trans k) ?_
        show GlH Z consts_1 _ _ _ _ _ _ _ (T165.setTop (mkF m 152 #[.val (.int j0), .val (.int j1), .val (.int j2), .val (.int j3), .val (.int n1), .val (.int r154), .val (.int r155), .val (.int n2), .val (.int r156), .val (.int r157), .val (.int kk), .val (.int nu), .val (.int r158), .val (.int r159), .val (.int ((j3 &&& (2147483647 : Int32)) % (3 : Int32))), .val (.ref w_ONE_TO_ONE), .unset, .unset, .unset, .unset] [(.ref b165), (.ref b163), (.ref b162), (.ref b162)]))
        refine GlH.back (fun _ k => XS.iload X165.here hx rfl (hb hby at_152) rfl k) ?_
        show GlH Z consts_1 _ _ _ _ _ _ _ (T165.setTop (mkF m 154 #[.val (.int j0), .val (.int j1), .val (.int j2), .val (.int j3), .val (.int n1), .val (.int r154), .val (.int r155), .val (.int n2), .val (.int r156), .val (.int r157), .val (.int kk), .val (.int nu), .val (.int r158), .val (.int r159), .val (.int ((j3 &&& (2147483647 : Int32)) % (3 : Int32))), .val (.ref w_ONE_TO_ONE), .unset, .unset, .unset, .unset] [(.int n2), (.ref b165), (.ref b163), (.ref b162), (.ref b162)]))
        refine GlH.back (fun _ k => XS.iload X165.here hx rfl (hb hby at_154) rfl k) ?_
        show GlH Z consts_1 _ _ _ _ _ _ _ (T165.setTop (mkF m 156 #[.val (.int j0), .val (.int j1), .val (.int j2), .val (.int j3), .val (.int n1), .val (.int r154), .val (.int r155), .val (.int n2), .val (.int r156), .val (.int r157), .val (.int kk), .val (.int nu), .val (.int r158), .val (.int r159), .val (.int ((j3 &&& (2147483647 : Int32)) % (3 : Int32))), .val (.ref w_ONE_TO_ONE), .unset, .unset, .unset, .unset] [(.int r156), (.int n2), (.ref b165), (.ref b163), (.ref b162), (.ref b162)]))
        refine GlH.back (fun _ k => XS.iload X165.here hx rfl (hb hby at_156) rfl k) ?_
        show GlH Z consts_1 _ _ _ _ _ _ _ (T165.setTop (mkF m 158 #[.val (.int j0), .val (.int j1), .val (.int j2), .val (.int j3), .val (.int n1), .val (.int r154), .val (.int r155), .val (.int n2), .val (.int r156), .val (.int r157), .val (.int kk), .val (.int nu), .val (.int r158), .val (.int r159), .val (.int ((j3 &&& (2147483647 : Int32)) % (3 : Int32))), .val (.ref w_ONE_TO_ONE), .unset, .unset, .unset, .unset] [(.int r157), (.int r156), (.int n2), (.ref b165), (.ref b163), (.ref b162), (.ref b162)]))
        have f167 := (f164.keep Kq165)
        have f168 := (Ea163.keep Kq165)
        have f169 := (Va163.keep Kq165 nin0)
        obtain ⟨_, _, ⟨T166, L166, k166, n166⟩, -, X166, hS2166, hg2166, ⟨Lc166, hQ166, l166, y166, z166, hC166⟩, st166⟩ := callSS X165 hx (y := (⟨"com/example/partition_planner/partitionplanner/RelationshipRelatesPinLaw", "str", "(ICC)Ljava/lang/String;"⟩ : MethodName)) hown165 (mvT hZ165 (hw _ (List.mem_of_getElem? (i := 19) rfl))) (mvT hZ165 (hw _ (List.mem_of_getElem? (i := 20) rfl))) (mvT hZ165 (hw _ (List.mem_of_getElem? (i := 2) rfl))) (mvT hZ165 (hw _ (List.mem_of_getElem? (i := 21) rfl))) (by decide) (backOfSH (W := 4) (rmstr l Z a0 hw [] n2 r156 r157 zc T165.heap n0 Zc165 Oc165 S_C P0 hr156 hr157) hZ165 (hw _ (List.mem_of_getElem? (i := 21) rfl)) (hw _ (List.mem_of_getElem? (i := 2) rfl)) (by decide) (by decide) hEL CHr165.1) (g := (mkF m 158 #[.val (.int j0), .val (.int j1), .val (.int j2), .val (.int j3), .val (.int n1), .val (.int r154), .val (.int r155), .val (.int n2), .val (.int r156), .val (.int r157), .val (.int kk), .val (.int nu), .val (.int r158), .val (.int r159), .val (.int ((j3 &&& (2147483647 : Int32)) % (3 : Int32))), .val (.ref w_ONE_TO_ONE), .unset, .unset, .unset, .unset] [(.int r157), (.int r156), (.int n2), (.ref b165), (.ref b163), (.ref b162), (.ref b162)])) rfl (by rw [hml]; rfl) (argsL := [(.int n2), (.int r156), (.int r157)]) (rest := [(.ref b165), (.ref b163), (.ref b162), (.ref b162)]) (lenOf pd__ICC_Ljava_lang_String_ rfl) rfl (by show 2 * 0 + _ ≤ _; exact Nat.le_of_eq rfl) (hb hby at_158) (fun _ _ => ⟨rfl, rfl, (by decide : 7 + 4 ≤ _), (by decide : 20 + 8 ≤ _)⟩)
        dsimp only [Pt.U, Pt.locs, Pt.cells, Pt.slots] at X166 l166 y166 z166 st166 hQ166 hS2166 hg2166 hC166
        replace l166 := Eq.symm l166
        replace y166 := Eq.symm y166
        replace z166 := Eq.symm z166
        subst l166 y166 z166
        obtain ⟨X166, hS166, hZ166, hown166⟩ := rebS hS165 ((Nat.le_refl _)) X166 hS2166 hg2166 hZ165 hown165
        have CHr166 := CHr.trans CHr165 hC166
        obtain ⟨Nq166, b166, t166, k0166, M166, vs166, rfl, Kq166, Sx166, Gx166, Ex166, Fc166, Fv166, V166, cd166, hz166⟩ := hQ166
        obtain ⟨Sv166, hN166, hv166⟩ := hz166 (own_n0 hn2)
        have Gv166 : n0 ≤ t166 := Nat.le_trans Zc165 Sv166
        have N166 := Fr.app N165 Nq166
        have Kc166 := Keep.trans Kc165 Kq166 all0
        have Zc166 : n0 ≤ T166.heap.size := Nat.le_trans Zc165 Kq166.1
        have Oc166 := Old.keep Oc165 Kq166 all0
        have ne_b162_b166 : b162 ≠ b166 := Nat.ne_of_lt (Nat.lt_of_lt_of_le (f167).lt Sx166)
        have ne_b163_b166 : b163 ≠ b166 := Nat.ne_of_lt (Nat.lt_of_lt_of_le (f168).lt Sx166)
        have ne_t163_b166 : t163 ≠ b166 := Nat.ne_of_lt (Nat.lt_of_lt_of_le (f169).lt Sx166)
        have ne_b165_b166 : b165 ≠ b166 := Nat.ne_of_lt (Nat.lt_of_lt_of_le (Ex165).lt Sx166)
        have ne_t165_b166 : t165 ≠ b166 := Nat.ne_of_lt (Nat.lt_of_lt_of_le (V165).lt Sx166)
        have sz_b166 : h0.size ≤ b166 := Nat.le_trans Kc165.1 Sx166
        have ne_b162_t166 : b162 ≠ t166 := Nat.ne_of_lt (Nat.lt_of_lt_of_le (f167).lt Sv166)
        have ne_b163_t166 : b163 ≠ t166 := Nat.ne_of_lt (Nat.lt_of_lt_of_le (f168).lt Sv166)
        have ne_t163_t166 : t163 ≠ t166 := Nat.ne_of_lt (Nat.lt_of_lt_of_le (f169).lt Sv166)
        have ne_b165_t166 : b165 ≠ t166 := Nat.ne_of_lt (Nat.lt_of_lt_of_le (Ex165).lt Sv166)
        have ne_t165_t166 : t165 ≠ t166 := Nat.ne_of_lt (Nat.lt_of_lt_of_le (V165).lt Sv166)
        have sz_t166 : h0.size ≤ t166 := Nat.le_trans Kc165.1 Sv166
        refine GlH.back (fun _ k => st166.trans k) ?_
        show GlH Z consts_1 _ _ _ _ _ _ _ (T166.setTop (mkF m 161 #[.val (.int j0), .val (.int j1), .val (.int j2), .val (.int j3), .val (.int n1), .val (.int r154), .val (.int r155), .val (.int n2), .val (.int r156), .val (.int r157), .val (.int kk), .val (.int nu), .val (.int r158), .val (.int r159), .val (.int ((j3 &&& (2147483647 : Int32)) % (3 : Int32))), .val (.ref w_ONE_TO_ONE), .unset, .unset, .unset, .unset] [(.ref b166), (.ref b165), (.ref b163), (.ref b162), (.ref b162)]))
        refine GlH.back (fun _ k => XS.aload X166.here hx rfl (hb hby at_161) rfl rfl k) ?_
        show GlH Z consts_1 _ _ _ _ _ _ _ (T166.setTop (mkF m 163 #[.val (.int j0), .val (.int j1), .val (.int j2), .val (.int j3), .val (.int n1), .val (.int r154), .val (.int r155), .val (.int n2), .val (.int r156), .val (.int r157), .val (.int kk), .val (.int nu), .val (.int r158), .val (.int r159), .val (.int ((j3 &&& (2147483647 : Int32)) % (3 : Int32))), .val (.ref w_ONE_TO_ONE), .unset, .unset, .unset, .unset] [(.ref w_ONE_TO_ONE), (.ref b166), (.ref b165), (.ref b163), (.ref b162), (.ref b162)]))
        have f171 := (f167.keep Kq166)
        have f172 := (((F162_name.ext E163).keep Kq165 nin0).keep Kq166 nin0)
        have f173 := (((F162_first.ext E163).keep Kq165 nin0).keep Kq166 nin0)
        have f174 := (((F162_second.ext E163).keep Kq165 nin0).keep Kq166 nin0)
        have f175 := (((F162_cardinality.ext E163).keep Kq165 nin0).keep Kq166 nin0)
        have f176 := (f168.keep Kq166)
        have f177 := ((Fc163.keep Kq165 nin0).keep Kq166 nin0)
        have f178 := ((Fv163.keep Kq165 nin0).keep Kq166 nin0)
        have f179 := (f169.keep Kq166 nin0)
        have f180 := (Ex165.keep Kq166)
        have f181 := (Fc165.keep Kq166 nin0)
        have f182 := (Fv165.keep Kq166 nin0)
        have f183 := (V165.keep Kq166 nin0)
        obtain ⟨_, _, ⟨T170, L170, k170, n170⟩, -, X170, hS2170, hg2170, ⟨Lc170, hQ170, l170, y170, z170, hC170⟩, st170⟩ := X166.specialBackS hx (y := (⟨"com/example/partition_planner/partitionplanner/Relationship", "<init>", "(Ljava/lang/String;Ljava/lang/String;Ljava/lang/String;Lcom/example/partition_planner/partitionplanner/Cardinality;)V"⟩ : MethodName)) rfl hown166 (mvT hZ166 (hw _ (List.mem_of_getElem? (i := 47) rfl))) (mvT hZ166 (hw _ (List.mem_of_getElem? (i := 48) rfl))) (mvT hZ166 (hw _ (List.mem_of_getElem? (i := 49) rfl))) (by decide) (backOfSH (W := 1) (rmrinit l Z a0 hw [] b162 b163 b165 b166 w_ONE_TO_ONE wA wI kA vsA t163 t165 t166 k0163 k0165 k0166 (1 : Int32) M165 M166 (114 : Int32) r154 r156 [(.int (114 : Int32))] vs165 vs166 zc T166.heap n0 Zc166 Oc166 S_A V_A hA S_I E_I S_C P0 g_b162 f171 f172 f173 f174 f175 f176 f177 f178 f179 (by decide) rfl own_nwR f180 f181 f182 f183 hN165 hv165 (hw154 (own_and3 _)) Ex166 Fc166 Fv166 V166 hN166 hv166 (hw156 (own_and3 _)) ne_b162_b163 ne_b162_t163 ne_b162_b165 ne_b162_t165 ne_b162_b166 ne_b162_t166) hZ166 (hw _ (List.mem_of_getElem? (i := 49) rfl)) (hw _ (List.mem_of_getElem? (i := 10) rfl)) (by decide) (by decide) hEL CHr166.1) (g := (mkF m 163 #[.val (.int j0), .val (.int j1), .val (.int j2), .val (.int j3), .val (.int n1), .val (.int r154), .val (.int r155), .val (.int n2), .val (.int r156), .val (.int r157), .val (.int kk), .val (.int nu), .val (.int r158), .val (.int r159), .val (.int ((j3 &&& (2147483647 : Int32)) % (3 : Int32))), .val (.ref w_ONE_TO_ONE), .unset, .unset, .unset, .unset] [(.ref w_ONE_TO_ONE), (.ref b166), (.ref b165), (.ref b163), (.ref b162), (.ref b162)])) rfl (by rw [hml]; rfl) (Steps.refl _) (a := b162) (argsL := [(.ref b163), (.ref b165), (.ref b166), (.ref w_ONE_TO_ONE)]) (rest := [(.ref b162)]) (lenOf pd__Ljava_lang_String_Ljava_lang_String_Ljava_lang_String_Lcom_example_partition_planner_partitionplanner_Cardinality__V rfl) rfl (by show 2 * 0 + _ ≤ _; exact Nat.le_of_eq rfl) (hb hby at_163) (fun _ _ => ⟨rfl, rfl, (by decide : 11 + 8 ≤ _), (by decide : 28 + 120 ≤ _)⟩)
        dsimp only [Pt.U, Pt.locs, Pt.cells, Pt.slots] at X170 l170 y170 z170 st170 hQ170 hS2170 hg2170 hC170
        replace l170 := Eq.symm l170
        replace y170 := Eq.symm y170
        replace z170 := Eq.symm z170
        subst l170 y170 z170
        obtain ⟨X170, hS170, hZ170, hown170⟩ := rebS hS166 ((Nat.le_refl _)) X170 hS2170 hg2170 hZ166 hown166
        have CHr170 := CHr.trans CHr166 hC170
        obtain ⟨Nq170, rfl, Kq170, Ff170, Fs170⟩ := hQ170
        have N170 := Fr.app N166 Nq170
        have Kc170 := Keep.trans Kc166 Kq170 (allS (Or.inr sz_b162) all0)
        have Zc170 : n0 ≤ T170.heap.size := Nat.le_trans Zc166 Kq170.1
        have Oc170 := Old.keep Oc166 Kq170 (allS g_b162 all0)
        refine GlH.back (fun _ k => st170.trans k) ?_
        show GlH Z consts_1 _ _ _ _ _ _ _ (T170.setTop (mkF m 166 #[.val (.int j0), .val (.int j1), .val (.int j2), .val (.int j3), .val (.int n1), .val (.int r154), .val (.int r155), .val (.int n2), .val (.int r156), .val (.int r157), .val (.int kk), .val (.int nu), .val (.int r158), .val (.int r159), .val (.int ((j3 &&& (2147483647 : Int32)) % (3 : Int32))), .val (.ref w_ONE_TO_ONE), .unset, .unset, .unset, .unset] [(.ref b162)]))
        refine GlH.back (fun _ k => XS.astore X170.here hx rfl (hb hby at_166) rfl rfl (l' := #[.val (.int j0), .val (.int j1), .val (.int j2), .val (.int j3), .val (.int n1), .val (.int r154), .val (.int r155), .val (.int n2), .val (.int r156), .val (.int r157), .val (.int kk), .val (.int nu), .val (.int r158), .val (.int r159), .val (.int ((j3 &&& (2147483647 : Int32)) % (3 : Int32))), .val (.ref w_ONE_TO_ONE), .val (.ref b162), .unset, .unset, .unset]) rfl k) ?_
        show GlH Z consts_1 _ _ _ _ _ _ _ (T170.setTop (mkF m 168 #[.val (.int j0), .val (.int j1), .val (.int j2), .val (.int j3), .val (.int n1), .val (.int r154), .val (.int r155), .val (.int n2), .val (.int r156), .val (.int r157), .val (.int kk), .val (.int nu), .val (.int r158), .val (.int r159), .val (.int ((j3 &&& (2147483647 : Int32)) % (3 : Int32))), .val (.ref w_ONE_TO_ONE), .val (.ref b162), .unset, .unset, .unset] []))
        refine GlH.back (fun _ k => XS.iload X170.here hx rfl (hb hby at_168) rfl k) ?_
        show GlH Z consts_1 _ _ _ _ _ _ _ (T170.setTop (mkF m 170 #[.val (.int j0), .val (.int j1), .val (.int j2), .val (.int j3), .val (.int n1), .val (.int r154), .val (.int r155), .val (.int n2), .val (.int r156), .val (.int r157), .val (.int kk), .val (.int nu), .val (.int r158), .val (.int r159), .val (.int ((j3 &&& (2147483647 : Int32)) % (3 : Int32))), .val (.ref w_ONE_TO_ONE), .val (.ref b162), .unset, .unset, .unset] [(.int nu)]))
        by_cases hc170_184 : nu = (0 : Int32)
        · refine GlH.back (fun _ k => XS.ifYes X170.here hx rfl (pc0 := 170) (pc' := 177) rfl (hb hby at_170) rfl ((if0 _ _).trans (teq hc170_184).1) (by decide) (by decide) k) ?_
          show GlH Z consts_1 _ _ _ _ _ _ _ (T170.setTop (mkF m 177 #[.val (.int j0), .val (.int j1), .val (.int j2), .val (.int j3), .val (.int n1), .val (.int r154), .val (.int r155), .val (.int n2), .val (.int r156), .val (.int r157), .val (.int kk), .val (.int nu), .val (.int r158), .val (.int r159), .val (.int ((j3 &&& (2147483647 : Int32)) % (3 : Int32))), .val (.ref w_ONE_TO_ONE), .val (.ref b162), .unset, .unset, .unset] []))
          refine GlH.back (fun _ k => XS.iload X170.here hx rfl (hb hby at_177) rfl k) ?_
          show GlH Z consts_1 _ _ _ _ _ _ _ (T170.setTop (mkF m 179 #[.val (.int j0), .val (.int j1), .val (.int j2), .val (.int j3), .val (.int n1), .val (.int r154), .val (.int r155), .val (.int n2), .val (.int r156), .val (.int r157), .val (.int kk), .val (.int nu), .val (.int r158), .val (.int r159), .val (.int ((j3 &&& (2147483647 : Int32)) % (3 : Int32))), .val (.ref w_ONE_TO_ONE), .val (.ref b162), .unset, .unset, .unset] [(.int kk)]))
          refine GlH.back (fun _ k => XS.iload X170.here hx rfl (hb hby at_179) rfl k) ?_
          show GlH Z consts_1 _ _ _ _ _ _ _ (T170.setTop (mkF m 181 #[.val (.int j0), .val (.int j1), .val (.int j2), .val (.int j3), .val (.int n1), .val (.int r154), .val (.int r155), .val (.int n2), .val (.int r156), .val (.int r157), .val (.int kk), .val (.int nu), .val (.int r158), .val (.int r159), .val (.int ((j3 &&& (2147483647 : Int32)) % (3 : Int32))), .val (.ref w_ONE_TO_ONE), .val (.ref b162), .unset, .unset, .unset] [(.int r158), (.int kk)]))
          refine GlH.back (fun _ k => XS.iload X170.here hx rfl (hb hby at_181) rfl k) ?_
          show GlH Z consts_1 _ _ _ _ _ _ _ (T170.setTop (mkF m 183 #[.val (.int j0), .val (.int j1), .val (.int j2), .val (.int j3), .val (.int n1), .val (.int r154), .val (.int r155), .val (.int n2), .val (.int r156), .val (.int r157), .val (.int kk), .val (.int nu), .val (.int r158), .val (.int r159), .val (.int ((j3 &&& (2147483647 : Int32)) % (3 : Int32))), .val (.ref w_ONE_TO_ONE), .val (.ref b162), .unset, .unset, .unset] [(.int r159), (.int r158), (.int kk)]))
          have f186 := (f171.keep Kq170)
          have f187 := (f176.keep Kq170)
          have f188 := (f179.keep Kq170 (ninS (Ne.symm ne_b162_t163) nin0))
          have f189 := (f180.keep Kq170)
          have f190 := (f183.keep Kq170 (ninS (Ne.symm ne_b162_t165) nin0))
          have f191 := (Ex166.keep Kq170)
          have f192 := (V166.keep Kq170 (ninS (Ne.symm ne_b162_t166) nin0))
          obtain ⟨_, _, ⟨T185, L185, k185, n185⟩, -, X185, hS2185, hg2185, ⟨Lc185, hQ185, l185, y185, z185, hC185⟩, st185⟩ := callSS X170 hx (y := (⟨"com/example/partition_planner/partitionplanner/RelationshipRelatesPinLaw", "str", "(ICC)Ljava/lang/String;"⟩ : MethodName)) hown170 (mvT hZ170 (hw _ (List.mem_of_getElem? (i := 19) rfl))) (mvT hZ170 (hw _ (List.mem_of_getElem? (i := 20) rfl))) (mvT hZ170 (hw _ (List.mem_of_getElem? (i := 2) rfl))) (mvT hZ170 (hw _ (List.mem_of_getElem? (i := 21) rfl))) (by decide) (backOfSH (W := 0) (rmstr l Z a0 hw [] kk r158 r159 zc T170.heap n0 Zc170 Oc170 S_C P0 hr158 hr159) hZ170 (hw _ (List.mem_of_getElem? (i := 21) rfl)) (hw _ (List.mem_of_getElem? (i := 2) rfl)) (by decide) (by decide) hEL CHr170.1) (g := (mkF m 183 #[.val (.int j0), .val (.int j1), .val (.int j2), .val (.int j3), .val (.int n1), .val (.int r154), .val (.int r155), .val (.int n2), .val (.int r156), .val (.int r157), .val (.int kk), .val (.int nu), .val (.int r158), .val (.int r159), .val (.int ((j3 &&& (2147483647 : Int32)) % (3 : Int32))), .val (.ref w_ONE_TO_ONE), .val (.ref b162), .unset, .unset, .unset] [(.int r159), (.int r158), (.int kk)])) rfl (by rw [hml]; rfl) (argsL := [(.int kk), (.int r158), (.int r159)]) (rest := []) (lenOf pd__ICC_Ljava_lang_String_ rfl) rfl (by show 2 * 0 + _ ≤ _; exact Nat.le_of_eq rfl) (hb hby at_183) (fun _ _ => ⟨rfl, rfl, (by decide : 19 + 4 ≤ _), (by decide : 148 + 8 ≤ _)⟩)
          dsimp only [Pt.U, Pt.locs, Pt.cells, Pt.slots] at X185 l185 y185 z185 st185 hQ185 hS2185 hg2185 hC185
          replace l185 := Eq.symm l185
          replace y185 := Eq.symm y185
          replace z185 := Eq.symm z185
          subst l185 y185 z185
          obtain ⟨X185, hS185, hZ185, hown185⟩ := rebS hS170 ((Nat.le_refl _)) X185 hS2185 hg2185 hZ170 hown170
          have CHr185 := CHr.trans CHr170 hC185
          obtain ⟨Nq185, b185, t185, k0185, M185, vs185, rfl, Kq185, Sx185, Gx185, Ex185, Fc185, Fv185, V185, cd185, hz185⟩ := hQ185
          have N185 := Fr.app N170 Nq185
          have Kc185 := Keep.trans Kc170 Kq185 all0
          have Zc185 : n0 ≤ T185.heap.size := Nat.le_trans Zc170 Kq185.1
          have Oc185 := Old.keep Oc170 Kq185 all0
          have ne_b162_b185 : b162 ≠ b185 := Nat.ne_of_lt (Nat.lt_of_lt_of_le (f186).lt Sx185)
          have ne_b163_b185 : b163 ≠ b185 := Nat.ne_of_lt (Nat.lt_of_lt_of_le (f187).lt Sx185)
          have ne_t163_b185 : t163 ≠ b185 := Nat.ne_of_lt (Nat.lt_of_lt_of_le (f188).lt Sx185)
          have ne_b165_b185 : b165 ≠ b185 := Nat.ne_of_lt (Nat.lt_of_lt_of_le (f189).lt Sx185)
          have ne_t165_b185 : t165 ≠ b185 := Nat.ne_of_lt (Nat.lt_of_lt_of_le (f190).lt Sx185)
          have ne_b166_b185 : b166 ≠ b185 := Nat.ne_of_lt (Nat.lt_of_lt_of_le (f191).lt Sx185)
          have ne_t166_b185 : t166 ≠ b185 := Nat.ne_of_lt (Nat.lt_of_lt_of_le (f192).lt Sx185)
          have sz_b185 : h0.size ≤ b185 := Nat.le_trans Kc170.1 Sx185
          refine GlH.back (fun _ k => st185.trans k) ?_
          show GlH Z consts_1 _ _ _ _ _ _ _ (T185.setTop (mkF m 186 #[.val (.int j0), .val (.int j1), .val (.int j2), .val (.int j3), .val (.int n1), .val (.int r154), .val (.int r155), .val (.int n2), .val (.int r156), .val (.int r157), .val (.int kk), .val (.int nu), .val (.int r158), .val (.int r159), .val (.int ((j3 &&& (2147483647 : Int32)) % (3 : Int32))), .val (.ref w_ONE_TO_ONE), .val (.ref b162), .unset, .unset, .unset] [(.ref b185)]))
          refine GlH.back (fun _ k => XS.astore X185.here hx rfl (hb hby at_186) rfl rfl (l' := #[.val (.int j0), .val (.int j1), .val (.int j2), .val (.int j3), .val (.int n1), .val (.int r154), .val (.int r155), .val (.int n2), .val (.int r156), .val (.int r157), .val (.int kk), .val (.int nu), .val (.int r158), .val (.int r159), .val (.int ((j3 &&& (2147483647 : Int32)) % (3 : Int32))), .val (.ref w_ONE_TO_ONE), .val (.ref b162), .val (.ref b185), .unset, .unset]) rfl k) ?_
          show GlH Z consts_1 _ _ _ _ _ _ _ (T185.setTop (mkF m 188 #[.val (.int j0), .val (.int j1), .val (.int j2), .val (.int j3), .val (.int n1), .val (.int r154), .val (.int r155), .val (.int n2), .val (.int r156), .val (.int r157), .val (.int kk), .val (.int nu), .val (.int r158), .val (.int r159), .val (.int ((j3 &&& (2147483647 : Int32)) % (3 : Int32))), .val (.ref w_ONE_TO_ONE), .val (.ref b162), .val (.ref b185), .unset, .unset] []))
          refine GlH.back (fun _ k => XS.aload X185.here hx rfl (hb hby at_188) rfl rfl k) ?_
          show GlH Z consts_1 _ _ _ _ _ _ _ (T185.setTop (mkF m 190 #[.val (.int j0), .val (.int j1), .val (.int j2), .val (.int j3), .val (.int n1), .val (.int r154), .val (.int r155), .val (.int n2), .val (.int r156), .val (.int r157), .val (.int kk), .val (.int nu), .val (.int r158), .val (.int r159), .val (.int ((j3 &&& (2147483647 : Int32)) % (3 : Int32))), .val (.ref w_ONE_TO_ONE), .val (.ref b162), .val (.ref b185), .unset, .unset] [(.ref b162)]))
          refine GlH.back (fun _ k => XS.aload X185.here hx rfl (hb hby at_190) rfl rfl k) ?_
          show GlH Z consts_1 _ _ _ _ _ _ _ (T185.setTop (mkF m 192 #[.val (.int j0), .val (.int j1), .val (.int j2), .val (.int j3), .val (.int n1), .val (.int r154), .val (.int r155), .val (.int n2), .val (.int r156), .val (.int r157), .val (.int kk), .val (.int nu), .val (.int r158), .val (.int r159), .val (.int ((j3 &&& (2147483647 : Int32)) % (3 : Int32))), .val (.ref w_ONE_TO_ONE), .val (.ref b162), .val (.ref b185), .unset, .unset] [(.ref b185), (.ref b162)]))
          have f194 := (f186.keep Kq185)
          have f195 := (Ff170.keep Kq185 nin0)
          have f196 := (Fs170.keep Kq185 nin0)
          have f197 := (f189.keep Kq185)
          have f198 := ((f181.keep Kq170 (ninS (Ne.symm ne_b162_b165) nin0)).keep Kq185 nin0)
          have f199 := ((f182.keep Kq170 (ninS (Ne.symm ne_b162_b165) nin0)).keep Kq185 nin0)
          have f200 := (f190.keep Kq185 nin0)
          have f201 := (f191.keep Kq185)
          have f202 := ((Fc166.keep Kq170 (ninS (Ne.symm ne_b162_b166) nin0)).keep Kq185 nin0)
          have f203 := ((Fv166.keep Kq170 (ninS (Ne.symm ne_b162_b166) nin0)).keep Kq185 nin0)
          have f204 := (f192.keep Kq185 nin0)
          obtain ⟨cq193, kq193, q193a, q193b, q193c⟩ := isOf hZ185 rfl f194
          obtain ⟨_, _, ⟨T193, L193, k193, n193⟩, -, X193, ⟨Lc193, hQ193, l193, y193, z193⟩, st193⟩ := X185.virtualBack hx (y := (⟨"com/example/partition_planner/partitionplanner/Relationship", "relates", "(Ljava/lang/String;)Z"⟩ : MethodName)) (z := (⟨"com/example/partition_planner/partitionplanner/Relationship", "relates", "(Ljava/lang/String;)Z"⟩ : MethodName)) hown185 (mvT hZ185 (hw _ (List.mem_of_getElem? (i := 117) rfl))) (mvT hZ185 (hw _ (List.mem_of_getElem? (i := 118) rfl))) (notFace_of_selects (args := #[]) (mvT hZ185 (hw _ (List.mem_of_getElem? (i := 120) rfl)))) (mvT hZ185 (hw _ (List.mem_of_getElem? (i := 120) rfl))) (mvT hZ185 (hw _ (List.mem_of_getElem? (i := 119) rfl))) (by decide) (backOf (W := 0) (rmrelY l Z a0 hw [] b162 b185 b165 b166 t165 k0165 M165 vs165 (own_cs n1 r154 r155) t166 k0166 M166 vs166 (own_cs n2 r156 r157) t185 k0185 M185 vs185 (own_cs kk r158 r159) zc T185.heap n0 Zc185 Oc185 S_C P0 f194 f195 f196 f197 f198 f199 f200 cd165 (own_csb hr154 hr155) (own_csl _ _ _) f201 f202 f203 f204 cd166 (own_csb hr156 hr157) (own_csl _ _ _) Ex185 Fc185 Fv185 V185 cd185 (own_csb hr158 hr159) (own_csl _ _ _)) hZ185 (hw _ (List.mem_of_getElem? (i := 121) rfl)) (hw _ (List.mem_of_getElem? (i := 10) rfl)) (by decide) (by decide)) q193a q193c (g := (mkF m 192 #[.val (.int j0), .val (.int j1), .val (.int j2), .val (.int j3), .val (.int n1), .val (.int r154), .val (.int r155), .val (.int n2), .val (.int r156), .val (.int r157), .val (.int kk), .val (.int nu), .val (.int r158), .val (.int r159), .val (.int ((j3 &&& (2147483647 : Int32)) % (3 : Int32))), .val (.ref w_ONE_TO_ONE), .val (.ref b162), .val (.ref b185), .unset, .unset] [(.ref b185), (.ref b162)])) rfl (by rw [hml]; rfl) (Steps.refl _) (argsL := [(.ref b185)]) (rest := []) (lenOf pd__Ljava_lang_String__Z rfl) rfl (by show 2 * 0 + _ ≤ _; exact Nat.le_of_eq rfl) (hb hby at_192) (fun _ _ => ⟨rfl, rfl, (by decide : 23 + 0 ≤ _), (by decide : 156 + 0 ≤ _)⟩)
          dsimp only [Pt.U, Pt.locs, Pt.cells, Pt.slots] at X193 l193 y193 z193 st193 hQ193
          replace l193 := Eq.symm l193
          replace y193 := Eq.symm y193
          replace z193 := Eq.symm z193
          subst l193 y193 z193
          obtain ⟨Nq193, hQ193⟩ := hQ193
          rcases hQ193 with ⟨rfl, eh193, hy193⟩ | ⟨rfl, eh193, hy193, hz193⟩
          · have N193 := Fr.app N185 Nq193
            refine GlH.back (fun _ k => st193.trans k) ?_
            show GlH Z consts_1 _ _ _ _ _ _ _ (T193.setTop (mkF m 195 #[.val (.int j0), .val (.int j1), .val (.int j2), .val (.int j3), .val (.int n1), .val (.int r154), .val (.int r155), .val (.int n2), .val (.int r156), .val (.int r157), .val (.int kk), .val (.int nu), .val (.int r158), .val (.int r159), .val (.int ((j3 &&& (2147483647 : Int32)) % (3 : Int32))), .val (.ref w_ONE_TO_ONE), .val (.ref b162), .val (.ref b185), .unset, .unset] [(.int (1 : Int32))]))
            refine GlH.back (fun _ k => XS.istore X193.here hx rfl (hb hby at_195) rfl (l' := #[.val (.int j0), .val (.int j1), .val (.int j2), .val (.int j3), .val (.int n1), .val (.int r154), .val (.int r155), .val (.int n2), .val (.int r156), .val (.int r157), .val (.int kk), .val (.int nu), .val (.int r158), .val (.int r159), .val (.int ((j3 &&& (2147483647 : Int32)) % (3 : Int32))), .val (.ref w_ONE_TO_ONE), .val (.ref b162), .val (.ref b185), .val (.int (1 : Int32)), .unset]) rfl k) ?_
            show GlH Z consts_1 _ _ _ _ _ _ _ (T193.setTop (mkF m 197 #[.val (.int j0), .val (.int j1), .val (.int j2), .val (.int j3), .val (.int n1), .val (.int r154), .val (.int r155), .val (.int n2), .val (.int r156), .val (.int r157), .val (.int kk), .val (.int nu), .val (.int r158), .val (.int r159), .val (.int ((j3 &&& (2147483647 : Int32)) % (3 : Int32))), .val (.ref w_ONE_TO_ONE), .val (.ref b162), .val (.ref b185), .val (.int (1 : Int32)), .unset] []))
            refine GlH.back (fun _ k => XS.iload X193.here hx rfl (hb hby at_197) rfl k) ?_
            show GlH Z consts_1 _ _ _ _ _ _ _ (T193.setTop (mkF m 199 #[.val (.int j0), .val (.int j1), .val (.int j2), .val (.int j3), .val (.int n1), .val (.int r154), .val (.int r155), .val (.int n2), .val (.int r156), .val (.int r157), .val (.int kk), .val (.int nu), .val (.int r158), .val (.int r159), .val (.int ((j3 &&& (2147483647 : Int32)) % (3 : Int32))), .val (.ref w_ONE_TO_ONE), .val (.ref b162), .val (.ref b185), .val (.int (1 : Int32)), .unset] [(.int nu)]))
            refine GlH.back (fun _ k => XS.ifNo X193.here hx rfl (hb hby at_199) rfl ((if0 _ _).trans (teq (hc170_184 : nu = (0 : Int32))).2) k) ?_
            show GlH Z consts_1 _ _ _ _ _ _ _ (T193.setTop (mkF m 202 #[.val (.int j0), .val (.int j1), .val (.int j2), .val (.int j3), .val (.int n1), .val (.int r154), .val (.int r155), .val (.int n2), .val (.int r156), .val (.int r157), .val (.int kk), .val (.int nu), .val (.int r158), .val (.int r159), .val (.int ((j3 &&& (2147483647 : Int32)) % (3 : Int32))), .val (.ref w_ONE_TO_ONE), .val (.ref b162), .val (.ref b185), .val (.int (1 : Int32)), .unset] []))
            refine GlH.back (fun _ k => XS.iload X193.here hx rfl (hb hby at_202) rfl k) ?_
            show GlH Z consts_1 _ _ _ _ _ _ _ (T193.setTop (mkF m 204 #[.val (.int j0), .val (.int j1), .val (.int j2), .val (.int j3), .val (.int n1), .val (.int r154), .val (.int r155), .val (.int n2), .val (.int r156), .val (.int r157), .val (.int kk), .val (.int nu), .val (.int r158), .val (.int r159), .val (.int ((j3 &&& (2147483647 : Int32)) % (3 : Int32))), .val (.ref w_ONE_TO_ONE), .val (.ref b162), .val (.ref b185), .val (.int (1 : Int32)), .unset] [(.int n1)]))
            refine GlH.back (fun _ k => XS.iload X193.here hx rfl (hb hby at_204) rfl k) ?_
            show GlH Z consts_1 _ _ _ _ _ _ _ (T193.setTop (mkF m 206 #[.val (.int j0), .val (.int j1), .val (.int j2), .val (.int j3), .val (.int n1), .val (.int r154), .val (.int r155), .val (.int n2), .val (.int r156), .val (.int r157), .val (.int kk), .val (.int nu), .val (.int r158), .val (.int r159), .val (.int ((j3 &&& (2147483647 : Int32)) % (3 : Int32))), .val (.ref w_ONE_TO_ONE), .val (.ref b162), .val (.ref b185), .val (.int (1 : Int32)), .unset] [(.int r154), (.int n1)]))
            refine GlH.back (fun _ k => XS.iload X193.here hx rfl (hb hby at_206) rfl k) ?_
            show GlH Z consts_1 _ _ _ _ _ _ _ (T193.setTop (mkF m 208 #[.val (.int j0), .val (.int j1), .val (.int j2), .val (.int j3), .val (.int n1), .val (.int r154), .val (.int r155), .val (.int n2), .val (.int r156), .val (.int r157), .val (.int kk), .val (.int nu), .val (.int r158), .val (.int r159), .val (.int ((j3 &&& (2147483647 : Int32)) % (3 : Int32))), .val (.ref w_ONE_TO_ONE), .val (.ref b162), .val (.ref b185), .val (.int (1 : Int32)), .unset] [(.int r155), (.int r154), (.int n1)]))
            refine GlH.back (fun _ k => XS.iload X193.here hx rfl (hb hby at_208) rfl k) ?_
            show GlH Z consts_1 _ _ _ _ _ _ _ (T193.setTop (mkF m 210 #[.val (.int j0), .val (.int j1), .val (.int j2), .val (.int j3), .val (.int n1), .val (.int r154), .val (.int r155), .val (.int n2), .val (.int r156), .val (.int r157), .val (.int kk), .val (.int nu), .val (.int r158), .val (.int r159), .val (.int ((j3 &&& (2147483647 : Int32)) % (3 : Int32))), .val (.ref w_ONE_TO_ONE), .val (.ref b162), .val (.ref b185), .val (.int (1 : Int32)), .unset] [(.int kk), (.int r155), (.int r154), (.int n1)]))
            refine GlH.back (fun _ k => XS.iload X193.here hx rfl (hb hby at_210) rfl k) ?_
            show GlH Z consts_1 _ _ _ _ _ _ _ (T193.setTop (mkF m 212 #[.val (.int j0), .val (.int j1), .val (.int j2), .val (.int j3), .val (.int n1), .val (.int r154), .val (.int r155), .val (.int n2), .val (.int r156), .val (.int r157), .val (.int kk), .val (.int nu), .val (.int r158), .val (.int r159), .val (.int ((j3 &&& (2147483647 : Int32)) % (3 : Int32))), .val (.ref w_ONE_TO_ONE), .val (.ref b162), .val (.ref b185), .val (.int (1 : Int32)), .unset] [(.int r158), (.int kk), (.int r155), (.int r154), (.int n1)]))
            refine GlH.back (fun _ k => XS.iload X193.here hx rfl (hb hby at_212) rfl k) ?_
            show GlH Z consts_1 _ _ _ _ _ _ _ (T193.setTop (mkF m 214 #[.val (.int j0), .val (.int j1), .val (.int j2), .val (.int j3), .val (.int n1), .val (.int r154), .val (.int r155), .val (.int n2), .val (.int r156), .val (.int r157), .val (.int kk), .val (.int nu), .val (.int r158), .val (.int r159), .val (.int ((j3 &&& (2147483647 : Int32)) % (3 : Int32))), .val (.ref w_ONE_TO_ONE), .val (.ref b162), .val (.ref b185), .val (.int (1 : Int32)), .unset] [(.int r159), (.int r158), (.int kk), (.int r155), (.int r154), (.int n1)]))
            obtain ⟨_, _, ⟨T205, L205, k205, n205⟩, -, X205, ⟨Lc205, hQ205, l205, y205, z205⟩, st205⟩ := Jvm.LawKit.callS X193 hx (y := (⟨"com/example/partition_planner/partitionplanner/RelationshipRelatesPinLaw", "same", "(ICCICC)Z"⟩ : MethodName)) hown185 (mvT hZ185 (hw _ (List.mem_of_getElem? (i := 132) rfl))) (mvT hZ185 (hw _ (List.mem_of_getElem? (i := 133) rfl))) (mvT hZ185 (hw _ (List.mem_of_getElem? (i := 2) rfl))) (mvT hZ185 (hw _ (List.mem_of_getElem? (i := 134) rfl))) (by decide) (backOf (W := 0) (rmsm l Z a0 hw [] n1 r154 r155 kk r158 r159  T185.heap n0 Zc185 (own_n3 hn1) hkk) hZ185 (hw _ (List.mem_of_getElem? (i := 134) rfl)) (hw _ (List.mem_of_getElem? (i := 2) rfl)) (by decide) (by decide)) (g := (mkF m 214 #[.val (.int j0), .val (.int j1), .val (.int j2), .val (.int j3), .val (.int n1), .val (.int r154), .val (.int r155), .val (.int n2), .val (.int r156), .val (.int r157), .val (.int kk), .val (.int nu), .val (.int r158), .val (.int r159), .val (.int ((j3 &&& (2147483647 : Int32)) % (3 : Int32))), .val (.ref w_ONE_TO_ONE), .val (.ref b162), .val (.ref b185), .val (.int (1 : Int32)), .unset] [(.int r159), (.int r158), (.int kk), (.int r155), (.int r154), (.int n1)])) rfl (by rw [hml]; rfl) (argsL := [(.int n1), (.int r154), (.int r155), (.int kk), (.int r158), (.int r159)]) (rest := []) (lenOf pd__ICCICC_Z rfl) rfl (by show 2 * 0 + _ ≤ _; exact Nat.le_of_eq rfl) (hb hby at_214) (fun _ _ => ⟨rfl, eh193, (by decide : 23 + 0 ≤ _), (by decide : 156 + 0 ≤ _)⟩)
            dsimp only [Pt.U, Pt.locs, Pt.cells, Pt.slots] at X205 l205 y205 z205 st205 hQ205
            replace l205 := Eq.symm l205
            replace y205 := Eq.symm y205
            replace z205 := Eq.symm z205
            subst l205 y205 z205
            obtain ⟨Nq205, hQ205⟩ := hQ205
            rcases hQ205 with ⟨rfl, eh205, hs205⟩ | ⟨rfl, eh205, hs205⟩
            · have N205 := Fr.app N193 Nq205
              refine GlH.back (fun _ k => st205 _ k) ?_
              show GlH Z consts_1 _ _ _ _ _ _ _ (T205.setTop (mkF m 217 #[.val (.int j0), .val (.int j1), .val (.int j2), .val (.int j3), .val (.int n1), .val (.int r154), .val (.int r155), .val (.int n2), .val (.int r156), .val (.int r157), .val (.int kk), .val (.int nu), .val (.int r158), .val (.int r159), .val (.int ((j3 &&& (2147483647 : Int32)) % (3 : Int32))), .val (.ref w_ONE_TO_ONE), .val (.ref b162), .val (.ref b185), .val (.int (1 : Int32)), .unset] [(.int (1 : Int32))]))
              refine GlH.back (fun _ k => XS.ifYes X205.here hx rfl (pc0 := 217) (pc' := 238) rfl (hb hby at_217) rfl ((if0 _ _).trans (feq (by decide : ¬ (1 : Int32) = (0 : Int32))).2) (by decide) (by decide) k) ?_
              show GlH Z consts_1 _ _ _ _ _ _ _ (T205.setTop (mkF m 238 #[.val (.int j0), .val (.int j1), .val (.int j2), .val (.int j3), .val (.int n1), .val (.int r154), .val (.int r155), .val (.int n2), .val (.int r156), .val (.int r157), .val (.int kk), .val (.int nu), .val (.int r158), .val (.int r159), .val (.int ((j3 &&& (2147483647 : Int32)) % (3 : Int32))), .val (.ref w_ONE_TO_ONE), .val (.ref b162), .val (.ref b185), .val (.int (1 : Int32)), .unset] []))
              refine GlH.back (fun _ k => XS.iconst X205.here hx rfl (hb hby at_238) k) ?_
              show GlH Z consts_1 _ _ _ _ _ _ _ (T205.setTop (mkF m 239 #[.val (.int j0), .val (.int j1), .val (.int j2), .val (.int j3), .val (.int n1), .val (.int r154), .val (.int r155), .val (.int n2), .val (.int r156), .val (.int r157), .val (.int kk), .val (.int nu), .val (.int r158), .val (.int r159), .val (.int ((j3 &&& (2147483647 : Int32)) % (3 : Int32))), .val (.ref w_ONE_TO_ONE), .val (.ref b162), .val (.ref b185), .val (.int (1 : Int32)), .unset] [(.int (1 : Int32))]))
              refine GlH.back (fun _ k => XS.goto X205.here hx rfl (pc0 := 239) (pc' := 243) rfl (hb hby at_239) (by decide) (by decide) k) ?_
              show GlH Z consts_1 _ _ _ _ _ _ _ (T205.setTop (mkF m 243 #[.val (.int j0), .val (.int j1), .val (.int j2), .val (.int j3), .val (.int n1), .val (.int r154), .val (.int r155), .val (.int n2), .val (.int r156), .val (.int r157), .val (.int kk), .val (.int nu), .val (.int r158), .val (.int r159), .val (.int ((j3 &&& (2147483647 : Int32)) % (3 : Int32))), .val (.ref w_ONE_TO_ONE), .val (.ref b162), .val (.ref b185), .val (.int (1 : Int32)), .unset] [(.int (1 : Int32))]))
              refine GlH.back (fun _ k => XS.istore X205.here hx rfl (hb hby at_243) rfl (l' := #[.val (.int j0), .val (.int j1), .val (.int j2), .val (.int j3), .val (.int n1), .val (.int r154), .val (.int r155), .val (.int n2), .val (.int r156), .val (.int r157), .val (.int kk), .val (.int nu), .val (.int r158), .val (.int r159), .val (.int ((j3 &&& (2147483647 : Int32)) % (3 : Int32))), .val (.ref w_ONE_TO_ONE), .val (.ref b162), .val (.ref b185), .val (.int (1 : Int32)), .val (.int (1 : Int32))]) rfl k) ?_
              show GlH Z consts_1 _ _ _ _ _ _ _ (T205.setTop (mkF m 245 #[.val (.int j0), .val (.int j1), .val (.int j2), .val (.int j3), .val (.int n1), .val (.int r154), .val (.int r155), .val (.int n2), .val (.int r156), .val (.int r157), .val (.int kk), .val (.int nu), .val (.int r158), .val (.int r159), .val (.int ((j3 &&& (2147483647 : Int32)) % (3 : Int32))), .val (.ref w_ONE_TO_ONE), .val (.ref b162), .val (.ref b185), .val (.int (1 : Int32)), .val (.int (1 : Int32))] []))
              refine GlH.back (fun _ k => XS.iload X205.here hx rfl (hb hby at_245) rfl k) ?_
              show GlH Z consts_1 _ _ _ _ _ _ _ (T205.setTop (mkF m 247 #[.val (.int j0), .val (.int j1), .val (.int j2), .val (.int j3), .val (.int n1), .val (.int r154), .val (.int r155), .val (.int n2), .val (.int r156), .val (.int r157), .val (.int kk), .val (.int nu), .val (.int r158), .val (.int r159), .val (.int ((j3 &&& (2147483647 : Int32)) % (3 : Int32))), .val (.ref w_ONE_TO_ONE), .val (.ref b162), .val (.ref b185), .val (.int (1 : Int32)), .val (.int (1 : Int32))] [(.int (1 : Int32))]))
              refine GlH.back (fun _ k => XS.iload X205.here hx rfl (hb hby at_247) rfl k) ?_
              show GlH Z consts_1 _ _ _ _ _ _ _ (T205.setTop (mkF m 249 #[.val (.int j0), .val (.int j1), .val (.int j2), .val (.int j3), .val (.int n1), .val (.int r154), .val (.int r155), .val (.int n2), .val (.int r156), .val (.int r157), .val (.int kk), .val (.int nu), .val (.int r158), .val (.int r159), .val (.int ((j3 &&& (2147483647 : Int32)) % (3 : Int32))), .val (.ref w_ONE_TO_ONE), .val (.ref b162), .val (.ref b185), .val (.int (1 : Int32)), .val (.int (1 : Int32))] [(.int (1 : Int32)), (.int (1 : Int32))]))
              refine GlH.back (fun _ k => XS.icmpNo X205.here hx rfl (hb hby at_249) rfl (teq (by decide : (1 : Int32) = (1 : Int32))).2 k) ?_
              show GlH Z consts_1 _ _ _ _ _ _ _ (T205.setTop (mkF m 252 #[.val (.int j0), .val (.int j1), .val (.int j2), .val (.int j3), .val (.int n1), .val (.int r154), .val (.int r155), .val (.int n2), .val (.int r156), .val (.int r157), .val (.int kk), .val (.int nu), .val (.int r158), .val (.int r159), .val (.int ((j3 &&& (2147483647 : Int32)) % (3 : Int32))), .val (.ref w_ONE_TO_ONE), .val (.ref b162), .val (.ref b185), .val (.int (1 : Int32)), .val (.int (1 : Int32))] []))
              refine GlH.back (fun _ k => XS.iconst X205.here hx rfl (hb hby at_252) k) ?_
              show GlH Z consts_1 _ _ _ _ _ _ _ (T205.setTop (mkF m 253 #[.val (.int j0), .val (.int j1), .val (.int j2), .val (.int j3), .val (.int n1), .val (.int r154), .val (.int r155), .val (.int n2), .val (.int r156), .val (.int r157), .val (.int kk), .val (.int nu), .val (.int r158), .val (.int r159), .val (.int ((j3 &&& (2147483647 : Int32)) % (3 : Int32))), .val (.ref w_ONE_TO_ONE), .val (.ref b162), .val (.ref b185), .val (.int (1 : Int32)), .val (.int (1 : Int32))] [(.int (1 : Int32))]))
              refine GlH.back (fun _ k => XS.goto X205.here hx rfl (pc0 := 253) (pc' := 257) rfl (hb hby at_253) (by decide) (by decide) k) ?_
              show GlH Z consts_1 _ _ _ _ _ _ _ (T205.setTop (mkF m 257 #[.val (.int j0), .val (.int j1), .val (.int j2), .val (.int j3), .val (.int n1), .val (.int r154), .val (.int r155), .val (.int n2), .val (.int r156), .val (.int r157), .val (.int kk), .val (.int nu), .val (.int r158), .val (.int r159), .val (.int ((j3 &&& (2147483647 : Int32)) % (3 : Int32))), .val (.ref w_ONE_TO_ONE), .val (.ref b162), .val (.ref b185), .val (.int (1 : Int32)), .val (.int (1 : Int32))] [(.int (1 : Int32))]))
              exact GlH.ret X205 eh205 hS185 (Nat.le_refl _) hh hZ185 hEL CHr185 (v := (some (.int (1 : Int32)))) (fun h => by rw [Bd.returns] at h; cases h) Bd.notSynchronized (fun fs hr => retN X205 hx (t := .boolean) (z := (1 : Int32)) Bd.returns (by simp) (hb hby at_257) hr) ⟨N205, rfl⟩ (by decide) (by decide)
            · have N205 := Fr.app N193 Nq205
              refine GlH.back (fun _ k => st205 _ k) ?_
              show GlH Z consts_1 _ _ _ _ _ _ _ (T205.setTop (mkF m 217 #[.val (.int j0), .val (.int j1), .val (.int j2), .val (.int j3), .val (.int n1), .val (.int r154), .val (.int r155), .val (.int n2), .val (.int r156), .val (.int r157), .val (.int kk), .val (.int nu), .val (.int r158), .val (.int r159), .val (.int ((j3 &&& (2147483647 : Int32)) % (3 : Int32))), .val (.ref w_ONE_TO_ONE), .val (.ref b162), .val (.ref b185), .val (.int (1 : Int32)), .unset] [(.int (0 : Int32))]))
              refine GlH.back (fun _ k => XS.ifNo X205.here hx rfl (hb hby at_217) rfl ((if0 _ _).trans (teq (by decide : (0 : Int32) = (0 : Int32))).2) k) ?_
              show GlH Z consts_1 _ _ _ _ _ _ _ (T205.setTop (mkF m 220 #[.val (.int j0), .val (.int j1), .val (.int j2), .val (.int j3), .val (.int n1), .val (.int r154), .val (.int r155), .val (.int n2), .val (.int r156), .val (.int r157), .val (.int kk), .val (.int nu), .val (.int r158), .val (.int r159), .val (.int ((j3 &&& (2147483647 : Int32)) % (3 : Int32))), .val (.ref w_ONE_TO_ONE), .val (.ref b162), .val (.ref b185), .val (.int (1 : Int32)), .unset] []))
              refine GlH.back (fun _ k => XS.iload X205.here hx rfl (hb hby at_220) rfl k) ?_
              show GlH Z consts_1 _ _ _ _ _ _ _ (T205.setTop (mkF m 222 #[.val (.int j0), .val (.int j1), .val (.int j2), .val (.int j3), .val (.int n1), .val (.int r154), .val (.int r155), .val (.int n2), .val (.int r156), .val (.int r157), .val (.int kk), .val (.int nu), .val (.int r158), .val (.int r159), .val (.int ((j3 &&& (2147483647 : Int32)) % (3 : Int32))), .val (.ref w_ONE_TO_ONE), .val (.ref b162), .val (.ref b185), .val (.int (1 : Int32)), .unset] [(.int n2)]))
              refine GlH.back (fun _ k => XS.iload X205.here hx rfl (hb hby at_222) rfl k) ?_
              show GlH Z consts_1 _ _ _ _ _ _ _ (T205.setTop (mkF m 224 #[.val (.int j0), .val (.int j1), .val (.int j2), .val (.int j3), .val (.int n1), .val (.int r154), .val (.int r155), .val (.int n2), .val (.int r156), .val (.int r157), .val (.int kk), .val (.int nu), .val (.int r158), .val (.int r159), .val (.int ((j3 &&& (2147483647 : Int32)) % (3 : Int32))), .val (.ref w_ONE_TO_ONE), .val (.ref b162), .val (.ref b185), .val (.int (1 : Int32)), .unset] [(.int r156), (.int n2)]))
              refine GlH.back (fun _ k => XS.iload X205.here hx rfl (hb hby at_224) rfl k) ?_
              show GlH Z consts_1 _ _ _ _ _ _ _ (T205.setTop (mkF m 226 #[.val (.int j0), .val (.int j1), .val (.int j2), .val (.int j3), .val (.int n1), .val (.int r154), .val (.int r155), .val (.int n2), .val (.int r156), .val (.int r157), .val (.int kk), .val (.int nu), .val (.int r158), .val (.int r159), .val (.int ((j3 &&& (2147483647 : Int32)) % (3 : Int32))), .val (.ref w_ONE_TO_ONE), .val (.ref b162), .val (.ref b185), .val (.int (1 : Int32)), .unset] [(.int r157), (.int r156), (.int n2)]))
              refine GlH.back (fun _ k => XS.iload X205.here hx rfl (hb hby at_226) rfl k) ?_
              show GlH Z consts_1 _ _ _ _ _ _ _ (T205.setTop (mkF m 228 #[.val (.int j0), .val (.int j1), .val (.int j2), .val (.int j3), .val (.int n1), .val (.int r154), .val (.int r155), .val (.int n2), .val (.int r156), .val (.int r157), .val (.int kk), .val (.int nu), .val (.int r158), .val (.int r159), .val (.int ((j3 &&& (2147483647 : Int32)) % (3 : Int32))), .val (.ref w_ONE_TO_ONE), .val (.ref b162), .val (.ref b185), .val (.int (1 : Int32)), .unset] [(.int kk), (.int r157), (.int r156), (.int n2)]))
              refine GlH.back (fun _ k => XS.iload X205.here hx rfl (hb hby at_228) rfl k) ?_
              show GlH Z consts_1 _ _ _ _ _ _ _ (T205.setTop (mkF m 230 #[.val (.int j0), .val (.int j1), .val (.int j2), .val (.int j3), .val (.int n1), .val (.int r154), .val (.int r155), .val (.int n2), .val (.int r156), .val (.int r157), .val (.int kk), .val (.int nu), .val (.int r158), .val (.int r159), .val (.int ((j3 &&& (2147483647 : Int32)) % (3 : Int32))), .val (.ref w_ONE_TO_ONE), .val (.ref b162), .val (.ref b185), .val (.int (1 : Int32)), .unset] [(.int r158), (.int kk), (.int r157), (.int r156), (.int n2)]))
              refine GlH.back (fun _ k => XS.iload X205.here hx rfl (hb hby at_230) rfl k) ?_
              show GlH Z consts_1 _ _ _ _ _ _ _ (T205.setTop (mkF m 232 #[.val (.int j0), .val (.int j1), .val (.int j2), .val (.int j3), .val (.int n1), .val (.int r154), .val (.int r155), .val (.int n2), .val (.int r156), .val (.int r157), .val (.int kk), .val (.int nu), .val (.int r158), .val (.int r159), .val (.int ((j3 &&& (2147483647 : Int32)) % (3 : Int32))), .val (.ref w_ONE_TO_ONE), .val (.ref b162), .val (.ref b185), .val (.int (1 : Int32)), .unset] [(.int r159), (.int r158), (.int kk), (.int r157), (.int r156), (.int n2)]))
              obtain ⟨_, _, ⟨T206, L206, k206, n206⟩, -, X206, ⟨Lc206, hQ206, l206, y206, z206⟩, st206⟩ := Jvm.LawKit.callS X205 hx (y := (⟨"com/example/partition_planner/partitionplanner/RelationshipRelatesPinLaw", "same", "(ICCICC)Z"⟩ : MethodName)) hown185 (mvT hZ185 (hw _ (List.mem_of_getElem? (i := 132) rfl))) (mvT hZ185 (hw _ (List.mem_of_getElem? (i := 133) rfl))) (mvT hZ185 (hw _ (List.mem_of_getElem? (i := 2) rfl))) (mvT hZ185 (hw _ (List.mem_of_getElem? (i := 134) rfl))) (by decide) (backOf (W := 0) (rmsm l Z a0 hw [] n2 r156 r157 kk r158 r159  T185.heap n0 Zc185 (own_n3 hn2) hkk) hZ185 (hw _ (List.mem_of_getElem? (i := 134) rfl)) (hw _ (List.mem_of_getElem? (i := 2) rfl)) (by decide) (by decide)) (g := (mkF m 232 #[.val (.int j0), .val (.int j1), .val (.int j2), .val (.int j3), .val (.int n1), .val (.int r154), .val (.int r155), .val (.int n2), .val (.int r156), .val (.int r157), .val (.int kk), .val (.int nu), .val (.int r158), .val (.int r159), .val (.int ((j3 &&& (2147483647 : Int32)) % (3 : Int32))), .val (.ref w_ONE_TO_ONE), .val (.ref b162), .val (.ref b185), .val (.int (1 : Int32)), .unset] [(.int r159), (.int r158), (.int kk), (.int r157), (.int r156), (.int n2)])) rfl (by rw [hml]; rfl) (argsL := [(.int n2), (.int r156), (.int r157), (.int kk), (.int r158), (.int r159)]) (rest := []) (lenOf pd__ICCICC_Z rfl) rfl (by show 2 * 0 + _ ≤ _; exact Nat.le_of_eq rfl) (hb hby at_232) (fun _ _ => ⟨rfl, eh205, (by decide : 23 + 0 ≤ _), (by decide : 156 + 0 ≤ _)⟩)
              dsimp only [Pt.U, Pt.locs, Pt.cells, Pt.slots] at X206 l206 y206 z206 st206 hQ206
              replace l206 := Eq.symm l206
              replace y206 := Eq.symm y206
              replace z206 := Eq.symm z206
              subst l206 y206 z206
              obtain ⟨Nq206, hQ206⟩ := hQ206
              rcases hQ206 with ⟨rfl, eh206, hs206⟩ | ⟨rfl, eh206, hs206⟩
              · have N206 := Fr.app N205 Nq206
                refine GlH.back (fun _ k => st206 _ k) ?_
                show GlH Z consts_1 _ _ _ _ _ _ _ (T206.setTop (mkF m 235 #[.val (.int j0), .val (.int j1), .val (.int j2), .val (.int j3), .val (.int n1), .val (.int r154), .val (.int r155), .val (.int n2), .val (.int r156), .val (.int r157), .val (.int kk), .val (.int nu), .val (.int r158), .val (.int r159), .val (.int ((j3 &&& (2147483647 : Int32)) % (3 : Int32))), .val (.ref w_ONE_TO_ONE), .val (.ref b162), .val (.ref b185), .val (.int (1 : Int32)), .unset] [(.int (1 : Int32))]))
                refine GlH.back (fun _ k => XS.ifNo X206.here hx rfl (hb hby at_235) rfl ((if0 _ _).trans (feq (by decide : ¬ (1 : Int32) = (0 : Int32))).1) k) ?_
                show GlH Z consts_1 _ _ _ _ _ _ _ (T206.setTop (mkF m 238 #[.val (.int j0), .val (.int j1), .val (.int j2), .val (.int j3), .val (.int n1), .val (.int r154), .val (.int r155), .val (.int n2), .val (.int r156), .val (.int r157), .val (.int kk), .val (.int nu), .val (.int r158), .val (.int r159), .val (.int ((j3 &&& (2147483647 : Int32)) % (3 : Int32))), .val (.ref w_ONE_TO_ONE), .val (.ref b162), .val (.ref b185), .val (.int (1 : Int32)), .unset] []))
                refine GlH.back (fun _ k => XS.iconst X206.here hx rfl (hb hby at_238) k) ?_
                show GlH Z consts_1 _ _ _ _ _ _ _ (T206.setTop (mkF m 239 #[.val (.int j0), .val (.int j1), .val (.int j2), .val (.int j3), .val (.int n1), .val (.int r154), .val (.int r155), .val (.int n2), .val (.int r156), .val (.int r157), .val (.int kk), .val (.int nu), .val (.int r158), .val (.int r159), .val (.int ((j3 &&& (2147483647 : Int32)) % (3 : Int32))), .val (.ref w_ONE_TO_ONE), .val (.ref b162), .val (.ref b185), .val (.int (1 : Int32)), .unset] [(.int (1 : Int32))]))
                refine GlH.back (fun _ k => XS.goto X206.here hx rfl (pc0 := 239) (pc' := 243) rfl (hb hby at_239) (by decide) (by decide) k) ?_
                show GlH Z consts_1 _ _ _ _ _ _ _ (T206.setTop (mkF m 243 #[.val (.int j0), .val (.int j1), .val (.int j2), .val (.int j3), .val (.int n1), .val (.int r154), .val (.int r155), .val (.int n2), .val (.int r156), .val (.int r157), .val (.int kk), .val (.int nu), .val (.int r158), .val (.int r159), .val (.int ((j3 &&& (2147483647 : Int32)) % (3 : Int32))), .val (.ref w_ONE_TO_ONE), .val (.ref b162), .val (.ref b185), .val (.int (1 : Int32)), .unset] [(.int (1 : Int32))]))
                refine GlH.back (fun _ k => XS.istore X206.here hx rfl (hb hby at_243) rfl (l' := #[.val (.int j0), .val (.int j1), .val (.int j2), .val (.int j3), .val (.int n1), .val (.int r154), .val (.int r155), .val (.int n2), .val (.int r156), .val (.int r157), .val (.int kk), .val (.int nu), .val (.int r158), .val (.int r159), .val (.int ((j3 &&& (2147483647 : Int32)) % (3 : Int32))), .val (.ref w_ONE_TO_ONE), .val (.ref b162), .val (.ref b185), .val (.int (1 : Int32)), .val (.int (1 : Int32))]) rfl k) ?_
                show GlH Z consts_1 _ _ _ _ _ _ _ (T206.setTop (mkF m 245 #[.val (.int j0), .val (.int j1), .val (.int j2), .val (.int j3), .val (.int n1), .val (.int r154), .val (.int r155), .val (.int n2), .val (.int r156), .val (.int r157), .val (.int kk), .val (.int nu), .val (.int r158), .val (.int r159), .val (.int ((j3 &&& (2147483647 : Int32)) % (3 : Int32))), .val (.ref w_ONE_TO_ONE), .val (.ref b162), .val (.ref b185), .val (.int (1 : Int32)), .val (.int (1 : Int32))] []))
                refine GlH.back (fun _ k => XS.iload X206.here hx rfl (hb hby at_245) rfl k) ?_
                show GlH Z consts_1 _ _ _ _ _ _ _ (T206.setTop (mkF m 247 #[.val (.int j0), .val (.int j1), .val (.int j2), .val (.int j3), .val (.int n1), .val (.int r154), .val (.int r155), .val (.int n2), .val (.int r156), .val (.int r157), .val (.int kk), .val (.int nu), .val (.int r158), .val (.int r159), .val (.int ((j3 &&& (2147483647 : Int32)) % (3 : Int32))), .val (.ref w_ONE_TO_ONE), .val (.ref b162), .val (.ref b185), .val (.int (1 : Int32)), .val (.int (1 : Int32))] [(.int (1 : Int32))]))
                refine GlH.back (fun _ k => XS.iload X206.here hx rfl (hb hby at_247) rfl k) ?_
                show GlH Z consts_1 _ _ _ _ _ _ _ (T206.setTop (mkF m 249 #[.val (.int j0), .val (.int j1), .val (.int j2), .val (.int j3), .val (.int n1), .val (.int r154), .val (.int r155), .val (.int n2), .val (.int r156), .val (.int r157), .val (.int kk), .val (.int nu), .val (.int r158), .val (.int r159), .val (.int ((j3 &&& (2147483647 : Int32)) % (3 : Int32))), .val (.ref w_ONE_TO_ONE), .val (.ref b162), .val (.ref b185), .val (.int (1 : Int32)), .val (.int (1 : Int32))] [(.int (1 : Int32)), (.int (1 : Int32))]))
                refine GlH.back (fun _ k => XS.icmpNo X206.here hx rfl (hb hby at_249) rfl (teq (by decide : (1 : Int32) = (1 : Int32))).2 k) ?_
                show GlH Z consts_1 _ _ _ _ _ _ _ (T206.setTop (mkF m 252 #[.val (.int j0), .val (.int j1), .val (.int j2), .val (.int j3), .val (.int n1), .val (.int r154), .val (.int r155), .val (.int n2), .val (.int r156), .val (.int r157), .val (.int kk), .val (.int nu), .val (.int r158), .val (.int r159), .val (.int ((j3 &&& (2147483647 : Int32)) % (3 : Int32))), .val (.ref w_ONE_TO_ONE), .val (.ref b162), .val (.ref b185), .val (.int (1 : Int32)), .val (.int (1 : Int32))] []))
                refine GlH.back (fun _ k => XS.iconst X206.here hx rfl (hb hby at_252) k) ?_
                show GlH Z consts_1 _ _ _ _ _ _ _ (T206.setTop (mkF m 253 #[.val (.int j0), .val (.int j1), .val (.int j2), .val (.int j3), .val (.int n1), .val (.int r154), .val (.int r155), .val (.int n2), .val (.int r156), .val (.int r157), .val (.int kk), .val (.int nu), .val (.int r158), .val (.int r159), .val (.int ((j3 &&& (2147483647 : Int32)) % (3 : Int32))), .val (.ref w_ONE_TO_ONE), .val (.ref b162), .val (.ref b185), .val (.int (1 : Int32)), .val (.int (1 : Int32))] [(.int (1 : Int32))]))
                refine GlH.back (fun _ k => XS.goto X206.here hx rfl (pc0 := 253) (pc' := 257) rfl (hb hby at_253) (by decide) (by decide) k) ?_
                show GlH Z consts_1 _ _ _ _ _ _ _ (T206.setTop (mkF m 257 #[.val (.int j0), .val (.int j1), .val (.int j2), .val (.int j3), .val (.int n1), .val (.int r154), .val (.int r155), .val (.int n2), .val (.int r156), .val (.int r157), .val (.int kk), .val (.int nu), .val (.int r158), .val (.int r159), .val (.int ((j3 &&& (2147483647 : Int32)) % (3 : Int32))), .val (.ref w_ONE_TO_ONE), .val (.ref b162), .val (.ref b185), .val (.int (1 : Int32)), .val (.int (1 : Int32))] [(.int (1 : Int32))]))
                exact GlH.ret X206 eh206 hS185 (Nat.le_refl _) hh hZ185 hEL CHr185 (v := (some (.int (1 : Int32)))) (fun h => by rw [Bd.returns] at h; cases h) Bd.notSynchronized (fun fs hr => retN X206 hx (t := .boolean) (z := (1 : Int32)) Bd.returns (by simp) (hb hby at_257) hr) ⟨N206, rfl⟩ (by decide) (by decide)
              · have N206 := Fr.app N205 Nq206
                refine GlH.back (fun _ k => st206 _ k) ?_
                show GlH Z consts_1 _ _ _ _ _ _ _ (T206.setTop (mkF m 235 #[.val (.int j0), .val (.int j1), .val (.int j2), .val (.int j3), .val (.int n1), .val (.int r154), .val (.int r155), .val (.int n2), .val (.int r156), .val (.int r157), .val (.int kk), .val (.int nu), .val (.int r158), .val (.int r159), .val (.int ((j3 &&& (2147483647 : Int32)) % (3 : Int32))), .val (.ref w_ONE_TO_ONE), .val (.ref b162), .val (.ref b185), .val (.int (1 : Int32)), .unset] [(.int (0 : Int32))]))
                refine GlH.back (fun _ k => XS.ifYes X206.here hx rfl (pc0 := 235) (pc' := 242) rfl (hb hby at_235) rfl ((if0 _ _).trans (teq (by decide : (0 : Int32) = (0 : Int32))).1) (by decide) (by decide) k) ?_
                show GlH Z consts_1 _ _ _ _ _ _ _ (T206.setTop (mkF m 242 #[.val (.int j0), .val (.int j1), .val (.int j2), .val (.int j3), .val (.int n1), .val (.int r154), .val (.int r155), .val (.int n2), .val (.int r156), .val (.int r157), .val (.int kk), .val (.int nu), .val (.int r158), .val (.int r159), .val (.int ((j3 &&& (2147483647 : Int32)) % (3 : Int32))), .val (.ref w_ONE_TO_ONE), .val (.ref b162), .val (.ref b185), .val (.int (1 : Int32)), .unset] []))
                refine GlH.back (fun _ k => XS.iconst X206.here hx rfl (hb hby at_242) k) ?_
                show GlH Z consts_1 _ _ _ _ _ _ _ (T206.setTop (mkF m 243 #[.val (.int j0), .val (.int j1), .val (.int j2), .val (.int j3), .val (.int n1), .val (.int r154), .val (.int r155), .val (.int n2), .val (.int r156), .val (.int r157), .val (.int kk), .val (.int nu), .val (.int r158), .val (.int r159), .val (.int ((j3 &&& (2147483647 : Int32)) % (3 : Int32))), .val (.ref w_ONE_TO_ONE), .val (.ref b162), .val (.ref b185), .val (.int (1 : Int32)), .unset] [(.int (0 : Int32))]))
                refine GlH.back (fun _ k => XS.istore X206.here hx rfl (hb hby at_243) rfl (l' := #[.val (.int j0), .val (.int j1), .val (.int j2), .val (.int j3), .val (.int n1), .val (.int r154), .val (.int r155), .val (.int n2), .val (.int r156), .val (.int r157), .val (.int kk), .val (.int nu), .val (.int r158), .val (.int r159), .val (.int ((j3 &&& (2147483647 : Int32)) % (3 : Int32))), .val (.ref w_ONE_TO_ONE), .val (.ref b162), .val (.ref b185), .val (.int (1 : Int32)), .val (.int (0 : Int32))]) rfl k) ?_
                show GlH Z consts_1 _ _ _ _ _ _ _ (T206.setTop (mkF m 245 #[.val (.int j0), .val (.int j1), .val (.int j2), .val (.int j3), .val (.int n1), .val (.int r154), .val (.int r155), .val (.int n2), .val (.int r156), .val (.int r157), .val (.int kk), .val (.int nu), .val (.int r158), .val (.int r159), .val (.int ((j3 &&& (2147483647 : Int32)) % (3 : Int32))), .val (.ref w_ONE_TO_ONE), .val (.ref b162), .val (.ref b185), .val (.int (1 : Int32)), .val (.int (0 : Int32))] []))
                refine GlH.back (fun _ k => XS.iload X206.here hx rfl (hb hby at_245) rfl k) ?_
                show GlH Z consts_1 _ _ _ _ _ _ _ (T206.setTop (mkF m 247 #[.val (.int j0), .val (.int j1), .val (.int j2), .val (.int j3), .val (.int n1), .val (.int r154), .val (.int r155), .val (.int n2), .val (.int r156), .val (.int r157), .val (.int kk), .val (.int nu), .val (.int r158), .val (.int r159), .val (.int ((j3 &&& (2147483647 : Int32)) % (3 : Int32))), .val (.ref w_ONE_TO_ONE), .val (.ref b162), .val (.ref b185), .val (.int (1 : Int32)), .val (.int (0 : Int32))] [(.int (1 : Int32))]))
                refine GlH.back (fun _ k => XS.iload X206.here hx rfl (hb hby at_247) rfl k) ?_
                show GlH Z consts_1 _ _ _ _ _ _ _ (T206.setTop (mkF m 249 #[.val (.int j0), .val (.int j1), .val (.int j2), .val (.int j3), .val (.int n1), .val (.int r154), .val (.int r155), .val (.int n2), .val (.int r156), .val (.int r157), .val (.int kk), .val (.int nu), .val (.int r158), .val (.int r159), .val (.int ((j3 &&& (2147483647 : Int32)) % (3 : Int32))), .val (.ref w_ONE_TO_ONE), .val (.ref b162), .val (.ref b185), .val (.int (1 : Int32)), .val (.int (0 : Int32))] [(.int (0 : Int32)), (.int (1 : Int32))]))
                exact (hy193.elim hs205 hs206).elim
          · have N193 := Fr.app N185 Nq193
            refine GlH.back (fun _ k => st193.trans k) ?_
            show GlH Z consts_1 _ _ _ _ _ _ _ (T193.setTop (mkF m 195 #[.val (.int j0), .val (.int j1), .val (.int j2), .val (.int j3), .val (.int n1), .val (.int r154), .val (.int r155), .val (.int n2), .val (.int r156), .val (.int r157), .val (.int kk), .val (.int nu), .val (.int r158), .val (.int r159), .val (.int ((j3 &&& (2147483647 : Int32)) % (3 : Int32))), .val (.ref w_ONE_TO_ONE), .val (.ref b162), .val (.ref b185), .unset, .unset] [(.int (0 : Int32))]))
            refine GlH.back (fun _ k => XS.istore X193.here hx rfl (hb hby at_195) rfl (l' := #[.val (.int j0), .val (.int j1), .val (.int j2), .val (.int j3), .val (.int n1), .val (.int r154), .val (.int r155), .val (.int n2), .val (.int r156), .val (.int r157), .val (.int kk), .val (.int nu), .val (.int r158), .val (.int r159), .val (.int ((j3 &&& (2147483647 : Int32)) % (3 : Int32))), .val (.ref w_ONE_TO_ONE), .val (.ref b162), .val (.ref b185), .val (.int (0 : Int32)), .unset]) rfl k) ?_
            show GlH Z consts_1 _ _ _ _ _ _ _ (T193.setTop (mkF m 197 #[.val (.int j0), .val (.int j1), .val (.int j2), .val (.int j3), .val (.int n1), .val (.int r154), .val (.int r155), .val (.int n2), .val (.int r156), .val (.int r157), .val (.int kk), .val (.int nu), .val (.int r158), .val (.int r159), .val (.int ((j3 &&& (2147483647 : Int32)) % (3 : Int32))), .val (.ref w_ONE_TO_ONE), .val (.ref b162), .val (.ref b185), .val (.int (0 : Int32)), .unset] []))
            refine GlH.back (fun _ k => XS.iload X193.here hx rfl (hb hby at_197) rfl k) ?_
            show GlH Z consts_1 _ _ _ _ _ _ _ (T193.setTop (mkF m 199 #[.val (.int j0), .val (.int j1), .val (.int j2), .val (.int j3), .val (.int n1), .val (.int r154), .val (.int r155), .val (.int n2), .val (.int r156), .val (.int r157), .val (.int kk), .val (.int nu), .val (.int r158), .val (.int r159), .val (.int ((j3 &&& (2147483647 : Int32)) % (3 : Int32))), .val (.ref w_ONE_TO_ONE), .val (.ref b162), .val (.ref b185), .val (.int (0 : Int32)), .unset] [(.int nu)]))
            refine GlH.back (fun _ k => XS.ifNo X193.here hx rfl (hb hby at_199) rfl ((if0 _ _).trans (teq (hc170_184 : nu = (0 : Int32))).2) k) ?_
            show GlH Z consts_1 _ _ _ _ _ _ _ (T193.setTop (mkF m 202 #[.val (.int j0), .val (.int j1), .val (.int j2), .val (.int j3), .val (.int n1), .val (.int r154), .val (.int r155), .val (.int n2), .val (.int r156), .val (.int r157), .val (.int kk), .val (.int nu), .val (.int r158), .val (.int r159), .val (.int ((j3 &&& (2147483647 : Int32)) % (3 : Int32))), .val (.ref w_ONE_TO_ONE), .val (.ref b162), .val (.ref b185), .val (.int (0 : Int32)), .unset] []))
            refine GlH.back (fun _ k => XS.iload X193.here hx rfl (hb hby at_202) rfl k) ?_
            show GlH Z consts_1 _ _ _ _ _ _ _ (T193.setTop (mkF m 204 #[.val (.int j0), .val (.int j1), .val (.int j2), .val (.int j3), .val (.int n1), .val (.int r154), .val (.int r155), .val (.int n2), .val (.int r156), .val (.int r157), .val (.int kk), .val (.int nu), .val (.int r158), .val (.int r159), .val (.int ((j3 &&& (2147483647 : Int32)) % (3 : Int32))), .val (.ref w_ONE_TO_ONE), .val (.ref b162), .val (.ref b185), .val (.int (0 : Int32)), .unset] [(.int n1)]))
            refine GlH.back (fun _ k => XS.iload X193.here hx rfl (hb hby at_204) rfl k) ?_
            show GlH Z consts_1 _ _ _ _ _ _ _ (T193.setTop (mkF m 206 #[.val (.int j0), .val (.int j1), .val (.int j2), .val (.int j3), .val (.int n1), .val (.int r154), .val (.int r155), .val (.int n2), .val (.int r156), .val (.int r157), .val (.int kk), .val (.int nu), .val (.int r158), .val (.int r159), .val (.int ((j3 &&& (2147483647 : Int32)) % (3 : Int32))), .val (.ref w_ONE_TO_ONE), .val (.ref b162), .val (.ref b185), .val (.int (0 : Int32)), .unset] [(.int r154), (.int n1)]))
            refine GlH.back (fun _ k => XS.iload X193.here hx rfl (hb hby at_206) rfl k) ?_
            show GlH Z consts_1 _ _ _ _ _ _ _ (T193.setTop (mkF m 208 #[.val (.int j0), .val (.int j1), .val (.int j2), .val (.int j3), .val (.int n1), .val (.int r154), .val (.int r155), .val (.int n2), .val (.int r156), .val (.int r157), .val (.int kk), .val (.int nu), .val (.int r158), .val (.int r159), .val (.int ((j3 &&& (2147483647 : Int32)) % (3 : Int32))), .val (.ref w_ONE_TO_ONE), .val (.ref b162), .val (.ref b185), .val (.int (0 : Int32)), .unset] [(.int r155), (.int r154), (.int n1)]))
            refine GlH.back (fun _ k => XS.iload X193.here hx rfl (hb hby at_208) rfl k) ?_
            show GlH Z consts_1 _ _ _ _ _ _ _ (T193.setTop (mkF m 210 #[.val (.int j0), .val (.int j1), .val (.int j2), .val (.int j3), .val (.int n1), .val (.int r154), .val (.int r155), .val (.int n2), .val (.int r156), .val (.int r157), .val (.int kk), .val (.int nu), .val (.int r158), .val (.int r159), .val (.int ((j3 &&& (2147483647 : Int32)) % (3 : Int32))), .val (.ref w_ONE_TO_ONE), .val (.ref b162), .val (.ref b185), .val (.int (0 : Int32)), .unset] [(.int kk), (.int r155), (.int r154), (.int n1)]))
            refine GlH.back (fun _ k => XS.iload X193.here hx rfl (hb hby at_210) rfl k) ?_
            show GlH Z consts_1 _ _ _ _ _ _ _ (T193.setTop (mkF m 212 #[.val (.int j0), .val (.int j1), .val (.int j2), .val (.int j3), .val (.int n1), .val (.int r154), .val (.int r155), .val (.int n2), .val (.int r156), .val (.int r157), .val (.int kk), .val (.int nu), .val (.int r158), .val (.int r159), .val (.int ((j3 &&& (2147483647 : Int32)) % (3 : Int32))), .val (.ref w_ONE_TO_ONE), .val (.ref b162), .val (.ref b185), .val (.int (0 : Int32)), .unset] [(.int r158), (.int kk), (.int r155), (.int r154), (.int n1)]))
            refine GlH.back (fun _ k => XS.iload X193.here hx rfl (hb hby at_212) rfl k) ?_
            show GlH Z consts_1 _ _ _ _ _ _ _ (T193.setTop (mkF m 214 #[.val (.int j0), .val (.int j1), .val (.int j2), .val (.int j3), .val (.int n1), .val (.int r154), .val (.int r155), .val (.int n2), .val (.int r156), .val (.int r157), .val (.int kk), .val (.int nu), .val (.int r158), .val (.int r159), .val (.int ((j3 &&& (2147483647 : Int32)) % (3 : Int32))), .val (.ref w_ONE_TO_ONE), .val (.ref b162), .val (.ref b185), .val (.int (0 : Int32)), .unset] [(.int r159), (.int r158), (.int kk), (.int r155), (.int r154), (.int n1)]))
            obtain ⟨_, _, ⟨T207, L207, k207, n207⟩, -, X207, ⟨Lc207, hQ207, l207, y207, z207⟩, st207⟩ := Jvm.LawKit.callS X193 hx (y := (⟨"com/example/partition_planner/partitionplanner/RelationshipRelatesPinLaw", "same", "(ICCICC)Z"⟩ : MethodName)) hown185 (mvT hZ185 (hw _ (List.mem_of_getElem? (i := 132) rfl))) (mvT hZ185 (hw _ (List.mem_of_getElem? (i := 133) rfl))) (mvT hZ185 (hw _ (List.mem_of_getElem? (i := 2) rfl))) (mvT hZ185 (hw _ (List.mem_of_getElem? (i := 134) rfl))) (by decide) (backOf (W := 0) (rmsm l Z a0 hw [] n1 r154 r155 kk r158 r159  T185.heap n0 Zc185 (own_n3 hn1) hkk) hZ185 (hw _ (List.mem_of_getElem? (i := 134) rfl)) (hw _ (List.mem_of_getElem? (i := 2) rfl)) (by decide) (by decide)) (g := (mkF m 214 #[.val (.int j0), .val (.int j1), .val (.int j2), .val (.int j3), .val (.int n1), .val (.int r154), .val (.int r155), .val (.int n2), .val (.int r156), .val (.int r157), .val (.int kk), .val (.int nu), .val (.int r158), .val (.int r159), .val (.int ((j3 &&& (2147483647 : Int32)) % (3 : Int32))), .val (.ref w_ONE_TO_ONE), .val (.ref b162), .val (.ref b185), .val (.int (0 : Int32)), .unset] [(.int r159), (.int r158), (.int kk), (.int r155), (.int r154), (.int n1)])) rfl (by rw [hml]; rfl) (argsL := [(.int n1), (.int r154), (.int r155), (.int kk), (.int r158), (.int r159)]) (rest := []) (lenOf pd__ICCICC_Z rfl) rfl (by show 2 * 0 + _ ≤ _; exact Nat.le_of_eq rfl) (hb hby at_214) (fun _ _ => ⟨rfl, eh193, (by decide : 23 + 0 ≤ _), (by decide : 156 + 0 ≤ _)⟩)
            dsimp only [Pt.U, Pt.locs, Pt.cells, Pt.slots] at X207 l207 y207 z207 st207 hQ207
            replace l207 := Eq.symm l207
            replace y207 := Eq.symm y207
            replace z207 := Eq.symm z207
            subst l207 y207 z207
            obtain ⟨Nq207, hQ207⟩ := hQ207
            rcases hQ207 with ⟨rfl, eh207, hs207⟩ | ⟨rfl, eh207, hs207⟩
            · have N207 := Fr.app N193 Nq207
              refine GlH.back (fun _ k => st207 _ k) ?_
              show GlH Z consts_1 _ _ _ _ _ _ _ (T207.setTop (mkF m 217 #[.val (.int j0), .val (.int j1), .val (.int j2), .val (.int j3), .val (.int n1), .val (.int r154), .val (.int r155), .val (.int n2), .val (.int r156), .val (.int r157), .val (.int kk), .val (.int nu), .val (.int r158), .val (.int r159), .val (.int ((j3 &&& (2147483647 : Int32)) % (3 : Int32))), .val (.ref w_ONE_TO_ONE), .val (.ref b162), .val (.ref b185), .val (.int (0 : Int32)), .unset] [(.int (1 : Int32))]))
              refine GlH.back (fun _ k => XS.ifYes X207.here hx rfl (pc0 := 217) (pc' := 238) rfl (hb hby at_217) rfl ((if0 _ _).trans (feq (by decide : ¬ (1 : Int32) = (0 : Int32))).2) (by decide) (by decide) k) ?_
              show GlH Z consts_1 _ _ _ _ _ _ _ (T207.setTop (mkF m 238 #[.val (.int j0), .val (.int j1), .val (.int j2), .val (.int j3), .val (.int n1), .val (.int r154), .val (.int r155), .val (.int n2), .val (.int r156), .val (.int r157), .val (.int kk), .val (.int nu), .val (.int r158), .val (.int r159), .val (.int ((j3 &&& (2147483647 : Int32)) % (3 : Int32))), .val (.ref w_ONE_TO_ONE), .val (.ref b162), .val (.ref b185), .val (.int (0 : Int32)), .unset] []))
              refine GlH.back (fun _ k => XS.iconst X207.here hx rfl (hb hby at_238) k) ?_
              show GlH Z consts_1 _ _ _ _ _ _ _ (T207.setTop (mkF m 239 #[.val (.int j0), .val (.int j1), .val (.int j2), .val (.int j3), .val (.int n1), .val (.int r154), .val (.int r155), .val (.int n2), .val (.int r156), .val (.int r157), .val (.int kk), .val (.int nu), .val (.int r158), .val (.int r159), .val (.int ((j3 &&& (2147483647 : Int32)) % (3 : Int32))), .val (.ref w_ONE_TO_ONE), .val (.ref b162), .val (.ref b185), .val (.int (0 : Int32)), .unset] [(.int (1 : Int32))]))
              refine GlH.back (fun _ k => XS.goto X207.here hx rfl (pc0 := 239) (pc' := 243) rfl (hb hby at_239) (by decide) (by decide) k) ?_
              show GlH Z consts_1 _ _ _ _ _ _ _ (T207.setTop (mkF m 243 #[.val (.int j0), .val (.int j1), .val (.int j2), .val (.int j3), .val (.int n1), .val (.int r154), .val (.int r155), .val (.int n2), .val (.int r156), .val (.int r157), .val (.int kk), .val (.int nu), .val (.int r158), .val (.int r159), .val (.int ((j3 &&& (2147483647 : Int32)) % (3 : Int32))), .val (.ref w_ONE_TO_ONE), .val (.ref b162), .val (.ref b185), .val (.int (0 : Int32)), .unset] [(.int (1 : Int32))]))
              refine GlH.back (fun _ k => XS.istore X207.here hx rfl (hb hby at_243) rfl (l' := #[.val (.int j0), .val (.int j1), .val (.int j2), .val (.int j3), .val (.int n1), .val (.int r154), .val (.int r155), .val (.int n2), .val (.int r156), .val (.int r157), .val (.int kk), .val (.int nu), .val (.int r158), .val (.int r159), .val (.int ((j3 &&& (2147483647 : Int32)) % (3 : Int32))), .val (.ref w_ONE_TO_ONE), .val (.ref b162), .val (.ref b185), .val (.int (0 : Int32)), .val (.int (1 : Int32))]) rfl k) ?_
              show GlH Z consts_1 _ _ _ _ _ _ _ (T207.setTop (mkF m 245 #[.val (.int j0), .val (.int j1), .val (.int j2), .val (.int j3), .val (.int n1), .val (.int r154), .val (.int r155), .val (.int n2), .val (.int r156), .val (.int r157), .val (.int kk), .val (.int nu), .val (.int r158), .val (.int r159), .val (.int ((j3 &&& (2147483647 : Int32)) % (3 : Int32))), .val (.ref w_ONE_TO_ONE), .val (.ref b162), .val (.ref b185), .val (.int (0 : Int32)), .val (.int (1 : Int32))] []))
              refine GlH.back (fun _ k => XS.iload X207.here hx rfl (hb hby at_245) rfl k) ?_
              show GlH Z consts_1 _ _ _ _ _ _ _ (T207.setTop (mkF m 247 #[.val (.int j0), .val (.int j1), .val (.int j2), .val (.int j3), .val (.int n1), .val (.int r154), .val (.int r155), .val (.int n2), .val (.int r156), .val (.int r157), .val (.int kk), .val (.int nu), .val (.int r158), .val (.int r159), .val (.int ((j3 &&& (2147483647 : Int32)) % (3 : Int32))), .val (.ref w_ONE_TO_ONE), .val (.ref b162), .val (.ref b185), .val (.int (0 : Int32)), .val (.int (1 : Int32))] [(.int (0 : Int32))]))
              refine GlH.back (fun _ k => XS.iload X207.here hx rfl (hb hby at_247) rfl k) ?_
              show GlH Z consts_1 _ _ _ _ _ _ _ (T207.setTop (mkF m 249 #[.val (.int j0), .val (.int j1), .val (.int j2), .val (.int j3), .val (.int n1), .val (.int r154), .val (.int r155), .val (.int n2), .val (.int r156), .val (.int r157), .val (.int kk), .val (.int nu), .val (.int r158), .val (.int r159), .val (.int ((j3 &&& (2147483647 : Int32)) % (3 : Int32))), .val (.ref w_ONE_TO_ONE), .val (.ref b162), .val (.ref b185), .val (.int (0 : Int32)), .val (.int (1 : Int32))] [(.int (1 : Int32)), (.int (0 : Int32))]))
              exact (hy193 hs207).elim
            · have N207 := Fr.app N193 Nq207
              refine GlH.back (fun _ k => st207 _ k) ?_
              show GlH Z consts_1 _ _ _ _ _ _ _ (T207.setTop (mkF m 217 #[.val (.int j0), .val (.int j1), .val (.int j2), .val (.int j3), .val (.int n1), .val (.int r154), .val (.int r155), .val (.int n2), .val (.int r156), .val (.int r157), .val (.int kk), .val (.int nu), .val (.int r158), .val (.int r159), .val (.int ((j3 &&& (2147483647 : Int32)) % (3 : Int32))), .val (.ref w_ONE_TO_ONE), .val (.ref b162), .val (.ref b185), .val (.int (0 : Int32)), .unset] [(.int (0 : Int32))]))
              refine GlH.back (fun _ k => XS.ifNo X207.here hx rfl (hb hby at_217) rfl ((if0 _ _).trans (teq (by decide : (0 : Int32) = (0 : Int32))).2) k) ?_
              show GlH Z consts_1 _ _ _ _ _ _ _ (T207.setTop (mkF m 220 #[.val (.int j0), .val (.int j1), .val (.int j2), .val (.int j3), .val (.int n1), .val (.int r154), .val (.int r155), .val (.int n2), .val (.int r156), .val (.int r157), .val (.int kk), .val (.int nu), .val (.int r158), .val (.int r159), .val (.int ((j3 &&& (2147483647 : Int32)) % (3 : Int32))), .val (.ref w_ONE_TO_ONE), .val (.ref b162), .val (.ref b185), .val (.int (0 : Int32)), .unset] []))
              refine GlH.back (fun _ k => XS.iload X207.here hx rfl (hb hby at_220) rfl k) ?_
              show GlH Z consts_1 _ _ _ _ _ _ _ (T207.setTop (mkF m 222 #[.val (.int j0), .val (.int j1), .val (.int j2), .val (.int j3), .val (.int n1), .val (.int r154), .val (.int r155), .val (.int n2), .val (.int r156), .val (.int r157), .val (.int kk), .val (.int nu), .val (.int r158), .val (.int r159), .val (.int ((j3 &&& (2147483647 : Int32)) % (3 : Int32))), .val (.ref w_ONE_TO_ONE), .val (.ref b162), .val (.ref b185), .val (.int (0 : Int32)), .unset] [(.int n2)]))
              refine GlH.back (fun _ k => XS.iload X207.here hx rfl (hb hby at_222) rfl k) ?_
              show GlH Z consts_1 _ _ _ _ _ _ _ (T207.setTop (mkF m 224 #[.val (.int j0), .val (.int j1), .val (.int j2), .val (.int j3), .val (.int n1), .val (.int r154), .val (.int r155), .val (.int n2), .val (.int r156), .val (.int r157), .val (.int kk), .val (.int nu), .val (.int r158), .val (.int r159), .val (.int ((j3 &&& (2147483647 : Int32)) % (3 : Int32))), .val (.ref w_ONE_TO_ONE), .val (.ref b162), .val (.ref b185), .val (.int (0 : Int32)), .unset] [(.int r156), (.int n2)]))
              refine GlH.back (fun _ k => XS.iload X207.here hx rfl (hb hby at_224) rfl k) ?_
              show GlH Z consts_1 _ _ _ _ _ _ _ (T207.setTop (mkF m 226 #[.val (.int j0), .val (.int j1), .val (.int j2), .val (.int j3), .val (.int n1), .val (.int r154), .val (.int r155), .val (.int n2), .val (.int r156), .val (.int r157), .val (.int kk), .val (.int nu), .val (.int r158), .val (.int r159), .val (.int ((j3 &&& (2147483647 : Int32)) % (3 : Int32))), .val (.ref w_ONE_TO_ONE), .val (.ref b162), .val (.ref b185), .val (.int (0 : Int32)), .unset] [(.int r157), (.int r156), (.int n2)]))
              refine GlH.back (fun _ k => XS.iload X207.here hx rfl (hb hby at_226) rfl k) ?_
              show GlH Z consts_1 _ _ _ _ _ _ _ (T207.setTop (mkF m 228 #[.val (.int j0), .val (.int j1), .val (.int j2), .val (.int j3), .val (.int n1), .val (.int r154), .val (.int r155), .val (.int n2), .val (.int r156), .val (.int r157), .val (.int kk), .val (.int nu), .val (.int r158), .val (.int r159), .val (.int ((j3 &&& (2147483647 : Int32)) % (3 : Int32))), .val (.ref w_ONE_TO_ONE), .val (.ref b162), .val (.ref b185), .val (.int (0 : Int32)), .unset] [(.int kk), (.int r157), (.int r156), (.int n2)]))
              refine GlH.back (fun _ k => XS.iload X207.here hx rfl (hb hby at_228) rfl k) ?_
              show GlH Z consts_1 _ _ _ _ _ _ _ (T207.setTop (mkF m 230 #[.val (.int j0), .val (.int j1), .val (.int j2), .val (.int j3), .val (.int n1), .val (.int r154), .val (.int r155), .val (.int n2), .val (.int r156), .val (.int r157), .val (.int kk), .val (.int nu), .val (.int r158), .val (.int r159), .val (.int ((j3 &&& (2147483647 : Int32)) % (3 : Int32))), .val (.ref w_ONE_TO_ONE), .val (.ref b162), .val (.ref b185), .val (.int (0 : Int32)), .unset] [(.int r158), (.int kk), (.int r157), (.int r156), (.int n2)]))
              refine GlH.back (fun _ k => XS.iload X207.here hx rfl (hb hby at_230) rfl k) ?_
              show GlH Z consts_1 _ _ _ _ _ _ _ (T207.setTop (mkF m 232 #[.val (.int j0), .val (.int j1), .val (.int j2), .val (.int j3), .val (.int n1), .val (.int r154), .val (.int r155), .val (.int n2), .val (.int r156), .val (.int r157), .val (.int kk), .val (.int nu), .val (.int r158), .val (.int r159), .val (.int ((j3 &&& (2147483647 : Int32)) % (3 : Int32))), .val (.ref w_ONE_TO_ONE), .val (.ref b162), .val (.ref b185), .val (.int (0 : Int32)), .unset] [(.int r159), (.int r158), (.int kk), (.int r157), (.int r156), (.int n2)]))
              obtain ⟨_, _, ⟨T208, L208, k208, n208⟩, -, X208, ⟨Lc208, hQ208, l208, y208, z208⟩, st208⟩ := Jvm.LawKit.callS X207 hx (y := (⟨"com/example/partition_planner/partitionplanner/RelationshipRelatesPinLaw", "same", "(ICCICC)Z"⟩ : MethodName)) hown185 (mvT hZ185 (hw _ (List.mem_of_getElem? (i := 132) rfl))) (mvT hZ185 (hw _ (List.mem_of_getElem? (i := 133) rfl))) (mvT hZ185 (hw _ (List.mem_of_getElem? (i := 2) rfl))) (mvT hZ185 (hw _ (List.mem_of_getElem? (i := 134) rfl))) (by decide) (backOf (W := 0) (rmsm l Z a0 hw [] n2 r156 r157 kk r158 r159  T185.heap n0 Zc185 (own_n3 hn2) hkk) hZ185 (hw _ (List.mem_of_getElem? (i := 134) rfl)) (hw _ (List.mem_of_getElem? (i := 2) rfl)) (by decide) (by decide)) (g := (mkF m 232 #[.val (.int j0), .val (.int j1), .val (.int j2), .val (.int j3), .val (.int n1), .val (.int r154), .val (.int r155), .val (.int n2), .val (.int r156), .val (.int r157), .val (.int kk), .val (.int nu), .val (.int r158), .val (.int r159), .val (.int ((j3 &&& (2147483647 : Int32)) % (3 : Int32))), .val (.ref w_ONE_TO_ONE), .val (.ref b162), .val (.ref b185), .val (.int (0 : Int32)), .unset] [(.int r159), (.int r158), (.int kk), (.int r157), (.int r156), (.int n2)])) rfl (by rw [hml]; rfl) (argsL := [(.int n2), (.int r156), (.int r157), (.int kk), (.int r158), (.int r159)]) (rest := []) (lenOf pd__ICCICC_Z rfl) rfl (by show 2 * 0 + _ ≤ _; exact Nat.le_of_eq rfl) (hb hby at_232) (fun _ _ => ⟨rfl, eh207, (by decide : 23 + 0 ≤ _), (by decide : 156 + 0 ≤ _)⟩)
              dsimp only [Pt.U, Pt.locs, Pt.cells, Pt.slots] at X208 l208 y208 z208 st208 hQ208
              replace l208 := Eq.symm l208
              replace y208 := Eq.symm y208
              replace z208 := Eq.symm z208
              subst l208 y208 z208
              obtain ⟨Nq208, hQ208⟩ := hQ208
              rcases hQ208 with ⟨rfl, eh208, hs208⟩ | ⟨rfl, eh208, hs208⟩
              · have N208 := Fr.app N207 Nq208
                refine GlH.back (fun _ k => st208 _ k) ?_
                show GlH Z consts_1 _ _ _ _ _ _ _ (T208.setTop (mkF m 235 #[.val (.int j0), .val (.int j1), .val (.int j2), .val (.int j3), .val (.int n1), .val (.int r154), .val (.int r155), .val (.int n2), .val (.int r156), .val (.int r157), .val (.int kk), .val (.int nu), .val (.int r158), .val (.int r159), .val (.int ((j3 &&& (2147483647 : Int32)) % (3 : Int32))), .val (.ref w_ONE_TO_ONE), .val (.ref b162), .val (.ref b185), .val (.int (0 : Int32)), .unset] [(.int (1 : Int32))]))
                refine GlH.back (fun _ k => XS.ifNo X208.here hx rfl (hb hby at_235) rfl ((if0 _ _).trans (feq (by decide : ¬ (1 : Int32) = (0 : Int32))).1) k) ?_
                show GlH Z consts_1 _ _ _ _ _ _ _ (T208.setTop (mkF m 238 #[.val (.int j0), .val (.int j1), .val (.int j2), .val (.int j3), .val (.int n1), .val (.int r154), .val (.int r155), .val (.int n2), .val (.int r156), .val (.int r157), .val (.int kk), .val (.int nu), .val (.int r158), .val (.int r159), .val (.int ((j3 &&& (2147483647 : Int32)) % (3 : Int32))), .val (.ref w_ONE_TO_ONE), .val (.ref b162), .val (.ref b185), .val (.int (0 : Int32)), .unset] []))
                refine GlH.back (fun _ k => XS.iconst X208.here hx rfl (hb hby at_238) k) ?_
                show GlH Z consts_1 _ _ _ _ _ _ _ (T208.setTop (mkF m 239 #[.val (.int j0), .val (.int j1), .val (.int j2), .val (.int j3), .val (.int n1), .val (.int r154), .val (.int r155), .val (.int n2), .val (.int r156), .val (.int r157), .val (.int kk), .val (.int nu), .val (.int r158), .val (.int r159), .val (.int ((j3 &&& (2147483647 : Int32)) % (3 : Int32))), .val (.ref w_ONE_TO_ONE), .val (.ref b162), .val (.ref b185), .val (.int (0 : Int32)), .unset] [(.int (1 : Int32))]))
                refine GlH.back (fun _ k => XS.goto X208.here hx rfl (pc0 := 239) (pc' := 243) rfl (hb hby at_239) (by decide) (by decide) k) ?_
                show GlH Z consts_1 _ _ _ _ _ _ _ (T208.setTop (mkF m 243 #[.val (.int j0), .val (.int j1), .val (.int j2), .val (.int j3), .val (.int n1), .val (.int r154), .val (.int r155), .val (.int n2), .val (.int r156), .val (.int r157), .val (.int kk), .val (.int nu), .val (.int r158), .val (.int r159), .val (.int ((j3 &&& (2147483647 : Int32)) % (3 : Int32))), .val (.ref w_ONE_TO_ONE), .val (.ref b162), .val (.ref b185), .val (.int (0 : Int32)), .unset] [(.int (1 : Int32))]))
                refine GlH.back (fun _ k => XS.istore X208.here hx rfl (hb hby at_243) rfl (l' := #[.val (.int j0), .val (.int j1), .val (.int j2), .val (.int j3), .val (.int n1), .val (.int r154), .val (.int r155), .val (.int n2), .val (.int r156), .val (.int r157), .val (.int kk), .val (.int nu), .val (.int r158), .val (.int r159), .val (.int ((j3 &&& (2147483647 : Int32)) % (3 : Int32))), .val (.ref w_ONE_TO_ONE), .val (.ref b162), .val (.ref b185), .val (.int (0 : Int32)), .val (.int (1 : Int32))]) rfl k) ?_
                show GlH Z consts_1 _ _ _ _ _ _ _ (T208.setTop (mkF m 245 #[.val (.int j0), .val (.int j1), .val (.int j2), .val (.int j3), .val (.int n1), .val (.int r154), .val (.int r155), .val (.int n2), .val (.int r156), .val (.int r157), .val (.int kk), .val (.int nu), .val (.int r158), .val (.int r159), .val (.int ((j3 &&& (2147483647 : Int32)) % (3 : Int32))), .val (.ref w_ONE_TO_ONE), .val (.ref b162), .val (.ref b185), .val (.int (0 : Int32)), .val (.int (1 : Int32))] []))
                refine GlH.back (fun _ k => XS.iload X208.here hx rfl (hb hby at_245) rfl k) ?_
                show GlH Z consts_1 _ _ _ _ _ _ _ (T208.setTop (mkF m 247 #[.val (.int j0), .val (.int j1), .val (.int j2), .val (.int j3), .val (.int n1), .val (.int r154), .val (.int r155), .val (.int n2), .val (.int r156), .val (.int r157), .val (.int kk), .val (.int nu), .val (.int r158), .val (.int r159), .val (.int ((j3 &&& (2147483647 : Int32)) % (3 : Int32))), .val (.ref w_ONE_TO_ONE), .val (.ref b162), .val (.ref b185), .val (.int (0 : Int32)), .val (.int (1 : Int32))] [(.int (0 : Int32))]))
                refine GlH.back (fun _ k => XS.iload X208.here hx rfl (hb hby at_247) rfl k) ?_
                show GlH Z consts_1 _ _ _ _ _ _ _ (T208.setTop (mkF m 249 #[.val (.int j0), .val (.int j1), .val (.int j2), .val (.int j3), .val (.int n1), .val (.int r154), .val (.int r155), .val (.int n2), .val (.int r156), .val (.int r157), .val (.int kk), .val (.int nu), .val (.int r158), .val (.int r159), .val (.int ((j3 &&& (2147483647 : Int32)) % (3 : Int32))), .val (.ref w_ONE_TO_ONE), .val (.ref b162), .val (.ref b185), .val (.int (0 : Int32)), .val (.int (1 : Int32))] [(.int (1 : Int32)), (.int (0 : Int32))]))
                exact (hz193 hs208).elim
              · have N208 := Fr.app N207 Nq208
                refine GlH.back (fun _ k => st208 _ k) ?_
                show GlH Z consts_1 _ _ _ _ _ _ _ (T208.setTop (mkF m 235 #[.val (.int j0), .val (.int j1), .val (.int j2), .val (.int j3), .val (.int n1), .val (.int r154), .val (.int r155), .val (.int n2), .val (.int r156), .val (.int r157), .val (.int kk), .val (.int nu), .val (.int r158), .val (.int r159), .val (.int ((j3 &&& (2147483647 : Int32)) % (3 : Int32))), .val (.ref w_ONE_TO_ONE), .val (.ref b162), .val (.ref b185), .val (.int (0 : Int32)), .unset] [(.int (0 : Int32))]))
                refine GlH.back (fun _ k => XS.ifYes X208.here hx rfl (pc0 := 235) (pc' := 242) rfl (hb hby at_235) rfl ((if0 _ _).trans (teq (by decide : (0 : Int32) = (0 : Int32))).1) (by decide) (by decide) k) ?_
                show GlH Z consts_1 _ _ _ _ _ _ _ (T208.setTop (mkF m 242 #[.val (.int j0), .val (.int j1), .val (.int j2), .val (.int j3), .val (.int n1), .val (.int r154), .val (.int r155), .val (.int n2), .val (.int r156), .val (.int r157), .val (.int kk), .val (.int nu), .val (.int r158), .val (.int r159), .val (.int ((j3 &&& (2147483647 : Int32)) % (3 : Int32))), .val (.ref w_ONE_TO_ONE), .val (.ref b162), .val (.ref b185), .val (.int (0 : Int32)), .unset] []))
                refine GlH.back (fun _ k => XS.iconst X208.here hx rfl (hb hby at_242) k) ?_
                show GlH Z consts_1 _ _ _ _ _ _ _ (T208.setTop (mkF m 243 #[.val (.int j0), .val (.int j1), .val (.int j2), .val (.int j3), .val (.int n1), .val (.int r154), .val (.int r155), .val (.int n2), .val (.int r156), .val (.int r157), .val (.int kk), .val (.int nu), .val (.int r158), .val (.int r159), .val (.int ((j3 &&& (2147483647 : Int32)) % (3 : Int32))), .val (.ref w_ONE_TO_ONE), .val (.ref b162), .val (.ref b185), .val (.int (0 : Int32)), .unset] [(.int (0 : Int32))]))
                refine GlH.back (fun _ k => XS.istore X208.here hx rfl (hb hby at_243) rfl (l' := #[.val (.int j0), .val (.int j1), .val (.int j2), .val (.int j3), .val (.int n1), .val (.int r154), .val (.int r155), .val (.int n2), .val (.int r156), .val (.int r157), .val (.int kk), .val (.int nu), .val (.int r158), .val (.int r159), .val (.int ((j3 &&& (2147483647 : Int32)) % (3 : Int32))), .val (.ref w_ONE_TO_ONE), .val (.ref b162), .val (.ref b185), .val (.int (0 : Int32)), .val (.int (0 : Int32))]) rfl k) ?_
                show GlH Z consts_1 _ _ _ _ _ _ _ (T208.setTop (mkF m 245 #[.val (.int j0), .val (.int j1), .val (.int j2), .val (.int j3), .val (.int n1), .val (.int r154), .val (.int r155), .val (.int n2), .val (.int r156), .val (.int r157), .val (.int kk), .val (.int nu), .val (.int r158), .val (.int r159), .val (.int ((j3 &&& (2147483647 : Int32)) % (3 : Int32))), .val (.ref w_ONE_TO_ONE), .val (.ref b162), .val (.ref b185), .val (.int (0 : Int32)), .val (.int (0 : Int32))] []))
                refine GlH.back (fun _ k => XS.iload X208.here hx rfl (hb hby at_245) rfl k) ?_
                show GlH Z consts_1 _ _ _ _ _ _ _ (T208.setTop (mkF m 247 #[.val (.int j0), .val (.int j1), .val (.int j2), .val (.int j3), .val (.int n1), .val (.int r154), .val (.int r155), .val (.int n2), .val (.int r156), .val (.int r157), .val (.int kk), .val (.int nu), .val (.int r158), .val (.int r159), .val (.int ((j3 &&& (2147483647 : Int32)) % (3 : Int32))), .val (.ref w_ONE_TO_ONE), .val (.ref b162), .val (.ref b185), .val (.int (0 : Int32)), .val (.int (0 : Int32))] [(.int (0 : Int32))]))
                refine GlH.back (fun _ k => XS.iload X208.here hx rfl (hb hby at_247) rfl k) ?_
                show GlH Z consts_1 _ _ _ _ _ _ _ (T208.setTop (mkF m 249 #[.val (.int j0), .val (.int j1), .val (.int j2), .val (.int j3), .val (.int n1), .val (.int r154), .val (.int r155), .val (.int n2), .val (.int r156), .val (.int r157), .val (.int kk), .val (.int nu), .val (.int r158), .val (.int r159), .val (.int ((j3 &&& (2147483647 : Int32)) % (3 : Int32))), .val (.ref w_ONE_TO_ONE), .val (.ref b162), .val (.ref b185), .val (.int (0 : Int32)), .val (.int (0 : Int32))] [(.int (0 : Int32)), (.int (0 : Int32))]))
                refine GlH.back (fun _ k => XS.icmpNo X208.here hx rfl (hb hby at_249) rfl (teq (by decide : (0 : Int32) = (0 : Int32))).2 k) ?_
                show GlH Z consts_1 _ _ _ _ _ _ _ (T208.setTop (mkF m 252 #[.val (.int j0), .val (.int j1), .val (.int j2), .val (.int j3), .val (.int n1), .val (.int r154), .val (.int r155), .val (.int n2), .val (.int r156), .val (.int r157), .val (.int kk), .val (.int nu), .val (.int r158), .val (.int r159), .val (.int ((j3 &&& (2147483647 : Int32)) % (3 : Int32))), .val (.ref w_ONE_TO_ONE), .val (.ref b162), .val (.ref b185), .val (.int (0 : Int32)), .val (.int (0 : Int32))] []))
                refine GlH.back (fun _ k => XS.iconst X208.here hx rfl (hb hby at_252) k) ?_
                show GlH Z consts_1 _ _ _ _ _ _ _ (T208.setTop (mkF m 253 #[.val (.int j0), .val (.int j1), .val (.int j2), .val (.int j3), .val (.int n1), .val (.int r154), .val (.int r155), .val (.int n2), .val (.int r156), .val (.int r157), .val (.int kk), .val (.int nu), .val (.int r158), .val (.int r159), .val (.int ((j3 &&& (2147483647 : Int32)) % (3 : Int32))), .val (.ref w_ONE_TO_ONE), .val (.ref b162), .val (.ref b185), .val (.int (0 : Int32)), .val (.int (0 : Int32))] [(.int (1 : Int32))]))
                refine GlH.back (fun _ k => XS.goto X208.here hx rfl (pc0 := 253) (pc' := 257) rfl (hb hby at_253) (by decide) (by decide) k) ?_
                show GlH Z consts_1 _ _ _ _ _ _ _ (T208.setTop (mkF m 257 #[.val (.int j0), .val (.int j1), .val (.int j2), .val (.int j3), .val (.int n1), .val (.int r154), .val (.int r155), .val (.int n2), .val (.int r156), .val (.int r157), .val (.int kk), .val (.int nu), .val (.int r158), .val (.int r159), .val (.int ((j3 &&& (2147483647 : Int32)) % (3 : Int32))), .val (.ref w_ONE_TO_ONE), .val (.ref b162), .val (.ref b185), .val (.int (0 : Int32)), .val (.int (0 : Int32))] [(.int (1 : Int32))]))
                exact GlH.ret X208 eh208 hS185 (Nat.le_refl _) hh hZ185 hEL CHr185 (v := (some (.int (1 : Int32)))) (fun h => by rw [Bd.returns] at h; cases h) Bd.notSynchronized (fun fs hr => retN X208 hx (t := .boolean) (z := (1 : Int32)) Bd.returns (by simp) (hb hby at_257) hr) ⟨N208, rfl⟩ (by decide) (by decide)
        · refine GlH.back (fun _ k => XS.ifNo X170.here hx rfl (hb hby at_170) rfl ((if0 _ _).trans (feq hc170_184).1) k) ?_
          show GlH Z consts_1 _ _ _ _ _ _ _ (T170.setTop (mkF m 173 #[.val (.int j0), .val (.int j1), .val (.int j2), .val (.int j3), .val (.int n1), .val (.int r154), .val (.int r155), .val (.int n2), .val (.int r156), .val (.int r157), .val (.int kk), .val (.int nu), .val (.int r158), .val (.int r159), .val (.int ((j3 &&& (2147483647 : Int32)) % (3 : Int32))), .val (.ref w_ONE_TO_ONE), .val (.ref b162), .unset, .unset, .unset] []))
          refine GlH.back (fun _ k => XS.aconstNull X170.here hx rfl (hb hby at_173) k) ?_
          show GlH Z consts_1 _ _ _ _ _ _ _ (T170.setTop (mkF m 174 #[.val (.int j0), .val (.int j1), .val (.int j2), .val (.int j3), .val (.int n1), .val (.int r154), .val (.int r155), .val (.int n2), .val (.int r156), .val (.int r157), .val (.int kk), .val (.int nu), .val (.int r158), .val (.int r159), .val (.int ((j3 &&& (2147483647 : Int32)) % (3 : Int32))), .val (.ref w_ONE_TO_ONE), .val (.ref b162), .unset, .unset, .unset] [.null]))
          refine GlH.back (fun _ k => XS.goto X170.here hx rfl (pc0 := 174) (pc' := 186) rfl (hb hby at_174) (by decide) (by decide) k) ?_
          show GlH Z consts_1 _ _ _ _ _ _ _ (T170.setTop (mkF m 186 #[.val (.int j0), .val (.int j1), .val (.int j2), .val (.int j3), .val (.int n1), .val (.int r154), .val (.int r155), .val (.int n2), .val (.int r156), .val (.int r157), .val (.int kk), .val (.int nu), .val (.int r158), .val (.int r159), .val (.int ((j3 &&& (2147483647 : Int32)) % (3 : Int32))), .val (.ref w_ONE_TO_ONE), .val (.ref b162), .unset, .unset, .unset] [.null]))
          refine GlH.back (fun _ k => XS.astore X170.here hx rfl (hb hby at_186) rfl rfl (l' := #[.val (.int j0), .val (.int j1), .val (.int j2), .val (.int j3), .val (.int n1), .val (.int r154), .val (.int r155), .val (.int n2), .val (.int r156), .val (.int r157), .val (.int kk), .val (.int nu), .val (.int r158), .val (.int r159), .val (.int ((j3 &&& (2147483647 : Int32)) % (3 : Int32))), .val (.ref w_ONE_TO_ONE), .val (.ref b162), .val .null, .unset, .unset]) rfl k) ?_
          show GlH Z consts_1 _ _ _ _ _ _ _ (T170.setTop (mkF m 188 #[.val (.int j0), .val (.int j1), .val (.int j2), .val (.int j3), .val (.int n1), .val (.int r154), .val (.int r155), .val (.int n2), .val (.int r156), .val (.int r157), .val (.int kk), .val (.int nu), .val (.int r158), .val (.int r159), .val (.int ((j3 &&& (2147483647 : Int32)) % (3 : Int32))), .val (.ref w_ONE_TO_ONE), .val (.ref b162), .val .null, .unset, .unset] []))
          refine GlH.back (fun _ k => XS.aload X170.here hx rfl (hb hby at_188) rfl rfl k) ?_
          show GlH Z consts_1 _ _ _ _ _ _ _ (T170.setTop (mkF m 190 #[.val (.int j0), .val (.int j1), .val (.int j2), .val (.int j3), .val (.int n1), .val (.int r154), .val (.int r155), .val (.int n2), .val (.int r156), .val (.int r157), .val (.int kk), .val (.int nu), .val (.int r158), .val (.int r159), .val (.int ((j3 &&& (2147483647 : Int32)) % (3 : Int32))), .val (.ref w_ONE_TO_ONE), .val (.ref b162), .val .null, .unset, .unset] [(.ref b162)]))
          refine GlH.back (fun _ k => XS.aload X170.here hx rfl (hb hby at_190) rfl rfl k) ?_
          show GlH Z consts_1 _ _ _ _ _ _ _ (T170.setTop (mkF m 192 #[.val (.int j0), .val (.int j1), .val (.int j2), .val (.int j3), .val (.int n1), .val (.int r154), .val (.int r155), .val (.int n2), .val (.int r156), .val (.int r157), .val (.int kk), .val (.int nu), .val (.int r158), .val (.int r159), .val (.int ((j3 &&& (2147483647 : Int32)) % (3 : Int32))), .val (.ref w_ONE_TO_ONE), .val (.ref b162), .val .null, .unset, .unset] [.null, (.ref b162)]))
          have f210 := (f171.keep Kq170)
          have f211 := (f180.keep Kq170)
          have f212 := (Ex166.keep Kq170)
          obtain ⟨cq209, kq209, q209a, q209b, q209c⟩ := isOf hZ170 rfl f210
          obtain ⟨_, _, ⟨T209, L209, k209, n209⟩, -, X209, ⟨Lc209, hQ209, l209, y209, z209⟩, st209⟩ := X170.virtualBack hx (y := (⟨"com/example/partition_planner/partitionplanner/Relationship", "relates", "(Ljava/lang/String;)Z"⟩ : MethodName)) (z := (⟨"com/example/partition_planner/partitionplanner/Relationship", "relates", "(Ljava/lang/String;)Z"⟩ : MethodName)) hown170 (mvT hZ170 (hw _ (List.mem_of_getElem? (i := 117) rfl))) (mvT hZ170 (hw _ (List.mem_of_getElem? (i := 118) rfl))) (notFace_of_selects (args := #[]) (mvT hZ170 (hw _ (List.mem_of_getElem? (i := 120) rfl)))) (mvT hZ170 (hw _ (List.mem_of_getElem? (i := 120) rfl))) (mvT hZ170 (hw _ (List.mem_of_getElem? (i := 119) rfl))) (by decide) (backOf (W := 0) (rmrelN l Z a0 hw [] b162 b165 b166 T170.heap n0 Zc170 f210 Ff170 Fs170 f211 f212) hZ170 (hw _ (List.mem_of_getElem? (i := 121) rfl)) (hw _ (List.mem_of_getElem? (i := 10) rfl)) (by decide) (by decide)) q209a q209c (g := (mkF m 192 #[.val (.int j0), .val (.int j1), .val (.int j2), .val (.int j3), .val (.int n1), .val (.int r154), .val (.int r155), .val (.int n2), .val (.int r156), .val (.int r157), .val (.int kk), .val (.int nu), .val (.int r158), .val (.int r159), .val (.int ((j3 &&& (2147483647 : Int32)) % (3 : Int32))), .val (.ref w_ONE_TO_ONE), .val (.ref b162), .val .null, .unset, .unset] [.null, (.ref b162)])) rfl (by rw [hml]; rfl) (Steps.refl _) (argsL := [.null]) (rest := []) (lenOf pd__Ljava_lang_String__Z rfl) rfl (by show 2 * 0 + _ ≤ _; exact Nat.le_of_eq rfl) (hb hby at_192) (fun _ _ => ⟨rfl, rfl, (by decide : 19 + 0 ≤ _), (by decide : 148 + 0 ≤ _)⟩)
          dsimp only [Pt.U, Pt.locs, Pt.cells, Pt.slots] at X209 l209 y209 z209 st209 hQ209
          replace l209 := Eq.symm l209
          replace y209 := Eq.symm y209
          replace z209 := Eq.symm z209
          subst l209 y209 z209
          obtain ⟨Nq209, rfl, eh209⟩ := hQ209
          have N209 := Fr.app N170 Nq209
          refine GlH.back (fun _ k => st209.trans k) ?_
          show GlH Z consts_1 _ _ _ _ _ _ _ (T209.setTop (mkF m 195 #[.val (.int j0), .val (.int j1), .val (.int j2), .val (.int j3), .val (.int n1), .val (.int r154), .val (.int r155), .val (.int n2), .val (.int r156), .val (.int r157), .val (.int kk), .val (.int nu), .val (.int r158), .val (.int r159), .val (.int ((j3 &&& (2147483647 : Int32)) % (3 : Int32))), .val (.ref w_ONE_TO_ONE), .val (.ref b162), .val .null, .unset, .unset] [(.int (0 : Int32))]))
          refine GlH.back (fun _ k => XS.istore X209.here hx rfl (hb hby at_195) rfl (l' := #[.val (.int j0), .val (.int j1), .val (.int j2), .val (.int j3), .val (.int n1), .val (.int r154), .val (.int r155), .val (.int n2), .val (.int r156), .val (.int r157), .val (.int kk), .val (.int nu), .val (.int r158), .val (.int r159), .val (.int ((j3 &&& (2147483647 : Int32)) % (3 : Int32))), .val (.ref w_ONE_TO_ONE), .val (.ref b162), .val .null, .val (.int (0 : Int32)), .unset]) rfl k) ?_
          show GlH Z consts_1 _ _ _ _ _ _ _ (T209.setTop (mkF m 197 #[.val (.int j0), .val (.int j1), .val (.int j2), .val (.int j3), .val (.int n1), .val (.int r154), .val (.int r155), .val (.int n2), .val (.int r156), .val (.int r157), .val (.int kk), .val (.int nu), .val (.int r158), .val (.int r159), .val (.int ((j3 &&& (2147483647 : Int32)) % (3 : Int32))), .val (.ref w_ONE_TO_ONE), .val (.ref b162), .val .null, .val (.int (0 : Int32)), .unset] []))
          refine GlH.back (fun _ k => XS.iload X209.here hx rfl (hb hby at_197) rfl k) ?_
          show GlH Z consts_1 _ _ _ _ _ _ _ (T209.setTop (mkF m 199 #[.val (.int j0), .val (.int j1), .val (.int j2), .val (.int j3), .val (.int n1), .val (.int r154), .val (.int r155), .val (.int n2), .val (.int r156), .val (.int r157), .val (.int kk), .val (.int nu), .val (.int r158), .val (.int r159), .val (.int ((j3 &&& (2147483647 : Int32)) % (3 : Int32))), .val (.ref w_ONE_TO_ONE), .val (.ref b162), .val .null, .val (.int (0 : Int32)), .unset] [(.int nu)]))
          refine GlH.back (fun _ k => XS.ifYes X209.here hx rfl (pc0 := 199) (pc' := 242) rfl (hb hby at_199) rfl ((if0 _ _).trans (feq (hc170_184 : ¬ nu = (0 : Int32))).2) (by decide) (by decide) k) ?_
          show GlH Z consts_1 _ _ _ _ _ _ _ (T209.setTop (mkF m 242 #[.val (.int j0), .val (.int j1), .val (.int j2), .val (.int j3), .val (.int n1), .val (.int r154), .val (.int r155), .val (.int n2), .val (.int r156), .val (.int r157), .val (.int kk), .val (.int nu), .val (.int r158), .val (.int r159), .val (.int ((j3 &&& (2147483647 : Int32)) % (3 : Int32))), .val (.ref w_ONE_TO_ONE), .val (.ref b162), .val .null, .val (.int (0 : Int32)), .unset] []))
          refine GlH.back (fun _ k => XS.iconst X209.here hx rfl (hb hby at_242) k) ?_
          show GlH Z consts_1 _ _ _ _ _ _ _ (T209.setTop (mkF m 243 #[.val (.int j0), .val (.int j1), .val (.int j2), .val (.int j3), .val (.int n1), .val (.int r154), .val (.int r155), .val (.int n2), .val (.int r156), .val (.int r157), .val (.int kk), .val (.int nu), .val (.int r158), .val (.int r159), .val (.int ((j3 &&& (2147483647 : Int32)) % (3 : Int32))), .val (.ref w_ONE_TO_ONE), .val (.ref b162), .val .null, .val (.int (0 : Int32)), .unset] [(.int (0 : Int32))]))
          refine GlH.back (fun _ k => XS.istore X209.here hx rfl (hb hby at_243) rfl (l' := #[.val (.int j0), .val (.int j1), .val (.int j2), .val (.int j3), .val (.int n1), .val (.int r154), .val (.int r155), .val (.int n2), .val (.int r156), .val (.int r157), .val (.int kk), .val (.int nu), .val (.int r158), .val (.int r159), .val (.int ((j3 &&& (2147483647 : Int32)) % (3 : Int32))), .val (.ref w_ONE_TO_ONE), .val (.ref b162), .val .null, .val (.int (0 : Int32)), .val (.int (0 : Int32))]) rfl k) ?_
          show GlH Z consts_1 _ _ _ _ _ _ _ (T209.setTop (mkF m 245 #[.val (.int j0), .val (.int j1), .val (.int j2), .val (.int j3), .val (.int n1), .val (.int r154), .val (.int r155), .val (.int n2), .val (.int r156), .val (.int r157), .val (.int kk), .val (.int nu), .val (.int r158), .val (.int r159), .val (.int ((j3 &&& (2147483647 : Int32)) % (3 : Int32))), .val (.ref w_ONE_TO_ONE), .val (.ref b162), .val .null, .val (.int (0 : Int32)), .val (.int (0 : Int32))] []))
          refine GlH.back (fun _ k => XS.iload X209.here hx rfl (hb hby at_245) rfl k) ?_
          show GlH Z consts_1 _ _ _ _ _ _ _ (T209.setTop (mkF m 247 #[.val (.int j0), .val (.int j1), .val (.int j2), .val (.int j3), .val (.int n1), .val (.int r154), .val (.int r155), .val (.int n2), .val (.int r156), .val (.int r157), .val (.int kk), .val (.int nu), .val (.int r158), .val (.int r159), .val (.int ((j3 &&& (2147483647 : Int32)) % (3 : Int32))), .val (.ref w_ONE_TO_ONE), .val (.ref b162), .val .null, .val (.int (0 : Int32)), .val (.int (0 : Int32))] [(.int (0 : Int32))]))
          refine GlH.back (fun _ k => XS.iload X209.here hx rfl (hb hby at_247) rfl k) ?_
          show GlH Z consts_1 _ _ _ _ _ _ _ (T209.setTop (mkF m 249 #[.val (.int j0), .val (.int j1), .val (.int j2), .val (.int j3), .val (.int n1), .val (.int r154), .val (.int r155), .val (.int n2), .val (.int r156), .val (.int r157), .val (.int kk), .val (.int nu), .val (.int r158), .val (.int r159), .val (.int ((j3 &&& (2147483647 : Int32)) % (3 : Int32))), .val (.ref w_ONE_TO_ONE), .val (.ref b162), .val .null, .val (.int (0 : Int32)), .val (.int (0 : Int32))] [(.int (0 : Int32)), (.int (0 : Int32))]))
          refine GlH.back (fun _ k => XS.icmpNo X209.here hx rfl (hb hby at_249) rfl (teq (by decide : (0 : Int32) = (0 : Int32))).2 k) ?_
          show GlH Z consts_1 _ _ _ _ _ _ _ (T209.setTop (mkF m 252 #[.val (.int j0), .val (.int j1), .val (.int j2), .val (.int j3), .val (.int n1), .val (.int r154), .val (.int r155), .val (.int n2), .val (.int r156), .val (.int r157), .val (.int kk), .val (.int nu), .val (.int r158), .val (.int r159), .val (.int ((j3 &&& (2147483647 : Int32)) % (3 : Int32))), .val (.ref w_ONE_TO_ONE), .val (.ref b162), .val .null, .val (.int (0 : Int32)), .val (.int (0 : Int32))] []))
          refine GlH.back (fun _ k => XS.iconst X209.here hx rfl (hb hby at_252) k) ?_
          show GlH Z consts_1 _ _ _ _ _ _ _ (T209.setTop (mkF m 253 #[.val (.int j0), .val (.int j1), .val (.int j2), .val (.int j3), .val (.int n1), .val (.int r154), .val (.int r155), .val (.int n2), .val (.int r156), .val (.int r157), .val (.int kk), .val (.int nu), .val (.int r158), .val (.int r159), .val (.int ((j3 &&& (2147483647 : Int32)) % (3 : Int32))), .val (.ref w_ONE_TO_ONE), .val (.ref b162), .val .null, .val (.int (0 : Int32)), .val (.int (0 : Int32))] [(.int (1 : Int32))]))
          refine GlH.back (fun _ k => XS.goto X209.here hx rfl (pc0 := 253) (pc' := 257) rfl (hb hby at_253) (by decide) (by decide) k) ?_
          show GlH Z consts_1 _ _ _ _ _ _ _ (T209.setTop (mkF m 257 #[.val (.int j0), .val (.int j1), .val (.int j2), .val (.int j3), .val (.int n1), .val (.int r154), .val (.int r155), .val (.int n2), .val (.int r156), .val (.int r157), .val (.int kk), .val (.int nu), .val (.int r158), .val (.int r159), .val (.int ((j3 &&& (2147483647 : Int32)) % (3 : Int32))), .val (.ref w_ONE_TO_ONE), .val (.ref b162), .val .null, .val (.int (0 : Int32)), .val (.int (0 : Int32))] [(.int (1 : Int32))]))
          exact GlH.ret X209 eh209 hS170 (Nat.le_refl _) hh hZ170 hEL CHr170 (v := (some (.int (1 : Int32)))) (fun h => by rw [Bd.returns] at h; cases h) Bd.notSynchronized (fun fs hr => retN X209 hx (t := .boolean) (z := (1 : Int32)) Bd.returns (by simp) (hb hby at_257) hr) ⟨N209, rfl⟩ (by decide) (by decide)
      · refine GlH.back (fun _ k => XS.ifYes X159.here hx rfl (pc0 := 107) (pc' := 118) rfl (hb hby at_107) rfl ((if0 _ _).trans (feq hc107_160).2) (by decide) (by decide) k) ?_
        show GlH Z consts_1 _ _ _ _ _ _ _ (T159.setTop (mkF m 118 #[.val (.int j0), .val (.int j1), .val (.int j2), .val (.int j3), .val (.int n1), .val (.int r154), .val (.int r155), .val (.int n2), .val (.int r156), .val (.int r157), .val (.int kk), .val (.int nu), .val (.int r158), .val (.int r159), .val (.int ((j3 &&& (2147483647 : Int32)) % (3 : Int32))), .unset, .unset, .unset, .unset, .unset] []))
        refine GlH.back (fun _ k => XS.iload X159.here hx rfl (hb hby at_118) rfl k) ?_
        show GlH Z consts_1 _ _ _ _ _ _ _ (T159.setTop (mkF m 120 #[.val (.int j0), .val (.int j1), .val (.int j2), .val (.int j3), .val (.int n1), .val (.int r154), .val (.int r155), .val (.int n2), .val (.int r156), .val (.int r157), .val (.int kk), .val (.int nu), .val (.int r158), .val (.int r159), .val (.int ((j3 &&& (2147483647 : Int32)) % (3 : Int32))), .unset, .unset, .unset, .unset, .unset] [(.int ((j3 &&& (2147483647 : Int32)) % (3 : Int32)))]))
        refine GlH.back (fun _ k => XS.iconst X159.here hx rfl (hb hby at_120) k) ?_
        show GlH Z consts_1 _ _ _ _ _ _ _ (T159.setTop (mkF m 121 #[.val (.int j0), .val (.int j1), .val (.int j2), .val (.int j3), .val (.int n1), .val (.int r154), .val (.int r155), .val (.int n2), .val (.int r156), .val (.int r157), .val (.int kk), .val (.int nu), .val (.int r158), .val (.int r159), .val (.int ((j3 &&& (2147483647 : Int32)) % (3 : Int32))), .unset, .unset, .unset, .unset, .unset] [(.int (1 : Int32)), (.int ((j3 &&& (2147483647 : Int32)) % (3 : Int32)))]))
        by_cases hc121_213 : ((j3 &&& (2147483647 : Int32)) % (3 : Int32)) = (1 : Int32)
        · refine GlH.back (fun _ k => XS.icmpNo X159.here hx rfl (hb hby at_121) rfl (teq hc121_213).2 k) ?_
          show GlH Z consts_1 _ _ _ _ _ _ _ (T159.setTop (mkF m 124 #[.val (.int j0), .val (.int j1), .val (.int j2), .val (.int j3), .val (.int n1), .val (.int r154), .val (.int r155), .val (.int n2), .val (.int r156), .val (.int r157), .val (.int kk), .val (.int nu), .val (.int r158), .val (.int r159), .val (.int ((j3 &&& (2147483647 : Int32)) % (3 : Int32))), .unset, .unset, .unset, .unset, .unset] []))
          obtain ⟨T214, X214, e214, st214⟩ := getS2 X159 hx hZ0 hown0 (host := "") (Or.inl (hw _ (List.mem_of_getElem? (i := 5) rfl))) Via.refl eh159 (S_ONE_TO_MANY.ext O0.2) (g := (mkF m 124 #[.val (.int j0), .val (.int j1), .val (.int j2), .val (.int j3), .val (.int n1), .val (.int r154), .val (.int r155), .val (.int n2), .val (.int r156), .val (.int r157), .val (.int kk), .val (.int nu), .val (.int r158), .val (.int r159), .val (.int ((j3 &&& (2147483647 : Int32)) % (3 : Int32))), .unset, .unset, .unset, .unset, .unset] [])) rfl (hb hby at_124)
          refine GlH.back (fun _ k => st214 _ k) ?_
          show GlH Z consts_1 _ _ _ _ _ _ _ (T214.setTop (mkF m 127 #[.val (.int j0), .val (.int j1), .val (.int j2), .val (.int j3), .val (.int n1), .val (.int r154), .val (.int r155), .val (.int n2), .val (.int r156), .val (.int r157), .val (.int kk), .val (.int nu), .val (.int r158), .val (.int r159), .val (.int ((j3 &&& (2147483647 : Int32)) % (3 : Int32))), .unset, .unset, .unset, .unset, .unset] [(.ref w_ONE_TO_MANY)]))
          refine GlH.back (fun _ k => XS.astore X214.here hx rfl (hb hby at_127) rfl rfl (l' := #[.val (.int j0), .val (.int j1), .val (.int j2), .val (.int j3), .val (.int n1), .val (.int r154), .val (.int r155), .val (.int n2), .val (.int r156), .val (.int r157), .val (.int kk), .val (.int nu), .val (.int r158), .val (.int r159), .val (.int ((j3 &&& (2147483647 : Int32)) % (3 : Int32))), .val (.ref w_ONE_TO_MANY), .unset, .unset, .unset, .unset]) rfl k) ?_
          show GlH Z consts_1 _ _ _ _ _ _ _ (T214.setTop (mkF m 129 #[.val (.int j0), .val (.int j1), .val (.int j2), .val (.int j3), .val (.int n1), .val (.int r154), .val (.int r155), .val (.int n2), .val (.int r156), .val (.int r157), .val (.int kk), .val (.int nu), .val (.int r158), .val (.int r159), .val (.int ((j3 &&& (2147483647 : Int32)) % (3 : Int32))), .val (.ref w_ONE_TO_MANY), .unset, .unset, .unset, .unset] []))
          refine GlH.back (fun _ k => XS.goto X214.here hx rfl (pc0 := 129) (pc' := 137) rfl (hb hby at_129) (by decide) (by decide) k) ?_
          show GlH Z consts_1 _ _ _ _ _ _ _ (T214.setTop (mkF m 137 #[.val (.int j0), .val (.int j1), .val (.int j2), .val (.int j3), .val (.int n1), .val (.int r154), .val (.int r155), .val (.int n2), .val (.int r156), .val (.int r157), .val (.int kk), .val (.int nu), .val (.int r158), .val (.int r159), .val (.int ((j3 &&& (2147483647 : Int32)) % (3 : Int32))), .val (.ref w_ONE_TO_MANY), .unset, .unset, .unset, .unset] []))
          obtain ⟨T215, h215, X215, e215, E215, A215, D215, -, st215⟩ := newO X214 hx hZ0 hown0 (hw _ (List.mem_of_getElem? (i := 8) rfl)) (hw _ (List.mem_of_getElem? (i := 9) rfl)) (hw _ (List.mem_of_getElem? (i := 10) rfl)) e214 (g := (mkF m 137 #[.val (.int j0), .val (.int j1), .val (.int j2), .val (.int j3), .val (.int n1), .val (.int r154), .val (.int r155), .val (.int n2), .val (.int r156), .val (.int r157), .val (.int kk), .val (.int nu), .val (.int r158), .val (.int r159), .val (.int ((j3 &&& (2147483647 : Int32)) % (3 : Int32))), .val (.ref w_ONE_TO_MANY), .unset, .unset, .unset, .unset] [])) rfl (hb hby at_137) (by decide) (by decide)
          obtain ⟨b215, g215⟩ : ∃ z, z = h0.size := ⟨_, rfl⟩
          rw [← g215] at A215 D215 st215
          have g_b215 : n0 ≤ b215 := Nat.le_trans Z0 (Nat.le_of_eq g215.symm)
          have sz_b215 : h0.size ≤ b215 := Nat.le_trans (Keep.refl h0 []).1 (Nat.le_of_eq g215.symm)
          have Z215 : n0 ≤ h215.size := Nat.le_trans Z0 E215.1
          have K215 := Keep.ext (Keep.refl h0 []) E215
          have O215 := Old.ext O0 E215
          have SK215 := Nat.le_trans SK0 E215.1
          have CH215 := CHr.trans CH0 (CHr.ext E215 CH0.1)
          have F215_name : Fld Z h215 b215 "com/example/partition_planner/partitionplanner/Relationship" "name" "Ljava/lang/String;" .null := D215 (Or.inr (hw _ (List.mem_of_getElem? (i := 110) rfl))) (ty := (.object "java/lang/String")) (by decide)
          have F215_first : Fld Z h215 b215 "com/example/partition_planner/partitionplanner/Relationship" "first" "Ljava/lang/String;" .null := D215 (Or.inr (hw _ (List.mem_of_getElem? (i := 112) rfl))) (ty := (.object "java/lang/String")) (by decide)
          have F215_second : Fld Z h215 b215 "com/example/partition_planner/partitionplanner/Relationship" "second" "Ljava/lang/String;" .null := D215 (Or.inr (hw _ (List.mem_of_getElem? (i := 114) rfl))) (ty := (.object "java/lang/String")) (by decide)
          have F215_cardinality : Fld Z h215 b215 "com/example/partition_planner/partitionplanner/Relationship" "cardinality" "Lcom/example/partition_planner/partitionplanner/Cardinality;" .null := D215 (Or.inr (hw _ (List.mem_of_getElem? (i := 116) rfl))) (ty := (.object "com/example/partition_planner/partitionplanner/Cardinality")) (by decide)
          refine GlH.back (fun _ k => st215 _ k) ?_
          show GlH Z consts_1 _ _ _ _ _ _ _ (T215.setTop (mkF m 140 #[.val (.int j0), .val (.int j1), .val (.int j2), .val (.int j3), .val (.int n1), .val (.int r154), .val (.int r155), .val (.int n2), .val (.int r156), .val (.int r157), .val (.int kk), .val (.int nu), .val (.int r158), .val (.int r159), .val (.int ((j3 &&& (2147483647 : Int32)) % (3 : Int32))), .val (.ref w_ONE_TO_MANY), .unset, .unset, .unset, .unset] [(.ref b215)]))
          refine GlH.back (fun _ k => XS.dup X215.here hx rfl (hb hby at_140) rfl rfl k) ?_
          show GlH Z consts_1 _ _ _ _ _ _ _ (T215.setTop (mkF m 141 #[.val (.int j0), .val (.int j1), .val (.int j2), .val (.int j3), .val (.int n1), .val (.int r154), .val (.int r155), .val (.int n2), .val (.int r156), .val (.int r157), .val (.int kk), .val (.int nu), .val (.int r158), .val (.int r159), .val (.int ((j3 &&& (2147483647 : Int32)) % (3 : Int32))), .val (.ref w_ONE_TO_MANY), .unset, .unset, .unset, .unset] [(.ref b215), (.ref b215)]))
          have wS : ∀ d ∈ Bundle.stringAtoms, d.before a0 Z = true := fun d hd => hw d ((by decide +kernel : ∀ d ∈ Bundle.stringAtoms, d ∈ tables_1) d hd)
          obtain ⟨b216, T216, h216, k1216, t216, k0216, X216, e216, E216, hS216, SK216, hZ216, hown216, Ea216, Fc216, Fv216, Va216, lt216a, lt216b, CHq216, Lt216, hne216, st216⟩ := ldcCH X215 hx hZ0 hown0 (hw _ (List.mem_of_getElem? (i := 11) rfl)) wS e215 hS0 SK215 hEL (by decide +kernel) CH215.1 (vs := [(.int (114 : Int32))]) (z := (1 : Int32)) ⟨by decide +kernel, by decide +kernel⟩ (by decide) (by decide) (g := (mkF m 141 #[.val (.int j0), .val (.int j1), .val (.int j2), .val (.int j3), .val (.int n1), .val (.int r154), .val (.int r155), .val (.int n2), .val (.int r156), .val (.int r157), .val (.int kk), .val (.int nu), .val (.int r158), .val (.int r159), .val (.int ((j3 &&& (2147483647 : Int32)) % (3 : Int32))), .val (.ref w_ONE_TO_MANY), .unset, .unset, .unset, .unset] [(.ref b215), (.ref b215)])) rfl (hb hby at_141) (n := 4) (by decide +kernel) (by decide) (by decide) (by decide)
          have Z216 : n0 ≤ h216.size := Nat.le_trans Z215 E216.1
          have K216 := Keep.ext K215 E216
          have O216 := Old.ext O215 E216
          have CH216 := CHr.trans CH215 CHq216
          have f217 := (A215.ext E216)
          have ne_b215_b216 : b215 ≠ b216 := (hne216 _ (Safe.exa hZ216.alike f217 (by decide) (by decide))).1
          have ne_b215_t216 : b215 ≠ t216 := (hne216 _ (Safe.exa hZ216.alike f217 (by decide) (by decide))).2
          refine GlH.back (fun _ k => st216 _ k) ?_
          show GlH Z consts_1 _ _ _ _ _ _ _ (T216.setTop (mkF m 143 #[.val (.int j0), .val (.int j1), .val (.int j2), .val (.int j3), .val (.int n1), .val (.int r154), .val (.int r155), .val (.int n2), .val (.int r156), .val (.int r157), .val (.int kk), .val (.int nu), .val (.int r158), .val (.int r159), .val (.int ((j3 &&& (2147483647 : Int32)) % (3 : Int32))), .val (.ref w_ONE_TO_MANY), .unset, .unset, .unset, .unset] [(.ref b216), (.ref b215), (.ref b215)]))
          refine GlH.back (fun _ k => XS.iload X216.here hx rfl (hb hby at_143) rfl k) ?_
          show GlH Z consts_1 _ _ _ _ _ _ _ (T216.setTop (mkF m 145 #[.val (.int j0), .val (.int j1), .val (.int j2), .val (.int j3), .val (.int n1), .val (.int r154), .val (.int r155), .val (.int n2), .val (.int r156), .val (.int r157), .val (.int kk), .val (.int nu), .val (.int r158), .val (.int r159), .val (.int ((j3 &&& (2147483647 : Int32)) % (3 : Int32))), .val (.ref w_ONE_TO_MANY), .unset, .unset, .unset, .unset] [(.int n1), (.ref b216), (.ref b215), (.ref b215)]))
          refine GlH.back (fun _ k => XS.iload X216.here hx rfl (hb hby at_145) rfl k) ?_
          show GlH Z consts_1 _ _ _ _ _ _ _ (T216.setTop (mkF m 147 #[.val (.int j0), .val (.int j1), .val (.int j2), .val (.int j3), .val (.int n1), .val (.int r154), .val (.int r155), .val (.int n2), .val (.int r156), .val (.int r157), .val (.int kk), .val (.int nu), .val (.int r158), .val (.int r159), .val (.int ((j3 &&& (2147483647 : Int32)) % (3 : Int32))), .val (.ref w_ONE_TO_MANY), .unset, .unset, .unset, .unset] [(.int r154), (.int n1), (.ref b216), (.ref b215), (.ref b215)]))
          refine GlH.back (fun _ k => XS.iload X216.here hx rfl (hb hby at_147) rfl k) ?_
          show GlH Z consts_1 _ _ _ _ _ _ _ (T216.setTop (mkF m 149 #[.val (.int j0), .val (.int j1), .val (.int j2), .val (.int j3), .val (.int n1), .val (.int r154), .val (.int r155), .val (.int n2), .val (.int r156), .val (.int r157), .val (.int kk), .val (.int nu), .val (.int r158), .val (.int r159), .val (.int ((j3 &&& (2147483647 : Int32)) % (3 : Int32))), .val (.ref w_ONE_TO_MANY), .unset, .unset, .unset, .unset] [(.int r155), (.int r154), (.int n1), (.ref b216), (.ref b215), (.ref b215)]))
          obtain ⟨_, _, ⟨T218, L218, k218, n218⟩, -, X218, hS2218, hg2218, ⟨Lc218, hQ218, l218, y218, z218, hC218⟩, st218⟩ := callSS X216 hx (y := (⟨"com/example/partition_planner/partitionplanner/RelationshipRelatesPinLaw", "str", "(ICC)Ljava/lang/String;"⟩ : MethodName)) hown216 (mvT hZ216 (hw _ (List.mem_of_getElem? (i := 19) rfl))) (mvT hZ216 (hw _ (List.mem_of_getElem? (i := 20) rfl))) (mvT hZ216 (hw _ (List.mem_of_getElem? (i := 2) rfl))) (mvT hZ216 (hw _ (List.mem_of_getElem? (i := 21) rfl))) (by decide) (backOfSH (W := 3) (rmstr l Z a0 hw [] n1 r154 r155 zc h216 n0 Z216 O216 S_C P0 hr154 hr155) hZ216 (hw _ (List.mem_of_getElem? (i := 21) rfl)) (hw _ (List.mem_of_getElem? (i := 2) rfl)) (by decide) (by decide) hEL CH216.1) (g := (mkF m 149 #[.val (.int j0), .val (.int j1), .val (.int j2), .val (.int j3), .val (.int n1), .val (.int r154), .val (.int r155), .val (.int n2), .val (.int r156), .val (.int r157), .val (.int kk), .val (.int nu), .val (.int r158), .val (.int r159), .val (.int ((j3 &&& (2147483647 : Int32)) % (3 : Int32))), .val (.ref w_ONE_TO_MANY), .unset, .unset, .unset, .unset] [(.int r155), (.int r154), (.int n1), (.ref b216), (.ref b215), (.ref b215)])) rfl (by rw [hml]; rfl) (argsL := [(.int n1), (.int r154), (.int r155)]) (rest := [(.ref b216), (.ref b215), (.ref b215)]) (lenOf pd__ICC_Ljava_lang_String_ rfl) rfl (by show 2 * 0 + _ ≤ _; exact Nat.le_of_eq rfl) (hb hby at_149) (fun _ _ => ⟨rfl, e216, (by decide : 3 + 4 ≤ _), (by decide : 12 + 8 ≤ _)⟩)
          dsimp only [Pt.U, Pt.locs, Pt.cells, Pt.slots] at X218 l218 y218 z218 st218 hQ218 hS2218 hg2218 hC218
          replace l218 := Eq.symm l218
          replace y218 := Eq.symm y218
          replace z218 := Eq.symm z218
          subst l218 y218 z218
          obtain ⟨X218, hS218, hZ218, hown218⟩ := rebS hS216 (by rw [e216]; exact SK216) X218 hS2218 hg2218 hZ216 hown216
          have CHr218 := CHr.trans CH216 hC218
          obtain ⟨Nq218, b218, t218, k0218, M218, vs218, rfl, Kq218, Sx218, Gx218, Ex218, Fc218, Fv218, V218, cd218, hz218⟩ := hQ218
          obtain ⟨Sv218, hN218, hv218⟩ := hz218 (own_n0 hn1)
          have Gv218 : n0 ≤ t218 := Nat.le_trans Z216 Sv218
          have N218 := Fr.app N159 Nq218
          have Kc218 := Keep.trans K216 Kq218 all0
          have Zc218 : n0 ≤ T218.heap.size := Nat.le_trans Z216 Kq218.1
          have Oc218 := Old.keep O216 Kq218 all0
          have ne_b215_b218 : b215 ≠ b218 := Nat.ne_of_lt (Nat.lt_of_lt_of_le (f217).lt Sx218)
          have ne_b216_b218 : b216 ≠ b218 := Nat.ne_of_lt (Nat.lt_of_lt_of_le (Ea216).lt Sx218)
          have ne_t216_b218 : t216 ≠ b218 := Nat.ne_of_lt (Nat.lt_of_lt_of_le (Va216).lt Sx218)
          have sz_b218 : h0.size ≤ b218 := Nat.le_trans K216.1 Sx218
          have ne_b215_t218 : b215 ≠ t218 := Nat.ne_of_lt (Nat.lt_of_lt_of_le (f217).lt Sv218)
          have ne_b216_t218 : b216 ≠ t218 := Nat.ne_of_lt (Nat.lt_of_lt_of_le (Ea216).lt Sv218)
          have ne_t216_t218 : t216 ≠ t218 := Nat.ne_of_lt (Nat.lt_of_lt_of_le (Va216).lt Sv218)
          have sz_t218 : h0.size ≤ t218 := Nat.le_trans K216.1 Sv218
          refine GlH.back (fun _ k => st218.trans k) ?_
          show GlH Z consts_1 _ _ _ _ _ _ _ (T218.setTop (mkF m 152 #[.val (.int j0), .val (.int j1), .val (.int j2), .val (.int j3), .val (.int n1), .val (.int r154), .val (.int r155), .val (.int n2), .val (.int r156), .val (.int r157), .val (.int kk), .val (.int nu), .val (.int r158), .val (.int r159), .val (.int ((j3 &&& (2147483647 : Int32)) % (3 : Int32))), .val (.ref w_ONE_TO_MANY), .unset, .unset, .unset, .unset] [(.ref b218), (.ref b216), (.ref b215), (.ref b215)]))
          refine GlH.back (fun _ k => XS.iload X218.here hx rfl (hb hby at_152) rfl k) ?_
          show GlH Z consts_1 _ _ _ _ _ _ _ (T218.setTop (mkF m 154 #[.val (.int j0), .val (.int j1), .val (.int j2), .val (.int j3), .val (.int n1), .val (.int r154), .val (.int r155), .val (.int n2), .val (.int r156), .val (.int r157), .val (.int kk), .val (.int nu), .val (.int r158), .val (.int r159), .val (.int ((j3 &&& (2147483647 : Int32)) % (3 : Int32))), .val (.ref w_ONE_TO_MANY), .unset, .unset, .unset, .unset] [(.int n2), (.ref b218), (.ref b216), (.ref b215), (.ref b215)]))
          refine GlH.back (fun _ k => XS.iload X218.here hx rfl (hb hby at_154) rfl k) ?_
          show GlH Z consts_1 _ _ _ _ _ _ _ (T218.setTop (mkF m 156 #[.val (.int j0), .val (.int j1), .val (.int j2), .val (.int j3), .val (.int n1), .val (.int r154), .val (.int r155), .val (.int n2), .val (.int r156), .val (.int r157), .val (.int kk), .val (.int nu), .val (.int r158), .val (.int r159), .val (.int ((j3 &&& (2147483647 : Int32)) % (3 : Int32))), .val (.ref w_ONE_TO_MANY), .unset, .unset, .unset, .unset] [(.int r156), (.int n2), (.ref b218), (.ref b216), (.ref b215), (.ref b215)]))
          refine GlH.back (fun _ k => XS.iload X218.here hx rfl (hb hby at_156) rfl k) ?_
          show GlH Z consts_1 _ _ _ _ _ _ _ (T218.setTop (mkF m 158 #[.val (.int j0), .val (.int j1), .val (.int j2), .val (.int j3), .val (.int n1), .val (.int r154), .val (.int r155), .val (.int n2), .val (.int r156), .val (.int r157), .val (.int kk), .val (.int nu), .val (.int r158), .val (.int r159), .val (.int ((j3 &&& (2147483647 : Int32)) % (3 : Int32))), .val (.ref w_ONE_TO_MANY), .unset, .unset, .unset, .unset] [(.int r157), (.int r156), (.int n2), (.ref b218), (.ref b216), (.ref b215), (.ref b215)]))
          have f220 := (f217.keep Kq218)
          have f221 := (Ea216.keep Kq218)
          have f222 := (Va216.keep Kq218 nin0)
          obtain ⟨_, _, ⟨T219, L219, k219, n219⟩, -, X219, hS2219, hg2219, ⟨Lc219, hQ219, l219, y219, z219, hC219⟩, st219⟩ := callSS X218 hx (y := (⟨"com/example/partition_planner/partitionplanner/RelationshipRelatesPinLaw", "str", "(ICC)Ljava/lang/String;"⟩ : MethodName)) hown218 (mvT hZ218 (hw _ (List.mem_of_getElem? (i := 19) rfl))) (mvT hZ218 (hw _ (List.mem_of_getElem? (i := 20) rfl))) (mvT hZ218 (hw _ (List.mem_of_getElem? (i := 2) rfl))) (mvT hZ218 (hw _ (List.mem_of_getElem? (i := 21) rfl))) (by decide) (backOfSH (W := 4) (rmstr l Z a0 hw [] n2 r156 r157 zc T218.heap n0 Zc218 Oc218 S_C P0 hr156 hr157) hZ218 (hw _ (List.mem_of_getElem? (i := 21) rfl)) (hw _ (List.mem_of_getElem? (i := 2) rfl)) (by decide) (by decide) hEL CHr218.1) (g := (mkF m 158 #[.val (.int j0), .val (.int j1), .val (.int j2), .val (.int j3), .val (.int n1), .val (.int r154), .val (.int r155), .val (.int n2), .val (.int r156), .val (.int r157), .val (.int kk), .val (.int nu), .val (.int r158), .val (.int r159), .val (.int ((j3 &&& (2147483647 : Int32)) % (3 : Int32))), .val (.ref w_ONE_TO_MANY), .unset, .unset, .unset, .unset] [(.int r157), (.int r156), (.int n2), (.ref b218), (.ref b216), (.ref b215), (.ref b215)])) rfl (by rw [hml]; rfl) (argsL := [(.int n2), (.int r156), (.int r157)]) (rest := [(.ref b218), (.ref b216), (.ref b215), (.ref b215)]) (lenOf pd__ICC_Ljava_lang_String_ rfl) rfl (by show 2 * 0 + _ ≤ _; exact Nat.le_of_eq rfl) (hb hby at_158) (fun _ _ => ⟨rfl, rfl, (by decide : 7 + 4 ≤ _), (by decide : 20 + 8 ≤ _)⟩)
          dsimp only [Pt.U, Pt.locs, Pt.cells, Pt.slots] at X219 l219 y219 z219 st219 hQ219 hS2219 hg2219 hC219
          replace l219 := Eq.symm l219
          replace y219 := Eq.symm y219
          replace z219 := Eq.symm z219
          subst l219 y219 z219
          obtain ⟨X219, hS219, hZ219, hown219⟩ := rebS hS218 ((Nat.le_refl _)) X219 hS2219 hg2219 hZ218 hown218
          have CHr219 := CHr.trans CHr218 hC219
          obtain ⟨Nq219, b219, t219, k0219, M219, vs219, rfl, Kq219, Sx219, Gx219, Ex219, Fc219, Fv219, V219, cd219, hz219⟩ := hQ219
          obtain ⟨Sv219, hN219, hv219⟩ := hz219 (own_n0 hn2)
          have Gv219 : n0 ≤ t219 := Nat.le_trans Zc218 Sv219
          have N219 := Fr.app N218 Nq219
          have Kc219 := Keep.trans Kc218 Kq219 all0
          have Zc219 : n0 ≤ T219.heap.size := Nat.le_trans Zc218 Kq219.1
          have Oc219 := Old.keep Oc218 Kq219 all0
          have ne_b215_b219 : b215 ≠ b219 := Nat.ne_of_lt (Nat.lt_of_lt_of_le (f220).lt Sx219)
          have ne_b216_b219 : b216 ≠ b219 := Nat.ne_of_lt (Nat.lt_of_lt_of_le (f221).lt Sx219)
          have ne_t216_b219 : t216 ≠ b219 := Nat.ne_of_lt (Nat.lt_of_lt_of_le (f222).lt Sx219)
          have ne_b218_b219 : b218 ≠ b219 := Nat.ne_of_lt (Nat.lt_of_lt_of_le (Ex218).lt Sx219)
          have ne_t218_b219 : t218 ≠ b219 := Nat.ne_of_lt (Nat.lt_of_lt_of_le (V218).lt Sx219)
          have sz_b219 : h0.size ≤ b219 := Nat.le_trans Kc218.1 Sx219
          have ne_b215_t219 : b215 ≠ t219 := Nat.ne_of_lt (Nat.lt_of_lt_of_le (f220).lt Sv219)
          have ne_b216_t219 : b216 ≠ t219 := Nat.ne_of_lt (Nat.lt_of_lt_of_le (f221).lt Sv219)
          have ne_t216_t219 : t216 ≠ t219 := Nat.ne_of_lt (Nat.lt_of_lt_of_le (f222).lt Sv219)
          have ne_b218_t219 : b218 ≠ t219 := Nat.ne_of_lt (Nat.lt_of_lt_of_le (Ex218).lt Sv219)
          have ne_t218_t219 : t218 ≠ t219 := Nat.ne_of_lt (Nat.lt_of_lt_of_le (V218).lt Sv219)
          have sz_t219 : h0.size ≤ t219 := Nat.le_trans Kc218.1 Sv219
          refine GlH.back (fun _ k => st219.trans k) ?_
          show GlH Z consts_1 _ _ _ _ _ _ _ (T219.setTop (mkF m 161 #[.val (.int j0), .val (.int j1), .val (.int j2), .val (.int j3), .val (.int n1), .val (.int r154), .val (.int r155), .val (.int n2), .val (.int r156), .val (.int r157), .val (.int kk), .val (.int nu), .val (.int r158), .val (.int r159), .val (.int ((j3 &&& (2147483647 : Int32)) % (3 : Int32))), .val (.ref w_ONE_TO_MANY), .unset, .unset, .unset, .unset] [(.ref b219), (.ref b218), (.ref b216), (.ref b215), (.ref b215)]))
          refine GlH.back (fun _ k => XS.aload X219.here hx rfl (hb hby at_161) rfl rfl k) ?_
          show GlH Z consts_1 _ _ _ _ _ _ _ (T219.setTop (mkF m 163 #[.val (.int j0), .val (.int j1), .val (.int j2), .val (.int j3), .val (.int n1), .val (.int r154), .val (.int r155), .val (.int n2), .val (.int r156), .val (.int r157), .val (.int kk), .val (.int nu), .val (.int r158), .val (.int r159), .val (.int ((j3 &&& (2147483647 : Int32)) % (3 : Int32))), .val (.ref w_ONE_TO_MANY), .unset, .unset, .unset, .unset] [(.ref w_ONE_TO_MANY), (.ref b219), (.ref b218), (.ref b216), (.ref b215), (.ref b215)]))
          have f224 := (f220.keep Kq219)
          have f225 := (((F215_name.ext E216).keep Kq218 nin0).keep Kq219 nin0)
          have f226 := (((F215_first.ext E216).keep Kq218 nin0).keep Kq219 nin0)
          have f227 := (((F215_second.ext E216).keep Kq218 nin0).keep Kq219 nin0)
          have f228 := (((F215_cardinality.ext E216).keep Kq218 nin0).keep Kq219 nin0)
          have f229 := (f221.keep Kq219)
          have f230 := ((Fc216.keep Kq218 nin0).keep Kq219 nin0)
          have f231 := ((Fv216.keep Kq218 nin0).keep Kq219 nin0)
          have f232 := (f222.keep Kq219 nin0)
          have f233 := (Ex218.keep Kq219)
          have f234 := (Fc218.keep Kq219 nin0)
          have f235 := (Fv218.keep Kq219 nin0)
          have f236 := (V218.keep Kq219 nin0)
          obtain ⟨_, _, ⟨T223, L223, k223, n223⟩, -, X223, hS2223, hg2223, ⟨Lc223, hQ223, l223, y223, z223, hC223⟩, st223⟩ := X219.specialBackS hx (y := (⟨"com/example/partition_planner/partitionplanner/Relationship", "<init>", "(Ljava/lang/String;Ljava/lang/String;Ljava/lang/String;Lcom/example/partition_planner/partitionplanner/Cardinality;)V"⟩ : MethodName)) rfl hown219 (mvT hZ219 (hw _ (List.mem_of_getElem? (i := 47) rfl))) (mvT hZ219 (hw _ (List.mem_of_getElem? (i := 48) rfl))) (mvT hZ219 (hw _ (List.mem_of_getElem? (i := 49) rfl))) (by decide) (backOfSH (W := 1) (rmrinit l Z a0 hw [] b215 b216 b218 b219 w_ONE_TO_MANY wA wI kA vsA t216 t218 t219 k0216 k0218 k0219 (1 : Int32) M218 M219 (114 : Int32) r154 r156 [(.int (114 : Int32))] vs218 vs219 zc T219.heap n0 Zc219 Oc219 S_A V_A hA S_I E_I S_C P0 g_b215 f224 f225 f226 f227 f228 f229 f230 f231 f232 (by decide) rfl own_nwR f233 f234 f235 f236 hN218 hv218 (hw154 (own_and3 _)) Ex219 Fc219 Fv219 V219 hN219 hv219 (hw156 (own_and3 _)) ne_b215_b216 ne_b215_t216 ne_b215_b218 ne_b215_t218 ne_b215_b219 ne_b215_t219) hZ219 (hw _ (List.mem_of_getElem? (i := 49) rfl)) (hw _ (List.mem_of_getElem? (i := 10) rfl)) (by decide) (by decide) hEL CHr219.1) (g := (mkF m 163 #[.val (.int j0), .val (.int j1), .val (.int j2), .val (.int j3), .val (.int n1), .val (.int r154), .val (.int r155), .val (.int n2), .val (.int r156), .val (.int r157), .val (.int kk), .val (.int nu), .val (.int r158), .val (.int r159), .val (.int ((j3 &&& (2147483647 : Int32)) % (3 : Int32))), .val (.ref w_ONE_TO_MANY), .unset, .unset, .unset, .unset] [(.ref w_ONE_TO_MANY), (.ref b219), (.ref b218), (.ref b216), (.ref b215), (.ref b215)])) rfl (by rw [hml]; rfl) (Steps.refl _) (a := b215) (argsL := [(.ref b216), (.ref b218), (.ref b219), (.ref w_ONE_TO_MANY)]) (rest := [(.ref b215)]) (lenOf pd__Ljava_lang_String_Ljava_lang_String_Ljava_lang_String_Lcom_example_partition_planner_partitionplanner_Cardinality__V rfl) rfl (by show 2 * 0 + _ ≤ _; exact Nat.le_of_eq rfl) (hb hby at_163) (fun _ _ => ⟨rfl, rfl, (by decide : 11 + 8 ≤ _), (by decide : 28 + 120 ≤ _)⟩)
          dsimp only [Pt.U, Pt.locs, Pt.cells, Pt.slots] at X223 l223 y223 z223 st223 hQ223 hS2223 hg2223 hC223
          replace l223 := Eq.symm l223
          replace y223 := Eq.symm y223
          replace z223 := Eq.symm z223
          subst l223 y223 z223
          obtain ⟨X223, hS223, hZ223, hown223⟩ := rebS hS219 ((Nat.le_refl _)) X223 hS2223 hg2223 hZ219 hown219
          have CHr223 := CHr.trans CHr219 hC223
          obtain ⟨Nq223, rfl, Kq223, Ff223, Fs223⟩ := hQ223
          have N223 := Fr.app N219 Nq223
          have Kc223 := Keep.trans Kc219 Kq223 (allS (Or.inr sz_b215) all0)
          have Zc223 : n0 ≤ T223.heap.size := Nat.le_trans Zc219 Kq223.1
          have Oc223 := Old.keep Oc219 Kq223 (allS g_b215 all0)
          refine GlH.back (fun _ k => st223.trans k) ?_
          show GlH Z consts_1 _ _ _ _ _ _ _ (T223.setTop (mkF m 166 #[.val (.int j0), .val (.int j1), .val (.int j2), .val (.int j3), .val (.int n1), .val (.int r154), .val (.int r155), .val (.int n2), .val (.int r156), .val (.int r157), .val (.int kk), .val (.int nu), .val (.int r158), .val (.int r159), .val (.int ((j3 &&& (2147483647 : Int32)) % (3 : Int32))), .val (.ref w_ONE_TO_MANY), .unset, .unset, .unset, .unset] [(.ref b215)]))
          refine GlH.back (fun _ k => XS.astore X223.here hx rfl (hb hby at_166) rfl rfl (l' := #[.val (.int j0), .val (.int j1), .val (.int j2), .val (.int j3), .val (.int n1), .val (.int r154), .val (.int r155), .val (.int n2), .val (.int r156), .val (.int r157), .val (.int kk), .val (.int nu), .val (.int r158), .val (.int r159), .val (.int ((j3 &&& (2147483647 : Int32)) % (3 : Int32))), .val (.ref w_ONE_TO_MANY), .val (.ref b215), .unset, .unset, .unset]) rfl k) ?_
          show GlH Z consts_1 _ _ _ _ _ _ _ (T223.setTop (mkF m 168 #[.val (.int j0), .val (.int j1), .val (.int j2), .val (.int j3), .val (.int n1), .val (.int r154), .val (.int r155), .val (.int n2), .val (.int r156), .val (.int r157), .val (.int kk), .val (.int nu), .val (.int r158), .val (.int r159), .val (.int ((j3 &&& (2147483647 : Int32)) % (3 : Int32))), .val (.ref w_ONE_TO_MANY), .val (.ref b215), .unset, .unset, .unset] []))
          refine GlH.back (fun _ k => XS.iload X223.here hx rfl (hb hby at_168) rfl k) ?_
          show GlH Z consts_1 _ _ _ _ _ _ _ (T223.setTop (mkF m 170 #[.val (.int j0), .val (.int j1), .val (.int j2), .val (.int j3), .val (.int n1), .val (.int r154), .val (.int r155), .val (.int n2), .val (.int r156), .val (.int r157), .val (.int kk), .val (.int nu), .val (.int r158), .val (.int r159), .val (.int ((j3 &&& (2147483647 : Int32)) % (3 : Int32))), .val (.ref w_ONE_TO_MANY), .val (.ref b215), .unset, .unset, .unset] [(.int nu)]))
          by_cases hc170_237 : nu = (0 : Int32)
          · refine GlH.back (fun _ k => XS.ifYes X223.here hx rfl (pc0 := 170) (pc' := 177) rfl (hb hby at_170) rfl ((if0 _ _).trans (teq hc170_237).1) (by decide) (by decide) k) ?_
            show GlH Z consts_1 _ _ _ _ _ _ _ (T223.setTop (mkF m 177 #[.val (.int j0), .val (.int j1), .val (.int j2), .val (.int j3), .val (.int n1), .val (.int r154), .val (.int r155), .val (.int n2), .val (.int r156), .val (.int r157), .val (.int kk), .val (.int nu), .val (.int r158), .val (.int r159), .val (.int ((j3 &&& (2147483647 : Int32)) % (3 : Int32))), .val (.ref w_ONE_TO_MANY), .val (.ref b215), .unset, .unset, .unset] []))
            refine GlH.back (fun _ k => XS.iload X223.here hx rfl (hb hby at_177) rfl k) ?_
            show GlH Z consts_1 _ _ _ _ _ _ _ (T223.setTop (mkF m 179 #[.val (.int j0), .val (.int j1), .val (.int j2), .val (.int j3), .val (.int n1), .val (.int r154), .val (.int r155), .val (.int n2), .val (.int r156), .val (.int r157), .val (.int kk), .val (.int nu), .val (.int r158), .val (.int r159), .val (.int ((j3 &&& (2147483647 : Int32)) % (3 : Int32))), .val (.ref w_ONE_TO_MANY), .val (.ref b215), .unset, .unset, .unset] [(.int kk)]))
            refine GlH.back (fun _ k => XS.iload X223.here hx rfl (hb hby at_179) rfl k) ?_
            show GlH Z consts_1 _ _ _ _ _ _ _ (T223.setTop (mkF m 181 #[.val (.int j0), .val (.int j1), .val (.int j2), .val (.int j3), .val (.int n1), .val (.int r154), .val (.int r155), .val (.int n2), .val (.int r156), .val (.int r157), .val (.int kk), .val (.int nu), .val (.int r158), .val (.int r159), .val (.int ((j3 &&& (2147483647 : Int32)) % (3 : Int32))), .val (.ref w_ONE_TO_MANY), .val (.ref b215), .unset, .unset, .unset] [(.int r158), (.int kk)]))
            refine GlH.back (fun _ k => XS.iload X223.here hx rfl (hb hby at_181) rfl k) ?_
            show GlH Z consts_1 _ _ _ _ _ _ _ (T223.setTop (mkF m 183 #[.val (.int j0), .val (.int j1), .val (.int j2), .val (.int j3), .val (.int n1), .val (.int r154), .val (.int r155), .val (.int n2), .val (.int r156), .val (.int r157), .val (.int kk), .val (.int nu), .val (.int r158), .val (.int r159), .val (.int ((j3 &&& (2147483647 : Int32)) % (3 : Int32))), .val (.ref w_ONE_TO_MANY), .val (.ref b215), .unset, .unset, .unset] [(.int r159), (.int r158), (.int kk)]))
            have f239 := (f224.keep Kq223)
            have f240 := (f229.keep Kq223)
            have f241 := (f232.keep Kq223 (ninS (Ne.symm ne_b215_t216) nin0))
            have f242 := (f233.keep Kq223)
            have f243 := (f236.keep Kq223 (ninS (Ne.symm ne_b215_t218) nin0))
            have f244 := (Ex219.keep Kq223)
            have f245 := (V219.keep Kq223 (ninS (Ne.symm ne_b215_t219) nin0))
            obtain ⟨_, _, ⟨T238, L238, k238, n238⟩, -, X238, hS2238, hg2238, ⟨Lc238, hQ238, l238, y238, z238, hC238⟩, st238⟩ := callSS X223 hx (y := (⟨"com/example/partition_planner/partitionplanner/RelationshipRelatesPinLaw", "str", "(ICC)Ljava/lang/String;"⟩ : MethodName)) hown223 (mvT hZ223 (hw _ (List.mem_of_getElem? (i := 19) rfl))) (mvT hZ223 (hw _ (List.mem_of_getElem? (i := 20) rfl))) (mvT hZ223 (hw _ (List.mem_of_getElem? (i := 2) rfl))) (mvT hZ223 (hw _ (List.mem_of_getElem? (i := 21) rfl))) (by decide) (backOfSH (W := 0) (rmstr l Z a0 hw [] kk r158 r159 zc T223.heap n0 Zc223 Oc223 S_C P0 hr158 hr159) hZ223 (hw _ (List.mem_of_getElem? (i := 21) rfl)) (hw _ (List.mem_of_getElem? (i := 2) rfl)) (by decide) (by decide) hEL CHr223.1) (g := (mkF m 183 #[.val (.int j0), .val (.int j1), .val (.int j2), .val (.int j3), .val (.int n1), .val (.int r154), .val (.int r155), .val (.int n2), .val (.int r156), .val (.int r157), .val (.int kk), .val (.int nu), .val (.int r158), .val (.int r159), .val (.int ((j3 &&& (2147483647 : Int32)) % (3 : Int32))), .val (.ref w_ONE_TO_MANY), .val (.ref b215), .unset, .unset, .unset] [(.int r159), (.int r158), (.int kk)])) rfl (by rw [hml]; rfl) (argsL := [(.int kk), (.int r158), (.int r159)]) (rest := []) (lenOf pd__ICC_Ljava_lang_String_ rfl) rfl (by show 2 * 0 + _ ≤ _; exact Nat.le_of_eq rfl) (hb hby at_183) (fun _ _ => ⟨rfl, rfl, (by decide : 19 + 4 ≤ _), (by decide : 148 + 8 ≤ _)⟩)
            dsimp only [Pt.U, Pt.locs, Pt.cells, Pt.slots] at X238 l238 y238 z238 st238 hQ238 hS2238 hg2238 hC238
            replace l238 := Eq.symm l238
            replace y238 := Eq.symm y238
            replace z238 := Eq.symm z238
            subst l238 y238 z238
            obtain ⟨X238, hS238, hZ238, hown238⟩ := rebS hS223 ((Nat.le_refl _)) X238 hS2238 hg2238 hZ223 hown223
            have CHr238 := CHr.trans CHr223 hC238
            obtain ⟨Nq238, b238, t238, k0238, M238, vs238, rfl, Kq238, Sx238, Gx238, Ex238, Fc238, Fv238, V238, cd238, hz238⟩ := hQ238
            have N238 := Fr.app N223 Nq238
            have Kc238 := Keep.trans Kc223 Kq238 all0
            have Zc238 : n0 ≤ T238.heap.size := Nat.le_trans Zc223 Kq238.1
            have Oc238 := Old.keep Oc223 Kq238 all0
            have ne_b215_b238 : b215 ≠ b238 := Nat.ne_of_lt (Nat.lt_of_lt_of_le (f239).lt Sx238)
            have ne_b216_b238 : b216 ≠ b238 := Nat.ne_of_lt (Nat.lt_of_lt_of_le (f240).lt Sx238)
            have ne_t216_b238 : t216 ≠ b238 := Nat.ne_of_lt (Nat.lt_of_lt_of_le (f241).lt Sx238)
            have ne_b218_b238 : b218 ≠ b238 := Nat.ne_of_lt (Nat.lt_of_lt_of_le (f242).lt Sx238)
            have ne_t218_b238 : t218 ≠ b238 := Nat.ne_of_lt (Nat.lt_of_lt_of_le (f243).lt Sx238)
            have ne_b219_b238 : b219 ≠ b238 := Nat.ne_of_lt (Nat.lt_of_lt_of_le (f244).lt Sx238)
            have ne_t219_b238 : t219 ≠ b238 := Nat.ne_of_lt (Nat.lt_of_lt_of_le (f245).lt Sx238)
            have sz_b238 : h0.size ≤ b238 := Nat.le_trans Kc223.1 Sx238
            refine GlH.back (fun _ k => st238.trans k) ?_
            show GlH Z consts_1 _ _ _ _ _ _ _ (T238.setTop (mkF m 186 #[.val (.int j0), .val (.int j1), .val (.int j2), .val (.int j3), .val (.int n1), .val (.int r154), .val (.int r155), .val (.int n2), .val (.int r156), .val (.int r157), .val (.int kk), .val (.int nu), .val (.int r158), .val (.int r159), .val (.int ((j3 &&& (2147483647 : Int32)) % (3 : Int32))), .val (.ref w_ONE_TO_MANY), .val (.ref b215), .unset, .unset, .unset] [(.ref b238)]))
            refine GlH.back (fun _ k => XS.astore X238.here hx rfl (hb hby at_186) rfl rfl (l' := #[.val (.int j0), .val (.int j1), .val (.int j2), .val (.int j3), .val (.int n1), .val (.int r154), .val (.int r155), .val (.int n2), .val (.int r156), .val (.int r157), .val (.int kk), .val (.int nu), .val (.int r158), .val (.int r159), .val (.int ((j3 &&& (2147483647 : Int32)) % (3 : Int32))), .val (.ref w_ONE_TO_MANY), .val (.ref b215), .val (.ref b238), .unset, .unset]) rfl k) ?_
            show GlH Z consts_1 _ _ _ _ _ _ _ (T238.setTop (mkF m 188 #[.val (.int j0), .val (.int j1), .val (.int j2), .val (.int j3), .val (.int n1), .val (.int r154), .val (.int r155), .val (.int n2), .val (.int r156), .val (.int r157), .val (.int kk), .val (.int nu), .val (.int r158), .val (.int r159), .val (.int ((j3 &&& (2147483647 : Int32)) % (3 : Int32))), .val (.ref w_ONE_TO_MANY), .val (.ref b215), .val (.ref b238), .unset, .unset] []))
            refine GlH.back (fun _ k => XS.aload X238.here hx rfl (hb hby at_188) rfl rfl k) ?_
            show GlH Z consts_1 _ _ _ _ _ _ _ (T238.setTop (mkF m 190 #[.val (.int j0), .val (.int j1), .val (.int j2), .val (.int j3), .val (.int n1), .val (.int r154), .val (.int r155), .val (.int n2), .val (.int r156), .val (.int r157), .val (.int kk), .val (.int nu), .val (.int r158), .val (.int r159), .val (.int ((j3 &&& (2147483647 : Int32)) % (3 : Int32))), .val (.ref w_ONE_TO_MANY), .val (.ref b215), .val (.ref b238), .unset, .unset] [(.ref b215)]))
            refine GlH.back (fun _ k => XS.aload X238.here hx rfl (hb hby at_190) rfl rfl k) ?_
            show GlH Z consts_1 _ _ _ _ _ _ _ (T238.setTop (mkF m 192 #[.val (.int j0), .val (.int j1), .val (.int j2), .val (.int j3), .val (.int n1), .val (.int r154), .val (.int r155), .val (.int n2), .val (.int r156), .val (.int r157), .val (.int kk), .val (.int nu), .val (.int r158), .val (.int r159), .val (.int ((j3 &&& (2147483647 : Int32)) % (3 : Int32))), .val (.ref w_ONE_TO_MANY), .val (.ref b215), .val (.ref b238), .unset, .unset] [(.ref b238), (.ref b215)]))
            have f247 := (f239.keep Kq238)
            have f248 := (Ff223.keep Kq238 nin0)
            have f249 := (Fs223.keep Kq238 nin0)
            have f250 := (f242.keep Kq238)
            have f251 := ((f234.keep Kq223 (ninS (Ne.symm ne_b215_b218) nin0)).keep Kq238 nin0)
            have f252 := ((f235.keep Kq223 (ninS (Ne.symm ne_b215_b218) nin0)).keep Kq238 nin0)
            have f253 := (f243.keep Kq238 nin0)
            have f254 := (f244.keep Kq238)
            have f255 := ((Fc219.keep Kq223 (ninS (Ne.symm ne_b215_b219) nin0)).keep Kq238 nin0)
            have f256 := ((Fv219.keep Kq223 (ninS (Ne.symm ne_b215_b219) nin0)).keep Kq238 nin0)
            have f257 := (f245.keep Kq238 nin0)
            obtain ⟨cq246, kq246, q246a, q246b, q246c⟩ := isOf hZ238 rfl f247
            obtain ⟨_, _, ⟨T246, L246, k246, n246⟩, -, X246, ⟨Lc246, hQ246, l246, y246, z246⟩, st246⟩ := X238.virtualBack hx (y := (⟨"com/example/partition_planner/partitionplanner/Relationship", "relates", "(Ljava/lang/String;)Z"⟩ : MethodName)) (z := (⟨"com/example/partition_planner/partitionplanner/Relationship", "relates", "(Ljava/lang/String;)Z"⟩ : MethodName)) hown238 (mvT hZ238 (hw _ (List.mem_of_getElem? (i := 117) rfl))) (mvT hZ238 (hw _ (List.mem_of_getElem? (i := 118) rfl))) (notFace_of_selects (args := #[]) (mvT hZ238 (hw _ (List.mem_of_getElem? (i := 120) rfl)))) (mvT hZ238 (hw _ (List.mem_of_getElem? (i := 120) rfl))) (mvT hZ238 (hw _ (List.mem_of_getElem? (i := 119) rfl))) (by decide) (backOf (W := 0) (rmrelY l Z a0 hw [] b215 b238 b218 b219 t218 k0218 M218 vs218 (own_cs n1 r154 r155) t219 k0219 M219 vs219 (own_cs n2 r156 r157) t238 k0238 M238 vs238 (own_cs kk r158 r159) zc T238.heap n0 Zc238 Oc238 S_C P0 f247 f248 f249 f250 f251 f252 f253 cd218 (own_csb hr154 hr155) (own_csl _ _ _) f254 f255 f256 f257 cd219 (own_csb hr156 hr157) (own_csl _ _ _) Ex238 Fc238 Fv238 V238 cd238 (own_csb hr158 hr159) (own_csl _ _ _)) hZ238 (hw _ (List.mem_of_getElem? (i := 121) rfl)) (hw _ (List.mem_of_getElem? (i := 10) rfl)) (by decide) (by decide)) q246a q246c (g := (mkF m 192 #[.val (.int j0), .val (.int j1), .val (.int j2), .val (.int j3), .val (.int n1), .val (.int r154), .val (.int r155), .val (.int n2), .val (.int r156), .val (.int r157), .val (.int kk), .val (.int nu), .val (.int r158), .val (.int r159), .val (.int ((j3 &&& (2147483647 : Int32)) % (3 : Int32))), .val (.ref w_ONE_TO_MANY), .val (.ref b215), .val (.ref b238), .unset, .unset] [(.ref b238), (.ref b215)])) rfl (by rw [hml]; rfl) (Steps.refl _) (argsL := [(.ref b238)]) (rest := []) (lenOf pd__Ljava_lang_String__Z rfl) rfl (by show 2 * 0 + _ ≤ _; exact Nat.le_of_eq rfl) (hb hby at_192) (fun _ _ => ⟨rfl, rfl, (by decide : 23 + 0 ≤ _), (by decide : 156 + 0 ≤ _)⟩)
            dsimp only [Pt.U, Pt.locs, Pt.cells, Pt.slots] at X246 l246 y246 z246 st246 hQ246
            replace l246 := Eq.symm l246
            replace y246 := Eq.symm y246
            replace z246 := Eq.symm z246
            subst l246 y246 z246
            obtain ⟨Nq246, hQ246⟩ := hQ246
            rcases hQ246 with ⟨rfl, eh246, hy246⟩ | ⟨rfl, eh246, hy246, hz246⟩
            · have N246 := Fr.app N238 Nq246
              refine GlH.back (fun _ k => st246.trans k) ?_
              show GlH Z consts_1 _ _ _ _ _ _ _ (T246.setTop (mkF m 195 #[.val (.int j0), .val (.int j1), .val (.int j2), .val (.int j3), .val (.int n1), .val (.int r154), .val (.int r155), .val (.int n2), .val (.int r156), .val (.int r157), .val (.int kk), .val (.int nu), .val (.int r158), .val (.int r159), .val (.int ((j3 &&& (2147483647 : Int32)) % (3 : Int32))), .val (.ref w_ONE_TO_MANY), .val (.ref b215), .val (.ref b238), .unset, .unset] [(.int (1 : Int32))]))
              refine GlH.back (fun _ k => XS.istore X246.here hx rfl (hb hby at_195) rfl (l' := #[.val (.int j0), .val (.int j1), .val (.int j2), .val (.int j3), .val (.int n1), .val (.int r154), .val (.int r155), .val (.int n2), .val (.int r156), .val (.int r157), .val (.int kk), .val (.int nu), .val (.int r158), .val (.int r159), .val (.int ((j3 &&& (2147483647 : Int32)) % (3 : Int32))), .val (.ref w_ONE_TO_MANY), .val (.ref b215), .val (.ref b238), .val (.int (1 : Int32)), .unset]) rfl k) ?_
              show GlH Z consts_1 _ _ _ _ _ _ _ (T246.setTop (mkF m 197 #[.val (.int j0), .val (.int j1), .val (.int j2), .val (.int j3), .val (.int n1), .val (.int r154), .val (.int r155), .val (.int n2), .val (.int r156), .val (.int r157), .val (.int kk), .val (.int nu), .val (.int r158), .val (.int r159), .val (.int ((j3 &&& (2147483647 : Int32)) % (3 : Int32))), .val (.ref w_ONE_TO_MANY), .val (.ref b215), .val (.ref b238), .val (.int (1 : Int32)), .unset] []))
              refine GlH.back (fun _ k => XS.iload X246.here hx rfl (hb hby at_197) rfl k) ?_
              show GlH Z consts_1 _ _ _ _ _ _ _ (T246.setTop (mkF m 199 #[.val (.int j0), .val (.int j1), .val (.int j2), .val (.int j3), .val (.int n1), .val (.int r154), .val (.int r155), .val (.int n2), .val (.int r156), .val (.int r157), .val (.int kk), .val (.int nu), .val (.int r158), .val (.int r159), .val (.int ((j3 &&& (2147483647 : Int32)) % (3 : Int32))), .val (.ref w_ONE_TO_MANY), .val (.ref b215), .val (.ref b238), .val (.int (1 : Int32)), .unset] [(.int nu)]))
              refine GlH.back (fun _ k => XS.ifNo X246.here hx rfl (hb hby at_199) rfl ((if0 _ _).trans (teq (hc170_237 : nu = (0 : Int32))).2) k) ?_
              show GlH Z consts_1 _ _ _ _ _ _ _ (T246.setTop (mkF m 202 #[.val (.int j0), .val (.int j1), .val (.int j2), .val (.int j3), .val (.int n1), .val (.int r154), .val (.int r155), .val (.int n2), .val (.int r156), .val (.int r157), .val (.int kk), .val (.int nu), .val (.int r158), .val (.int r159), .val (.int ((j3 &&& (2147483647 : Int32)) % (3 : Int32))), .val (.ref w_ONE_TO_MANY), .val (.ref b215), .val (.ref b238), .val (.int (1 : Int32)), .unset] []))
              refine GlH.back (fun _ k => XS.iload X246.here hx rfl (hb hby at_202) rfl k) ?_
              show GlH Z consts_1 _ _ _ _ _ _ _ (T246.setTop (mkF m 204 #[.val (.int j0), .val (.int j1), .val (.int j2), .val (.int j3), .val (.int n1), .val (.int r154), .val (.int r155), .val (.int n2), .val (.int r156), .val (.int r157), .val (.int kk), .val (.int nu), .val (.int r158), .val (.int r159), .val (.int ((j3 &&& (2147483647 : Int32)) % (3 : Int32))), .val (.ref w_ONE_TO_MANY), .val (.ref b215), .val (.ref b238), .val (.int (1 : Int32)), .unset] [(.int n1)]))
              refine GlH.back (fun _ k => XS.iload X246.here hx rfl (hb hby at_204) rfl k) ?_
              show GlH Z consts_1 _ _ _ _ _ _ _ (T246.setTop (mkF m 206 #[.val (.int j0), .val (.int j1), .val (.int j2), .val (.int j3), .val (.int n1), .val (.int r154), .val (.int r155), .val (.int n2), .val (.int r156), .val (.int r157), .val (.int kk), .val (.int nu), .val (.int r158), .val (.int r159), .val (.int ((j3 &&& (2147483647 : Int32)) % (3 : Int32))), .val (.ref w_ONE_TO_MANY), .val (.ref b215), .val (.ref b238), .val (.int (1 : Int32)), .unset] [(.int r154), (.int n1)]))
              refine GlH.back (fun _ k => XS.iload X246.here hx rfl (hb hby at_206) rfl k) ?_
              show GlH Z consts_1 _ _ _ _ _ _ _ (T246.setTop (mkF m 208 #[.val (.int j0), .val (.int j1), .val (.int j2), .val (.int j3), .val (.int n1), .val (.int r154), .val (.int r155), .val (.int n2), .val (.int r156), .val (.int r157), .val (.int kk), .val (.int nu), .val (.int r158), .val (.int r159), .val (.int ((j3 &&& (2147483647 : Int32)) % (3 : Int32))), .val (.ref w_ONE_TO_MANY), .val (.ref b215), .val (.ref b238), .val (.int (1 : Int32)), .unset] [(.int r155), (.int r154), (.int n1)]))
              refine GlH.back (fun _ k => XS.iload X246.here hx rfl (hb hby at_208) rfl k) ?_
              show GlH Z consts_1 _ _ _ _ _ _ _ (T246.setTop (mkF m 210 #[.val (.int j0), .val (.int j1), .val (.int j2), .val (.int j3), .val (.int n1), .val (.int r154), .val (.int r155), .val (.int n2), .val (.int r156), .val (.int r157), .val (.int kk), .val (.int nu), .val (.int r158), .val (.int r159), .val (.int ((j3 &&& (2147483647 : Int32)) % (3 : Int32))), .val (.ref w_ONE_TO_MANY), .val (.ref b215), .val (.ref b238), .val (.int (1 : Int32)), .unset] [(.int kk), (.int r155), (.int r154), (.int n1)]))
              refine GlH.back (fun _ k => XS.iload X246.here hx rfl (hb hby at_210) rfl k) ?_
              show GlH Z consts_1 _ _ _ _ _ _ _ (T246.setTop (mkF m 212 #[.val (.int j0), .val (.int j1), .val (.int j2), .val (.int j3), .val (.int n1), .val (.int r154), .val (.int r155), .val (.int n2), .val (.int r156), .val (.int r157), .val (.int kk), .val (.int nu), .val (.int r158), .val (.int r159), .val (.int ((j3 &&& (2147483647 : Int32)) % (3 : Int32))), .val (.ref w_ONE_TO_MANY), .val (.ref b215), .val (.ref b238), .val (.int (1 : Int32)), .unset] [(.int r158), (.int kk), (.int r155), (.int r154), (.int n1)]))
              refine GlH.back (fun _ k => XS.iload X246.here hx rfl (hb hby at_212) rfl k) ?_
              show GlH Z consts_1 _ _ _ _ _ _ _ (T246.setTop (mkF m 214 #[.val (.int j0), .val (.int j1), .val (.int j2), .val (.int j3), .val (.int n1), .val (.int r154), .val (.int r155), .val (.int n2), .val (.int r156), .val (.int r157), .val (.int kk), .val (.int nu), .val (.int r158), .val (.int r159), .val (.int ((j3 &&& (2147483647 : Int32)) % (3 : Int32))), .val (.ref w_ONE_TO_MANY), .val (.ref b215), .val (.ref b238), .val (.int (1 : Int32)), .unset] [(.int r159), (.int r158), (.int kk), (.int r155), (.int r154), (.int n1)]))
              obtain ⟨_, _, ⟨T258, L258, k258, n258⟩, -, X258, ⟨Lc258, hQ258, l258, y258, z258⟩, st258⟩ := Jvm.LawKit.callS X246 hx (y := (⟨"com/example/partition_planner/partitionplanner/RelationshipRelatesPinLaw", "same", "(ICCICC)Z"⟩ : MethodName)) hown238 (mvT hZ238 (hw _ (List.mem_of_getElem? (i := 132) rfl))) (mvT hZ238 (hw _ (List.mem_of_getElem? (i := 133) rfl))) (mvT hZ238 (hw _ (List.mem_of_getElem? (i := 2) rfl))) (mvT hZ238 (hw _ (List.mem_of_getElem? (i := 134) rfl))) (by decide) (backOf (W := 0) (rmsm l Z a0 hw [] n1 r154 r155 kk r158 r159  T238.heap n0 Zc238 (own_n3 hn1) hkk) hZ238 (hw _ (List.mem_of_getElem? (i := 134) rfl)) (hw _ (List.mem_of_getElem? (i := 2) rfl)) (by decide) (by decide)) (g := (mkF m 214 #[.val (.int j0), .val (.int j1), .val (.int j2), .val (.int j3), .val (.int n1), .val (.int r154), .val (.int r155), .val (.int n2), .val (.int r156), .val (.int r157), .val (.int kk), .val (.int nu), .val (.int r158), .val (.int r159), .val (.int ((j3 &&& (2147483647 : Int32)) % (3 : Int32))), .val (.ref w_ONE_TO_MANY), .val (.ref b215), .val (.ref b238), .val (.int (1 : Int32)), .unset] [(.int r159), (.int r158), (.int kk), (.int r155), (.int r154), (.int n1)])) rfl (by rw [hml]; rfl) (argsL := [(.int n1), (.int r154), (.int r155), (.int kk), (.int r158), (.int r159)]) (rest := []) (lenOf pd__ICCICC_Z rfl) rfl (by show 2 * 0 + _ ≤ _; exact Nat.le_of_eq rfl) (hb hby at_214) (fun _ _ => ⟨rfl, eh246, (by decide : 23 + 0 ≤ _), (by decide : 156 + 0 ≤ _)⟩)
              dsimp only [Pt.U, Pt.locs, Pt.cells, Pt.slots] at X258 l258 y258 z258 st258 hQ258
              replace l258 := Eq.symm l258
              replace y258 := Eq.symm y258
              replace z258 := Eq.symm z258
              subst l258 y258 z258
              obtain ⟨Nq258, hQ258⟩ := hQ258
              rcases hQ258 with ⟨rfl, eh258, hs258⟩ | ⟨rfl, eh258, hs258⟩
              · have N258 := Fr.app N246 Nq258
                refine GlH.back (fun _ k => st258 _ k) ?_
                show GlH Z consts_1 _ _ _ _ _ _ _ (T258.setTop (mkF m 217 #[.val (.int j0), .val (.int j1), .val (.int j2), .val (.int j3), .val (.int n1), .val (.int r154), .val (.int r155), .val (.int n2), .val (.int r156), .val (.int r157), .val (.int kk), .val (.int nu), .val (.int r158), .val (.int r159), .val (.int ((j3 &&& (2147483647 : Int32)) % (3 : Int32))), .val (.ref w_ONE_TO_MANY), .val (.ref b215), .val (.ref b238), .val (.int (1 : Int32)), .unset] [(.int (1 : Int32))]))
                refine GlH.back (fun _ k => XS.ifYes X258.here hx rfl (pc0 := 217) (pc' := 238) rfl (hb hby at_217) rfl ((if0 _ _).trans (feq (by decide : ¬ (1 : Int32) = (0 : Int32))).2) (by decide) (by decide) k) ?_
                show GlH Z consts_1 _ _ _ _ _ _ _ (T258.setTop (mkF m 238 #[.val (.int j0), .val (.int j1), .val (.int j2), .val (.int j3), .val (.int n1), .val (.int r154), .val (.int r155), .val (.int n2), .val (.int r156), .val (.int r157), .val (.int kk), .val (.int nu), .val (.int r158), .val (.int r159), .val (.int ((j3 &&& (2147483647 : Int32)) % (3 : Int32))), .val (.ref w_ONE_TO_MANY), .val (.ref b215), .val (.ref b238), .val (.int (1 : Int32)), .unset] []))
                refine GlH.back (fun _ k => XS.iconst X258.here hx rfl (hb hby at_238) k) ?_
                show GlH Z consts_1 _ _ _ _ _ _ _ (T258.setTop (mkF m 239 #[.val (.int j0), .val (.int j1), .val (.int j2), .val (.int j3), .val (.int n1), .val (.int r154), .val (.int r155), .val (.int n2), .val (.int r156), .val (.int r157), .val (.int kk), .val (.int nu), .val (.int r158), .val (.int r159), .val (.int ((j3 &&& (2147483647 : Int32)) % (3 : Int32))), .val (.ref w_ONE_TO_MANY), .val (.ref b215), .val (.ref b238), .val (.int (1 : Int32)), .unset] [(.int (1 : Int32))]))
                refine GlH.back (fun _ k => XS.goto X258.here hx rfl (pc0 := 239) (pc' := 243) rfl (hb hby at_239) (by decide) (by decide) k) ?_
                show GlH Z consts_1 _ _ _ _ _ _ _ (T258.setTop (mkF m 243 #[.val (.int j0), .val (.int j1), .val (.int j2), .val (.int j3), .val (.int n1), .val (.int r154), .val (.int r155), .val (.int n2), .val (.int r156), .val (.int r157), .val (.int kk), .val (.int nu), .val (.int r158), .val (.int r159), .val (.int ((j3 &&& (2147483647 : Int32)) % (3 : Int32))), .val (.ref w_ONE_TO_MANY), .val (.ref b215), .val (.ref b238), .val (.int (1 : Int32)), .unset] [(.int (1 : Int32))]))
                refine GlH.back (fun _ k => XS.istore X258.here hx rfl (hb hby at_243) rfl (l' := #[.val (.int j0), .val (.int j1), .val (.int j2), .val (.int j3), .val (.int n1), .val (.int r154), .val (.int r155), .val (.int n2), .val (.int r156), .val (.int r157), .val (.int kk), .val (.int nu), .val (.int r158), .val (.int r159), .val (.int ((j3 &&& (2147483647 : Int32)) % (3 : Int32))), .val (.ref w_ONE_TO_MANY), .val (.ref b215), .val (.ref b238), .val (.int (1 : Int32)), .val (.int (1 : Int32))]) rfl k) ?_
                show GlH Z consts_1 _ _ _ _ _ _ _ (T258.setTop (mkF m 245 #[.val (.int j0), .val (.int j1), .val (.int j2), .val (.int j3), .val (.int n1), .val (.int r154), .val (.int r155), .val (.int n2), .val (.int r156), .val (.int r157), .val (.int kk), .val (.int nu), .val (.int r158), .val (.int r159), .val (.int ((j3 &&& (2147483647 : Int32)) % (3 : Int32))), .val (.ref w_ONE_TO_MANY), .val (.ref b215), .val (.ref b238), .val (.int (1 : Int32)), .val (.int (1 : Int32))] []))
                refine GlH.back (fun _ k => XS.iload X258.here hx rfl (hb hby at_245) rfl k) ?_
                show GlH Z consts_1 _ _ _ _ _ _ _ (T258.setTop (mkF m 247 #[.val (.int j0), .val (.int j1), .val (.int j2), .val (.int j3), .val (.int n1), .val (.int r154), .val (.int r155), .val (.int n2), .val (.int r156), .val (.int r157), .val (.int kk), .val (.int nu), .val (.int r158), .val (.int r159), .val (.int ((j3 &&& (2147483647 : Int32)) % (3 : Int32))), .val (.ref w_ONE_TO_MANY), .val (.ref b215), .val (.ref b238), .val (.int (1 : Int32)), .val (.int (1 : Int32))] [(.int (1 : Int32))]))
                refine GlH.back (fun _ k => XS.iload X258.here hx rfl (hb hby at_247) rfl k) ?_
                show GlH Z consts_1 _ _ _ _ _ _ _ (T258.setTop (mkF m 249 #[.val (.int j0), .val (.int j1), .val (.int j2), .val (.int j3), .val (.int n1), .val (.int r154), .val (.int r155), .val (.int n2), .val (.int r156), .val (.int r157), .val (.int kk), .val (.int nu), .val (.int r158), .val (.int r159), .val (.int ((j3 &&& (2147483647 : Int32)) % (3 : Int32))), .val (.ref w_ONE_TO_MANY), .val (.ref b215), .val (.ref b238), .val (.int (1 : Int32)), .val (.int (1 : Int32))] [(.int (1 : Int32)), (.int (1 : Int32))]))
                refine GlH.back (fun _ k => XS.icmpNo X258.here hx rfl (hb hby at_249) rfl (teq (by decide : (1 : Int32) = (1 : Int32))).2 k) ?_
                show GlH Z consts_1 _ _ _ _ _ _ _ (T258.setTop (mkF m 252 #[.val (.int j0), .val (.int j1), .val (.int j2), .val (.int j3), .val (.int n1), .val (.int r154), .val (.int r155), .val (.int n2), .val (.int r156), .val (.int r157), .val (.int kk), .val (.int nu), .val (.int r158), .val (.int r159), .val (.int ((j3 &&& (2147483647 : Int32)) % (3 : Int32))), .val (.ref w_ONE_TO_MANY), .val (.ref b215), .val (.ref b238), .val (.int (1 : Int32)), .val (.int (1 : Int32))] []))
                refine GlH.back (fun _ k => XS.iconst X258.here hx rfl (hb hby at_252) k) ?_
                show GlH Z consts_1 _ _ _ _ _ _ _ (T258.setTop (mkF m 253 #[.val (.int j0), .val (.int j1), .val (.int j2), .val (.int j3), .val (.int n1), .val (.int r154), .val (.int r155), .val (.int n2), .val (.int r156), .val (.int r157), .val (.int kk), .val (.int nu), .val (.int r158), .val (.int r159), .val (.int ((j3 &&& (2147483647 : Int32)) % (3 : Int32))), .val (.ref w_ONE_TO_MANY), .val (.ref b215), .val (.ref b238), .val (.int (1 : Int32)), .val (.int (1 : Int32))] [(.int (1 : Int32))]))
                refine GlH.back (fun _ k => XS.goto X258.here hx rfl (pc0 := 253) (pc' := 257) rfl (hb hby at_253) (by decide) (by decide) k) ?_
                show GlH Z consts_1 _ _ _ _ _ _ _ (T258.setTop (mkF m 257 #[.val (.int j0), .val (.int j1), .val (.int j2), .val (.int j3), .val (.int n1), .val (.int r154), .val (.int r155), .val (.int n2), .val (.int r156), .val (.int r157), .val (.int kk), .val (.int nu), .val (.int r158), .val (.int r159), .val (.int ((j3 &&& (2147483647 : Int32)) % (3 : Int32))), .val (.ref w_ONE_TO_MANY), .val (.ref b215), .val (.ref b238), .val (.int (1 : Int32)), .val (.int (1 : Int32))] [(.int (1 : Int32))]))
                exact GlH.ret X258 eh258 hS238 (Nat.le_refl _) hh hZ238 hEL CHr238 (v := (some (.int (1 : Int32)))) (fun h => by rw [Bd.returns] at h; cases h) Bd.notSynchronized (fun fs hr => retN X258 hx (t := .boolean) (z := (1 : Int32)) Bd.returns (by simp) (hb hby at_257) hr) ⟨N258, rfl⟩ (by decide) (by decide)
              · have N258 := Fr.app N246 Nq258
                refine GlH.back (fun _ k => st258 _ k) ?_
                show GlH Z consts_1 _ _ _ _ _ _ _ (T258.setTop (mkF m 217 #[.val (.int j0), .val (.int j1), .val (.int j2), .val (.int j3), .val (.int n1), .val (.int r154), .val (.int r155), .val (.int n2), .val (.int r156), .val (.int r157), .val (.int kk), .val (.int nu), .val (.int r158), .val (.int r159), .val (.int ((j3 &&& (2147483647 : Int32)) % (3 : Int32))), .val (.ref w_ONE_TO_MANY), .val (.ref b215), .val (.ref b238), .val (.int (1 : Int32)), .unset] [(.int (0 : Int32))]))
                refine GlH.back (fun _ k => XS.ifNo X258.here hx rfl (hb hby at_217) rfl ((if0 _ _).trans (teq (by decide : (0 : Int32) = (0 : Int32))).2) k) ?_
                show GlH Z consts_1 _ _ _ _ _ _ _ (T258.setTop (mkF m 220 #[.val (.int j0), .val (.int j1), .val (.int j2), .val (.int j3), .val (.int n1), .val (.int r154), .val (.int r155), .val (.int n2), .val (.int r156), .val (.int r157), .val (.int kk), .val (.int nu), .val (.int r158), .val (.int r159), .val (.int ((j3 &&& (2147483647 : Int32)) % (3 : Int32))), .val (.ref w_ONE_TO_MANY), .val (.ref b215), .val (.ref b238), .val (.int (1 : Int32)), .unset] []))
                refine GlH.back (fun _ k => XS.iload X258.here hx rfl (hb hby at_220) rfl k) ?_
                show GlH Z consts_1 _ _ _ _ _ _ _ (T258.setTop (mkF m 222 #[.val (.int j0), .val (.int j1), .val (.int j2), .val (.int j3), .val (.int n1), .val (.int r154), .val (.int r155), .val (.int n2), .val (.int r156), .val (.int r157), .val (.int kk), .val (.int nu), .val (.int r158), .val (.int r159), .val (.int ((j3 &&& (2147483647 : Int32)) % (3 : Int32))), .val (.ref w_ONE_TO_MANY), .val (.ref b215), .val (.ref b238), .val (.int (1 : Int32)), .unset] [(.int n2)]))
                refine GlH.back (fun _ k => XS.iload X258.here hx rfl (hb hby at_222) rfl k) ?_
                show GlH Z consts_1 _ _ _ _ _ _ _ (T258.setTop (mkF m 224 #[.val (.int j0), .val (.int j1), .val (.int j2), .val (.int j3), .val (.int n1), .val (.int r154), .val (.int r155), .val (.int n2), .val (.int r156), .val (.int r157), .val (.int kk), .val (.int nu), .val (.int r158), .val (.int r159), .val (.int ((j3 &&& (2147483647 : Int32)) % (3 : Int32))), .val (.ref w_ONE_TO_MANY), .val (.ref b215), .val (.ref b238), .val (.int (1 : Int32)), .unset] [(.int r156), (.int n2)]))
                refine GlH.back (fun _ k => XS.iload X258.here hx rfl (hb hby at_224) rfl k) ?_
                show GlH Z consts_1 _ _ _ _ _ _ _ (T258.setTop (mkF m 226 #[.val (.int j0), .val (.int j1), .val (.int j2), .val (.int j3), .val (.int n1), .val (.int r154), .val (.int r155), .val (.int n2), .val (.int r156), .val (.int r157), .val (.int kk), .val (.int nu), .val (.int r158), .val (.int r159), .val (.int ((j3 &&& (2147483647 : Int32)) % (3 : Int32))), .val (.ref w_ONE_TO_MANY), .val (.ref b215), .val (.ref b238), .val (.int (1 : Int32)), .unset] [(.int r157), (.int r156), (.int n2)]))
                refine GlH.back (fun _ k => XS.iload X258.here hx rfl (hb hby at_226) rfl k) ?_
                show GlH Z consts_1 _ _ _ _ _ _ _ (T258.setTop (mkF m 228 #[.val (.int j0), .val (.int j1), .val (.int j2), .val (.int j3), .val (.int n1), .val (.int r154), .val (.int r155), .val (.int n2), .val (.int r156), .val (.int r157), .val (.int kk), .val (.int nu), .val (.int r158), .val (.int r159), .val (.int ((j3 &&& (2147483647 : Int32)) % (3 : Int32))), .val (.ref w_ONE_TO_MANY), .val (.ref b215), .val (.ref b238), .val (.int (1 : Int32)), .unset] [(.int kk), (.int r157), (.int r156), (.int n2)]))
                refine GlH.back (fun _ k => XS.iload X258.here hx rfl (hb hby at_228) rfl k) ?_
                show GlH Z consts_1 _ _ _ _ _ _ _ (T258.setTop (mkF m 230 #[.val (.int j0), .val (.int j1), .val (.int j2), .val (.int j3), .val (.int n1), .val (.int r154), .val (.int r155), .val (.int n2), .val (.int r156), .val (.int r157), .val (.int kk), .val (.int nu), .val (.int r158), .val (.int r159), .val (.int ((j3 &&& (2147483647 : Int32)) % (3 : Int32))), .val (.ref w_ONE_TO_MANY), .val (.ref b215), .val (.ref b238), .val (.int (1 : Int32)), .unset] [(.int r158), (.int kk), (.int r157), (.int r156), (.int n2)]))
                refine GlH.back (fun _ k => XS.iload X258.here hx rfl (hb hby at_230) rfl k) ?_
                show GlH Z consts_1 _ _ _ _ _ _ _ (T258.setTop (mkF m 232 #[.val (.int j0), .val (.int j1), .val (.int j2), .val (.int j3), .val (.int n1), .val (.int r154), .val (.int r155), .val (.int n2), .val (.int r156), .val (.int r157), .val (.int kk), .val (.int nu), .val (.int r158), .val (.int r159), .val (.int ((j3 &&& (2147483647 : Int32)) % (3 : Int32))), .val (.ref w_ONE_TO_MANY), .val (.ref b215), .val (.ref b238), .val (.int (1 : Int32)), .unset] [(.int r159), (.int r158), (.int kk), (.int r157), (.int r156), (.int n2)]))
                obtain ⟨_, _, ⟨T259, L259, k259, n259⟩, -, X259, ⟨Lc259, hQ259, l259, y259, z259⟩, st259⟩ := Jvm.LawKit.callS X258 hx (y := (⟨"com/example/partition_planner/partitionplanner/RelationshipRelatesPinLaw", "same", "(ICCICC)Z"⟩ : MethodName)) hown238 (mvT hZ238 (hw _ (List.mem_of_getElem? (i := 132) rfl))) (mvT hZ238 (hw _ (List.mem_of_getElem? (i := 133) rfl))) (mvT hZ238 (hw _ (List.mem_of_getElem? (i := 2) rfl))) (mvT hZ238 (hw _ (List.mem_of_getElem? (i := 134) rfl))) (by decide) (backOf (W := 0) (rmsm l Z a0 hw [] n2 r156 r157 kk r158 r159  T238.heap n0 Zc238 (own_n3 hn2) hkk) hZ238 (hw _ (List.mem_of_getElem? (i := 134) rfl)) (hw _ (List.mem_of_getElem? (i := 2) rfl)) (by decide) (by decide)) (g := (mkF m 232 #[.val (.int j0), .val (.int j1), .val (.int j2), .val (.int j3), .val (.int n1), .val (.int r154), .val (.int r155), .val (.int n2), .val (.int r156), .val (.int r157), .val (.int kk), .val (.int nu), .val (.int r158), .val (.int r159), .val (.int ((j3 &&& (2147483647 : Int32)) % (3 : Int32))), .val (.ref w_ONE_TO_MANY), .val (.ref b215), .val (.ref b238), .val (.int (1 : Int32)), .unset] [(.int r159), (.int r158), (.int kk), (.int r157), (.int r156), (.int n2)])) rfl (by rw [hml]; rfl) (argsL := [(.int n2), (.int r156), (.int r157), (.int kk), (.int r158), (.int r159)]) (rest := []) (lenOf pd__ICCICC_Z rfl) rfl (by show 2 * 0 + _ ≤ _; exact Nat.le_of_eq rfl) (hb hby at_232) (fun _ _ => ⟨rfl, eh258, (by decide : 23 + 0 ≤ _), (by decide : 156 + 0 ≤ _)⟩)
                dsimp only [Pt.U, Pt.locs, Pt.cells, Pt.slots] at X259 l259 y259 z259 st259 hQ259
                replace l259 := Eq.symm l259
                replace y259 := Eq.symm y259
                replace z259 := Eq.symm z259
                subst l259 y259 z259
                obtain ⟨Nq259, hQ259⟩ := hQ259
                rcases hQ259 with ⟨rfl, eh259, hs259⟩ | ⟨rfl, eh259, hs259⟩
                · have N259 := Fr.app N258 Nq259
                  refine GlH.back (fun _ k => st259 _ k) ?_
                  show GlH Z consts_1 _ _ _ _ _ _ _ (T259.setTop (mkF m 235 #[.val (.int j0), .val (.int j1), .val (.int j2), .val (.int j3), .val (.int n1), .val (.int r154), .val (.int r155), .val (.int n2), .val (.int r156), .val (.int r157), .val (.int kk), .val (.int nu), .val (.int r158), .val (.int r159), .val (.int ((j3 &&& (2147483647 : Int32)) % (3 : Int32))), .val (.ref w_ONE_TO_MANY), .val (.ref b215), .val (.ref b238), .val (.int (1 : Int32)), .unset] [(.int (1 : Int32))]))
                  refine GlH.back (fun _ k => XS.ifNo X259.here hx rfl (hb hby at_235) rfl ((if0 _ _).trans (feq (by decide : ¬ (1 : Int32) = (0 : Int32))).1) k) ?_
                  show GlH Z consts_1 _ _ _ _ _ _ _ (T259.setTop (mkF m 238 #[.val (.int j0), .val (.int j1), .val (.int j2), .val (.int j3), .val (.int n1), .val (.int r154), .val (.int r155), .val (.int n2), .val (.int r156), .val (.int r157), .val (.int kk), .val (.int nu), .val (.int r158), .val (.int r159), .val (.int ((j3 &&& (2147483647 : Int32)) % (3 : Int32))), .val (.ref w_ONE_TO_MANY), .val (.ref b215), .val (.ref b238), .val (.int (1 : Int32)), .unset] []))
                  refine GlH.back (fun _ k => XS.iconst X259.here hx rfl (hb hby at_238) k) ?_
                  show GlH Z consts_1 _ _ _ _ _ _ _ (T259.setTop (mkF m 239 #[.val (.int j0), .val (.int j1), .val (.int j2), .val (.int j3), .val (.int n1), .val (.int r154), .val (.int r155), .val (.int n2), .val (.int r156), .val (.int r157), .val (.int kk), .val (.int nu), .val (.int r158), .val (.int r159), .val (.int ((j3 &&& (2147483647 : Int32)) % (3 : Int32))), .val (.ref w_ONE_TO_MANY), .val (.ref b215), .val (.ref b238), .val (.int (1 : Int32)), .unset] [(.int (1 : Int32))]))
                  refine GlH.back (fun _ k => XS.goto X259.here hx rfl (pc0 := 239) (pc' := 243) rfl (hb hby at_239) (by decide) (by decide) k) ?_
                  show GlH Z consts_1 _ _ _ _ _ _ _ (T259.setTop (mkF m 243 #[.val (.int j0), .val (.int j1), .val (.int j2), .val (.int j3), .val (.int n1), .val (.int r154), .val (.int r155), .val (.int n2), .val (.int r156), .val (.int r157), .val (.int kk), .val (.int nu), .val (.int r158), .val (.int r159), .val (.int ((j3 &&& (2147483647 : Int32)) % (3 : Int32))), .val (.ref w_ONE_TO_MANY), .val (.ref b215), .val (.ref b238), .val (.int (1 : Int32)), .unset] [(.int (1 : Int32))]))
                  refine GlH.back (fun _ k => XS.istore X259.here hx rfl (hb hby at_243) rfl (l' := #[.val (.int j0), .val (.int j1), .val (.int j2), .val (.int j3), .val (.int n1), .val (.int r154), .val (.int r155), .val (.int n2), .val (.int r156), .val (.int r157), .val (.int kk), .val (.int nu), .val (.int r158), .val (.int r159), .val (.int ((j3 &&& (2147483647 : Int32)) % (3 : Int32))), .val (.ref w_ONE_TO_MANY), .val (.ref b215), .val (.ref b238), .val (.int (1 : Int32)), .val (.int (1 : Int32))]) rfl k) ?_
                  show GlH Z consts_1 _ _ _ _ _ _ _ (T259.setTop (mkF m 245 #[.val (.int j0), .val (.int j1), .val (.int j2), .val (.int j3), .val (.int n1), .val (.int r154), .val (.int r155), .val (.int n2), .val (.int r156), .val (.int r157), .val (.int kk), .val (.int nu), .val (.int r158), .val (.int r159), .val (.int ((j3 &&& (2147483647 : Int32)) % (3 : Int32))), .val (.ref w_ONE_TO_MANY), .val (.ref b215), .val (.ref b238), .val (.int (1 : Int32)), .val (.int (1 : Int32))] []))
                  refine GlH.back (fun _ k => XS.iload X259.here hx rfl (hb hby at_245) rfl k) ?_
                  show GlH Z consts_1 _ _ _ _ _ _ _ (T259.setTop (mkF m 247 #[.val (.int j0), .val (.int j1), .val (.int j2), .val (.int j3), .val (.int n1), .val (.int r154), .val (.int r155), .val (.int n2), .val (.int r156), .val (.int r157), .val (.int kk), .val (.int nu), .val (.int r158), .val (.int r159), .val (.int ((j3 &&& (2147483647 : Int32)) % (3 : Int32))), .val (.ref w_ONE_TO_MANY), .val (.ref b215), .val (.ref b238), .val (.int (1 : Int32)), .val (.int (1 : Int32))] [(.int (1 : Int32))]))
                  refine GlH.back (fun _ k => XS.iload X259.here hx rfl (hb hby at_247) rfl k) ?_
                  show GlH Z consts_1 _ _ _ _ _ _ _ (T259.setTop (mkF m 249 #[.val (.int j0), .val (.int j1), .val (.int j2), .val (.int j3), .val (.int n1), .val (.int r154), .val (.int r155), .val (.int n2), .val (.int r156), .val (.int r157), .val (.int kk), .val (.int nu), .val (.int r158), .val (.int r159), .val (.int ((j3 &&& (2147483647 : Int32)) % (3 : Int32))), .val (.ref w_ONE_TO_MANY), .val (.ref b215), .val (.ref b238), .val (.int (1 : Int32)), .val (.int (1 : Int32))] [(.int (1 : Int32)), (.int (1 : Int32))]))
                  refine GlH.back (fun _ k => XS.icmpNo X259.here hx rfl (hb hby at_249) rfl (teq (by decide : (1 : Int32) = (1 : Int32))).2 k) ?_
                  show GlH Z consts_1 _ _ _ _ _ _ _ (T259.setTop (mkF m 252 #[.val (.int j0), .val (.int j1), .val (.int j2), .val (.int j3), .val (.int n1), .val (.int r154), .val (.int r155), .val (.int n2), .val (.int r156), .val (.int r157), .val (.int kk), .val (.int nu), .val (.int r158), .val (.int r159), .val (.int ((j3 &&& (2147483647 : Int32)) % (3 : Int32))), .val (.ref w_ONE_TO_MANY), .val (.ref b215), .val (.ref b238), .val (.int (1 : Int32)), .val (.int (1 : Int32))] []))
                  refine GlH.back (fun _ k => XS.iconst X259.here hx rfl (hb hby at_252) k) ?_
                  show GlH Z consts_1 _ _ _ _ _ _ _ (T259.setTop (mkF m 253 #[.val (.int j0), .val (.int j1), .val (.int j2), .val (.int j3), .val (.int n1), .val (.int r154), .val (.int r155), .val (.int n2), .val (.int r156), .val (.int r157), .val (.int kk), .val (.int nu), .val (.int r158), .val (.int r159), .val (.int ((j3 &&& (2147483647 : Int32)) % (3 : Int32))), .val (.ref w_ONE_TO_MANY), .val (.ref b215), .val (.ref b238), .val (.int (1 : Int32)), .val (.int (1 : Int32))] [(.int (1 : Int32))]))
                  refine GlH.back (fun _ k => XS.goto X259.here hx rfl (pc0 := 253) (pc' := 257) rfl (hb hby at_253) (by decide) (by decide) k) ?_
                  show GlH Z consts_1 _ _ _ _ _ _ _ (T259.setTop (mkF m 257 #[.val (.int j0), .val (.int j1), .val (.int j2), .val (.int j3), .val (.int n1), .val (.int r154), .val (.int r155), .val (.int n2), .val (.int r156), .val (.int r157), .val (.int kk), .val (.int nu), .val (.int r158), .val (.int r159), .val (.int ((j3 &&& (2147483647 : Int32)) % (3 : Int32))), .val (.ref w_ONE_TO_MANY), .val (.ref b215), .val (.ref b238), .val (.int (1 : Int32)), .val (.int (1 : Int32))] [(.int (1 : Int32))]))
                  exact GlH.ret X259 eh259 hS238 (Nat.le_refl _) hh hZ238 hEL CHr238 (v := (some (.int (1 : Int32)))) (fun h => by rw [Bd.returns] at h; cases h) Bd.notSynchronized (fun fs hr => retN X259 hx (t := .boolean) (z := (1 : Int32)) Bd.returns (by simp) (hb hby at_257) hr) ⟨N259, rfl⟩ (by decide) (by decide)
                · have N259 := Fr.app N258 Nq259
                  refine GlH.back (fun _ k => st259 _ k) ?_
                  show GlH Z consts_1 _ _ _ _ _ _ _ (T259.setTop (mkF m 235 #[.val (.int j0), .val (.int j1), .val (.int j2), .val (.int j3), .val (.int n1), .val (.int r154), .val (.int r155), .val (.int n2), .val (.int r156), .val (.int r157), .val (.int kk), .val (.int nu), .val (.int r158), .val (.int r159), .val (.int ((j3 &&& (2147483647 : Int32)) % (3 : Int32))), .val (.ref w_ONE_TO_MANY), .val (.ref b215), .val (.ref b238), .val (.int (1 : Int32)), .unset] [(.int (0 : Int32))]))
                  refine GlH.back (fun _ k => XS.ifYes X259.here hx rfl (pc0 := 235) (pc' := 242) rfl (hb hby at_235) rfl ((if0 _ _).trans (teq (by decide : (0 : Int32) = (0 : Int32))).1) (by decide) (by decide) k) ?_
                  show GlH Z consts_1 _ _ _ _ _ _ _ (T259.setTop (mkF m 242 #[.val (.int j0), .val (.int j1), .val (.int j2), .val (.int j3), .val (.int n1), .val (.int r154), .val (.int r155), .val (.int n2), .val (.int r156), .val (.int r157), .val (.int kk), .val (.int nu), .val (.int r158), .val (.int r159), .val (.int ((j3 &&& (2147483647 : Int32)) % (3 : Int32))), .val (.ref w_ONE_TO_MANY), .val (.ref b215), .val (.ref b238), .val (.int (1 : Int32)), .unset] []))
                  refine GlH.back (fun _ k => XS.iconst X259.here hx rfl (hb hby at_242) k) ?_
                  show GlH Z consts_1 _ _ _ _ _ _ _ (T259.setTop (mkF m 243 #[.val (.int j0), .val (.int j1), .val (.int j2), .val (.int j3), .val (.int n1), .val (.int r154), .val (.int r155), .val (.int n2), .val (.int r156), .val (.int r157), .val (.int kk), .val (.int nu), .val (.int r158), .val (.int r159), .val (.int ((j3 &&& (2147483647 : Int32)) % (3 : Int32))), .val (.ref w_ONE_TO_MANY), .val (.ref b215), .val (.ref b238), .val (.int (1 : Int32)), .unset] [(.int (0 : Int32))]))
                  refine GlH.back (fun _ k => XS.istore X259.here hx rfl (hb hby at_243) rfl (l' := #[.val (.int j0), .val (.int j1), .val (.int j2), .val (.int j3), .val (.int n1), .val (.int r154), .val (.int r155), .val (.int n2), .val (.int r156), .val (.int r157), .val (.int kk), .val (.int nu), .val (.int r158), .val (.int r159), .val (.int ((j3 &&& (2147483647 : Int32)) % (3 : Int32))), .val (.ref w_ONE_TO_MANY), .val (.ref b215), .val (.ref b238), .val (.int (1 : Int32)), .val (.int (0 : Int32))]) rfl k) ?_
                  show GlH Z consts_1 _ _ _ _ _ _ _ (T259.setTop (mkF m 245 #[.val (.int j0), .val (.int j1), .val (.int j2), .val (.int j3), .val (.int n1), .val (.int r154), .val (.int r155), .val (.int n2), .val (.int r156), .val (.int r157), .val (.int kk), .val (.int nu), .val (.int r158), .val (.int r159), .val (.int ((j3 &&& (2147483647 : Int32)) % (3 : Int32))), .val (.ref w_ONE_TO_MANY), .val (.ref b215), .val (.ref b238), .val (.int (1 : Int32)), .val (.int (0 : Int32))] []))
                  refine GlH.back (fun _ k => XS.iload X259.here hx rfl (hb hby at_245) rfl k) ?_
                  show GlH Z consts_1 _ _ _ _ _ _ _ (T259.setTop (mkF m 247 #[.val (.int j0), .val (.int j1), .val (.int j2), .val (.int j3), .val (.int n1), .val (.int r154), .val (.int r155), .val (.int n2), .val (.int r156), .val (.int r157), .val (.int kk), .val (.int nu), .val (.int r158), .val (.int r159), .val (.int ((j3 &&& (2147483647 : Int32)) % (3 : Int32))), .val (.ref w_ONE_TO_MANY), .val (.ref b215), .val (.ref b238), .val (.int (1 : Int32)), .val (.int (0 : Int32))] [(.int (1 : Int32))]))
                  refine GlH.back (fun _ k => XS.iload X259.here hx rfl (hb hby at_247) rfl k) ?_
                  show GlH Z consts_1 _ _ _ _ _ _ _ (T259.setTop (mkF m 249 #[.val (.int j0), .val (.int j1), .val (.int j2), .val (.int j3), .val (.int n1), .val (.int r154), .val (.int r155), .val (.int n2), .val (.int r156), .val (.int r157), .val (.int kk), .val (.int nu), .val (.int r158), .val (.int r159), .val (.int ((j3 &&& (2147483647 : Int32)) % (3 : Int32))), .val (.ref w_ONE_TO_MANY), .val (.ref b215), .val (.ref b238), .val (.int (1 : Int32)), .val (.int (0 : Int32))] [(.int (0 : Int32)), (.int (1 : Int32))]))
                  exact (hy246.elim hs258 hs259).elim
            · have N246 := Fr.app N238 Nq246
              refine GlH.back (fun _ k => st246.trans k) ?_
              show GlH Z consts_1 _ _ _ _ _ _ _ (T246.setTop (mkF m 195 #[.val (.int j0), .val (.int j1), .val (.int j2), .val (.int j3), .val (.int n1), .val (.int r154), .val (.int r155), .val (.int n2), .val (.int r156), .val (.int r157), .val (.int kk), .val (.int nu), .val (.int r158), .val (.int r159), .val (.int ((j3 &&& (2147483647 : Int32)) % (3 : Int32))), .val (.ref w_ONE_TO_MANY), .val (.ref b215), .val (.ref b238), .unset, .unset] [(.int (0 : Int32))]))
              refine GlH.back (fun _ k => XS.istore X246.here hx rfl (hb hby at_195) rfl (l' := #[.val (.int j0), .val (.int j1), .val (.int j2), .val (.int j3), .val (.int n1), .val (.int r154), .val (.int r155), .val (.int n2), .val (.int r156), .val (.int r157), .val (.int kk), .val (.int nu), .val (.int r158), .val (.int r159), .val (.int ((j3 &&& (2147483647 : Int32)) % (3 : Int32))), .val (.ref w_ONE_TO_MANY), .val (.ref b215), .val (.ref b238), .val (.int (0 : Int32)), .unset]) rfl k) ?_
              show GlH Z consts_1 _ _ _ _ _ _ _ (T246.setTop (mkF m 197 #[.val (.int j0), .val (.int j1), .val (.int j2), .val (.int j3), .val (.int n1), .val (.int r154), .val (.int r155), .val (.int n2), .val (.int r156), .val (.int r157), .val (.int kk), .val (.int nu), .val (.int r158), .val (.int r159), .val (.int ((j3 &&& (2147483647 : Int32)) % (3 : Int32))), .val (.ref w_ONE_TO_MANY), .val (.ref b215), .val (.ref b238), .val (.int (0 : Int32)), .unset] []))
              refine GlH.back (fun _ k => XS.iload X246.here hx rfl (hb hby at_197) rfl k) ?_
              show GlH Z consts_1 _ _ _ _ _ _ _ (T246.setTop (mkF m 199 #[.val (.int j0), .val (.int j1), .val (.int j2), .val (.int j3), .val (.int n1), .val (.int r154), .val (.int r155), .val (.int n2), .val (.int r156), .val (.int r157), .val (.int kk), .val (.int nu), .val (.int r158), .val (.int r159), .val (.int ((j3 &&& (2147483647 : Int32)) % (3 : Int32))), .val (.ref w_ONE_TO_MANY), .val (.ref b215), .val (.ref b238), .val (.int (0 : Int32)), .unset] [(.int nu)]))
              refine GlH.back (fun _ k => XS.ifNo X246.here hx rfl (hb hby at_199) rfl ((if0 _ _).trans (teq (hc170_237 : nu = (0 : Int32))).2) k) ?_
              show GlH Z consts_1 _ _ _ _ _ _ _ (T246.setTop (mkF m 202 #[.val (.int j0), .val (.int j1), .val (.int j2), .val (.int j3), .val (.int n1), .val (.int r154), .val (.int r155), .val (.int n2), .val (.int r156), .val (.int r157), .val (.int kk), .val (.int nu), .val (.int r158), .val (.int r159), .val (.int ((j3 &&& (2147483647 : Int32)) % (3 : Int32))), .val (.ref w_ONE_TO_MANY), .val (.ref b215), .val (.ref b238), .val (.int (0 : Int32)), .unset] []))
              refine GlH.back (fun _ k => XS.iload X246.here hx rfl (hb hby at_202) rfl k) ?_
              show GlH Z consts_1 _ _ _ _ _ _ _ (T246.setTop (mkF m 204 #[.val (.int j0), .val (.int j1), .val (.int j2), .val (.int j3), .val (.int n1), .val (.int r154), .val (.int r155), .val (.int n2), .val (.int r156), .val (.int r157), .val (.int kk), .val (.int nu), .val (.int r158), .val (.int r159), .val (.int ((j3 &&& (2147483647 : Int32)) % (3 : Int32))), .val (.ref w_ONE_TO_MANY), .val (.ref b215), .val (.ref b238), .val (.int (0 : Int32)), .unset] [(.int n1)]))
              refine GlH.back (fun _ k => XS.iload X246.here hx rfl (hb hby at_204) rfl k) ?_
              show GlH Z consts_1 _ _ _ _ _ _ _ (T246.setTop (mkF m 206 #[.val (.int j0), .val (.int j1), .val (.int j2), .val (.int j3), .val (.int n1), .val (.int r154), .val (.int r155), .val (.int n2), .val (.int r156), .val (.int r157), .val (.int kk), .val (.int nu), .val (.int r158), .val (.int r159), .val (.int ((j3 &&& (2147483647 : Int32)) % (3 : Int32))), .val (.ref w_ONE_TO_MANY), .val (.ref b215), .val (.ref b238), .val (.int (0 : Int32)), .unset] [(.int r154), (.int n1)]))
              refine GlH.back (fun _ k => XS.iload X246.here hx rfl (hb hby at_206) rfl k) ?_
              show GlH Z consts_1 _ _ _ _ _ _ _ (T246.setTop (mkF m 208 #[.val (.int j0), .val (.int j1), .val (.int j2), .val (.int j3), .val (.int n1), .val (.int r154), .val (.int r155), .val (.int n2), .val (.int r156), .val (.int r157), .val (.int kk), .val (.int nu), .val (.int r158), .val (.int r159), .val (.int ((j3 &&& (2147483647 : Int32)) % (3 : Int32))), .val (.ref w_ONE_TO_MANY), .val (.ref b215), .val (.ref b238), .val (.int (0 : Int32)), .unset] [(.int r155), (.int r154), (.int n1)]))
              refine GlH.back (fun _ k => XS.iload X246.here hx rfl (hb hby at_208) rfl k) ?_
              show GlH Z consts_1 _ _ _ _ _ _ _ (T246.setTop (mkF m 210 #[.val (.int j0), .val (.int j1), .val (.int j2), .val (.int j3), .val (.int n1), .val (.int r154), .val (.int r155), .val (.int n2), .val (.int r156), .val (.int r157), .val (.int kk), .val (.int nu), .val (.int r158), .val (.int r159), .val (.int ((j3 &&& (2147483647 : Int32)) % (3 : Int32))), .val (.ref w_ONE_TO_MANY), .val (.ref b215), .val (.ref b238), .val (.int (0 : Int32)), .unset] [(.int kk), (.int r155), (.int r154), (.int n1)]))
              refine GlH.back (fun _ k => XS.iload X246.here hx rfl (hb hby at_210) rfl k) ?_
              show GlH Z consts_1 _ _ _ _ _ _ _ (T246.setTop (mkF m 212 #[.val (.int j0), .val (.int j1), .val (.int j2), .val (.int j3), .val (.int n1), .val (.int r154), .val (.int r155), .val (.int n2), .val (.int r156), .val (.int r157), .val (.int kk), .val (.int nu), .val (.int r158), .val (.int r159), .val (.int ((j3 &&& (2147483647 : Int32)) % (3 : Int32))), .val (.ref w_ONE_TO_MANY), .val (.ref b215), .val (.ref b238), .val (.int (0 : Int32)), .unset] [(.int r158), (.int kk), (.int r155), (.int r154), (.int n1)]))
              refine GlH.back (fun _ k => XS.iload X246.here hx rfl (hb hby at_212) rfl k) ?_
              show GlH Z consts_1 _ _ _ _ _ _ _ (T246.setTop (mkF m 214 #[.val (.int j0), .val (.int j1), .val (.int j2), .val (.int j3), .val (.int n1), .val (.int r154), .val (.int r155), .val (.int n2), .val (.int r156), .val (.int r157), .val (.int kk), .val (.int nu), .val (.int r158), .val (.int r159), .val (.int ((j3 &&& (2147483647 : Int32)) % (3 : Int32))), .val (.ref w_ONE_TO_MANY), .val (.ref b215), .val (.ref b238), .val (.int (0 : Int32)), .unset] [(.int r159), (.int r158), (.int kk), (.int r155), (.int r154), (.int n1)]))
              obtain ⟨_, _, ⟨T260, L260, k260, n260⟩, -, X260, ⟨Lc260, hQ260, l260, y260, z260⟩, st260⟩ := Jvm.LawKit.callS X246 hx (y := (⟨"com/example/partition_planner/partitionplanner/RelationshipRelatesPinLaw", "same", "(ICCICC)Z"⟩ : MethodName)) hown238 (mvT hZ238 (hw _ (List.mem_of_getElem? (i := 132) rfl))) (mvT hZ238 (hw _ (List.mem_of_getElem? (i := 133) rfl))) (mvT hZ238 (hw _ (List.mem_of_getElem? (i := 2) rfl))) (mvT hZ238 (hw _ (List.mem_of_getElem? (i := 134) rfl))) (by decide) (backOf (W := 0) (rmsm l Z a0 hw [] n1 r154 r155 kk r158 r159  T238.heap n0 Zc238 (own_n3 hn1) hkk) hZ238 (hw _ (List.mem_of_getElem? (i := 134) rfl)) (hw _ (List.mem_of_getElem? (i := 2) rfl)) (by decide) (by decide)) (g := (mkF m 214 #[.val (.int j0), .val (.int j1), .val (.int j2), .val (.int j3), .val (.int n1), .val (.int r154), .val (.int r155), .val (.int n2), .val (.int r156), .val (.int r157), .val (.int kk), .val (.int nu), .val (.int r158), .val (.int r159), .val (.int ((j3 &&& (2147483647 : Int32)) % (3 : Int32))), .val (.ref w_ONE_TO_MANY), .val (.ref b215), .val (.ref b238), .val (.int (0 : Int32)), .unset] [(.int r159), (.int r158), (.int kk), (.int r155), (.int r154), (.int n1)])) rfl (by rw [hml]; rfl) (argsL := [(.int n1), (.int r154), (.int r155), (.int kk), (.int r158), (.int r159)]) (rest := []) (lenOf pd__ICCICC_Z rfl) rfl (by show 2 * 0 + _ ≤ _; exact Nat.le_of_eq rfl) (hb hby at_214) (fun _ _ => ⟨rfl, eh246, (by decide : 23 + 0 ≤ _), (by decide : 156 + 0 ≤ _)⟩)
              dsimp only [Pt.U, Pt.locs, Pt.cells, Pt.slots] at X260 l260 y260 z260 st260 hQ260
              replace l260 := Eq.symm l260
              replace y260 := Eq.symm y260
              replace z260 := Eq.symm z260
              subst l260 y260 z260
              obtain ⟨Nq260, hQ260⟩ := hQ260
              rcases hQ260 with ⟨rfl, eh260, hs260⟩ | ⟨rfl, eh260, hs260⟩
              · have N260 := Fr.app N246 Nq260
                refine GlH.back (fun _ k => st260 _ k) ?_
                show GlH Z consts_1 _ _ _ _ _ _ _ (T260.setTop (mkF m 217 #[.val (.int j0), .val (.int j1), .val (.int j2), .val (.int j3), .val (.int n1), .val (.int r154), .val (.int r155), .val (.int n2), .val (.int r156), .val (.int r157), .val (.int kk), .val (.int nu), .val (.int r158), .val (.int r159), .val (.int ((j3 &&& (2147483647 : Int32)) % (3 : Int32))), .val (.ref w_ONE_TO_MANY), .val (.ref b215), .val (.ref b238), .val (.int (0 : Int32)), .unset] [(.int (1 : Int32))]))
                refine GlH.back (fun _ k => XS.ifYes X260.here hx rfl (pc0 := 217) (pc' := 238) rfl (hb hby at_217) rfl ((if0 _ _).trans (feq (by decide : ¬ (1 : Int32) = (0 : Int32))).2) (by decide) (by decide) k) ?_
                show GlH Z consts_1 _ _ _ _ _ _ _ (T260.setTop (mkF m 238 #[.val (.int j0), .val (.int j1), .val (.int j2), .val (.int j3), .val (.int n1), .val (.int r154), .val (.int r155), .val (.int n2), .val (.int r156), .val (.int r157), .val (.int kk), .val (.int nu), .val (.int r158), .val (.int r159), .val (.int ((j3 &&& (2147483647 : Int32)) % (3 : Int32))), .val (.ref w_ONE_TO_MANY), .val (.ref b215), .val (.ref b238), .val (.int (0 : Int32)), .unset] []))
                refine GlH.back (fun _ k => XS.iconst X260.here hx rfl (hb hby at_238) k) ?_
                show GlH Z consts_1 _ _ _ _ _ _ _ (T260.setTop (mkF m 239 #[.val (.int j0), .val (.int j1), .val (.int j2), .val (.int j3), .val (.int n1), .val (.int r154), .val (.int r155), .val (.int n2), .val (.int r156), .val (.int r157), .val (.int kk), .val (.int nu), .val (.int r158), .val (.int r159), .val (.int ((j3 &&& (2147483647 : Int32)) % (3 : Int32))), .val (.ref w_ONE_TO_MANY), .val (.ref b215), .val (.ref b238), .val (.int (0 : Int32)), .unset] [(.int (1 : Int32))]))
                refine GlH.back (fun _ k => XS.goto X260.here hx rfl (pc0 := 239) (pc' := 243) rfl (hb hby at_239) (by decide) (by decide) k) ?_
                show GlH Z consts_1 _ _ _ _ _ _ _ (T260.setTop (mkF m 243 #[.val (.int j0), .val (.int j1), .val (.int j2), .val (.int j3), .val (.int n1), .val (.int r154), .val (.int r155), .val (.int n2), .val (.int r156), .val (.int r157), .val (.int kk), .val (.int nu), .val (.int r158), .val (.int r159), .val (.int ((j3 &&& (2147483647 : Int32)) % (3 : Int32))), .val (.ref w_ONE_TO_MANY), .val (.ref b215), .val (.ref b238), .val (.int (0 : Int32)), .unset] [(.int (1 : Int32))]))
                refine GlH.back (fun _ k => XS.istore X260.here hx rfl (hb hby at_243) rfl (l' := #[.val (.int j0), .val (.int j1), .val (.int j2), .val (.int j3), .val (.int n1), .val (.int r154), .val (.int r155), .val (.int n2), .val (.int r156), .val (.int r157), .val (.int kk), .val (.int nu), .val (.int r158), .val (.int r159), .val (.int ((j3 &&& (2147483647 : Int32)) % (3 : Int32))), .val (.ref w_ONE_TO_MANY), .val (.ref b215), .val (.ref b238), .val (.int (0 : Int32)), .val (.int (1 : Int32))]) rfl k) ?_
                show GlH Z consts_1 _ _ _ _ _ _ _ (T260.setTop (mkF m 245 #[.val (.int j0), .val (.int j1), .val (.int j2), .val (.int j3), .val (.int n1), .val (.int r154), .val (.int r155), .val (.int n2), .val (.int r156), .val (.int r157), .val (.int kk), .val (.int nu), .val (.int r158), .val (.int r159), .val (.int ((j3 &&& (2147483647 : Int32)) % (3 : Int32))), .val (.ref w_ONE_TO_MANY), .val (.ref b215), .val (.ref b238), .val (.int (0 : Int32)), .val (.int (1 : Int32))] []))
                refine GlH.back (fun _ k => XS.iload X260.here hx rfl (hb hby at_245) rfl k) ?_
                show GlH Z consts_1 _ _ _ _ _ _ _ (T260.setTop (mkF m 247 #[.val (.int j0), .val (.int j1), .val (.int j2), .val (.int j3), .val (.int n1), .val (.int r154), .val (.int r155), .val (.int n2), .val (.int r156), .val (.int r157), .val (.int kk), .val (.int nu), .val (.int r158), .val (.int r159), .val (.int ((j3 &&& (2147483647 : Int32)) % (3 : Int32))), .val (.ref w_ONE_TO_MANY), .val (.ref b215), .val (.ref b238), .val (.int (0 : Int32)), .val (.int (1 : Int32))] [(.int (0 : Int32))]))
                refine GlH.back (fun _ k => XS.iload X260.here hx rfl (hb hby at_247) rfl k) ?_
                show GlH Z consts_1 _ _ _ _ _ _ _ (T260.setTop (mkF m 249 #[.val (.int j0), .val (.int j1), .val (.int j2), .val (.int j3), .val (.int n1), .val (.int r154), .val (.int r155), .val (.int n2), .val (.int r156), .val (.int r157), .val (.int kk), .val (.int nu), .val (.int r158), .val (.int r159), .val (.int ((j3 &&& (2147483647 : Int32)) % (3 : Int32))), .val (.ref w_ONE_TO_MANY), .val (.ref b215), .val (.ref b238), .val (.int (0 : Int32)), .val (.int (1 : Int32))] [(.int (1 : Int32)), (.int (0 : Int32))]))
                exact (hy246 hs260).elim
              · have N260 := Fr.app N246 Nq260
                refine GlH.back (fun _ k => st260 _ k) ?_
                show GlH Z consts_1 _ _ _ _ _ _ _ (T260.setTop (mkF m 217 #[.val (.int j0), .val (.int j1), .val (.int j2), .val (.int j3), .val (.int n1), .val (.int r154), .val (.int r155), .val (.int n2), .val (.int r156), .val (.int r157), .val (.int kk), .val (.int nu), .val (.int r158), .val (.int r159), .val (.int ((j3 &&& (2147483647 : Int32)) % (3 : Int32))), .val (.ref w_ONE_TO_MANY), .val (.ref b215), .val (.ref b238), .val (.int (0 : Int32)), .unset] [(.int (0 : Int32))]))
                refine GlH.back (fun _ k => XS.ifNo X260.here hx rfl (hb hby at_217) rfl ((if0 _ _).trans (teq (by decide : (0 : Int32) = (0 : Int32))).2) k) ?_
                show GlH Z consts_1 _ _ _ _ _ _ _ (T260.setTop (mkF m 220 #[.val (.int j0), .val (.int j1), .val (.int j2), .val (.int j3), .val (.int n1), .val (.int r154), .val (.int r155), .val (.int n2), .val (.int r156), .val (.int r157), .val (.int kk), .val (.int nu), .val (.int r158), .val (.int r159), .val (.int ((j3 &&& (2147483647 : Int32)) % (3 : Int32))), .val (.ref w_ONE_TO_MANY), .val (.ref b215), .val (.ref b238), .val (.int (0 : Int32)), .unset] []))
                refine GlH.back (fun _ k => XS.iload X260.here hx rfl (hb hby at_220) rfl k) ?_
                show GlH Z consts_1 _ _ _ _ _ _ _ (T260.setTop (mkF m 222 #[.val (.int j0), .val (.int j1), .val (.int j2), .val (.int j3), .val (.int n1), .val (.int r154), .val (.int r155), .val (.int n2), .val (.int r156), .val (.int r157), .val (.int kk), .val (.int nu), .val (.int r158), .val (.int r159), .val (.int ((j3 &&& (2147483647 : Int32)) % (3 : Int32))), .val (.ref w_ONE_TO_MANY), .val (.ref b215), .val (.ref b238), .val (.int (0 : Int32)), .unset] [(.int n2)]))
                refine GlH.back (fun _ k => XS.iload X260.here hx rfl (hb hby at_222) rfl k) ?_
                show GlH Z consts_1 _ _ _ _ _ _ _ (T260.setTop (mkF m 224 #[.val (.int j0), .val (.int j1), .val (.int j2), .val (.int j3), .val (.int n1), .val (.int r154), .val (.int r155), .val (.int n2), .val (.int r156), .val (.int r157), .val (.int kk), .val (.int nu), .val (.int r158), .val (.int r159), .val (.int ((j3 &&& (2147483647 : Int32)) % (3 : Int32))), .val (.ref w_ONE_TO_MANY), .val (.ref b215), .val (.ref b238), .val (.int (0 : Int32)), .unset] [(.int r156), (.int n2)]))
                refine GlH.back (fun _ k => XS.iload X260.here hx rfl (hb hby at_224) rfl k) ?_
                show GlH Z consts_1 _ _ _ _ _ _ _ (T260.setTop (mkF m 226 #[.val (.int j0), .val (.int j1), .val (.int j2), .val (.int j3), .val (.int n1), .val (.int r154), .val (.int r155), .val (.int n2), .val (.int r156), .val (.int r157), .val (.int kk), .val (.int nu), .val (.int r158), .val (.int r159), .val (.int ((j3 &&& (2147483647 : Int32)) % (3 : Int32))), .val (.ref w_ONE_TO_MANY), .val (.ref b215), .val (.ref b238), .val (.int (0 : Int32)), .unset] [(.int r157), (.int r156), (.int n2)]))
                refine GlH.back (fun _ k => XS.iload X260.here hx rfl (hb hby at_226) rfl k) ?_
                show GlH Z consts_1 _ _ _ _ _ _ _ (T260.setTop (mkF m 228 #[.val (.int j0), .val (.int j1), .val (.int j2), .val (.int j3), .val (.int n1), .val (.int r154), .val (.int r155), .val (.int n2), .val (.int r156), .val (.int r157), .val (.int kk), .val (.int nu), .val (.int r158), .val (.int r159), .val (.int ((j3 &&& (2147483647 : Int32)) % (3 : Int32))), .val (.ref w_ONE_TO_MANY), .val (.ref b215), .val (.ref b238), .val (.int (0 : Int32)), .unset] [(.int kk), (.int r157), (.int r156), (.int n2)]))
                refine GlH.back (fun _ k => XS.iload X260.here hx rfl (hb hby at_228) rfl k) ?_
                show GlH Z consts_1 _ _ _ _ _ _ _ (T260.setTop (mkF m 230 #[.val (.int j0), .val (.int j1), .val (.int j2), .val (.int j3), .val (.int n1), .val (.int r154), .val (.int r155), .val (.int n2), .val (.int r156), .val (.int r157), .val (.int kk), .val (.int nu), .val (.int r158), .val (.int r159), .val (.int ((j3 &&& (2147483647 : Int32)) % (3 : Int32))), .val (.ref w_ONE_TO_MANY), .val (.ref b215), .val (.ref b238), .val (.int (0 : Int32)), .unset] [(.int r158), (.int kk), (.int r157), (.int r156), (.int n2)]))
                refine GlH.back (fun _ k => XS.iload X260.here hx rfl (hb hby at_230) rfl k) ?_
                show GlH Z consts_1 _ _ _ _ _ _ _ (T260.setTop (mkF m 232 #[.val (.int j0), .val (.int j1), .val (.int j2), .val (.int j3), .val (.int n1), .val (.int r154), .val (.int r155), .val (.int n2), .val (.int r156), .val (.int r157), .val (.int kk), .val (.int nu), .val (.int r158), .val (.int r159), .val (.int ((j3 &&& (2147483647 : Int32)) % (3 : Int32))), .val (.ref w_ONE_TO_MANY), .val (.ref b215), .val (.ref b238), .val (.int (0 : Int32)), .unset] [(.int r159), (.int r158), (.int kk), (.int r157), (.int r156), (.int n2)]))
                obtain ⟨_, _, ⟨T261, L261, k261, n261⟩, -, X261, ⟨Lc261, hQ261, l261, y261, z261⟩, st261⟩ := Jvm.LawKit.callS X260 hx (y := (⟨"com/example/partition_planner/partitionplanner/RelationshipRelatesPinLaw", "same", "(ICCICC)Z"⟩ : MethodName)) hown238 (mvT hZ238 (hw _ (List.mem_of_getElem? (i := 132) rfl))) (mvT hZ238 (hw _ (List.mem_of_getElem? (i := 133) rfl))) (mvT hZ238 (hw _ (List.mem_of_getElem? (i := 2) rfl))) (mvT hZ238 (hw _ (List.mem_of_getElem? (i := 134) rfl))) (by decide) (backOf (W := 0) (rmsm l Z a0 hw [] n2 r156 r157 kk r158 r159  T238.heap n0 Zc238 (own_n3 hn2) hkk) hZ238 (hw _ (List.mem_of_getElem? (i := 134) rfl)) (hw _ (List.mem_of_getElem? (i := 2) rfl)) (by decide) (by decide)) (g := (mkF m 232 #[.val (.int j0), .val (.int j1), .val (.int j2), .val (.int j3), .val (.int n1), .val (.int r154), .val (.int r155), .val (.int n2), .val (.int r156), .val (.int r157), .val (.int kk), .val (.int nu), .val (.int r158), .val (.int r159), .val (.int ((j3 &&& (2147483647 : Int32)) % (3 : Int32))), .val (.ref w_ONE_TO_MANY), .val (.ref b215), .val (.ref b238), .val (.int (0 : Int32)), .unset] [(.int r159), (.int r158), (.int kk), (.int r157), (.int r156), (.int n2)])) rfl (by rw [hml]; rfl) (argsL := [(.int n2), (.int r156), (.int r157), (.int kk), (.int r158), (.int r159)]) (rest := []) (lenOf pd__ICCICC_Z rfl) rfl (by show 2 * 0 + _ ≤ _; exact Nat.le_of_eq rfl) (hb hby at_232) (fun _ _ => ⟨rfl, eh260, (by decide : 23 + 0 ≤ _), (by decide : 156 + 0 ≤ _)⟩)
                dsimp only [Pt.U, Pt.locs, Pt.cells, Pt.slots] at X261 l261 y261 z261 st261 hQ261
                replace l261 := Eq.symm l261
                replace y261 := Eq.symm y261
                replace z261 := Eq.symm z261
                subst l261 y261 z261
                obtain ⟨Nq261, hQ261⟩ := hQ261
                rcases hQ261 with ⟨rfl, eh261, hs261⟩ | ⟨rfl, eh261, hs261⟩
                · have N261 := Fr.app N260 Nq261
                  refine GlH.back (fun _ k => st261 _ k) ?_
                  show GlH Z consts_1 _ _ _ _ _ _ _ (T261.setTop (mkF m 235 #[.val (.int j0), .val (.int j1), .val (.int j2), .val (.int j3), .val (.int n1), .val (.int r154), .val (.int r155), .val (.int n2), .val (.int r156), .val (.int r157), .val (.int kk), .val (.int nu), .val (.int r158), .val (.int r159), .val (.int ((j3 &&& (2147483647 : Int32)) % (3 : Int32))), .val (.ref w_ONE_TO_MANY), .val (.ref b215), .val (.ref b238), .val (.int (0 : Int32)), .unset] [(.int (1 : Int32))]))
                  refine GlH.back (fun _ k => XS.ifNo X261.here hx rfl (hb hby at_235) rfl ((if0 _ _).trans (feq (by decide : ¬ (1 : Int32) = (0 : Int32))).1) k) ?_
                  show GlH Z consts_1 _ _ _ _ _ _ _ (T261.setTop (mkF m 238 #[.val (.int j0), .val (.int j1), .val (.int j2), .val (.int j3), .val (.int n1), .val (.int r154), .val (.int r155), .val (.int n2), .val (.int r156), .val (.int r157), .val (.int kk), .val (.int nu), .val (.int r158), .val (.int r159), .val (.int ((j3 &&& (2147483647 : Int32)) % (3 : Int32))), .val (.ref w_ONE_TO_MANY), .val (.ref b215), .val (.ref b238), .val (.int (0 : Int32)), .unset] []))
                  refine GlH.back (fun _ k => XS.iconst X261.here hx rfl (hb hby at_238) k) ?_
                  show GlH Z consts_1 _ _ _ _ _ _ _ (T261.setTop (mkF m 239 #[.val (.int j0), .val (.int j1), .val (.int j2), .val (.int j3), .val (.int n1), .val (.int r154), .val (.int r155), .val (.int n2), .val (.int r156), .val (.int r157), .val (.int kk), .val (.int nu), .val (.int r158), .val (.int r159), .val (.int ((j3 &&& (2147483647 : Int32)) % (3 : Int32))), .val (.ref w_ONE_TO_MANY), .val (.ref b215), .val (.ref b238), .val (.int (0 : Int32)), .unset] [(.int (1 : Int32))]))
                  refine GlH.back (fun _ k => XS.goto X261.here hx rfl (pc0 := 239) (pc' := 243) rfl (hb hby at_239) (by decide) (by decide) k) ?_
                  show GlH Z consts_1 _ _ _ _ _ _ _ (T261.setTop (mkF m 243 #[.val (.int j0), .val (.int j1), .val (.int j2), .val (.int j3), .val (.int n1), .val (.int r154), .val (.int r155), .val (.int n2), .val (.int r156), .val (.int r157), .val (.int kk), .val (.int nu), .val (.int r158), .val (.int r159), .val (.int ((j3 &&& (2147483647 : Int32)) % (3 : Int32))), .val (.ref w_ONE_TO_MANY), .val (.ref b215), .val (.ref b238), .val (.int (0 : Int32)), .unset] [(.int (1 : Int32))]))
                  refine GlH.back (fun _ k => XS.istore X261.here hx rfl (hb hby at_243) rfl (l' := #[.val (.int j0), .val (.int j1), .val (.int j2), .val (.int j3), .val (.int n1), .val (.int r154), .val (.int r155), .val (.int n2), .val (.int r156), .val (.int r157), .val (.int kk), .val (.int nu), .val (.int r158), .val (.int r159), .val (.int ((j3 &&& (2147483647 : Int32)) % (3 : Int32))), .val (.ref w_ONE_TO_MANY), .val (.ref b215), .val (.ref b238), .val (.int (0 : Int32)), .val (.int (1 : Int32))]) rfl k) ?_
                  show GlH Z consts_1 _ _ _ _ _ _ _ (T261.setTop (mkF m 245 #[.val (.int j0), .val (.int j1), .val (.int j2), .val (.int j3), .val (.int n1), .val (.int r154), .val (.int r155), .val (.int n2), .val (.int r156), .val (.int r157), .val (.int kk), .val (.int nu), .val (.int r158), .val (.int r159), .val (.int ((j3 &&& (2147483647 : Int32)) % (3 : Int32))), .val (.ref w_ONE_TO_MANY), .val (.ref b215), .val (.ref b238), .val (.int (0 : Int32)), .val (.int (1 : Int32))] []))
                  refine GlH.back (fun _ k => XS.iload X261.here hx rfl (hb hby at_245) rfl k) ?_
                  show GlH Z consts_1 _ _ _ _ _ _ _ (T261.setTop (mkF m 247 #[.val (.int j0), .val (.int j1), .val (.int j2), .val (.int j3), .val (.int n1), .val (.int r154), .val (.int r155), .val (.int n2), .val (.int r156), .val (.int r157), .val (.int kk), .val (.int nu), .val (.int r158), .val (.int r159), .val (.int ((j3 &&& (2147483647 : Int32)) % (3 : Int32))), .val (.ref w_ONE_TO_MANY), .val (.ref b215), .val (.ref b238), .val (.int (0 : Int32)), .val (.int (1 : Int32))] [(.int (0 : Int32))]))
                  refine GlH.back (fun _ k => XS.iload X261.here hx rfl (hb hby at_247) rfl k) ?_
                  show GlH Z consts_1 _ _ _ _ _ _ _ (T261.setTop (mkF m 249 #[.val (.int j0), .val (.int j1), .val (.int j2), .val (.int j3), .val (.int n1), .val (.int r154), .val (.int r155), .val (.int n2), .val (.int r156), .val (.int r157), .val (.int kk), .val (.int nu), .val (.int r158), .val (.int r159), .val (.int ((j3 &&& (2147483647 : Int32)) % (3 : Int32))), .val (.ref w_ONE_TO_MANY), .val (.ref b215), .val (.ref b238), .val (.int (0 : Int32)), .val (.int (1 : Int32))] [(.int (1 : Int32)), (.int (0 : Int32))]))
                  exact (hz246 hs261).elim
                · have N261 := Fr.app N260 Nq261
                  refine GlH.back (fun _ k => st261 _ k) ?_
                  show GlH Z consts_1 _ _ _ _ _ _ _ (T261.setTop (mkF m 235 #[.val (.int j0), .val (.int j1), .val (.int j2), .val (.int j3), .val (.int n1), .val (.int r154), .val (.int r155), .val (.int n2), .val (.int r156), .val (.int r157), .val (.int kk), .val (.int nu), .val (.int r158), .val (.int r159), .val (.int ((j3 &&& (2147483647 : Int32)) % (3 : Int32))), .val (.ref w_ONE_TO_MANY), .val (.ref b215), .val (.ref b238), .val (.int (0 : Int32)), .unset] [(.int (0 : Int32))]))
                  refine GlH.back (fun _ k => XS.ifYes X261.here hx rfl (pc0 := 235) (pc' := 242) rfl (hb hby at_235) rfl ((if0 _ _).trans (teq (by decide : (0 : Int32) = (0 : Int32))).1) (by decide) (by decide) k) ?_
                  show GlH Z consts_1 _ _ _ _ _ _ _ (T261.setTop (mkF m 242 #[.val (.int j0), .val (.int j1), .val (.int j2), .val (.int j3), .val (.int n1), .val (.int r154), .val (.int r155), .val (.int n2), .val (.int r156), .val (.int r157), .val (.int kk), .val (.int nu), .val (.int r158), .val (.int r159), .val (.int ((j3 &&& (2147483647 : Int32)) % (3 : Int32))), .val (.ref w_ONE_TO_MANY), .val (.ref b215), .val (.ref b238), .val (.int (0 : Int32)), .unset] []))
                  refine GlH.back (fun _ k => XS.iconst X261.here hx rfl (hb hby at_242) k) ?_
                  show GlH Z consts_1 _ _ _ _ _ _ _ (T261.setTop (mkF m 243 #[.val (.int j0), .val (.int j1), .val (.int j2), .val (.int j3), .val (.int n1), .val (.int r154), .val (.int r155), .val (.int n2), .val (.int r156), .val (.int r157), .val (.int kk), .val (.int nu), .val (.int r158), .val (.int r159), .val (.int ((j3 &&& (2147483647 : Int32)) % (3 : Int32))), .val (.ref w_ONE_TO_MANY), .val (.ref b215), .val (.ref b238), .val (.int (0 : Int32)), .unset] [(.int (0 : Int32))]))
                  refine GlH.back (fun _ k => XS.istore X261.here hx rfl (hb hby at_243) rfl (l' := #[.val (.int j0), .val (.int j1), .val (.int j2), .val (.int j3), .val (.int n1), .val (.int r154), .val (.int r155), .val (.int n2), .val (.int r156), .val (.int r157), .val (.int kk), .val (.int nu), .val (.int r158), .val (.int r159), .val (.int ((j3 &&& (2147483647 : Int32)) % (3 : Int32))), .val (.ref w_ONE_TO_MANY), .val (.ref b215), .val (.ref b238), .val (.int (0 : Int32)), .val (.int (0 : Int32))]) rfl k) ?_
                  show GlH Z consts_1 _ _ _ _ _ _ _ (T261.setTop (mkF m 245 #[.val (.int j0), .val (.int j1), .val (.int j2), .val (.int j3), .val (.int n1), .val (.int r154), .val (.int r155), .val (.int n2), .val (.int r156), .val (.int r157), .val (.int kk), .val (.int nu), .val (.int r158), .val (.int r159), .val (.int ((j3 &&& (2147483647 : Int32)) % (3 : Int32))), .val (.ref w_ONE_TO_MANY), .val (.ref b215), .val (.ref b238), .val (.int (0 : Int32)), .val (.int (0 : Int32))] []))
                  refine GlH.back (fun _ k => XS.iload X261.here hx rfl (hb hby at_245) rfl k) ?_
                  show GlH Z consts_1 _ _ _ _ _ _ _ (T261.setTop (mkF m 247 #[.val (.int j0), .val (.int j1), .val (.int j2), .val (.int j3), .val (.int n1), .val (.int r154), .val (.int r155), .val (.int n2), .val (.int r156), .val (.int r157), .val (.int kk), .val (.int nu), .val (.int r158), .val (.int r159), .val (.int ((j3 &&& (2147483647 : Int32)) % (3 : Int32))), .val (.ref w_ONE_TO_MANY), .val (.ref b215), .val (.ref b238), .val (.int (0 : Int32)), .val (.int (0 : Int32))] [(.int (0 : Int32))]))
                  refine GlH.back (fun _ k => XS.iload X261.here hx rfl (hb hby at_247) rfl k) ?_
                  show GlH Z consts_1 _ _ _ _ _ _ _ (T261.setTop (mkF m 249 #[.val (.int j0), .val (.int j1), .val (.int j2), .val (.int j3), .val (.int n1), .val (.int r154), .val (.int r155), .val (.int n2), .val (.int r156), .val (.int r157), .val (.int kk), .val (.int nu), .val (.int r158), .val (.int r159), .val (.int ((j3 &&& (2147483647 : Int32)) % (3 : Int32))), .val (.ref w_ONE_TO_MANY), .val (.ref b215), .val (.ref b238), .val (.int (0 : Int32)), .val (.int (0 : Int32))] [(.int (0 : Int32)), (.int (0 : Int32))]))
                  refine GlH.back (fun _ k => XS.icmpNo X261.here hx rfl (hb hby at_249) rfl (teq (by decide : (0 : Int32) = (0 : Int32))).2 k) ?_
                  show GlH Z consts_1 _ _ _ _ _ _ _ (T261.setTop (mkF m 252 #[.val (.int j0), .val (.int j1), .val (.int j2), .val (.int j3), .val (.int n1), .val (.int r154), .val (.int r155), .val (.int n2), .val (.int r156), .val (.int r157), .val (.int kk), .val (.int nu), .val (.int r158), .val (.int r159), .val (.int ((j3 &&& (2147483647 : Int32)) % (3 : Int32))), .val (.ref w_ONE_TO_MANY), .val (.ref b215), .val (.ref b238), .val (.int (0 : Int32)), .val (.int (0 : Int32))] []))
                  refine GlH.back (fun _ k => XS.iconst X261.here hx rfl (hb hby at_252) k) ?_
                  show GlH Z consts_1 _ _ _ _ _ _ _ (T261.setTop (mkF m 253 #[.val (.int j0), .val (.int j1), .val (.int j2), .val (.int j3), .val (.int n1), .val (.int r154), .val (.int r155), .val (.int n2), .val (.int r156), .val (.int r157), .val (.int kk), .val (.int nu), .val (.int r158), .val (.int r159), .val (.int ((j3 &&& (2147483647 : Int32)) % (3 : Int32))), .val (.ref w_ONE_TO_MANY), .val (.ref b215), .val (.ref b238), .val (.int (0 : Int32)), .val (.int (0 : Int32))] [(.int (1 : Int32))]))
                  refine GlH.back (fun _ k => XS.goto X261.here hx rfl (pc0 := 253) (pc' := 257) rfl (hb hby at_253) (by decide) (by decide) k) ?_
                  show GlH Z consts_1 _ _ _ _ _ _ _ (T261.setTop (mkF m 257 #[.val (.int j0), .val (.int j1), .val (.int j2), .val (.int j3), .val (.int n1), .val (.int r154), .val (.int r155), .val (.int n2), .val (.int r156), .val (.int r157), .val (.int kk), .val (.int nu), .val (.int r158), .val (.int r159), .val (.int ((j3 &&& (2147483647 : Int32)) % (3 : Int32))), .val (.ref w_ONE_TO_MANY), .val (.ref b215), .val (.ref b238), .val (.int (0 : Int32)), .val (.int (0 : Int32))] [(.int (1 : Int32))]))
                  exact GlH.ret X261 eh261 hS238 (Nat.le_refl _) hh hZ238 hEL CHr238 (v := (some (.int (1 : Int32)))) (fun h => by rw [Bd.returns] at h; cases h) Bd.notSynchronized (fun fs hr => retN X261 hx (t := .boolean) (z := (1 : Int32)) Bd.returns (by simp) (hb hby at_257) hr) ⟨N261, rfl⟩ (by decide) (by decide)
          · refine GlH.back (fun _ k => XS.ifNo X223.here hx rfl (hb hby at_170) rfl ((if0 _ _).trans (feq hc170_237).1) k) ?_
            show GlH Z consts_1 _ _ _ _ _ _ _ (T223.setTop (mkF m 173 #[.val (.int j0), .val (.int j1), .val (.int j2), .val (.int j3), .val (.int n1), .val (.int r154), .val (.int r155), .val (.int n2), .val (.int r156), .val (.int r157), .val (.int kk), .val (.int nu), .val (.int r158), .val (.int r159), .val (.int ((j3 &&& (2147483647 : Int32)) % (3 : Int32))), .val (.ref w_ONE_TO_MANY), .val (.ref b215), .unset, .unset, .unset] []))
            refine GlH.back (fun _ k => XS.aconstNull X223.here hx rfl (hb hby at_173) k) ?_
            show GlH Z consts_1 _ _ _ _ _ _ _ (T223.setTop (mkF m 174 #[.val (.int j0), .val (.int j1), .val (.int j2), .val (.int j3), .val (.int n1), .val (.int r154), .val (.int r155), .val (.int n2), .val (.int r156), .val (.int r157), .val (.int kk), .val (.int nu), .val (.int r158), .val (.int r159), .val (.int ((j3 &&& (2147483647 : Int32)) % (3 : Int32))), .val (.ref w_ONE_TO_MANY), .val (.ref b215), .unset, .unset, .unset] [.null]))
            refine GlH.back (fun _ k => XS.goto X223.here hx rfl (pc0 := 174) (pc' := 186) rfl (hb hby at_174) (by decide) (by decide) k) ?_
            show GlH Z consts_1 _ _ _ _ _ _ _ (T223.setTop (mkF m 186 #[.val (.int j0), .val (.int j1), .val (.int j2), .val (.int j3), .val (.int n1), .val (.int r154), .val (.int r155), .val (.int n2), .val (.int r156), .val (.int r157), .val (.int kk), .val (.int nu), .val (.int r158), .val (.int r159), .val (.int ((j3 &&& (2147483647 : Int32)) % (3 : Int32))), .val (.ref w_ONE_TO_MANY), .val (.ref b215), .unset, .unset, .unset] [.null]))
            refine GlH.back (fun _ k => XS.astore X223.here hx rfl (hb hby at_186) rfl rfl (l' := #[.val (.int j0), .val (.int j1), .val (.int j2), .val (.int j3), .val (.int n1), .val (.int r154), .val (.int r155), .val (.int n2), .val (.int r156), .val (.int r157), .val (.int kk), .val (.int nu), .val (.int r158), .val (.int r159), .val (.int ((j3 &&& (2147483647 : Int32)) % (3 : Int32))), .val (.ref w_ONE_TO_MANY), .val (.ref b215), .val .null, .unset, .unset]) rfl k) ?_
            show GlH Z consts_1 _ _ _ _ _ _ _ (T223.setTop (mkF m 188 #[.val (.int j0), .val (.int j1), .val (.int j2), .val (.int j3), .val (.int n1), .val (.int r154), .val (.int r155), .val (.int n2), .val (.int r156), .val (.int r157), .val (.int kk), .val (.int nu), .val (.int r158), .val (.int r159), .val (.int ((j3 &&& (2147483647 : Int32)) % (3 : Int32))), .val (.ref w_ONE_TO_MANY), .val (.ref b215), .val .null, .unset, .unset] []))
            refine GlH.back (fun _ k => XS.aload X223.here hx rfl (hb hby at_188) rfl rfl k) ?_
            show GlH Z consts_1 _ _ _ _ _ _ _ (T223.setTop (mkF m 190 #[.val (.int j0), .val (.int j1), .val (.int j2), .val (.int j3), .val (.int n1), .val (.int r154), .val (.int r155), .val (.int n2), .val (.int r156), .val (.int r157), .val (.int kk), .val (.int nu), .val (.int r158), .val (.int r159), .val (.int ((j3 &&& (2147483647 : Int32)) % (3 : Int32))), .val (.ref w_ONE_TO_MANY), .val (.ref b215), .val .null, .unset, .unset] [(.ref b215)]))
            refine GlH.back (fun _ k => XS.aload X223.here hx rfl (hb hby at_190) rfl rfl k) ?_
            show GlH Z consts_1 _ _ _ _ _ _ _ (T223.setTop (mkF m 192 #[.val (.int j0), .val (.int j1), .val (.int j2), .val (.int j3), .val (.int n1), .val (.int r154), .val (.int r155), .val (.int n2), .val (.int r156), .val (.int r157), .val (.int kk), .val (.int nu), .val (.int r158), .val (.int r159), .val (.int ((j3 &&& (2147483647 : Int32)) % (3 : Int32))), .val (.ref w_ONE_TO_MANY), .val (.ref b215), .val .null, .unset, .unset] [.null, (.ref b215)]))
            have f263 := (f224.keep Kq223)
            have f264 := (f233.keep Kq223)
            have f265 := (Ex219.keep Kq223)
            obtain ⟨cq262, kq262, q262a, q262b, q262c⟩ := isOf hZ223 rfl f263
            obtain ⟨_, _, ⟨T262, L262, k262, n262⟩, -, X262, ⟨Lc262, hQ262, l262, y262, z262⟩, st262⟩ := X223.virtualBack hx (y := (⟨"com/example/partition_planner/partitionplanner/Relationship", "relates", "(Ljava/lang/String;)Z"⟩ : MethodName)) (z := (⟨"com/example/partition_planner/partitionplanner/Relationship", "relates", "(Ljava/lang/String;)Z"⟩ : MethodName)) hown223 (mvT hZ223 (hw _ (List.mem_of_getElem? (i := 117) rfl))) (mvT hZ223 (hw _ (List.mem_of_getElem? (i := 118) rfl))) (notFace_of_selects (args := #[]) (mvT hZ223 (hw _ (List.mem_of_getElem? (i := 120) rfl)))) (mvT hZ223 (hw _ (List.mem_of_getElem? (i := 120) rfl))) (mvT hZ223 (hw _ (List.mem_of_getElem? (i := 119) rfl))) (by decide) (backOf (W := 0) (rmrelN l Z a0 hw [] b215 b218 b219 T223.heap n0 Zc223 f263 Ff223 Fs223 f264 f265) hZ223 (hw _ (List.mem_of_getElem? (i := 121) rfl)) (hw _ (List.mem_of_getElem? (i := 10) rfl)) (by decide) (by decide)) q262a q262c (g := (mkF m 192 #[.val (.int j0), .val (.int j1), .val (.int j2), .val (.int j3), .val (.int n1), .val (.int r154), .val (.int r155), .val (.int n2), .val (.int r156), .val (.int r157), .val (.int kk), .val (.int nu), .val (.int r158), .val (.int r159), .val (.int ((j3 &&& (2147483647 : Int32)) % (3 : Int32))), .val (.ref w_ONE_TO_MANY), .val (.ref b215), .val .null, .unset, .unset] [.null, (.ref b215)])) rfl (by rw [hml]; rfl) (Steps.refl _) (argsL := [.null]) (rest := []) (lenOf pd__Ljava_lang_String__Z rfl) rfl (by show 2 * 0 + _ ≤ _; exact Nat.le_of_eq rfl) (hb hby at_192) (fun _ _ => ⟨rfl, rfl, (by decide : 19 + 0 ≤ _), (by decide : 148 + 0 ≤ _)⟩)
            dsimp only [Pt.U, Pt.locs, Pt.cells, Pt.slots] at X262 l262 y262 z262 st262 hQ262
            replace l262 := Eq.symm l262
            replace y262 := Eq.symm y262
            replace z262 := Eq.symm z262
            subst l262 y262 z262
            obtain ⟨Nq262, rfl, eh262⟩ := hQ262
            have N262 := Fr.app N223 Nq262
            refine GlH.back (fun _ k => st262.trans k) ?_
            show GlH Z consts_1 _ _ _ _ _ _ _ (T262.setTop (mkF m 195 #[.val (.int j0), .val (.int j1), .val (.int j2), .val (.int j3), .val (.int n1), .val (.int r154), .val (.int r155), .val (.int n2), .val (.int r156), .val (.int r157), .val (.int kk), .val (.int nu), .val (.int r158), .val (.int r159), .val (.int ((j3 &&& (2147483647 : Int32)) % (3 : Int32))), .val (.ref w_ONE_TO_MANY), .val (.ref b215), .val .null, .unset, .unset] [(.int (0 : Int32))]))
            refine GlH.back (fun _ k => XS.istore X262.here hx rfl (hb hby at_195) rfl (l' := #[.val (.int j0), .val (.int j1), .val (.int j2), .val (.int j3), .val (.int n1), .val (.int r154), .val (.int r155), .val (.int n2), .val (.int r156), .val (.int r157), .val (.int kk), .val (.int nu), .val (.int r158), .val (.int r159), .val (.int ((j3 &&& (2147483647 : Int32)) % (3 : Int32))), .val (.ref w_ONE_TO_MANY), .val (.ref b215), .val .null, .val (.int (0 : Int32)), .unset]) rfl k) ?_
            show GlH Z consts_1 _ _ _ _ _ _ _ (T262.setTop (mkF m 197 #[.val (.int j0), .val (.int j1), .val (.int j2), .val (.int j3), .val (.int n1), .val (.int r154), .val (.int r155), .val (.int n2), .val (.int r156), .val (.int r157), .val (.int kk), .val (.int nu), .val (.int r158), .val (.int r159), .val (.int ((j3 &&& (2147483647 : Int32)) % (3 : Int32))), .val (.ref w_ONE_TO_MANY), .val (.ref b215), .val .null, .val (.int (0 : Int32)), .unset] []))
            refine GlH.back (fun _ k => XS.iload X262.here hx rfl (hb hby at_197) rfl k) ?_
            show GlH Z consts_1 _ _ _ _ _ _ _ (T262.setTop (mkF m 199 #[.val (.int j0), .val (.int j1), .val (.int j2), .val (.int j3), .val (.int n1), .val (.int r154), .val (.int r155), .val (.int n2), .val (.int r156), .val (.int r157), .val (.int kk), .val (.int nu), .val (.int r158), .val (.int r159), .val (.int ((j3 &&& (2147483647 : Int32)) % (3 : Int32))), .val (.ref w_ONE_TO_MANY), .val (.ref b215), .val .null, .val (.int (0 : Int32)), .unset] [(.int nu)]))
            refine GlH.back (fun _ k => XS.ifYes X262.here hx rfl (pc0 := 199) (pc' := 242) rfl (hb hby at_199) rfl ((if0 _ _).trans (feq (hc170_237 : ¬ nu = (0 : Int32))).2) (by decide) (by decide) k) ?_
            show GlH Z consts_1 _ _ _ _ _ _ _ (T262.setTop (mkF m 242 #[.val (.int j0), .val (.int j1), .val (.int j2), .val (.int j3), .val (.int n1), .val (.int r154), .val (.int r155), .val (.int n2), .val (.int r156), .val (.int r157), .val (.int kk), .val (.int nu), .val (.int r158), .val (.int r159), .val (.int ((j3 &&& (2147483647 : Int32)) % (3 : Int32))), .val (.ref w_ONE_TO_MANY), .val (.ref b215), .val .null, .val (.int (0 : Int32)), .unset] []))
            refine GlH.back (fun _ k => XS.iconst X262.here hx rfl (hb hby at_242) k) ?_
            show GlH Z consts_1 _ _ _ _ _ _ _ (T262.setTop (mkF m 243 #[.val (.int j0), .val (.int j1), .val (.int j2), .val (.int j3), .val (.int n1), .val (.int r154), .val (.int r155), .val (.int n2), .val (.int r156), .val (.int r157), .val (.int kk), .val (.int nu), .val (.int r158), .val (.int r159), .val (.int ((j3 &&& (2147483647 : Int32)) % (3 : Int32))), .val (.ref w_ONE_TO_MANY), .val (.ref b215), .val .null, .val (.int (0 : Int32)), .unset] [(.int (0 : Int32))]))
            refine GlH.back (fun _ k => XS.istore X262.here hx rfl (hb hby at_243) rfl (l' := #[.val (.int j0), .val (.int j1), .val (.int j2), .val (.int j3), .val (.int n1), .val (.int r154), .val (.int r155), .val (.int n2), .val (.int r156), .val (.int r157), .val (.int kk), .val (.int nu), .val (.int r158), .val (.int r159), .val (.int ((j3 &&& (2147483647 : Int32)) % (3 : Int32))), .val (.ref w_ONE_TO_MANY), .val (.ref b215), .val .null, .val (.int (0 : Int32)), .val (.int (0 : Int32))]) rfl k) ?_
            show GlH Z consts_1 _ _ _ _ _ _ _ (T262.setTop (mkF m 245 #[.val (.int j0), .val (.int j1), .val (.int j2), .val (.int j3), .val (.int n1), .val (.int r154), .val (.int r155), .val (.int n2), .val (.int r156), .val (.int r157), .val (.int kk), .val (.int nu), .val (.int r158), .val (.int r159), .val (.int ((j3 &&& (2147483647 : Int32)) % (3 : Int32))), .val (.ref w_ONE_TO_MANY), .val (.ref b215), .val .null, .val (.int (0 : Int32)), .val (.int (0 : Int32))] []))
            refine GlH.back (fun _ k => XS.iload X262.here hx rfl (hb hby at_245) rfl k) ?_
            show GlH Z consts_1 _ _ _ _ _ _ _ (T262.setTop (mkF m 247 #[.val (.int j0), .val (.int j1), .val (.int j2), .val (.int j3), .val (.int n1), .val (.int r154), .val (.int r155), .val (.int n2), .val (.int r156), .val (.int r157), .val (.int kk), .val (.int nu), .val (.int r158), .val (.int r159), .val (.int ((j3 &&& (2147483647 : Int32)) % (3 : Int32))), .val (.ref w_ONE_TO_MANY), .val (.ref b215), .val .null, .val (.int (0 : Int32)), .val (.int (0 : Int32))] [(.int (0 : Int32))]))
            refine GlH.back (fun _ k => XS.iload X262.here hx rfl (hb hby at_247) rfl k) ?_
            show GlH Z consts_1 _ _ _ _ _ _ _ (T262.setTop (mkF m 249 #[.val (.int j0), .val (.int j1), .val (.int j2), .val (.int j3), .val (.int n1), .val (.int r154), .val (.int r155), .val (.int n2), .val (.int r156), .val (.int r157), .val (.int kk), .val (.int nu), .val (.int r158), .val (.int r159), .val (.int ((j3 &&& (2147483647 : Int32)) % (3 : Int32))), .val (.ref w_ONE_TO_MANY), .val (.ref b215), .val .null, .val (.int (0 : Int32)), .val (.int (0 : Int32))] [(.int (0 : Int32)), (.int (0 : Int32))]))
            refine GlH.back (fun _ k => XS.icmpNo X262.here hx rfl (hb hby at_249) rfl (teq (by decide : (0 : Int32) = (0 : Int32))).2 k) ?_
            show GlH Z consts_1 _ _ _ _ _ _ _ (T262.setTop (mkF m 252 #[.val (.int j0), .val (.int j1), .val (.int j2), .val (.int j3), .val (.int n1), .val (.int r154), .val (.int r155), .val (.int n2), .val (.int r156), .val (.int r157), .val (.int kk), .val (.int nu), .val (.int r158), .val (.int r159), .val (.int ((j3 &&& (2147483647 : Int32)) % (3 : Int32))), .val (.ref w_ONE_TO_MANY), .val (.ref b215), .val .null, .val (.int (0 : Int32)), .val (.int (0 : Int32))] []))
            refine GlH.back (fun _ k => XS.iconst X262.here hx rfl (hb hby at_252) k) ?_
            show GlH Z consts_1 _ _ _ _ _ _ _ (T262.setTop (mkF m 253 #[.val (.int j0), .val (.int j1), .val (.int j2), .val (.int j3), .val (.int n1), .val (.int r154), .val (.int r155), .val (.int n2), .val (.int r156), .val (.int r157), .val (.int kk), .val (.int nu), .val (.int r158), .val (.int r159), .val (.int ((j3 &&& (2147483647 : Int32)) % (3 : Int32))), .val (.ref w_ONE_TO_MANY), .val (.ref b215), .val .null, .val (.int (0 : Int32)), .val (.int (0 : Int32))] [(.int (1 : Int32))]))
            refine GlH.back (fun _ k => XS.goto X262.here hx rfl (pc0 := 253) (pc' := 257) rfl (hb hby at_253) (by decide) (by decide) k) ?_
            show GlH Z consts_1 _ _ _ _ _ _ _ (T262.setTop (mkF m 257 #[.val (.int j0), .val (.int j1), .val (.int j2), .val (.int j3), .val (.int n1), .val (.int r154), .val (.int r155), .val (.int n2), .val (.int r156), .val (.int r157), .val (.int kk), .val (.int nu), .val (.int r158), .val (.int r159), .val (.int ((j3 &&& (2147483647 : Int32)) % (3 : Int32))), .val (.ref w_ONE_TO_MANY), .val (.ref b215), .val .null, .val (.int (0 : Int32)), .val (.int (0 : Int32))] [(.int (1 : Int32))]))
            exact GlH.ret X262 eh262 hS223 (Nat.le_refl _) hh hZ223 hEL CHr223 (v := (some (.int (1 : Int32)))) (fun h => by rw [Bd.returns] at h; cases h) Bd.notSynchronized (fun fs hr => retN X262 hx (t := .boolean) (z := (1 : Int32)) Bd.returns (by simp) (hb hby at_257) hr) ⟨N262, rfl⟩ (by decide) (by decide)
        · refine GlH.back (fun _ k => XS.icmpYes X159.here hx rfl (pc0 := 121) (pc' := 132) rfl (hb hby at_121) rfl (feq hc121_213).2 (by decide) (by decide) k) ?_
          show GlH Z consts_1 _ _ _ _ _ _ _ (T159.setTop (mkF m 132 #[.val (.int j0), .val (.int j1), .val (.int j2), .val (.int j3), .val (.int n1), .val (.int r154), .val (.int r155), .val (.int n2), .val (.int r156), .val (.int r157), .val (.int kk), .val (.int nu), .val (.int r158), .val (.int r159), .val (.int ((j3 &&& (2147483647 : Int32)) % (3 : Int32))), .unset, .unset, .unset, .unset, .unset] []))
          obtain ⟨T266, X266, e266, st266⟩ := getS2 X159 hx hZ0 hown0 (host := "") (Or.inl (hw _ (List.mem_of_getElem? (i := 135) rfl))) Via.refl eh159 (S_MANY_TO_MANY.ext O0.2) (g := (mkF m 132 #[.val (.int j0), .val (.int j1), .val (.int j2), .val (.int j3), .val (.int n1), .val (.int r154), .val (.int r155), .val (.int n2), .val (.int r156), .val (.int r157), .val (.int kk), .val (.int nu), .val (.int r158), .val (.int r159), .val (.int ((j3 &&& (2147483647 : Int32)) % (3 : Int32))), .unset, .unset, .unset, .unset, .unset] [])) rfl (hb hby at_132)
          refine GlH.back (fun _ k => st266 _ k) ?_
          show GlH Z consts_1 _ _ _ _ _ _ _ (T266.setTop (mkF m 135 #[.val (.int j0), .val (.int j1), .val (.int j2), .val (.int j3), .val (.int n1), .val (.int r154), .val (.int r155), .val (.int n2), .val (.int r156), .val (.int r157), .val (.int kk), .val (.int nu), .val (.int r158), .val (.int r159), .val (.int ((j3 &&& (2147483647 : Int32)) % (3 : Int32))), .unset, .unset, .unset, .unset, .unset] [(.ref w_MANY_TO_MANY)]))
          refine GlH.back (fun _ k => XS.astore X266.here hx rfl (hb hby at_135) rfl rfl (l' := #[.val (.int j0), .val (.int j1), .val (.int j2), .val (.int j3), .val (.int n1), .val (.int r154), .val (.int r155), .val (.int n2), .val (.int r156), .val (.int r157), .val (.int kk), .val (.int nu), .val (.int r158), .val (.int r159), .val (.int ((j3 &&& (2147483647 : Int32)) % (3 : Int32))), .val (.ref w_MANY_TO_MANY), .unset, .unset, .unset, .unset]) rfl k) ?_
          show GlH Z consts_1 _ _ _ _ _ _ _ (T266.setTop (mkF m 137 #[.val (.int j0), .val (.int j1), .val (.int j2), .val (.int j3), .val (.int n1), .val (.int r154), .val (.int r155), .val (.int n2), .val (.int r156), .val (.int r157), .val (.int kk), .val (.int nu), .val (.int r158), .val (.int r159), .val (.int ((j3 &&& (2147483647 : Int32)) % (3 : Int32))), .val (.ref w_MANY_TO_MANY), .unset, .unset, .unset, .unset] []))
          obtain ⟨T267, h267, X267, e267, E267, A267, D267, -, st267⟩ := newO X266 hx hZ0 hown0 (hw _ (List.mem_of_getElem? (i := 8) rfl)) (hw _ (List.mem_of_getElem? (i := 9) rfl)) (hw _ (List.mem_of_getElem? (i := 10) rfl)) e266 (g := (mkF m 137 #[.val (.int j0), .val (.int j1), .val (.int j2), .val (.int j3), .val (.int n1), .val (.int r154), .val (.int r155), .val (.int n2), .val (.int r156), .val (.int r157), .val (.int kk), .val (.int nu), .val (.int r158), .val (.int r159), .val (.int ((j3 &&& (2147483647 : Int32)) % (3 : Int32))), .val (.ref w_MANY_TO_MANY), .unset, .unset, .unset, .unset] [])) rfl (hb hby at_137) (by decide) (by decide)
          obtain ⟨b267, g267⟩ : ∃ z, z = h0.size := ⟨_, rfl⟩
          rw [← g267] at A267 D267 st267
          have g_b267 : n0 ≤ b267 := Nat.le_trans Z0 (Nat.le_of_eq g267.symm)
          have sz_b267 : h0.size ≤ b267 := Nat.le_trans (Keep.refl h0 []).1 (Nat.le_of_eq g267.symm)
          have Z267 : n0 ≤ h267.size := Nat.le_trans Z0 E267.1
          have K267 := Keep.ext (Keep.refl h0 []) E267
          have O267 := Old.ext O0 E267
          have SK267 := Nat.le_trans SK0 E267.1
          have CH267 := CHr.trans CH0 (CHr.ext E267 CH0.1)
          have F267_name : Fld Z h267 b267 "com/example/partition_planner/partitionplanner/Relationship" "name" "Ljava/lang/String;" .null := D267 (Or.inr (hw _ (List.mem_of_getElem? (i := 110) rfl))) (ty := (.object "java/lang/String")) (by decide)
          have F267_first : Fld Z h267 b267 "com/example/partition_planner/partitionplanner/Relationship" "first" "Ljava/lang/String;" .null := D267 (Or.inr (hw _ (List.mem_of_getElem? (i := 112) rfl))) (ty := (.object "java/lang/String")) (by decide)
          have F267_second : Fld Z h267 b267 "com/example/partition_planner/partitionplanner/Relationship" "second" "Ljava/lang/String;" .null := D267 (Or.inr (hw _ (List.mem_of_getElem? (i := 114) rfl))) (ty := (.object "java/lang/String")) (by decide)
          have F267_cardinality : Fld Z h267 b267 "com/example/partition_planner/partitionplanner/Relationship" "cardinality" "Lcom/example/partition_planner/partitionplanner/Cardinality;" .null := D267 (Or.inr (hw _ (List.mem_of_getElem? (i := 116) rfl))) (ty := (.object "com/example/partition_planner/partitionplanner/Cardinality")) (by decide)
          refine GlH.back (fun _ k => st267 _ k) ?_
          show GlH Z consts_1 _ _ _ _ _ _ _ (T267.setTop (mkF m 140 #[.val (.int j0), .val (.int j1), .val (.int j2), .val (.int j3), .val (.int n1), .val (.int r154), .val (.int r155), .val (.int n2), .val (.int r156), .val (.int r157), .val (.int kk), .val (.int nu), .val (.int r158), .val (.int r159), .val (.int ((j3 &&& (2147483647 : Int32)) % (3 : Int32))), .val (.ref w_MANY_TO_MANY), .unset, .unset, .unset, .unset] [(.ref b267)]))
          refine GlH.back (fun _ k => XS.dup X267.here hx rfl (hb hby at_140) rfl rfl k) ?_
          show GlH Z consts_1 _ _ _ _ _ _ _ (T267.setTop (mkF m 141 #[.val (.int j0), .val (.int j1), .val (.int j2), .val (.int j3), .val (.int n1), .val (.int r154), .val (.int r155), .val (.int n2), .val (.int r156), .val (.int r157), .val (.int kk), .val (.int nu), .val (.int r158), .val (.int r159), .val (.int ((j3 &&& (2147483647 : Int32)) % (3 : Int32))), .val (.ref w_MANY_TO_MANY), .unset, .unset, .unset, .unset] [(.ref b267), (.ref b267)]))
          have wS : ∀ d ∈ Bundle.stringAtoms, d.before a0 Z = true := fun d hd => hw d ((by decide +kernel : ∀ d ∈ Bundle.stringAtoms, d ∈ tables_1) d hd)
          obtain ⟨b268, T268, h268, k1268, t268, k0268, X268, e268, E268, hS268, SK268, hZ268, hown268, Ea268, Fc268, Fv268, Va268, lt268a, lt268b, CHq268, Lt268, hne268, st268⟩ := ldcCH X267 hx hZ0 hown0 (hw _ (List.mem_of_getElem? (i := 11) rfl)) wS e267 hS0 SK267 hEL (by decide +kernel) CH267.1 (vs := [(.int (114 : Int32))]) (z := (1 : Int32)) ⟨by decide +kernel, by decide +kernel⟩ (by decide) (by decide) (g := (mkF m 141 #[.val (.int j0), .val (.int j1), .val (.int j2), .val (.int j3), .val (.int n1), .val (.int r154), .val (.int r155), .val (.int n2), .val (.int r156), .val (.int r157), .val (.int kk), .val (.int nu), .val (.int r158), .val (.int r159), .val (.int ((j3 &&& (2147483647 : Int32)) % (3 : Int32))), .val (.ref w_MANY_TO_MANY), .unset, .unset, .unset, .unset] [(.ref b267), (.ref b267)])) rfl (hb hby at_141) (n := 4) (by decide +kernel) (by decide) (by decide) (by decide)
          have Z268 : n0 ≤ h268.size := Nat.le_trans Z267 E268.1
          have K268 := Keep.ext K267 E268
          have O268 := Old.ext O267 E268
          have CH268 := CHr.trans CH267 CHq268
          have f269 := (A267.ext E268)
          have ne_b267_b268 : b267 ≠ b268 := (hne268 _ (Safe.exa hZ268.alike f269 (by decide) (by decide))).1
          have ne_b267_t268 : b267 ≠ t268 := (hne268 _ (Safe.exa hZ268.alike f269 (by decide) (by decide))).2
          refine GlH.back (fun _ k => st268 _ k) ?_
          show GlH Z consts_1 _ _ _ _ _ _ _ (T268.setTop (mkF m 143 #[.val (.int j0), .val (.int j1), .val (.int j2), .val (.int j3), .val (.int n1), .val (.int r154), .val (.int r155), .val (.int n2), .val (.int r156), .val (.int r157), .val (.int kk), .val (.int nu), .val (.int r158), .val (.int r159), .val (.int ((j3 &&& (2147483647 : Int32)) % (3 : Int32))), .val (.ref w_MANY_TO_MANY), .unset, .unset, .unset, .unset] [(.ref b268), (.ref b267), (.ref b267)]))
          refine GlH.back (fun _ k => XS.iload X268.here hx rfl (hb hby at_143) rfl k) ?_
          show GlH Z consts_1 _ _ _ _ _ _ _ (T268.setTop (mkF m 145 #[.val (.int j0), .val (.int j1), .val (.int j2), .val (.int j3), .val (.int n1), .val (.int r154), .val (.int r155), .val (.int n2), .val (.int r156), .val (.int r157), .val (.int kk), .val (.int nu), .val (.int r158), .val (.int r159), .val (.int ((j3 &&& (2147483647 : Int32)) % (3 : Int32))), .val (.ref w_MANY_TO_MANY), .unset, .unset, .unset, .unset] [(.int n1), (.ref b268), (.ref b267), (.ref b267)]))
          refine GlH.back (fun _ k => XS.iload X268.here hx rfl (hb hby at_145) rfl k) ?_
          show GlH Z consts_1 _ _ _ _ _ _ _ (T268.setTop (mkF m 147 #[.val (.int j0), .val (.int j1), .val (.int j2), .val (.int j3), .val (.int n1), .val (.int r154), .val (.int r155), .val (.int n2), .val (.int r156), .val (.int r157), .val (.int kk), .val (.int nu), .val (.int r158), .val (.int r159), .val (.int ((j3 &&& (2147483647 : Int32)) % (3 : Int32))), .val (.ref w_MANY_TO_MANY), .unset, .unset, .unset, .unset] [(.int r154), (.int n1), (.ref b268), (.ref b267), (.ref b267)]))
          refine GlH.back (fun _ k => XS.iload X268.here hx rfl (hb hby at_147) rfl k) ?_
          show GlH Z consts_1 _ _ _ _ _ _ _ (T268.setTop (mkF m 149 #[.val (.int j0), .val (.int j1), .val (.int j2), .val (.int j3), .val (.int n1), .val (.int r154), .val (.int r155), .val (.int n2), .val (.int r156), .val (.int r157), .val (.int kk), .val (.int nu), .val (.int r158), .val (.int r159), .val (.int ((j3 &&& (2147483647 : Int32)) % (3 : Int32))), .val (.ref w_MANY_TO_MANY), .unset, .unset, .unset, .unset] [(.int r155), (.int r154), (.int n1), (.ref b268), (.ref b267), (.ref b267)]))
          obtain ⟨_, _, ⟨T270, L270, k270, n270⟩, -, X270, hS2270, hg2270, ⟨Lc270, hQ270, l270, y270, z270, hC270⟩, st270⟩ := callSS X268 hx (y := (⟨"com/example/partition_planner/partitionplanner/RelationshipRelatesPinLaw", "str", "(ICC)Ljava/lang/String;"⟩ : MethodName)) hown268 (mvT hZ268 (hw _ (List.mem_of_getElem? (i := 19) rfl))) (mvT hZ268 (hw _ (List.mem_of_getElem? (i := 20) rfl))) (mvT hZ268 (hw _ (List.mem_of_getElem? (i := 2) rfl))) (mvT hZ268 (hw _ (List.mem_of_getElem? (i := 21) rfl))) (by decide) (backOfSH (W := 3) (rmstr l Z a0 hw [] n1 r154 r155 zc h268 n0 Z268 O268 S_C P0 hr154 hr155) hZ268 (hw _ (List.mem_of_getElem? (i := 21) rfl)) (hw _ (List.mem_of_getElem? (i := 2) rfl)) (by decide) (by decide) hEL CH268.1) (g := (mkF m 149 #[.val (.int j0), .val (.int j1), .val (.int j2), .val (.int j3), .val (.int n1), .val (.int r154), .val (.int r155), .val (.int n2), .val (.int r156), .val (.int r157), .val (.int kk), .val (.int nu), .val (.int r158), .val (.int r159), .val (.int ((j3 &&& (2147483647 : Int32)) % (3 : Int32))), .val (.ref w_MANY_TO_MANY), .unset, .unset, .unset, .unset] [(.int r155), (.int r154), (.int n1), (.ref b268), (.ref b267), (.ref b267)])) rfl (by rw [hml]; rfl) (argsL := [(.int n1), (.int r154), (.int r155)]) (rest := [(.ref b268), (.ref b267), (.ref b267)]) (lenOf pd__ICC_Ljava_lang_String_ rfl) rfl (by show 2 * 0 + _ ≤ _; exact Nat.le_of_eq rfl) (hb hby at_149) (fun _ _ => ⟨rfl, e268, (by decide : 3 + 4 ≤ _), (by decide : 12 + 8 ≤ _)⟩)
          dsimp only [Pt.U, Pt.locs, Pt.cells, Pt.slots] at X270 l270 y270 z270 st270 hQ270 hS2270 hg2270 hC270
          replace l270 := Eq.symm l270
          replace y270 := Eq.symm y270
          replace z270 := Eq.symm z270
          subst l270 y270 z270
          obtain ⟨X270, hS270, hZ270, hown270⟩ := rebS hS268 (by rw [e268]; exact SK268) X270 hS2270 hg2270 hZ268 hown268
          have CHr270 := CHr.trans CH268 hC270
          obtain ⟨Nq270, b270, t270, k0270, M270, vs270, rfl, Kq270, Sx270, Gx270, Ex270, Fc270, Fv270, V270, cd270, hz270⟩ := hQ270
          obtain ⟨Sv270, hN270, hv270⟩ := hz270 (own_n0 hn1)
          have Gv270 : n0 ≤ t270 := Nat.le_trans Z268 Sv270
          have N270 := Fr.app N159 Nq270
          have Kc270 := Keep.trans K268 Kq270 all0
          have Zc270 : n0 ≤ T270.heap.size := Nat.le_trans Z268 Kq270.1
          have Oc270 := Old.keep O268 Kq270 all0
          have ne_b267_b270 : b267 ≠ b270 := Nat.ne_of_lt (Nat.lt_of_lt_of_le (f269).lt Sx270)
          have ne_b268_b270 : b268 ≠ b270 := Nat.ne_of_lt (Nat.lt_of_lt_of_le (Ea268).lt Sx270)
          have ne_t268_b270 : t268 ≠ b270 := Nat.ne_of_lt (Nat.lt_of_lt_of_le (Va268).lt Sx270)
          have sz_b270 : h0.size ≤ b270 := Nat.le_trans K268.1 Sx270
          have ne_b267_t270 : b267 ≠ t270 := Nat.ne_of_lt (Nat.lt_of_lt_of_le (f269).lt Sv270)
          have ne_b268_t270 : b268 ≠ t270 := Nat.ne_of_lt (Nat.lt_of_lt_of_le (Ea268).lt Sv270)
          have ne_t268_t270 : t268 ≠ t270 := Nat.ne_of_lt (Nat.lt_of_lt_of_le (Va268).lt Sv270)
          have sz_t270 : h0.size ≤ t270 := Nat.le_trans K268.1 Sv270
          refine GlH.back (fun _ k => st270.trans k) ?_
          show GlH Z consts_1 _ _ _ _ _ _ _ (T270.setTop (mkF m 152 #[.val (.int j0), .val (.int j1), .val (.int j2), .val (.int j3), .val (.int n1), .val (.int r154), .val (.int r155), .val (.int n2), .val (.int r156), .val (.int r157), .val (.int kk), .val (.int nu), .val (.int r158), .val (.int r159), .val (.int ((j3 &&& (2147483647 : Int32)) % (3 : Int32))), .val (.ref w_MANY_TO_MANY), .unset, .unset, .unset, .unset] [(.ref b270), (.ref b268), (.ref b267), (.ref b267)]))
          refine GlH.back (fun _ k => XS.iload X270.here hx rfl (hb hby at_152) rfl k) ?_
          show GlH Z consts_1 _ _ _ _ _ _ _ (T270.setTop (mkF m 154 #[.val (.int j0), .val (.int j1), .val (.int j2), .val (.int j3), .val (.int n1), .val (.int r154), .val (.int r155), .val (.int n2), .val (.int r156), .val (.int r157), .val (.int kk), .val (.int nu), .val (.int r158), .val (.int r159), .val (.int ((j3 &&& (2147483647 : Int32)) % (3 : Int32))), .val (.ref w_MANY_TO_MANY), .unset, .unset, .unset, .unset] [(.int n2), (.ref b270), (.ref b268), (.ref b267), (.ref b267)]))
          refine GlH.back (fun _ k => XS.iload X270.here hx rfl (hb hby at_154) rfl k) ?_
          show GlH Z consts_1 _ _ _ _ _ _ _ (T270.setTop (mkF m 156 #[.val (.int j0), .val (.int j1), .val (.int j2), .val (.int j3), .val (.int n1), .val (.int r154), .val (.int r155), .val (.int n2), .val (.int r156), .val (.int r157), .val (.int kk), .val (.int nu), .val (.int r158), .val (.int r159), .val (.int ((j3 &&& (2147483647 : Int32)) % (3 : Int32))), .val (.ref w_MANY_TO_MANY), .unset, .unset, .unset, .unset] [(.int r156), (.int n2), (.ref b270), (.ref b268), (.ref b267), (.ref b267)]))
          refine GlH.back (fun _ k => XS.iload X270.here hx rfl (hb hby at_156) rfl k) ?_
          show GlH Z consts_1 _ _ _ _ _ _ _ (T270.setTop (mkF m 158 #[.val (.int j0), .val (.int j1), .val (.int j2), .val (.int j3), .val (.int n1), .val (.int r154), .val (.int r155), .val (.int n2), .val (.int r156), .val (.int r157), .val (.int kk), .val (.int nu), .val (.int r158), .val (.int r159), .val (.int ((j3 &&& (2147483647 : Int32)) % (3 : Int32))), .val (.ref w_MANY_TO_MANY), .unset, .unset, .unset, .unset] [(.int r157), (.int r156), (.int n2), (.ref b270), (.ref b268), (.ref b267), (.ref b267)]))
          have f272 := (f269.keep Kq270)
          have f273 := (Ea268.keep Kq270)
          have f274 := (Va268.keep Kq270 nin0)
          obtain ⟨_, _, ⟨T271, L271, k271, n271⟩, -, X271, hS2271, hg2271, ⟨Lc271, hQ271, l271, y271, z271, hC271⟩, st271⟩ := callSS X270 hx (y := (⟨"com/example/partition_planner/partitionplanner/RelationshipRelatesPinLaw", "str", "(ICC)Ljava/lang/String;"⟩ : MethodName)) hown270 (mvT hZ270 (hw _ (List.mem_of_getElem? (i := 19) rfl))) (mvT hZ270 (hw _ (List.mem_of_getElem? (i := 20) rfl))) (mvT hZ270 (hw _ (List.mem_of_getElem? (i := 2) rfl))) (mvT hZ270 (hw _ (List.mem_of_getElem? (i := 21) rfl))) (by decide) (backOfSH (W := 4) (rmstr l Z a0 hw [] n2 r156 r157 zc T270.heap n0 Zc270 Oc270 S_C P0 hr156 hr157) hZ270 (hw _ (List.mem_of_getElem? (i := 21) rfl)) (hw _ (List.mem_of_getElem? (i := 2) rfl)) (by decide) (by decide) hEL CHr270.1) (g := (mkF m 158 #[.val (.int j0), .val (.int j1), .val (.int j2), .val (.int j3), .val (.int n1), .val (.int r154), .val (.int r155), .val (.int n2), .val (.int r156), .val (.int r157), .val (.int kk), .val (.int nu), .val (.int r158), .val (.int r159), .val (.int ((j3 &&& (2147483647 : Int32)) % (3 : Int32))), .val (.ref w_MANY_TO_MANY), .unset, .unset, .unset, .unset] [(.int r157), (.int r156), (.int n2), (.ref b270), (.ref b268), (.ref b267), (.ref b267)])) rfl (by rw [hml]; rfl) (argsL := [(.int n2), (.int r156), (.int r157)]) (rest := [(.ref b270), (.ref b268), (.ref b267), (.ref b267)]) (lenOf pd__ICC_Ljava_lang_String_ rfl) rfl (by show 2 * 0 + _ ≤ _; exact Nat.le_of_eq rfl) (hb hby at_158) (fun _ _ => ⟨rfl, rfl, (by decide : 7 + 4 ≤ _), (by decide : 20 + 8 ≤ _)⟩)
          dsimp only [Pt.U, Pt.locs, Pt.cells, Pt.slots] at X271 l271 y271 z271 st271 hQ271 hS2271 hg2271 hC271
          replace l271 := Eq.symm l271
          replace y271 := Eq.symm y271
          replace z271 := Eq.symm z271
          subst l271 y271 z271
          obtain ⟨X271, hS271, hZ271, hown271⟩ := rebS hS270 ((Nat.le_refl _)) X271 hS2271 hg2271 hZ270 hown270
          have CHr271 := CHr.trans CHr270 hC271
          obtain ⟨Nq271, b271, t271, k0271, M271, vs271, rfl, Kq271, Sx271, Gx271, Ex271, Fc271, Fv271, V271, cd271, hz271⟩ := hQ271
          obtain ⟨Sv271, hN271, hv271⟩ := hz271 (own_n0 hn2)
          have Gv271 : n0 ≤ t271 := Nat.le_trans Zc270 Sv271
          have N271 := Fr.app N270 Nq271
          have Kc271 := Keep.trans Kc270 Kq271 all0
          have Zc271 : n0 ≤ T271.heap.size := Nat.le_trans Zc270 Kq271.1
          have Oc271 := Old.keep Oc270 Kq271 all0
          have ne_b267_b271 : b267 ≠ b271 := Nat.ne_of_lt (Nat.lt_of_lt_of_le (f272).lt Sx271)
          have ne_b268_b271 : b268 ≠ b271 := Nat.ne_of_lt (Nat.lt_of_lt_of_le (f273).lt Sx271)
          have ne_t268_b271 : t268 ≠ b271 := Nat.ne_of_lt (Nat.lt_of_lt_of_le (f274).lt Sx271)
          have ne_b270_b271 : b270 ≠ b271 := Nat.ne_of_lt (Nat.lt_of_lt_of_le (Ex270).lt Sx271)
          have ne_t270_b271 : t270 ≠ b271 := Nat.ne_of_lt (Nat.lt_of_lt_of_le (V270).lt Sx271)
          have sz_b271 : h0.size ≤ b271 := Nat.le_trans Kc270.1 Sx271
          have ne_b267_t271 : b267 ≠ t271 := Nat.ne_of_lt (Nat.lt_of_lt_of_le (f272).lt Sv271)
          have ne_b268_t271 : b268 ≠ t271 := Nat.ne_of_lt (Nat.lt_of_lt_of_le (f273).lt Sv271)
          have ne_t268_t271 : t268 ≠ t271 := Nat.ne_of_lt (Nat.lt_of_lt_of_le (f274).lt Sv271)
          have ne_b270_t271 : b270 ≠ t271 := Nat.ne_of_lt (Nat.lt_of_lt_of_le (Ex270).lt Sv271)
          have ne_t270_t271 : t270 ≠ t271 := Nat.ne_of_lt (Nat.lt_of_lt_of_le (V270).lt Sv271)
          have sz_t271 : h0.size ≤ t271 := Nat.le_trans Kc270.1 Sv271
          refine GlH.back (fun _ k => st271.trans k) ?_
          show GlH Z consts_1 _ _ _ _ _ _ _ (T271.setTop (mkF m 161 #[.val (.int j0), .val (.int j1), .val (.int j2), .val (.int j3), .val (.int n1), .val (.int r154), .val (.int r155), .val (.int n2), .val (.int r156), .val (.int r157), .val (.int kk), .val (.int nu), .val (.int r158), .val (.int r159), .val (.int ((j3 &&& (2147483647 : Int32)) % (3 : Int32))), .val (.ref w_MANY_TO_MANY), .unset, .unset, .unset, .unset] [(.ref b271), (.ref b270), (.ref b268), (.ref b267), (.ref b267)]))
          refine GlH.back (fun _ k => XS.aload X271.here hx rfl (hb hby at_161) rfl rfl k) ?_
          show GlH Z consts_1 _ _ _ _ _ _ _ (T271.setTop (mkF m 163 #[.val (.int j0), .val (.int j1), .val (.int j2), .val (.int j3), .val (.int n1), .val (.int r154), .val (.int r155), .val (.int n2), .val (.int r156), .val (.int r157), .val (.int kk), .val (.int nu), .val (.int r158), .val (.int r159), .val (.int ((j3 &&& (2147483647 : Int32)) % (3 : Int32))), .val (.ref w_MANY_TO_MANY), .unset, .unset, .unset, .unset] [(.ref w_MANY_TO_MANY), (.ref b271), (.ref b270), (.ref b268), (.ref b267), (.ref b267)]))
          have f276 := (f272.keep Kq271)
          have f277 := (((F267_name.ext E268).keep Kq270 nin0).keep Kq271 nin0)
          have f278 := (((F267_first.ext E268).keep Kq270 nin0).keep Kq271 nin0)
          have f279 := (((F267_second.ext E268).keep Kq270 nin0).keep Kq271 nin0)
          have f280 := (((F267_cardinality.ext E268).keep Kq270 nin0).keep Kq271 nin0)
          have f281 := (f273.keep Kq271)
          have f282 := ((Fc268.keep Kq270 nin0).keep Kq271 nin0)
          have f283 := ((Fv268.keep Kq270 nin0).keep Kq271 nin0)
          have f284 := (f274.keep Kq271 nin0)
          have f285 := (Ex270.keep Kq271)
          have f286 := (Fc270.keep Kq271 nin0)
          have f287 := (Fv270.keep Kq271 nin0)
          have f288 := (V270.keep Kq271 nin0)
          obtain ⟨_, _, ⟨T275, L275, k275, n275⟩, -, X275, hS2275, hg2275, ⟨Lc275, hQ275, l275, y275, z275, hC275⟩, st275⟩ := X271.specialBackS hx (y := (⟨"com/example/partition_planner/partitionplanner/Relationship", "<init>", "(Ljava/lang/String;Ljava/lang/String;Ljava/lang/String;Lcom/example/partition_planner/partitionplanner/Cardinality;)V"⟩ : MethodName)) rfl hown271 (mvT hZ271 (hw _ (List.mem_of_getElem? (i := 47) rfl))) (mvT hZ271 (hw _ (List.mem_of_getElem? (i := 48) rfl))) (mvT hZ271 (hw _ (List.mem_of_getElem? (i := 49) rfl))) (by decide) (backOfSH (W := 1) (rmrinit l Z a0 hw [] b267 b268 b270 b271 w_MANY_TO_MANY wA wI kA vsA t268 t270 t271 k0268 k0270 k0271 (1 : Int32) M270 M271 (114 : Int32) r154 r156 [(.int (114 : Int32))] vs270 vs271 zc T271.heap n0 Zc271 Oc271 S_A V_A hA S_I E_I S_C P0 g_b267 f276 f277 f278 f279 f280 f281 f282 f283 f284 (by decide) rfl own_nwR f285 f286 f287 f288 hN270 hv270 (hw154 (own_and3 _)) Ex271 Fc271 Fv271 V271 hN271 hv271 (hw156 (own_and3 _)) ne_b267_b268 ne_b267_t268 ne_b267_b270 ne_b267_t270 ne_b267_b271 ne_b267_t271) hZ271 (hw _ (List.mem_of_getElem? (i := 49) rfl)) (hw _ (List.mem_of_getElem? (i := 10) rfl)) (by decide) (by decide) hEL CHr271.1) (g := (mkF m 163 #[.val (.int j0), .val (.int j1), .val (.int j2), .val (.int j3), .val (.int n1), .val (.int r154), .val (.int r155), .val (.int n2), .val (.int r156), .val (.int r157), .val (.int kk), .val (.int nu), .val (.int r158), .val (.int r159), .val (.int ((j3 &&& (2147483647 : Int32)) % (3 : Int32))), .val (.ref w_MANY_TO_MANY), .unset, .unset, .unset, .unset] [(.ref w_MANY_TO_MANY), (.ref b271), (.ref b270), (.ref b268), (.ref b267), (.ref b267)])) rfl (by rw [hml]; rfl) (Steps.refl _) (a := b267) (argsL := [(.ref b268), (.ref b270), (.ref b271), (.ref w_MANY_TO_MANY)]) (rest := [(.ref b267)]) (lenOf pd__Ljava_lang_String_Ljava_lang_String_Ljava_lang_String_Lcom_example_partition_planner_partitionplanner_Cardinality__V rfl) rfl (by show 2 * 0 + _ ≤ _; exact Nat.le_of_eq rfl) (hb hby at_163) (fun _ _ => ⟨rfl, rfl, (by decide : 11 + 8 ≤ _), (by decide : 28 + 120 ≤ _)⟩)
          dsimp only [Pt.U, Pt.locs, Pt.cells, Pt.slots] at X275 l275 y275 z275 st275 hQ275 hS2275 hg2275 hC275
          replace l275 := Eq.symm l275
          replace y275 := Eq.symm y275
          replace z275 := Eq.symm z275
          subst l275 y275 z275
          obtain ⟨X275, hS275, hZ275, hown275⟩ := rebS hS271 ((Nat.le_refl _)) X275 hS2275 hg2275 hZ271 hown271
          have CHr275 := CHr.trans CHr271 hC275
          obtain ⟨Nq275, rfl, Kq275, Ff275, Fs275⟩ := hQ275
          have N275 := Fr.app N271 Nq275
          have Kc275 := Keep.trans Kc271 Kq275 (allS (Or.inr sz_b267) all0)
          have Zc275 : n0 ≤ T275.heap.size := Nat.le_trans Zc271 Kq275.1
          have Oc275 := Old.keep Oc271 Kq275 (allS g_b267 all0)
          refine GlH.back (fun _ k => st275.trans k) ?_
          show GlH Z consts_1 _ _ _ _ _ _ _ (T275.setTop (mkF m 166 #[.val (.int j0), .val (.int j1), .val (.int j2), .val (.int j3), .val (.int n1), .val (.int r154), .val (.int r155), .val (.int n2), .val (.int r156), .val (.int r157), .val (.int kk), .val (.int nu), .val (.int r158), .val (.int r159), .val (.int ((j3 &&& (2147483647 : Int32)) % (3 : Int32))), .val (.ref w_MANY_TO_MANY), .unset, .unset, .unset, .unset] [(.ref b267)]))
          refine GlH.back (fun _ k => XS.astore X275.here hx rfl (hb hby at_166) rfl rfl (l' := #[.val (.int j0), .val (.int j1), .val (.int j2), .val (.int j3), .val (.int n1), .val (.int r154), .val (.int r155), .val (.int n2), .val (.int r156), .val (.int r157), .val (.int kk), .val (.int nu), .val (.int r158), .val (.int r159), .val (.int ((j3 &&& (2147483647 : Int32)) % (3 : Int32))), .val (.ref w_MANY_TO_MANY), .val (.ref b267), .unset, .unset, .unset]) rfl k) ?_
          show GlH Z consts_1 _ _ _ _ _ _ _ (T275.setTop (mkF m 168 #[.val (.int j0), .val (.int j1), .val (.int j2), .val (.int j3), .val (.int n1), .val (.int r154), .val (.int r155), .val (.int n2), .val (.int r156), .val (.int r157), .val (.int kk), .val (.int nu), .val (.int r158), .val (.int r159), .val (.int ((j3 &&& (2147483647 : Int32)) % (3 : Int32))), .val (.ref w_MANY_TO_MANY), .val (.ref b267), .unset, .unset, .unset] []))
          refine GlH.back (fun _ k => XS.iload X275.here hx rfl (hb hby at_168) rfl k) ?_
          show GlH Z consts_1 _ _ _ _ _ _ _ (T275.setTop (mkF m 170 #[.val (.int j0), .val (.int j1), .val (.int j2), .val (.int j3), .val (.int n1), .val (.int r154), .val (.int r155), .val (.int n2), .val (.int r156), .val (.int r157), .val (.int kk), .val (.int nu), .val (.int r158), .val (.int r159), .val (.int ((j3 &&& (2147483647 : Int32)) % (3 : Int32))), .val (.ref w_MANY_TO_MANY), .val (.ref b267), .unset, .unset, .unset] [(.int nu)]))
          by_cases hc170_289 : nu = (0 : Int32)
          · refine GlH.back (fun _ k => XS.ifYes X275.here hx rfl (pc0 := 170) (pc' := 177) rfl (hb hby at_170) rfl ((if0 _ _).trans (teq hc170_289).1) (by decide) (by decide) k) ?_
            show GlH Z consts_1 _ _ _ _ _ _ _ (T275.setTop (mkF m 177 #[.val (.int j0), .val (.int j1), .val (.int j2), .val (.int j3), .val (.int n1), .val (.int r154), .val (.int r155), .val (.int n2), .val (.int r156), .val (.int r157), .val (.int kk), .val (.int nu), .val (.int r158), .val (.int r159), .val (.int ((j3 &&& (2147483647 : Int32)) % (3 : Int32))), .val (.ref w_MANY_TO_MANY), .val (.ref b267), .unset, .unset, .unset] []))
            refine GlH.back (fun _ k => XS.iload X275.here hx rfl (hb hby at_177) rfl k) ?_
            show GlH Z consts_1 _ _ _ _ _ _ _ (T275.setTop (mkF m 179 #[.val (.int j0), .val (.int j1), .val (.int j2), .val (.int j3), .val (.int n1), .val (.int r154), .val (.int r155), .val (.int n2), .val (.int r156), .val (.int r157), .val (.int kk), .val (.int nu), .val (.int r158), .val (.int r159), .val (.int ((j3 &&& (2147483647 : Int32)) % (3 : Int32))), .val (.ref w_MANY_TO_MANY), .val (.ref b267), .unset, .unset, .unset] [(.int kk)]))
            refine GlH.back (fun _ k => XS.iload X275.here hx rfl (hb hby at_179) rfl k) ?_
            show GlH Z consts_1 _ _ _ _ _ _ _ (T275.setTop (mkF m 181 #[.val (.int j0), .val (.int j1), .val (.int j2), .val (.int j3), .val (.int n1), .val (.int r154), .val (.int r155), .val (.int n2), .val (.int r156), .val (.int r157), .val (.int kk), .val (.int nu), .val (.int r158), .val (.int r159), .val (.int ((j3 &&& (2147483647 : Int32)) % (3 : Int32))), .val (.ref w_MANY_TO_MANY), .val (.ref b267), .unset, .unset, .unset] [(.int r158), (.int kk)]))
            refine GlH.back (fun _ k => XS.iload X275.here hx rfl (hb hby at_181) rfl k) ?_
            show GlH Z consts_1 _ _ _ _ _ _ _ (T275.setTop (mkF m 183 #[.val (.int j0), .val (.int j1), .val (.int j2), .val (.int j3), .val (.int n1), .val (.int r154), .val (.int r155), .val (.int n2), .val (.int r156), .val (.int r157), .val (.int kk), .val (.int nu), .val (.int r158), .val (.int r159), .val (.int ((j3 &&& (2147483647 : Int32)) % (3 : Int32))), .val (.ref w_MANY_TO_MANY), .val (.ref b267), .unset, .unset, .unset] [(.int r159), (.int r158), (.int kk)]))
            have f291 := (f276.keep Kq275)
            have f292 := (f281.keep Kq275)
            have f293 := (f284.keep Kq275 (ninS (Ne.symm ne_b267_t268) nin0))
            have f294 := (f285.keep Kq275)
            have f295 := (f288.keep Kq275 (ninS (Ne.symm ne_b267_t270) nin0))
            have f296 := (Ex271.keep Kq275)
            have f297 := (V271.keep Kq275 (ninS (Ne.symm ne_b267_t271) nin0))
            obtain ⟨_, _, ⟨T290, L290, k290, n290⟩, -, X290, hS2290, hg2290, ⟨Lc290, hQ290, l290, y290, z290, hC290⟩, st290⟩ := callSS X275 hx (y := (⟨"com/example/partition_planner/partitionplanner/RelationshipRelatesPinLaw", "str", "(ICC)Ljava/lang/String;"⟩ : MethodName)) hown275 (mvT hZ275 (hw _ (List.mem_of_getElem? (i := 19) rfl))) (mvT hZ275 (hw _ (List.mem_of_getElem? (i := 20) rfl))) (mvT hZ275 (hw _ (List.mem_of_getElem? (i := 2) rfl))) (mvT hZ275 (hw _ (List.mem_of_getElem? (i := 21) rfl))) (by decide) (backOfSH (W := 0) (rmstr l Z a0 hw [] kk r158 r159 zc T275.heap n0 Zc275 Oc275 S_C P0 hr158 hr159) hZ275 (hw _ (List.mem_of_getElem? (i := 21) rfl)) (hw _ (List.mem_of_getElem? (i := 2) rfl)) (by decide) (by decide) hEL CHr275.1) (g := (mkF m 183 #[.val (.int j0), .val (.int j1), .val (.int j2), .val (.int j3), .val (.int n1), .val (.int r154), .val (.int r155), .val (.int n2), .val (.int r156), .val (.int r157), .val (.int kk), .val (.int nu), .val (.int r158), .val (.int r159), .val (.int ((j3 &&& (2147483647 : Int32)) % (3 : Int32))), .val (.ref w_MANY_TO_MANY), .val (.ref b267), .unset, .unset, .unset] [(.int r159), (.int r158), (.int kk)])) rfl (by rw [hml]; rfl) (argsL := [(.int kk), (.int r158), (.int r159)]) (rest := []) (lenOf pd__ICC_Ljava_lang_String_ rfl) rfl (by show 2 * 0 + _ ≤ _; exact Nat.le_of_eq rfl) (hb hby at_183) (fun _ _ => ⟨rfl, rfl, (by decide : 19 + 4 ≤ _), (by decide : 148 + 8 ≤ _)⟩)
            dsimp only [Pt.U, Pt.locs, Pt.cells, Pt.slots] at X290 l290 y290 z290 st290 hQ290 hS2290 hg2290 hC290
            replace l290 := Eq.symm l290
            replace y290 := Eq.symm y290
            replace z290 := Eq.symm z290
            subst l290 y290 z290
            obtain ⟨X290, hS290, hZ290, hown290⟩ := rebS hS275 ((Nat.le_refl _)) X290 hS2290 hg2290 hZ275 hown275
            have CHr290 := CHr.trans CHr275 hC290
            obtain ⟨Nq290, b290, t290, k0290, M290, vs290, rfl, Kq290, Sx290, Gx290, Ex290, Fc290, Fv290, V290, cd290, hz290⟩ := hQ290
            have N290 := Fr.app N275 Nq290
            have Kc290 := Keep.trans Kc275 Kq290 all0
            have Zc290 : n0 ≤ T290.heap.size := Nat.le_trans Zc275 Kq290.1
            have Oc290 := Old.keep Oc275 Kq290 all0
            have ne_b267_b290 : b267 ≠ b290 := Nat.ne_of_lt (Nat.lt_of_lt_of_le (f291).lt Sx290)
            have ne_b268_b290 : b268 ≠ b290 := Nat.ne_of_lt (Nat.lt_of_lt_of_le (f292).lt Sx290)
            have ne_t268_b290 : t268 ≠ b290 := Nat.ne_of_lt (Nat.lt_of_lt_of_le (f293).lt Sx290)
            have ne_b270_b290 : b270 ≠ b290 := Nat.ne_of_lt (Nat.lt_of_lt_of_le (f294).lt Sx290)
            have ne_t270_b290 : t270 ≠ b290 := Nat.ne_of_lt (Nat.lt_of_lt_of_le (f295).lt Sx290)
            have ne_b271_b290 : b271 ≠ b290 := Nat.ne_of_lt (Nat.lt_of_lt_of_le (f296).lt Sx290)
            have ne_t271_b290 : t271 ≠ b290 := Nat.ne_of_lt (Nat.lt_of_lt_of_le (f297).lt Sx290)
            have sz_b290 : h0.size ≤ b290 := Nat.le_trans Kc275.1 Sx290
            refine GlH.back (fun _ k => st290.trans k) ?_
            show GlH Z consts_1 _ _ _ _ _ _ _ (T290.setTop (mkF m 186 #[.val (.int j0), .val (.int j1), .val (.int j2), .val (.int j3), .val (.int n1), .val (.int r154), .val (.int r155), .val (.int n2), .val (.int r156), .val (.int r157), .val (.int kk), .val (.int nu), .val (.int r158), .val (.int r159), .val (.int ((j3 &&& (2147483647 : Int32)) % (3 : Int32))), .val (.ref w_MANY_TO_MANY), .val (.ref b267), .unset, .unset, .unset] [(.ref b290)]))
            refine GlH.back (fun _ k => XS.astore X290.here hx rfl (hb hby at_186) rfl rfl (l' := #[.val (.int j0), .val (.int j1), .val (.int j2), .val (.int j3), .val (.int n1), .val (.int r154), .val (.int r155), .val (.int n2), .val (.int r156), .val (.int r157), .val (.int kk), .val (.int nu), .val (.int r158), .val (.int r159), .val (.int ((j3 &&& (2147483647 : Int32)) % (3 : Int32))), .val (.ref w_MANY_TO_MANY), .val (.ref b267), .val (.ref b290), .unset, .unset]) rfl k) ?_
            show GlH Z consts_1 _ _ _ _ _ _ _ (T290.setTop (mkF m 188 #[.val (.int j0), .val (.int j1), .val (.int j2), .val (.int j3), .val (.int n1), .val (.int r154), .val (.int r155), .val (.int n2), .val (.int r156), .val (.int r157), .val (.int kk), .val (.int nu), .val (.int r158), .val (.int r159), .val (.int ((j3 &&& (2147483647 : Int32)) % (3 : Int32))), .val (.ref w_MANY_TO_MANY), .val (.ref b267), .val (.ref b290), .unset, .unset] []))
            refine GlH.back (fun _ k => XS.aload X290.here hx rfl (hb hby at_188) rfl rfl k) ?_
            show GlH Z consts_1 _ _ _ _ _ _ _ (T290.setTop (mkF m 190 #[.val (.int j0), .val (.int j1), .val (.int j2), .val (.int j3), .val (.int n1), .val (.int r154), .val (.int r155), .val (.int n2), .val (.int r156), .val (.int r157), .val (.int kk), .val (.int nu), .val (.int r158), .val (.int r159), .val (.int ((j3 &&& (2147483647 : Int32)) % (3 : Int32))), .val (.ref w_MANY_TO_MANY), .val (.ref b267), .val (.ref b290), .unset, .unset] [(.ref b267)]))
            refine GlH.back (fun _ k => XS.aload X290.here hx rfl (hb hby at_190) rfl rfl k) ?_
            show GlH Z consts_1 _ _ _ _ _ _ _ (T290.setTop (mkF m 192 #[.val (.int j0), .val (.int j1), .val (.int j2), .val (.int j3), .val (.int n1), .val (.int r154), .val (.int r155), .val (.int n2), .val (.int r156), .val (.int r157), .val (.int kk), .val (.int nu), .val (.int r158), .val (.int r159), .val (.int ((j3 &&& (2147483647 : Int32)) % (3 : Int32))), .val (.ref w_MANY_TO_MANY), .val (.ref b267), .val (.ref b290), .unset, .unset] [(.ref b290), (.ref b267)]))
            have f299 := (f291.keep Kq290)
            have f300 := (Ff275.keep Kq290 nin0)
            have f301 := (Fs275.keep Kq290 nin0)
            have f302 := (f294.keep Kq290)
            have f303 := ((f286.keep Kq275 (ninS (Ne.symm ne_b267_b270) nin0)).keep Kq290 nin0)
            have f304 := ((f287.keep Kq275 (ninS (Ne.symm ne_b267_b270) nin0)).keep Kq290 nin0)
            have f305 := (f295.keep Kq290 nin0)
            have f306 := (f296.keep Kq290)
            have f307 := ((Fc271.keep Kq275 (ninS (Ne.symm ne_b267_b271) nin0)).keep Kq290 nin0)
            have f308 := ((Fv271.keep Kq275 (ninS (Ne.symm ne_b267_b271) nin0)).keep Kq290 nin0)
            have f309 := (f297.keep Kq290 nin0)
            obtain ⟨cq298, kq298, q298a, q298b, q298c⟩ := isOf hZ290 rfl f299
            obtain ⟨_, _, ⟨T298, L298, k298, n298⟩, -, X298, ⟨Lc298, hQ298, l298, y298, z298⟩, st298⟩ := X290.virtualBack hx (y := (⟨"com/example/partition_planner/partitionplanner/Relationship", "relates", "(Ljava/lang/String;)Z"⟩ : MethodName)) (z := (⟨"com/example/partition_planner/partitionplanner/Relationship", "relates", "(Ljava/lang/String;)Z"⟩ : MethodName)) hown290 (mvT hZ290 (hw _ (List.mem_of_getElem? (i := 117) rfl))) (mvT hZ290 (hw _ (List.mem_of_getElem? (i := 118) rfl))) (notFace_of_selects (args := #[]) (mvT hZ290 (hw _ (List.mem_of_getElem? (i := 120) rfl)))) (mvT hZ290 (hw _ (List.mem_of_getElem? (i := 120) rfl))) (mvT hZ290 (hw _ (List.mem_of_getElem? (i := 119) rfl))) (by decide) (backOf (W := 0) (rmrelY l Z a0 hw [] b267 b290 b270 b271 t270 k0270 M270 vs270 (own_cs n1 r154 r155) t271 k0271 M271 vs271 (own_cs n2 r156 r157) t290 k0290 M290 vs290 (own_cs kk r158 r159) zc T290.heap n0 Zc290 Oc290 S_C P0 f299 f300 f301 f302 f303 f304 f305 cd270 (own_csb hr154 hr155) (own_csl _ _ _) f306 f307 f308 f309 cd271 (own_csb hr156 hr157) (own_csl _ _ _) Ex290 Fc290 Fv290 V290 cd290 (own_csb hr158 hr159) (own_csl _ _ _)) hZ290 (hw _ (List.mem_of_getElem? (i := 121) rfl)) (hw _ (List.mem_of_getElem? (i := 10) rfl)) (by decide) (by decide)) q298a q298c (g := (mkF m 192 #[.val (.int j0), .val (.int j1), .val (.int j2), .val (.int j3), .val (.int n1), .val (.int r154), .val (.int r155), .val (.int n2), .val (.int r156), .val (.int r157), .val (.int kk), .val (.int nu), .val (.int r158), .val (.int r159), .val (.int ((j3 &&& (2147483647 : Int32)) % (3 : Int32))), .val (.ref w_MANY_TO_MANY), .val (.ref b267), .val (.ref b290), .unset, .unset] [(.ref b290), (.ref b267)])) rfl (by rw [hml]; rfl) (Steps.refl _) (argsL := [(.ref b290)]) (rest := []) (lenOf pd__Ljava_lang_String__Z rfl) rfl (by show 2 * 0 + _ ≤ _; exact Nat.le_of_eq rfl) (hb hby at_192) (fun _ _ => ⟨rfl, rfl, (by decide : 23 + 0 ≤ _), (by decide : 156 + 0 ≤ _)⟩)
            dsimp only [Pt.U, Pt.locs, Pt.cells, Pt.slots] at X298 l298 y298 z298 st298 hQ298
            replace l298 := Eq.symm l298
            replace y298 := Eq.symm y298
            replace z298 := Eq.symm z298
            subst l298 y298 z298
            obtain ⟨Nq298, hQ298⟩ := hQ298
            rcases hQ298 with ⟨rfl, eh298, hy298⟩ | ⟨rfl, eh298, hy298, hz298⟩
            · have N298 := Fr.app N290 Nq298
              refine GlH.back (fun _ k => st298.trans k) ?_
              show GlH Z consts_1 _ _ _ _ _ _ _ (T298.setTop (mkF m 195 #[.val (.int j0), .val (.int j1), .val (.int j2), .val (.int j3), .val (.int n1), .val (.int r154), .val (.int r155), .val (.int n2), .val (.int r156), .val (.int r157), .val (.int kk), .val (.int nu), .val (.int r158), .val (.int r159), .val (.int ((j3 &&& (2147483647 : Int32)) % (3 : Int32))), .val (.ref w_MANY_TO_MANY), .val (.ref b267), .val (.ref b290), .unset, .unset] [(.int (1 : Int32))]))
              refine GlH.back (fun _ k => XS.istore X298.here hx rfl (hb hby at_195) rfl (l' := #[.val (.int j0), .val (.int j1), .val (.int j2), .val (.int j3), .val (.int n1), .val (.int r154), .val (.int r155), .val (.int n2), .val (.int r156), .val (.int r157), .val (.int kk), .val (.int nu), .val (.int r158), .val (.int r159), .val (.int ((j3 &&& (2147483647 : Int32)) % (3 : Int32))), .val (.ref w_MANY_TO_MANY), .val (.ref b267), .val (.ref b290), .val (.int (1 : Int32)), .unset]) rfl k) ?_
              show GlH Z consts_1 _ _ _ _ _ _ _ (T298.setTop (mkF m 197 #[.val (.int j0), .val (.int j1), .val (.int j2), .val (.int j3), .val (.int n1), .val (.int r154), .val (.int r155), .val (.int n2), .val (.int r156), .val (.int r157), .val (.int kk), .val (.int nu), .val (.int r158), .val (.int r159), .val (.int ((j3 &&& (2147483647 : Int32)) % (3 : Int32))), .val (.ref w_MANY_TO_MANY), .val (.ref b267), .val (.ref b290), .val (.int (1 : Int32)), .unset] []))
              refine GlH.back (fun _ k => XS.iload X298.here hx rfl (hb hby at_197) rfl k) ?_
              show GlH Z consts_1 _ _ _ _ _ _ _ (T298.setTop (mkF m 199 #[.val (.int j0), .val (.int j1), .val (.int j2), .val (.int j3), .val (.int n1), .val (.int r154), .val (.int r155), .val (.int n2), .val (.int r156), .val (.int r157), .val (.int kk), .val (.int nu), .val (.int r158), .val (.int r159), .val (.int ((j3 &&& (2147483647 : Int32)) % (3 : Int32))), .val (.ref w_MANY_TO_MANY), .val (.ref b267), .val (.ref b290), .val (.int (1 : Int32)), .unset] [(.int nu)]))
              refine GlH.back (fun _ k => XS.ifNo X298.here hx rfl (hb hby at_199) rfl ((if0 _ _).trans (teq (hc170_289 : nu = (0 : Int32))).2) k) ?_
              show GlH Z consts_1 _ _ _ _ _ _ _ (T298.setTop (mkF m 202 #[.val (.int j0), .val (.int j1), .val (.int j2), .val (.int j3), .val (.int n1), .val (.int r154), .val (.int r155), .val (.int n2), .val (.int r156), .val (.int r157), .val (.int kk), .val (.int nu), .val (.int r158), .val (.int r159), .val (.int ((j3 &&& (2147483647 : Int32)) % (3 : Int32))), .val (.ref w_MANY_TO_MANY), .val (.ref b267), .val (.ref b290), .val (.int (1 : Int32)), .unset] []))
              refine GlH.back (fun _ k => XS.iload X298.here hx rfl (hb hby at_202) rfl k) ?_
              show GlH Z consts_1 _ _ _ _ _ _ _ (T298.setTop (mkF m 204 #[.val (.int j0), .val (.int j1), .val (.int j2), .val (.int j3), .val (.int n1), .val (.int r154), .val (.int r155), .val (.int n2), .val (.int r156), .val (.int r157), .val (.int kk), .val (.int nu), .val (.int r158), .val (.int r159), .val (.int ((j3 &&& (2147483647 : Int32)) % (3 : Int32))), .val (.ref w_MANY_TO_MANY), .val (.ref b267), .val (.ref b290), .val (.int (1 : Int32)), .unset] [(.int n1)]))
              refine GlH.back (fun _ k => XS.iload X298.here hx rfl (hb hby at_204) rfl k) ?_
              show GlH Z consts_1 _ _ _ _ _ _ _ (T298.setTop (mkF m 206 #[.val (.int j0), .val (.int j1), .val (.int j2), .val (.int j3), .val (.int n1), .val (.int r154), .val (.int r155), .val (.int n2), .val (.int r156), .val (.int r157), .val (.int kk), .val (.int nu), .val (.int r158), .val (.int r159), .val (.int ((j3 &&& (2147483647 : Int32)) % (3 : Int32))), .val (.ref w_MANY_TO_MANY), .val (.ref b267), .val (.ref b290), .val (.int (1 : Int32)), .unset] [(.int r154), (.int n1)]))
              refine GlH.back (fun _ k => XS.iload X298.here hx rfl (hb hby at_206) rfl k) ?_
              show GlH Z consts_1 _ _ _ _ _ _ _ (T298.setTop (mkF m 208 #[.val (.int j0), .val (.int j1), .val (.int j2), .val (.int j3), .val (.int n1), .val (.int r154), .val (.int r155), .val (.int n2), .val (.int r156), .val (.int r157), .val (.int kk), .val (.int nu), .val (.int r158), .val (.int r159), .val (.int ((j3 &&& (2147483647 : Int32)) % (3 : Int32))), .val (.ref w_MANY_TO_MANY), .val (.ref b267), .val (.ref b290), .val (.int (1 : Int32)), .unset] [(.int r155), (.int r154), (.int n1)]))
              refine GlH.back (fun _ k => XS.iload X298.here hx rfl (hb hby at_208) rfl k) ?_
              show GlH Z consts_1 _ _ _ _ _ _ _ (T298.setTop (mkF m 210 #[.val (.int j0), .val (.int j1), .val (.int j2), .val (.int j3), .val (.int n1), .val (.int r154), .val (.int r155), .val (.int n2), .val (.int r156), .val (.int r157), .val (.int kk), .val (.int nu), .val (.int r158), .val (.int r159), .val (.int ((j3 &&& (2147483647 : Int32)) % (3 : Int32))), .val (.ref w_MANY_TO_MANY), .val (.ref b267), .val (.ref b290), .val (.int (1 : Int32)), .unset] [(.int kk), (.int r155), (.int r154), (.int n1)]))
              refine GlH.back (fun _ k => XS.iload X298.here hx rfl (hb hby at_210) rfl k) ?_
              show GlH Z consts_1 _ _ _ _ _ _ _ (T298.setTop (mkF m 212 #[.val (.int j0), .val (.int j1), .val (.int j2), .val (.int j3), .val (.int n1), .val (.int r154), .val (.int r155), .val (.int n2), .val (.int r156), .val (.int r157), .val (.int kk), .val (.int nu), .val (.int r158), .val (.int r159), .val (.int ((j3 &&& (2147483647 : Int32)) % (3 : Int32))), .val (.ref w_MANY_TO_MANY), .val (.ref b267), .val (.ref b290), .val (.int (1 : Int32)), .unset] [(.int r158), (.int kk), (.int r155), (.int r154), (.int n1)]))
              refine GlH.back (fun _ k => XS.iload X298.here hx rfl (hb hby at_212) rfl k) ?_
              show GlH Z consts_1 _ _ _ _ _ _ _ (T298.setTop (mkF m 214 #[.val (.int j0), .val (.int j1), .val (.int j2), .val (.int j3), .val (.int n1), .val (.int r154), .val (.int r155), .val (.int n2), .val (.int r156), .val (.int r157), .val (.int kk), .val (.int nu), .val (.int r158), .val (.int r159), .val (.int ((j3 &&& (2147483647 : Int32)) % (3 : Int32))), .val (.ref w_MANY_TO_MANY), .val (.ref b267), .val (.ref b290), .val (.int (1 : Int32)), .unset] [(.int r159), (.int r158), (.int kk), (.int r155), (.int r154), (.int n1)]))
              obtain ⟨_, _, ⟨T310, L310, k310, n310⟩, -, X310, ⟨Lc310, hQ310, l310, y310, z310⟩, st310⟩ := Jvm.LawKit.callS X298 hx (y := (⟨"com/example/partition_planner/partitionplanner/RelationshipRelatesPinLaw", "same", "(ICCICC)Z"⟩ : MethodName)) hown290 (mvT hZ290 (hw _ (List.mem_of_getElem? (i := 132) rfl))) (mvT hZ290 (hw _ (List.mem_of_getElem? (i := 133) rfl))) (mvT hZ290 (hw _ (List.mem_of_getElem? (i := 2) rfl))) (mvT hZ290 (hw _ (List.mem_of_getElem? (i := 134) rfl))) (by decide) (backOf (W := 0) (rmsm l Z a0 hw [] n1 r154 r155 kk r158 r159  T290.heap n0 Zc290 (own_n3 hn1) hkk) hZ290 (hw _ (List.mem_of_getElem? (i := 134) rfl)) (hw _ (List.mem_of_getElem? (i := 2) rfl)) (by decide) (by decide)) (g := (mkF m 214 #[.val (.int j0), .val (.int j1), .val (.int j2), .val (.int j3), .val (.int n1), .val (.int r154), .val (.int r155), .val (.int n2), .val (.int r156), .val (.int r157), .val (.int kk), .val (.int nu), .val (.int r158), .val (.int r159), .val (.int ((j3 &&& (2147483647 : Int32)) % (3 : Int32))), .val (.ref w_MANY_TO_MANY), .val (.ref b267), .val (.ref b290), .val (.int (1 : Int32)), .unset] [(.int r159), (.int r158), (.int kk), (.int r155), (.int r154), (.int n1)])) rfl (by rw [hml]; rfl) (argsL := [(.int n1), (.int r154), (.int r155), (.int kk), (.int r158), (.int r159)]) (rest := []) (lenOf pd__ICCICC_Z rfl) rfl (by show 2 * 0 + _ ≤ _; exact Nat.le_of_eq rfl) (hb hby at_214) (fun _ _ => ⟨rfl, eh298, (by decide : 23 + 0 ≤ _), (by decide : 156 + 0 ≤ _)⟩)
              dsimp only [Pt.U, Pt.locs, Pt.cells, Pt.slots] at X310 l310 y310 z310 st310 hQ310
              replace l310 := Eq.symm l310
              replace y310 := Eq.symm y310
              replace z310 := Eq.symm z310
              subst l310 y310 z310
              obtain ⟨Nq310, hQ310⟩ := hQ310
              rcases hQ310 with ⟨rfl, eh310, hs310⟩ | ⟨rfl, eh310, hs310⟩
              · have N310 := Fr.app N298 Nq310
                refine GlH.back (fun _ k => st310 _ k) ?_
                show GlH Z consts_1 _ _ _ _ _ _ _ (T310.setTop (mkF m 217 #[.val (.int j0), .val (.int j1), .val (.int j2), .val (.int j3), .val (.int n1), .val (.int r154), .val (.int r155), .val (.int n2), .val (.int r156), .val (.int r157), .val (.int kk), .val (.int nu), .val (.int r158), .val (.int r159), .val (.int ((j3 &&& (2147483647 : Int32)) % (3 : Int32))), .val (.ref w_MANY_TO_MANY), .val (.ref b267), .val (.ref b290), .val (.int (1 : Int32)), .unset] [(.int (1 : Int32))]))
                refine GlH.back (fun _ k => XS.ifYes X310.here hx rfl (pc0 := 217) (pc' := 238) rfl (hb hby at_217) rfl ((if0 _ _).trans (feq (by decide : ¬ (1 : Int32) = (0 : Int32))).2) (by decide) (by decide) k) ?_
                show GlH Z consts_1 _ _ _ _ _ _ _ (T310.setTop (mkF m 238 #[.val (.int j0), .val (.int j1), .val (.int j2), .val (.int j3), .val (.int n1), .val (.int r154), .val (.int r155), .val (.int n2), .val (.int r156), .val (.int r157), .val (.int kk), .val (.int nu), .val (.int r158), .val (.int r159), .val (.int ((j3 &&& (2147483647 : Int32)) % (3 : Int32))), .val (.ref w_MANY_TO_MANY), .val (.ref b267), .val (.ref b290), .val (.int (1 : Int32)), .unset] []))
                refine GlH.back (fun _ k => XS.iconst X310.here hx rfl (hb hby at_238) k) ?_
                show GlH Z consts_1 _ _ _ _ _ _ _ (T310.setTop (mkF m 239 #[.val (.int j0), .val (.int j1), .val (.int j2), .val (.int j3), .val (.int n1), .val (.int r154), .val (.int r155), .val (.int n2), .val (.int r156), .val (.int r157), .val (.int kk), .val (.int nu), .val (.int r158), .val (.int r159), .val (.int ((j3 &&& (2147483647 : Int32)) % (3 : Int32))), .val (.ref w_MANY_TO_MANY), .val (.ref b267), .val (.ref b290), .val (.int (1 : Int32)), .unset] [(.int (1 : Int32))]))
                refine GlH.back (fun _ k => XS.goto X310.here hx rfl (pc0 := 239) (pc' := 243) rfl (hb hby at_239) (by decide) (by decide) k) ?_
                show GlH Z consts_1 _ _ _ _ _ _ _ (T310.setTop (mkF m 243 #[.val (.int j0), .val (.int j1), .val (.int j2), .val (.int j3), .val (.int n1), .val (.int r154), .val (.int r155), .val (.int n2), .val (.int r156), .val (.int r157), .val (.int kk), .val (.int nu), .val (.int r158), .val (.int r159), .val (.int ((j3 &&& (2147483647 : Int32)) % (3 : Int32))), .val (.ref w_MANY_TO_MANY), .val (.ref b267), .val (.ref b290), .val (.int (1 : Int32)), .unset] [(.int (1 : Int32))]))
                refine GlH.back (fun _ k => XS.istore X310.here hx rfl (hb hby at_243) rfl (l' := #[.val (.int j0), .val (.int j1), .val (.int j2), .val (.int j3), .val (.int n1), .val (.int r154), .val (.int r155), .val (.int n2), .val (.int r156), .val (.int r157), .val (.int kk), .val (.int nu), .val (.int r158), .val (.int r159), .val (.int ((j3 &&& (2147483647 : Int32)) % (3 : Int32))), .val (.ref w_MANY_TO_MANY), .val (.ref b267), .val (.ref b290), .val (.int (1 : Int32)), .val (.int (1 : Int32))]) rfl k) ?_
                show GlH Z consts_1 _ _ _ _ _ _ _ (T310.setTop (mkF m 245 #[.val (.int j0), .val (.int j1), .val (.int j2), .val (.int j3), .val (.int n1), .val (.int r154), .val (.int r155), .val (.int n2), .val (.int r156), .val (.int r157), .val (.int kk), .val (.int nu), .val (.int r158), .val (.int r159), .val (.int ((j3 &&& (2147483647 : Int32)) % (3 : Int32))), .val (.ref w_MANY_TO_MANY), .val (.ref b267), .val (.ref b290), .val (.int (1 : Int32)), .val (.int (1 : Int32))] []))
                refine GlH.back (fun _ k => XS.iload X310.here hx rfl (hb hby at_245) rfl k) ?_
                show GlH Z consts_1 _ _ _ _ _ _ _ (T310.setTop (mkF m 247 #[.val (.int j0), .val (.int j1), .val (.int j2), .val (.int j3), .val (.int n1), .val (.int r154), .val (.int r155), .val (.int n2), .val (.int r156), .val (.int r157), .val (.int kk), .val (.int nu), .val (.int r158), .val (.int r159), .val (.int ((j3 &&& (2147483647 : Int32)) % (3 : Int32))), .val (.ref w_MANY_TO_MANY), .val (.ref b267), .val (.ref b290), .val (.int (1 : Int32)), .val (.int (1 : Int32))] [(.int (1 : Int32))]))
                refine GlH.back (fun _ k => XS.iload X310.here hx rfl (hb hby at_247) rfl k) ?_
                show GlH Z consts_1 _ _ _ _ _ _ _ (T310.setTop (mkF m 249 #[.val (.int j0), .val (.int j1), .val (.int j2), .val (.int j3), .val (.int n1), .val (.int r154), .val (.int r155), .val (.int n2), .val (.int r156), .val (.int r157), .val (.int kk), .val (.int nu), .val (.int r158), .val (.int r159), .val (.int ((j3 &&& (2147483647 : Int32)) % (3 : Int32))), .val (.ref w_MANY_TO_MANY), .val (.ref b267), .val (.ref b290), .val (.int (1 : Int32)), .val (.int (1 : Int32))] [(.int (1 : Int32)), (.int (1 : Int32))]))
                refine GlH.back (fun _ k => XS.icmpNo X310.here hx rfl (hb hby at_249) rfl (teq (by decide : (1 : Int32) = (1 : Int32))).2 k) ?_
                show GlH Z consts_1 _ _ _ _ _ _ _ (T310.setTop (mkF m 252 #[.val (.int j0), .val (.int j1), .val (.int j2), .val (.int j3), .val (.int n1), .val (.int r154), .val (.int r155), .val (.int n2), .val (.int r156), .val (.int r157), .val (.int kk), .val (.int nu), .val (.int r158), .val (.int r159), .val (.int ((j3 &&& (2147483647 : Int32)) % (3 : Int32))), .val (.ref w_MANY_TO_MANY), .val (.ref b267), .val (.ref b290), .val (.int (1 : Int32)), .val (.int (1 : Int32))] []))
                refine GlH.back (fun _ k => XS.iconst X310.here hx rfl (hb hby at_252) k) ?_
                show GlH Z consts_1 _ _ _ _ _ _ _ (T310.setTop (mkF m 253 #[.val (.int j0), .val (.int j1), .val (.int j2), .val (.int j3), .val (.int n1), .val (.int r154), .val (.int r155), .val (.int n2), .val (.int r156), .val (.int r157), .val (.int kk), .val (.int nu), .val (.int r158), .val (.int r159), .val (.int ((j3 &&& (2147483647 : Int32)) % (3 : Int32))), .val (.ref w_MANY_TO_MANY), .val (.ref b267), .val (.ref b290), .val (.int (1 : Int32)), .val (.int (1 : Int32))] [(.int (1 : Int32))]))
                refine GlH.back (fun _ k => XS.goto X310.here hx rfl (pc0 := 253) (pc' := 257) rfl (hb hby at_253) (by decide) (by decide) k) ?_
                show GlH Z consts_1 _ _ _ _ _ _ _ (T310.setTop (mkF m 257 #[.val (.int j0), .val (.int j1), .val (.int j2), .val (.int j3), .val (.int n1), .val (.int r154), .val (.int r155), .val (.int n2), .val (.int r156), .val (.int r157), .val (.int kk), .val (.int nu), .val (.int r158), .val (.int r159), .val (.int ((j3 &&& (2147483647 : Int32)) % (3 : Int32))), .val (.ref w_MANY_TO_MANY), .val (.ref b267), .val (.ref b290), .val (.int (1 : Int32)), .val (.int (1 : Int32))] [(.int (1 : Int32))]))
                exact GlH.ret X310 eh310 hS290 (Nat.le_refl _) hh hZ290 hEL CHr290 (v := (some (.int (1 : Int32)))) (fun h => by rw [Bd.returns] at h; cases h) Bd.notSynchronized (fun fs hr => retN X310 hx (t := .boolean) (z := (1 : Int32)) Bd.returns (by simp) (hb hby at_257) hr) ⟨N310, rfl⟩ (by decide) (by decide)
              · have N310 := Fr.app N298 Nq310
                refine GlH.back (fun _ k => st310 _ k) ?_
                show GlH Z consts_1 _ _ _ _ _ _ _ (T310.setTop (mkF m 217 #[.val (.int j0), .val (.int j1), .val (.int j2), .val (.int j3), .val (.int n1), .val (.int r154), .val (.int r155), .val (.int n2), .val (.int r156), .val (.int r157), .val (.int kk), .val (.int nu), .val (.int r158), .val (.int r159), .val (.int ((j3 &&& (2147483647 : Int32)) % (3 : Int32))), .val (.ref w_MANY_TO_MANY), .val (.ref b267), .val (.ref b290), .val (.int (1 : Int32)), .unset] [(.int (0 : Int32))]))
                refine GlH.back (fun _ k => XS.ifNo X310.here hx rfl (hb hby at_217) rfl ((if0 _ _).trans (teq (by decide : (0 : Int32) = (0 : Int32))).2) k) ?_
                show GlH Z consts_1 _ _ _ _ _ _ _ (T310.setTop (mkF m 220 #[.val (.int j0), .val (.int j1), .val (.int j2), .val (.int j3), .val (.int n1), .val (.int r154), .val (.int r155), .val (.int n2), .val (.int r156), .val (.int r157), .val (.int kk), .val (.int nu), .val (.int r158), .val (.int r159), .val (.int ((j3 &&& (2147483647 : Int32)) % (3 : Int32))), .val (.ref w_MANY_TO_MANY), .val (.ref b267), .val (.ref b290), .val (.int (1 : Int32)), .unset] []))
                refine GlH.back (fun _ k => XS.iload X310.here hx rfl (hb hby at_220) rfl k) ?_
                show GlH Z consts_1 _ _ _ _ _ _ _ (T310.setTop (mkF m 222 #[.val (.int j0), .val (.int j1), .val (.int j2), .val (.int j3), .val (.int n1), .val (.int r154), .val (.int r155), .val (.int n2), .val (.int r156), .val (.int r157), .val (.int kk), .val (.int nu), .val (.int r158), .val (.int r159), .val (.int ((j3 &&& (2147483647 : Int32)) % (3 : Int32))), .val (.ref w_MANY_TO_MANY), .val (.ref b267), .val (.ref b290), .val (.int (1 : Int32)), .unset] [(.int n2)]))
                refine GlH.back (fun _ k => XS.iload X310.here hx rfl (hb hby at_222) rfl k) ?_
                show GlH Z consts_1 _ _ _ _ _ _ _ (T310.setTop (mkF m 224 #[.val (.int j0), .val (.int j1), .val (.int j2), .val (.int j3), .val (.int n1), .val (.int r154), .val (.int r155), .val (.int n2), .val (.int r156), .val (.int r157), .val (.int kk), .val (.int nu), .val (.int r158), .val (.int r159), .val (.int ((j3 &&& (2147483647 : Int32)) % (3 : Int32))), .val (.ref w_MANY_TO_MANY), .val (.ref b267), .val (.ref b290), .val (.int (1 : Int32)), .unset] [(.int r156), (.int n2)]))
                refine GlH.back (fun _ k => XS.iload X310.here hx rfl (hb hby at_224) rfl k) ?_
                show GlH Z consts_1 _ _ _ _ _ _ _ (T310.setTop (mkF m 226 #[.val (.int j0), .val (.int j1), .val (.int j2), .val (.int j3), .val (.int n1), .val (.int r154), .val (.int r155), .val (.int n2), .val (.int r156), .val (.int r157), .val (.int kk), .val (.int nu), .val (.int r158), .val (.int r159), .val (.int ((j3 &&& (2147483647 : Int32)) % (3 : Int32))), .val (.ref w_MANY_TO_MANY), .val (.ref b267), .val (.ref b290), .val (.int (1 : Int32)), .unset] [(.int r157), (.int r156), (.int n2)]))
                refine GlH.back (fun _ k => XS.iload X310.here hx rfl (hb hby at_226) rfl k) ?_
                show GlH Z consts_1 _ _ _ _ _ _ _ (T310.setTop (mkF m 228 #[.val (.int j0), .val (.int j1), .val (.int j2), .val (.int j3), .val (.int n1), .val (.int r154), .val (.int r155), .val (.int n2), .val (.int r156), .val (.int r157), .val (.int kk), .val (.int nu), .val (.int r158), .val (.int r159), .val (.int ((j3 &&& (2147483647 : Int32)) % (3 : Int32))), .val (.ref w_MANY_TO_MANY), .val (.ref b267), .val (.ref b290), .val (.int (1 : Int32)), .unset] [(.int kk), (.int r157), (.int r156), (.int n2)]))
                refine GlH.back (fun _ k => XS.iload X310.here hx rfl (hb hby at_228) rfl k) ?_
                show GlH Z consts_1 _ _ _ _ _ _ _ (T310.setTop (mkF m 230 #[.val (.int j0), .val (.int j1), .val (.int j2), .val (.int j3), .val (.int n1), .val (.int r154), .val (.int r155), .val (.int n2), .val (.int r156), .val (.int r157), .val (.int kk), .val (.int nu), .val (.int r158), .val (.int r159), .val (.int ((j3 &&& (2147483647 : Int32)) % (3 : Int32))), .val (.ref w_MANY_TO_MANY), .val (.ref b267), .val (.ref b290), .val (.int (1 : Int32)), .unset] [(.int r158), (.int kk), (.int r157), (.int r156), (.int n2)]))
                refine GlH.back (fun _ k => XS.iload X310.here hx rfl (hb hby at_230) rfl k) ?_
                show GlH Z consts_1 _ _ _ _ _ _ _ (T310.setTop (mkF m 232 #[.val (.int j0), .val (.int j1), .val (.int j2), .val (.int j3), .val (.int n1), .val (.int r154), .val (.int r155), .val (.int n2), .val (.int r156), .val (.int r157), .val (.int kk), .val (.int nu), .val (.int r158), .val (.int r159), .val (.int ((j3 &&& (2147483647 : Int32)) % (3 : Int32))), .val (.ref w_MANY_TO_MANY), .val (.ref b267), .val (.ref b290), .val (.int (1 : Int32)), .unset] [(.int r159), (.int r158), (.int kk), (.int r157), (.int r156), (.int n2)]))
                obtain ⟨_, _, ⟨T311, L311, k311, n311⟩, -, X311, ⟨Lc311, hQ311, l311, y311, z311⟩, st311⟩ := Jvm.LawKit.callS X310 hx (y := (⟨"com/example/partition_planner/partitionplanner/RelationshipRelatesPinLaw", "same", "(ICCICC)Z"⟩ : MethodName)) hown290 (mvT hZ290 (hw _ (List.mem_of_getElem? (i := 132) rfl))) (mvT hZ290 (hw _ (List.mem_of_getElem? (i := 133) rfl))) (mvT hZ290 (hw _ (List.mem_of_getElem? (i := 2) rfl))) (mvT hZ290 (hw _ (List.mem_of_getElem? (i := 134) rfl))) (by decide) (backOf (W := 0) (rmsm l Z a0 hw [] n2 r156 r157 kk r158 r159  T290.heap n0 Zc290 (own_n3 hn2) hkk) hZ290 (hw _ (List.mem_of_getElem? (i := 134) rfl)) (hw _ (List.mem_of_getElem? (i := 2) rfl)) (by decide) (by decide)) (g := (mkF m 232 #[.val (.int j0), .val (.int j1), .val (.int j2), .val (.int j3), .val (.int n1), .val (.int r154), .val (.int r155), .val (.int n2), .val (.int r156), .val (.int r157), .val (.int kk), .val (.int nu), .val (.int r158), .val (.int r159), .val (.int ((j3 &&& (2147483647 : Int32)) % (3 : Int32))), .val (.ref w_MANY_TO_MANY), .val (.ref b267), .val (.ref b290), .val (.int (1 : Int32)), .unset] [(.int r159), (.int r158), (.int kk), (.int r157), (.int r156), (.int n2)])) rfl (by rw [hml]; rfl) (argsL := [(.int n2), (.int r156), (.int r157), (.int kk), (.int r158), (.int r159)]) (rest := []) (lenOf pd__ICCICC_Z rfl) rfl (by show 2 * 0 + _ ≤ _; exact Nat.le_of_eq rfl) (hb hby at_232) (fun _ _ => ⟨rfl, eh310, (by decide : 23 + 0 ≤ _), (by decide : 156 + 0 ≤ _)⟩)
                dsimp only [Pt.U, Pt.locs, Pt.cells, Pt.slots] at X311 l311 y311 z311 st311 hQ311
                replace l311 := Eq.symm l311
                replace y311 := Eq.symm y311
                replace z311 := Eq.symm z311
                subst l311 y311 z311
                obtain ⟨Nq311, hQ311⟩ := hQ311
                rcases hQ311 with ⟨rfl, eh311, hs311⟩ | ⟨rfl, eh311, hs311⟩
                · have N311 := Fr.app N310 Nq311
                  refine GlH.back (fun _ k => st311 _ k) ?_
                  show GlH Z consts_1 _ _ _ _ _ _ _ (T311.setTop (mkF m 235 #[.val (.int j0), .val (.int j1), .val (.int j2), .val (.int j3), .val (.int n1), .val (.int r154), .val (.int r155), .val (.int n2), .val (.int r156), .val (.int r157), .val (.int kk), .val (.int nu), .val (.int r158), .val (.int r159), .val (.int ((j3 &&& (2147483647 : Int32)) % (3 : Int32))), .val (.ref w_MANY_TO_MANY), .val (.ref b267), .val (.ref b290), .val (.int (1 : Int32)), .unset] [(.int (1 : Int32))]))
                  refine GlH.back (fun _ k => XS.ifNo X311.here hx rfl (hb hby at_235) rfl ((if0 _ _).trans (feq (by decide : ¬ (1 : Int32) = (0 : Int32))).1) k) ?_
                  show GlH Z consts_1 _ _ _ _ _ _ _ (T311.setTop (mkF m 238 #[.val (.int j0), .val (.int j1), .val (.int j2), .val (.int j3), .val (.int n1), .val (.int r154), .val (.int r155), .val (.int n2), .val (.int r156), .val (.int r157), .val (.int kk), .val (.int nu), .val (.int r158), .val (.int r159), .val (.int ((j3 &&& (2147483647 : Int32)) % (3 : Int32))), .val (.ref w_MANY_TO_MANY), .val (.ref b267), .val (.ref b290), .val (.int (1 : Int32)), .unset] []))
                  refine GlH.back (fun _ k => XS.iconst X311.here hx rfl (hb hby at_238) k) ?_
                  show GlH Z consts_1 _ _ _ _ _ _ _ (T311.setTop (mkF m 239 #[.val (.int j0), .val (.int j1), .val (.int j2), .val (.int j3), .val (.int n1), .val (.int r154), .val (.int r155), .val (.int n2), .val (.int r156), .val (.int r157), .val (.int kk), .val (.int nu), .val (.int r158), .val (.int r159), .val (.int ((j3 &&& (2147483647 : Int32)) % (3 : Int32))), .val (.ref w_MANY_TO_MANY), .val (.ref b267), .val (.ref b290), .val (.int (1 : Int32)), .unset] [(.int (1 : Int32))]))
                  refine GlH.back (fun _ k => XS.goto X311.here hx rfl (pc0 := 239) (pc' := 243) rfl (hb hby at_239) (by decide) (by decide) k) ?_
                  show GlH Z consts_1 _ _ _ _ _ _ _ (T311.setTop (mkF m 243 #[.val (.int j0), .val (.int j1), .val (.int j2), .val (.int j3), .val (.int n1), .val (.int r154), .val (.int r155), .val (.int n2), .val (.int r156), .val (.int r157), .val (.int kk), .val (.int nu), .val (.int r158), .val (.int r159), .val (.int ((j3 &&& (2147483647 : Int32)) % (3 : Int32))), .val (.ref w_MANY_TO_MANY), .val (.ref b267), .val (.ref b290), .val (.int (1 : Int32)), .unset] [(.int (1 : Int32))]))
                  refine GlH.back (fun _ k => XS.istore X311.here hx rfl (hb hby at_243) rfl (l' := #[.val (.int j0), .val (.int j1), .val (.int j2), .val (.int j3), .val (.int n1), .val (.int r154), .val (.int r155), .val (.int n2), .val (.int r156), .val (.int r157), .val (.int kk), .val (.int nu), .val (.int r158), .val (.int r159), .val (.int ((j3 &&& (2147483647 : Int32)) % (3 : Int32))), .val (.ref w_MANY_TO_MANY), .val (.ref b267), .val (.ref b290), .val (.int (1 : Int32)), .val (.int (1 : Int32))]) rfl k) ?_
                  show GlH Z consts_1 _ _ _ _ _ _ _ (T311.setTop (mkF m 245 #[.val (.int j0), .val (.int j1), .val (.int j2), .val (.int j3), .val (.int n1), .val (.int r154), .val (.int r155), .val (.int n2), .val (.int r156), .val (.int r157), .val (.int kk), .val (.int nu), .val (.int r158), .val (.int r159), .val (.int ((j3 &&& (2147483647 : Int32)) % (3 : Int32))), .val (.ref w_MANY_TO_MANY), .val (.ref b267), .val (.ref b290), .val (.int (1 : Int32)), .val (.int (1 : Int32))] []))
                  refine GlH.back (fun _ k => XS.iload X311.here hx rfl (hb hby at_245) rfl k) ?_
                  show GlH Z consts_1 _ _ _ _ _ _ _ (T311.setTop (mkF m 247 #[.val (.int j0), .val (.int j1), .val (.int j2), .val (.int j3), .val (.int n1), .val (.int r154), .val (.int r155), .val (.int n2), .val (.int r156), .val (.int r157), .val (.int kk), .val (.int nu), .val (.int r158), .val (.int r159), .val (.int ((j3 &&& (2147483647 : Int32)) % (3 : Int32))), .val (.ref w_MANY_TO_MANY), .val (.ref b267), .val (.ref b290), .val (.int (1 : Int32)), .val (.int (1 : Int32))] [(.int (1 : Int32))]))
                  refine GlH.back (fun _ k => XS.iload X311.here hx rfl (hb hby at_247) rfl k) ?_
                  show GlH Z consts_1 _ _ _ _ _ _ _ (T311.setTop (mkF m 249 #[.val (.int j0), .val (.int j1), .val (.int j2), .val (.int j3), .val (.int n1), .val (.int r154), .val (.int r155), .val (.int n2), .val (.int r156), .val (.int r157), .val (.int kk), .val (.int nu), .val (.int r158), .val (.int r159), .val (.int ((j3 &&& (2147483647 : Int32)) % (3 : Int32))), .val (.ref w_MANY_TO_MANY), .val (.ref b267), .val (.ref b290), .val (.int (1 : Int32)), .val (.int (1 : Int32))] [(.int (1 : Int32)), (.int (1 : Int32))]))
                  refine GlH.back (fun _ k => XS.icmpNo X311.here hx rfl (hb hby at_249) rfl (teq (by decide : (1 : Int32) = (1 : Int32))).2 k) ?_
                  show GlH Z consts_1 _ _ _ _ _ _ _ (T311.setTop (mkF m 252 #[.val (.int j0), .val (.int j1), .val (.int j2), .val (.int j3), .val (.int n1), .val (.int r154), .val (.int r155), .val (.int n2), .val (.int r156), .val (.int r157), .val (.int kk), .val (.int nu), .val (.int r158), .val (.int r159), .val (.int ((j3 &&& (2147483647 : Int32)) % (3 : Int32))), .val (.ref w_MANY_TO_MANY), .val (.ref b267), .val (.ref b290), .val (.int (1 : Int32)), .val (.int (1 : Int32))] []))
                  refine GlH.back (fun _ k => XS.iconst X311.here hx rfl (hb hby at_252) k) ?_
                  show GlH Z consts_1 _ _ _ _ _ _ _ (T311.setTop (mkF m 253 #[.val (.int j0), .val (.int j1), .val (.int j2), .val (.int j3), .val (.int n1), .val (.int r154), .val (.int r155), .val (.int n2), .val (.int r156), .val (.int r157), .val (.int kk), .val (.int nu), .val (.int r158), .val (.int r159), .val (.int ((j3 &&& (2147483647 : Int32)) % (3 : Int32))), .val (.ref w_MANY_TO_MANY), .val (.ref b267), .val (.ref b290), .val (.int (1 : Int32)), .val (.int (1 : Int32))] [(.int (1 : Int32))]))
                  refine GlH.back (fun _ k => XS.goto X311.here hx rfl (pc0 := 253) (pc' := 257) rfl (hb hby at_253) (by decide) (by decide) k) ?_
                  show GlH Z consts_1 _ _ _ _ _ _ _ (T311.setTop (mkF m 257 #[.val (.int j0), .val (.int j1), .val (.int j2), .val (.int j3), .val (.int n1), .val (.int r154), .val (.int r155), .val (.int n2), .val (.int r156), .val (.int r157), .val (.int kk), .val (.int nu), .val (.int r158), .val (.int r159), .val (.int ((j3 &&& (2147483647 : Int32)) % (3 : Int32))), .val (.ref w_MANY_TO_MANY), .val (.ref b267), .val (.ref b290), .val (.int (1 : Int32)), .val (.int (1 : Int32))] [(.int (1 : Int32))]))
                  exact GlH.ret X311 eh311 hS290 (Nat.le_refl _) hh hZ290 hEL CHr290 (v := (some (.int (1 : Int32)))) (fun h => by rw [Bd.returns] at h; cases h) Bd.notSynchronized (fun fs hr => retN X311 hx (t := .boolean) (z := (1 : Int32)) Bd.returns (by simp) (hb hby at_257) hr) ⟨N311, rfl⟩ (by decide) (by decide)
                · have N311 := Fr.app N310 Nq311
                  refine GlH.back (fun _ k => st311 _ k) ?_
                  show GlH Z consts_1 _ _ _ _ _ _ _ (T311.setTop (mkF m 235 #[.val (.int j0), .val (.int j1), .val (.int j2), .val (.int j3), .val (.int n1), .val (.int r154), .val (.int r155), .val (.int n2), .val (.int r156), .val (.int r157), .val (.int kk), .val (.int nu), .val (.int r158), .val (.int r159), .val (.int ((j3 &&& (2147483647 : Int32)) % (3 : Int32))), .val (.ref w_MANY_TO_MANY), .val (.ref b267), .val (.ref b290), .val (.int (1 : Int32)), .unset] [(.int (0 : Int32))]))
                  refine GlH.back (fun _ k => XS.ifYes X311.here hx rfl (pc0 := 235) (pc' := 242) rfl (hb hby at_235) rfl ((if0 _ _).trans (teq (by decide : (0 : Int32) = (0 : Int32))).1) (by decide) (by decide) k) ?_
                  show GlH Z consts_1 _ _ _ _ _ _ _ (T311.setTop (mkF m 242 #[.val (.int j0), .val (.int j1), .val (.int j2), .val (.int j3), .val (.int n1), .val (.int r154), .val (.int r155), .val (.int n2), .val (.int r156), .val (.int r157), .val (.int kk), .val (.int nu), .val (.int r158), .val (.int r159), .val (.int ((j3 &&& (2147483647 : Int32)) % (3 : Int32))), .val (.ref w_MANY_TO_MANY), .val (.ref b267), .val (.ref b290), .val (.int (1 : Int32)), .unset] []))
                  refine GlH.back (fun _ k => XS.iconst X311.here hx rfl (hb hby at_242) k) ?_
                  show GlH Z consts_1 _ _ _ _ _ _ _ (T311.setTop (mkF m 243 #[.val (.int j0), .val (.int j1), .val (.int j2), .val (.int j3), .val (.int n1), .val (.int r154), .val (.int r155), .val (.int n2), .val (.int r156), .val (.int r157), .val (.int kk), .val (.int nu), .val (.int r158), .val (.int r159), .val (.int ((j3 &&& (2147483647 : Int32)) % (3 : Int32))), .val (.ref w_MANY_TO_MANY), .val (.ref b267), .val (.ref b290), .val (.int (1 : Int32)), .unset] [(.int (0 : Int32))]))
                  refine GlH.back (fun _ k => XS.istore X311.here hx rfl (hb hby at_243) rfl (l' := #[.val (.int j0), .val (.int j1), .val (.int j2), .val (.int j3), .val (.int n1), .val (.int r154), .val (.int r155), .val (.int n2), .val (.int r156), .val (.int r157), .val (.int kk), .val (.int nu), .val (.int r158), .val (.int r159), .val (.int ((j3 &&& (2147483647 : Int32)) % (3 : Int32))), .val (.ref w_MANY_TO_MANY), .val (.ref b267), .val (.ref b290), .val (.int (1 : Int32)), .val (.int (0 : Int32))]) rfl k) ?_
                  show GlH Z consts_1 _ _ _ _ _ _ _ (T311.setTop (mkF m 245 #[.val (.int j0), .val (.int j1), .val (.int j2), .val (.int j3), .val (.int n1), .val (.int r154), .val (.int r155), .val (.int n2), .val (.int r156), .val (.int r157), .val (.int kk), .val (.int nu), .val (.int r158), .val (.int r159), .val (.int ((j3 &&& (2147483647 : Int32)) % (3 : Int32))), .val (.ref w_MANY_TO_MANY), .val (.ref b267), .val (.ref b290), .val (.int (1 : Int32)), .val (.int (0 : Int32))] []))
                  refine GlH.back (fun _ k => XS.iload X311.here hx rfl (hb hby at_245) rfl k) ?_
                  show GlH Z consts_1 _ _ _ _ _ _ _ (T311.setTop (mkF m 247 #[.val (.int j0), .val (.int j1), .val (.int j2), .val (.int j3), .val (.int n1), .val (.int r154), .val (.int r155), .val (.int n2), .val (.int r156), .val (.int r157), .val (.int kk), .val (.int nu), .val (.int r158), .val (.int r159), .val (.int ((j3 &&& (2147483647 : Int32)) % (3 : Int32))), .val (.ref w_MANY_TO_MANY), .val (.ref b267), .val (.ref b290), .val (.int (1 : Int32)), .val (.int (0 : Int32))] [(.int (1 : Int32))]))
                  refine GlH.back (fun _ k => XS.iload X311.here hx rfl (hb hby at_247) rfl k) ?_
                  show GlH Z consts_1 _ _ _ _ _ _ _ (T311.setTop (mkF m 249 #[.val (.int j0), .val (.int j1), .val (.int j2), .val (.int j3), .val (.int n1), .val (.int r154), .val (.int r155), .val (.int n2), .val (.int r156), .val (.int r157), .val (.int kk), .val (.int nu), .val (.int r158), .val (.int r159), .val (.int ((j3 &&& (2147483647 : Int32)) % (3 : Int32))), .val (.ref w_MANY_TO_MANY), .val (.ref b267), .val (.ref b290), .val (.int (1 : Int32)), .val (.int (0 : Int32))] [(.int (0 : Int32)), (.int (1 : Int32))]))
                  exact (hy298.elim hs310 hs311).elim
            · have N298 := Fr.app N290 Nq298
              refine GlH.back (fun _ k => st298.trans k) ?_
              show GlH Z consts_1 _ _ _ _ _ _ _ (T298.setTop (mkF m 195 #[.val (.int j0), .val (.int j1), .val (.int j2), .val (.int j3), .val (.int n1), .val (.int r154), .val (.int r155), .val (.int n2), .val (.int r156), .val (.int r157), .val (.int kk), .val (.int nu), .val (.int r158), .val (.int r159), .val (.int ((j3 &&& (2147483647 : Int32)) % (3 : Int32))), .val (.ref w_MANY_TO_MANY), .val (.ref b267), .val (.ref b290), .unset, .unset] [(.int (0 : Int32))]))
              refine GlH.back (fun _ k => XS.istore X298.here hx rfl (hb hby at_195) rfl (l' := #[.val (.int j0), .val (.int j1), .val (.int j2), .val (.int j3), .val (.int n1), .val (.int r154), .val (.int r155), .val (.int n2), .val (.int r156), .val (.int r157), .val (.int kk), .val (.int nu), .val (.int r158), .val (.int r159), .val (.int ((j3 &&& (2147483647 : Int32)) % (3 : Int32))), .val (.ref w_MANY_TO_MANY), .val (.ref b267), .val (.ref b290), .val (.int (0 : Int32)), .unset]) rfl k) ?_
              show GlH Z consts_1 _ _ _ _ _ _ _ (T298.setTop (mkF m 197 #[.val (.int j0), .val (.int j1), .val (.int j2), .val (.int j3), .val (.int n1), .val (.int r154), .val (.int r155), .val (.int n2), .val (.int r156), .val (.int r157), .val (.int kk), .val (.int nu), .val (.int r158), .val (.int r159), .val (.int ((j3 &&& (2147483647 : Int32)) % (3 : Int32))), .val (.ref w_MANY_TO_MANY), .val (.ref b267), .val (.ref b290), .val (.int (0 : Int32)), .unset] []))
              refine GlH.back (fun _ k => XS.iload X298.here hx rfl (hb hby at_197) rfl k) ?_
              show GlH Z consts_1 _ _ _ _ _ _ _ (T298.setTop (mkF m 199 #[.val (.int j0), .val (.int j1), .val (.int j2), .val (.int j3), .val (.int n1), .val (.int r154), .val (.int r155), .val (.int n2), .val (.int r156), .val (.int r157), .val (.int kk), .val (.int nu), .val (.int r158), .val (.int r159), .val (.int ((j3 &&& (2147483647 : Int32)) % (3 : Int32))), .val (.ref w_MANY_TO_MANY), .val (.ref b267), .val (.ref b290), .val (.int (0 : Int32)), .unset] [(.int nu)]))
              refine GlH.back (fun _ k => XS.ifNo X298.here hx rfl (hb hby at_199) rfl ((if0 _ _).trans (teq (hc170_289 : nu = (0 : Int32))).2) k) ?_
              show GlH Z consts_1 _ _ _ _ _ _ _ (T298.setTop (mkF m 202 #[.val (.int j0), .val (.int j1), .val (.int j2), .val (.int j3), .val (.int n1), .val (.int r154), .val (.int r155), .val (.int n2), .val (.int r156), .val (.int r157), .val (.int kk), .val (.int nu), .val (.int r158), .val (.int r159), .val (.int ((j3 &&& (2147483647 : Int32)) % (3 : Int32))), .val (.ref w_MANY_TO_MANY), .val (.ref b267), .val (.ref b290), .val (.int (0 : Int32)), .unset] []))
              refine GlH.back (fun _ k => XS.iload X298.here hx rfl (hb hby at_202) rfl k) ?_
              show GlH Z consts_1 _ _ _ _ _ _ _ (T298.setTop (mkF m 204 #[.val (.int j0), .val (.int j1), .val (.int j2), .val (.int j3), .val (.int n1), .val (.int r154), .val (.int r155), .val (.int n2), .val (.int r156), .val (.int r157), .val (.int kk), .val (.int nu), .val (.int r158), .val (.int r159), .val (.int ((j3 &&& (2147483647 : Int32)) % (3 : Int32))), .val (.ref w_MANY_TO_MANY), .val (.ref b267), .val (.ref b290), .val (.int (0 : Int32)), .unset] [(.int n1)]))
              refine GlH.back (fun _ k => XS.iload X298.here hx rfl (hb hby at_204) rfl k) ?_
              show GlH Z consts_1 _ _ _ _ _ _ _ (T298.setTop (mkF m 206 #[.val (.int j0), .val (.int j1), .val (.int j2), .val (.int j3), .val (.int n1), .val (.int r154), .val (.int r155), .val (.int n2), .val (.int r156), .val (.int r157), .val (.int kk), .val (.int nu), .val (.int r158), .val (.int r159), .val (.int ((j3 &&& (2147483647 : Int32)) % (3 : Int32))), .val (.ref w_MANY_TO_MANY), .val (.ref b267), .val (.ref b290), .val (.int (0 : Int32)), .unset] [(.int r154), (.int n1)]))
              refine GlH.back (fun _ k => XS.iload X298.here hx rfl (hb hby at_206) rfl k) ?_
              show GlH Z consts_1 _ _ _ _ _ _ _ (T298.setTop (mkF m 208 #[.val (.int j0), .val (.int j1), .val (.int j2), .val (.int j3), .val (.int n1), .val (.int r154), .val (.int r155), .val (.int n2), .val (.int r156), .val (.int r157), .val (.int kk), .val (.int nu), .val (.int r158), .val (.int r159), .val (.int ((j3 &&& (2147483647 : Int32)) % (3 : Int32))), .val (.ref w_MANY_TO_MANY), .val (.ref b267), .val (.ref b290), .val (.int (0 : Int32)), .unset] [(.int r155), (.int r154), (.int n1)]))
              refine GlH.back (fun _ k => XS.iload X298.here hx rfl (hb hby at_208) rfl k) ?_
              show GlH Z consts_1 _ _ _ _ _ _ _ (T298.setTop (mkF m 210 #[.val (.int j0), .val (.int j1), .val (.int j2), .val (.int j3), .val (.int n1), .val (.int r154), .val (.int r155), .val (.int n2), .val (.int r156), .val (.int r157), .val (.int kk), .val (.int nu), .val (.int r158), .val (.int r159), .val (.int ((j3 &&& (2147483647 : Int32)) % (3 : Int32))), .val (.ref w_MANY_TO_MANY), .val (.ref b267), .val (.ref b290), .val (.int (0 : Int32)), .unset] [(.int kk), (.int r155), (.int r154), (.int n1)]))
              refine GlH.back (fun _ k => XS.iload X298.here hx rfl (hb hby at_210) rfl k) ?_
              show GlH Z consts_1 _ _ _ _ _ _ _ (T298.setTop (mkF m 212 #[.val (.int j0), .val (.int j1), .val (.int j2), .val (.int j3), .val (.int n1), .val (.int r154), .val (.int r155), .val (.int n2), .val (.int r156), .val (.int r157), .val (.int kk), .val (.int nu), .val (.int r158), .val (.int r159), .val (.int ((j3 &&& (2147483647 : Int32)) % (3 : Int32))), .val (.ref w_MANY_TO_MANY), .val (.ref b267), .val (.ref b290), .val (.int (0 : Int32)), .unset] [(.int r158), (.int kk), (.int r155), (.int r154), (.int n1)]))
              refine GlH.back (fun _ k => XS.iload X298.here hx rfl (hb hby at_212) rfl k) ?_
              show GlH Z consts_1 _ _ _ _ _ _ _ (T298.setTop (mkF m 214 #[.val (.int j0), .val (.int j1), .val (.int j2), .val (.int j3), .val (.int n1), .val (.int r154), .val (.int r155), .val (.int n2), .val (.int r156), .val (.int r157), .val (.int kk), .val (.int nu), .val (.int r158), .val (.int r159), .val (.int ((j3 &&& (2147483647 : Int32)) % (3 : Int32))), .val (.ref w_MANY_TO_MANY), .val (.ref b267), .val (.ref b290), .val (.int (0 : Int32)), .unset] [(.int r159), (.int r158), (.int kk), (.int r155), (.int r154), (.int n1)]))
              obtain ⟨_, _, ⟨T312, L312, k312, n312⟩, -, X312, ⟨Lc312, hQ312, l312, y312, z312⟩, st312⟩ := Jvm.LawKit.callS X298 hx (y := (⟨"com/example/partition_planner/partitionplanner/RelationshipRelatesPinLaw", "same", "(ICCICC)Z"⟩ : MethodName)) hown290 (mvT hZ290 (hw _ (List.mem_of_getElem? (i := 132) rfl))) (mvT hZ290 (hw _ (List.mem_of_getElem? (i := 133) rfl))) (mvT hZ290 (hw _ (List.mem_of_getElem? (i := 2) rfl))) (mvT hZ290 (hw _ (List.mem_of_getElem? (i := 134) rfl))) (by decide) (backOf (W := 0) (rmsm l Z a0 hw [] n1 r154 r155 kk r158 r159  T290.heap n0 Zc290 (own_n3 hn1) hkk) hZ290 (hw _ (List.mem_of_getElem? (i := 134) rfl)) (hw _ (List.mem_of_getElem? (i := 2) rfl)) (by decide) (by decide)) (g := (mkF m 214 #[.val (.int j0), .val (.int j1), .val (.int j2), .val (.int j3), .val (.int n1), .val (.int r154), .val (.int r155), .val (.int n2), .val (.int r156), .val (.int r157), .val (.int kk), .val (.int nu), .val (.int r158), .val (.int r159), .val (.int ((j3 &&& (2147483647 : Int32)) % (3 : Int32))), .val (.ref w_MANY_TO_MANY), .val (.ref b267), .val (.ref b290), .val (.int (0 : Int32)), .unset] [(.int r159), (.int r158), (.int kk), (.int r155), (.int r154), (.int n1)])) rfl (by rw [hml]; rfl) (argsL := [(.int n1), (.int r154), (.int r155), (.int kk), (.int r158), (.int r159)]) (rest := []) (lenOf pd__ICCICC_Z rfl) rfl (by show 2 * 0 + _ ≤ _; exact Nat.le_of_eq rfl) (hb hby at_214) (fun _ _ => ⟨rfl, eh298, (by decide : 23 + 0 ≤ _), (by decide : 156 + 0 ≤ _)⟩)
              dsimp only [Pt.U, Pt.locs, Pt.cells, Pt.slots] at X312 l312 y312 z312 st312 hQ312
              replace l312 := Eq.symm l312
              replace y312 := Eq.symm y312
              replace z312 := Eq.symm z312
              subst l312 y312 z312
              obtain ⟨Nq312, hQ312⟩ := hQ312
              rcases hQ312 with ⟨rfl, eh312, hs312⟩ | ⟨rfl, eh312, hs312⟩
              · have N312 := Fr.app N298 Nq312
                refine GlH.back (fun _ k => st312 _ k) ?_
                show GlH Z consts_1 _ _ _ _ _ _ _ (T312.setTop (mkF m 217 #[.val (.int j0), .val (.int j1), .val (.int j2), .val (.int j3), .val (.int n1), .val (.int r154), .val (.int r155), .val (.int n2), .val (.int r156), .val (.int r157), .val (.int kk), .val (.int nu), .val (.int r158), .val (.int r159), .val (.int ((j3 &&& (2147483647 : Int32)) % (3 : Int32))), .val (.ref w_MANY_TO_MANY), .val (.ref b267), .val (.ref b290), .val (.int (0 : Int32)), .unset] [(.int (1 : Int32))]))
                refine GlH.back (fun _ k => XS.ifYes X312.here hx rfl (pc0 := 217) (pc' := 238) rfl (hb hby at_217) rfl ((if0 _ _).trans (feq (by decide : ¬ (1 : Int32) = (0 : Int32))).2) (by decide) (by decide) k) ?_
                show GlH Z consts_1 _ _ _ _ _ _ _ (T312.setTop (mkF m 238 #[.val (.int j0), .val (.int j1), .val (.int j2), .val (.int j3), .val (.int n1), .val (.int r154), .val (.int r155), .val (.int n2), .val (.int r156), .val (.int r157), .val (.int kk), .val (.int nu), .val (.int r158), .val (.int r159), .val (.int ((j3 &&& (2147483647 : Int32)) % (3 : Int32))), .val (.ref w_MANY_TO_MANY), .val (.ref b267), .val (.ref b290), .val (.int (0 : Int32)), .unset] []))
                refine GlH.back (fun _ k => XS.iconst X312.here hx rfl (hb hby at_238) k) ?_
                show GlH Z consts_1 _ _ _ _ _ _ _ (T312.setTop (mkF m 239 #[.val (.int j0), .val (.int j1), .val (.int j2), .val (.int j3), .val (.int n1), .val (.int r154), .val (.int r155), .val (.int n2), .val (.int r156), .val (.int r157), .val (.int kk), .val (.int nu), .val (.int r158), .val (.int r159), .val (.int ((j3 &&& (2147483647 : Int32)) % (3 : Int32))), .val (.ref w_MANY_TO_MANY), .val (.ref b267), .val (.ref b290), .val (.int (0 : Int32)), .unset] [(.int (1 : Int32))]))
                refine GlH.back (fun _ k => XS.goto X312.here hx rfl (pc0 := 239) (pc' := 243) rfl (hb hby at_239) (by decide) (by decide) k) ?_
                show GlH Z consts_1 _ _ _ _ _ _ _ (T312.setTop (mkF m 243 #[.val (.int j0), .val (.int j1), .val (.int j2), .val (.int j3), .val (.int n1), .val (.int r154), .val (.int r155), .val (.int n2), .val (.int r156), .val (.int r157), .val (.int kk), .val (.int nu), .val (.int r158), .val (.int r159), .val (.int ((j3 &&& (2147483647 : Int32)) % (3 : Int32))), .val (.ref w_MANY_TO_MANY), .val (.ref b267), .val (.ref b290), .val (.int (0 : Int32)), .unset] [(.int (1 : Int32))]))
                refine GlH.back (fun _ k => XS.istore X312.here hx rfl (hb hby at_243) rfl (l' := #[.val (.int j0), .val (.int j1), .val (.int j2), .val (.int j3), .val (.int n1), .val (.int r154), .val (.int r155), .val (.int n2), .val (.int r156), .val (.int r157), .val (.int kk), .val (.int nu), .val (.int r158), .val (.int r159), .val (.int ((j3 &&& (2147483647 : Int32)) % (3 : Int32))), .val (.ref w_MANY_TO_MANY), .val (.ref b267), .val (.ref b290), .val (.int (0 : Int32)), .val (.int (1 : Int32))]) rfl k) ?_
                show GlH Z consts_1 _ _ _ _ _ _ _ (T312.setTop (mkF m 245 #[.val (.int j0), .val (.int j1), .val (.int j2), .val (.int j3), .val (.int n1), .val (.int r154), .val (.int r155), .val (.int n2), .val (.int r156), .val (.int r157), .val (.int kk), .val (.int nu), .val (.int r158), .val (.int r159), .val (.int ((j3 &&& (2147483647 : Int32)) % (3 : Int32))), .val (.ref w_MANY_TO_MANY), .val (.ref b267), .val (.ref b290), .val (.int (0 : Int32)), .val (.int (1 : Int32))] []))
                refine GlH.back (fun _ k => XS.iload X312.here hx rfl (hb hby at_245) rfl k) ?_
                show GlH Z consts_1 _ _ _ _ _ _ _ (T312.setTop (mkF m 247 #[.val (.int j0), .val (.int j1), .val (.int j2), .val (.int j3), .val (.int n1), .val (.int r154), .val (.int r155), .val (.int n2), .val (.int r156), .val (.int r157), .val (.int kk), .val (.int nu), .val (.int r158), .val (.int r159), .val (.int ((j3 &&& (2147483647 : Int32)) % (3 : Int32))), .val (.ref w_MANY_TO_MANY), .val (.ref b267), .val (.ref b290), .val (.int (0 : Int32)), .val (.int (1 : Int32))] [(.int (0 : Int32))]))
                refine GlH.back (fun _ k => XS.iload X312.here hx rfl (hb hby at_247) rfl k) ?_
                show GlH Z consts_1 _ _ _ _ _ _ _ (T312.setTop (mkF m 249 #[.val (.int j0), .val (.int j1), .val (.int j2), .val (.int j3), .val (.int n1), .val (.int r154), .val (.int r155), .val (.int n2), .val (.int r156), .val (.int r157), .val (.int kk), .val (.int nu), .val (.int r158), .val (.int r159), .val (.int ((j3 &&& (2147483647 : Int32)) % (3 : Int32))), .val (.ref w_MANY_TO_MANY), .val (.ref b267), .val (.ref b290), .val (.int (0 : Int32)), .val (.int (1 : Int32))] [(.int (1 : Int32)), (.int (0 : Int32))]))
                exact (hy298 hs312).elim
              · have N312 := Fr.app N298 Nq312
                refine GlH.back (fun _ k => st312 _ k) ?_
                show GlH Z consts_1 _ _ _ _ _ _ _ (T312.setTop (mkF m 217 #[.val (.int j0), .val (.int j1), .val (.int j2), .val (.int j3), .val (.int n1), .val (.int r154), .val (.int r155), .val (.int n2), .val (.int r156), .val (.int r157), .val (.int kk), .val (.int nu), .val (.int r158), .val (.int r159), .val (.int ((j3 &&& (2147483647 : Int32)) % (3 : Int32))), .val (.ref w_MANY_TO_MANY), .val (.ref b267), .val (.ref b290), .val (.int (0 : Int32)), .unset] [(.int (0 : Int32))]))
                refine GlH.back (fun _ k => XS.ifNo X312.here hx rfl (hb hby at_217) rfl ((if0 _ _).trans (teq (by decide : (0 : Int32) = (0 : Int32))).2) k) ?_
                show GlH Z consts_1 _ _ _ _ _ _ _ (T312.setTop (mkF m 220 #[.val (.int j0), .val (.int j1), .val (.int j2), .val (.int j3), .val (.int n1), .val (.int r154), .val (.int r155), .val (.int n2), .val (.int r156), .val (.int r157), .val (.int kk), .val (.int nu), .val (.int r158), .val (.int r159), .val (.int ((j3 &&& (2147483647 : Int32)) % (3 : Int32))), .val (.ref w_MANY_TO_MANY), .val (.ref b267), .val (.ref b290), .val (.int (0 : Int32)), .unset] []))
                refine GlH.back (fun _ k => XS.iload X312.here hx rfl (hb hby at_220) rfl k) ?_
                show GlH Z consts_1 _ _ _ _ _ _ _ (T312.setTop (mkF m 222 #[.val (.int j0), .val (.int j1), .val (.int j2), .val (.int j3), .val (.int n1), .val (.int r154), .val (.int r155), .val (.int n2), .val (.int r156), .val (.int r157), .val (.int kk), .val (.int nu), .val (.int r158), .val (.int r159), .val (.int ((j3 &&& (2147483647 : Int32)) % (3 : Int32))), .val (.ref w_MANY_TO_MANY), .val (.ref b267), .val (.ref b290), .val (.int (0 : Int32)), .unset] [(.int n2)]))
                refine GlH.back (fun _ k => XS.iload X312.here hx rfl (hb hby at_222) rfl k) ?_
                show GlH Z consts_1 _ _ _ _ _ _ _ (T312.setTop (mkF m 224 #[.val (.int j0), .val (.int j1), .val (.int j2), .val (.int j3), .val (.int n1), .val (.int r154), .val (.int r155), .val (.int n2), .val (.int r156), .val (.int r157), .val (.int kk), .val (.int nu), .val (.int r158), .val (.int r159), .val (.int ((j3 &&& (2147483647 : Int32)) % (3 : Int32))), .val (.ref w_MANY_TO_MANY), .val (.ref b267), .val (.ref b290), .val (.int (0 : Int32)), .unset] [(.int r156), (.int n2)]))
                refine GlH.back (fun _ k => XS.iload X312.here hx rfl (hb hby at_224) rfl k) ?_
                show GlH Z consts_1 _ _ _ _ _ _ _ (T312.setTop (mkF m 226 #[.val (.int j0), .val (.int j1), .val (.int j2), .val (.int j3), .val (.int n1), .val (.int r154), .val (.int r155), .val (.int n2), .val (.int r156), .val (.int r157), .val (.int kk), .val (.int nu), .val (.int r158), .val (.int r159), .val (.int ((j3 &&& (2147483647 : Int32)) % (3 : Int32))), .val (.ref w_MANY_TO_MANY), .val (.ref b267), .val (.ref b290), .val (.int (0 : Int32)), .unset] [(.int r157), (.int r156), (.int n2)]))
                refine GlH.back (fun _ k => XS.iload X312.here hx rfl (hb hby at_226) rfl k) ?_
                show GlH Z consts_1 _ _ _ _ _ _ _ (T312.setTop (mkF m 228 #[.val (.int j0), .val (.int j1), .val (.int j2), .val (.int j3), .val (.int n1), .val (.int r154), .val (.int r155), .val (.int n2), .val (.int r156), .val (.int r157), .val (.int kk), .val (.int nu), .val (.int r158), .val (.int r159), .val (.int ((j3 &&& (2147483647 : Int32)) % (3 : Int32))), .val (.ref w_MANY_TO_MANY), .val (.ref b267), .val (.ref b290), .val (.int (0 : Int32)), .unset] [(.int kk), (.int r157), (.int r156), (.int n2)]))
                refine GlH.back (fun _ k => XS.iload X312.here hx rfl (hb hby at_228) rfl k) ?_
                show GlH Z consts_1 _ _ _ _ _ _ _ (T312.setTop (mkF m 230 #[.val (.int j0), .val (.int j1), .val (.int j2), .val (.int j3), .val (.int n1), .val (.int r154), .val (.int r155), .val (.int n2), .val (.int r156), .val (.int r157), .val (.int kk), .val (.int nu), .val (.int r158), .val (.int r159), .val (.int ((j3 &&& (2147483647 : Int32)) % (3 : Int32))), .val (.ref w_MANY_TO_MANY), .val (.ref b267), .val (.ref b290), .val (.int (0 : Int32)), .unset] [(.int r158), (.int kk), (.int r157), (.int r156), (.int n2)]))
                refine GlH.back (fun _ k => XS.iload X312.here hx rfl (hb hby at_230) rfl k) ?_
                show GlH Z consts_1 _ _ _ _ _ _ _ (T312.setTop (mkF m 232 #[.val (.int j0), .val (.int j1), .val (.int j2), .val (.int j3), .val (.int n1), .val (.int r154), .val (.int r155), .val (.int n2), .val (.int r156), .val (.int r157), .val (.int kk), .val (.int nu), .val (.int r158), .val (.int r159), .val (.int ((j3 &&& (2147483647 : Int32)) % (3 : Int32))), .val (.ref w_MANY_TO_MANY), .val (.ref b267), .val (.ref b290), .val (.int (0 : Int32)), .unset] [(.int r159), (.int r158), (.int kk), (.int r157), (.int r156), (.int n2)]))
                obtain ⟨_, _, ⟨T313, L313, k313, n313⟩, -, X313, ⟨Lc313, hQ313, l313, y313, z313⟩, st313⟩ := Jvm.LawKit.callS X312 hx (y := (⟨"com/example/partition_planner/partitionplanner/RelationshipRelatesPinLaw", "same", "(ICCICC)Z"⟩ : MethodName)) hown290 (mvT hZ290 (hw _ (List.mem_of_getElem? (i := 132) rfl))) (mvT hZ290 (hw _ (List.mem_of_getElem? (i := 133) rfl))) (mvT hZ290 (hw _ (List.mem_of_getElem? (i := 2) rfl))) (mvT hZ290 (hw _ (List.mem_of_getElem? (i := 134) rfl))) (by decide) (backOf (W := 0) (rmsm l Z a0 hw [] n2 r156 r157 kk r158 r159  T290.heap n0 Zc290 (own_n3 hn2) hkk) hZ290 (hw _ (List.mem_of_getElem? (i := 134) rfl)) (hw _ (List.mem_of_getElem? (i := 2) rfl)) (by decide) (by decide)) (g := (mkF m 232 #[.val (.int j0), .val (.int j1), .val (.int j2), .val (.int j3), .val (.int n1), .val (.int r154), .val (.int r155), .val (.int n2), .val (.int r156), .val (.int r157), .val (.int kk), .val (.int nu), .val (.int r158), .val (.int r159), .val (.int ((j3 &&& (2147483647 : Int32)) % (3 : Int32))), .val (.ref w_MANY_TO_MANY), .val (.ref b267), .val (.ref b290), .val (.int (0 : Int32)), .unset] [(.int r159), (.int r158), (.int kk), (.int r157), (.int r156), (.int n2)])) rfl (by rw [hml]; rfl) (argsL := [(.int n2), (.int r156), (.int r157), (.int kk), (.int r158), (.int r159)]) (rest := []) (lenOf pd__ICCICC_Z rfl) rfl (by show 2 * 0 + _ ≤ _; exact Nat.le_of_eq rfl) (hb hby at_232) (fun _ _ => ⟨rfl, eh312, (by decide : 23 + 0 ≤ _), (by decide : 156 + 0 ≤ _)⟩)
                dsimp only [Pt.U, Pt.locs, Pt.cells, Pt.slots] at X313 l313 y313 z313 st313 hQ313
                replace l313 := Eq.symm l313
                replace y313 := Eq.symm y313
                replace z313 := Eq.symm z313
                subst l313 y313 z313
                obtain ⟨Nq313, hQ313⟩ := hQ313
                rcases hQ313 with ⟨rfl, eh313, hs313⟩ | ⟨rfl, eh313, hs313⟩
                · have N313 := Fr.app N312 Nq313
                  refine GlH.back (fun _ k => st313 _ k) ?_
                  show GlH Z consts_1 _ _ _ _ _ _ _ (T313.setTop (mkF m 235 #[.val (.int j0), .val (.int j1), .val (.int j2), .val (.int j3), .val (.int n1), .val (.int r154), .val (.int r155), .val (.int n2), .val (.int r156), .val (.int r157), .val (.int kk), .val (.int nu), .val (.int r158), .val (.int r159), .val (.int ((j3 &&& (2147483647 : Int32)) % (3 : Int32))), .val (.ref w_MANY_TO_MANY), .val (.ref b267), .val (.ref b290), .val (.int (0 : Int32)), .unset] [(.int (1 : Int32))]))
                  refine GlH.back (fun _ k => XS.ifNo X313.here hx rfl (hb hby at_235) rfl ((if0 _ _).trans (feq (by decide : ¬ (1 : Int32) = (0 : Int32))).1) k) ?_
                  show GlH Z consts_1 _ _ _ _ _ _ _ (T313.setTop (mkF m 238 #[.val (.int j0), .val (.int j1), .val (.int j2), .val (.int j3), .val (.int n1), .val (.int r154), .val (.int r155), .val (.int n2), .val (.int r156), .val (.int r157), .val (.int kk), .val (.int nu), .val (.int r158), .val (.int r159), .val (.int ((j3 &&& (2147483647 : Int32)) % (3 : Int32))), .val (.ref w_MANY_TO_MANY), .val (.ref b267), .val (.ref b290), .val (.int (0 : Int32)), .unset] []))
                  refine GlH.back (fun _ k => XS.iconst X313.here hx rfl (hb hby at_238) k) ?_
                  show GlH Z consts_1 _ _ _ _ _ _ _ (T313.setTop (mkF m 239 #[.val (.int j0), .val (.int j1), .val (.int j2), .val (.int j3), .val (.int n1), .val (.int r154), .val (.int r155), .val (.int n2), .val (.int r156), .val (.int r157), .val (.int kk), .val (.int nu), .val (.int r158), .val (.int r159), .val (.int ((j3 &&& (2147483647 : Int32)) % (3 : Int32))), .val (.ref w_MANY_TO_MANY), .val (.ref b267), .val (.ref b290), .val (.int (0 : Int32)), .unset] [(.int (1 : Int32))]))
                  refine GlH.back (fun _ k => XS.goto X313.here hx rfl (pc0 := 239) (pc' := 243) rfl (hb hby at_239) (by decide) (by decide) k) ?_
                  show GlH Z consts_1 _ _ _ _ _ _ _ (T313.setTop (mkF m 243 #[.val (.int j0), .val (.int j1), .val (.int j2), .val (.int j3), .val (.int n1), .val (.int r154), .val (.int r155), .val (.int n2), .val (.int r156), .val (.int r157), .val (.int kk), .val (.int nu), .val (.int r158), .val (.int r159), .val (.int ((j3 &&& (2147483647 : Int32)) % (3 : Int32))), .val (.ref w_MANY_TO_MANY), .val (.ref b267), .val (.ref b290), .val (.int (0 : Int32)), .unset] [(.int (1 : Int32))]))
                  refine GlH.back (fun _ k => XS.istore X313.here hx rfl (hb hby at_243) rfl (l' := #[.val (.int j0), .val (.int j1), .val (.int j2), .val (.int j3), .val (.int n1), .val (.int r154), .val (.int r155), .val (.int n2), .val (.int r156), .val (.int r157), .val (.int kk), .val (.int nu), .val (.int r158), .val (.int r159), .val (.int ((j3 &&& (2147483647 : Int32)) % (3 : Int32))), .val (.ref w_MANY_TO_MANY), .val (.ref b267), .val (.ref b290), .val (.int (0 : Int32)), .val (.int (1 : Int32))]) rfl k) ?_
                  show GlH Z consts_1 _ _ _ _ _ _ _ (T313.setTop (mkF m 245 #[.val (.int j0), .val (.int j1), .val (.int j2), .val (.int j3), .val (.int n1), .val (.int r154), .val (.int r155), .val (.int n2), .val (.int r156), .val (.int r157), .val (.int kk), .val (.int nu), .val (.int r158), .val (.int r159), .val (.int ((j3 &&& (2147483647 : Int32)) % (3 : Int32))), .val (.ref w_MANY_TO_MANY), .val (.ref b267), .val (.ref b290), .val (.int (0 : Int32)), .val (.int (1 : Int32))] []))
                  refine GlH.back (fun _ k => XS.iload X313.here hx rfl (hb hby at_245) rfl k) ?_
                  show GlH Z consts_1 _ _ _ _ _ _ _ (T313.setTop (mkF m 247 #[.val (.int j0), .val (.int j1), .val (.int j2), .val (.int j3), .val (.int n1), .val (.int r154), .val (.int r155), .val (.int n2), .val (.int r156), .val (.int r157), .val (.int kk), .val (.int nu), .val (.int r158), .val (.int r159), .val (.int ((j3 &&& (2147483647 : Int32)) % (3 : Int32))), .val (.ref w_MANY_TO_MANY), .val (.ref b267), .val (.ref b290), .val (.int (0 : Int32)), .val (.int (1 : Int32))] [(.int (0 : Int32))]))
                  refine GlH.back (fun _ k => XS.iload X313.here hx rfl (hb hby at_247) rfl k) ?_
                  show GlH Z consts_1 _ _ _ _ _ _ _ (T313.setTop (mkF m 249 #[.val (.int j0), .val (.int j1), .val (.int j2), .val (.int j3), .val (.int n1), .val (.int r154), .val (.int r155), .val (.int n2), .val (.int r156), .val (.int r157), .val (.int kk), .val (.int nu), .val (.int r158), .val (.int r159), .val (.int ((j3 &&& (2147483647 : Int32)) % (3 : Int32))), .val (.ref w_MANY_TO_MANY), .val (.ref b267), .val (.ref b290), .val (.int (0 : Int32)), .val (.int (1 : Int32))] [(.int (1 : Int32)), (.int (0 : Int32))]))
                  exact (hz298 hs313).elim
                · have N313 := Fr.app N312 Nq313
                  refine GlH.back (fun _ k => st313 _ k) ?_
                  show GlH Z consts_1 _ _ _ _ _ _ _ (T313.setTop (mkF m 235 #[.val (.int j0), .val (.int j1), .val (.int j2), .val (.int j3), .val (.int n1), .val (.int r154), .val (.int r155), .val (.int n2), .val (.int r156), .val (.int r157), .val (.int kk), .val (.int nu), .val (.int r158), .val (.int r159), .val (.int ((j3 &&& (2147483647 : Int32)) % (3 : Int32))), .val (.ref w_MANY_TO_MANY), .val (.ref b267), .val (.ref b290), .val (.int (0 : Int32)), .unset] [(.int (0 : Int32))]))
                  refine GlH.back (fun _ k => XS.ifYes X313.here hx rfl (pc0 := 235) (pc' := 242) rfl (hb hby at_235) rfl ((if0 _ _).trans (teq (by decide : (0 : Int32) = (0 : Int32))).1) (by decide) (by decide) k) ?_
                  show GlH Z consts_1 _ _ _ _ _ _ _ (T313.setTop (mkF m 242 #[.val (.int j0), .val (.int j1), .val (.int j2), .val (.int j3), .val (.int n1), .val (.int r154), .val (.int r155), .val (.int n2), .val (.int r156), .val (.int r157), .val (.int kk), .val (.int nu), .val (.int r158), .val (.int r159), .val (.int ((j3 &&& (2147483647 : Int32)) % (3 : Int32))), .val (.ref w_MANY_TO_MANY), .val (.ref b267), .val (.ref b290), .val (.int (0 : Int32)), .unset] []))
                  refine GlH.back (fun _ k => XS.iconst X313.here hx rfl (hb hby at_242) k) ?_
                  show GlH Z consts_1 _ _ _ _ _ _ _ (T313.setTop (mkF m 243 #[.val (.int j0), .val (.int j1), .val (.int j2), .val (.int j3), .val (.int n1), .val (.int r154), .val (.int r155), .val (.int n2), .val (.int r156), .val (.int r157), .val (.int kk), .val (.int nu), .val (.int r158), .val (.int r159), .val (.int ((j3 &&& (2147483647 : Int32)) % (3 : Int32))), .val (.ref w_MANY_TO_MANY), .val (.ref b267), .val (.ref b290), .val (.int (0 : Int32)), .unset] [(.int (0 : Int32))]))
                  refine GlH.back (fun _ k => XS.istore X313.here hx rfl (hb hby at_243) rfl (l' := #[.val (.int j0), .val (.int j1), .val (.int j2), .val (.int j3), .val (.int n1), .val (.int r154), .val (.int r155), .val (.int n2), .val (.int r156), .val (.int r157), .val (.int kk), .val (.int nu), .val (.int r158), .val (.int r159), .val (.int ((j3 &&& (2147483647 : Int32)) % (3 : Int32))), .val (.ref w_MANY_TO_MANY), .val (.ref b267), .val (.ref b290), .val (.int (0 : Int32)), .val (.int (0 : Int32))]) rfl k) ?_
                  show GlH Z consts_1 _ _ _ _ _ _ _ (T313.setTop (mkF m 245 #[.val (.int j0), .val (.int j1), .val (.int j2), .val (.int j3), .val (.int n1), .val (.int r154), .val (.int r155), .val (.int n2), .val (.int r156), .val (.int r157), .val (.int kk), .val (.int nu), .val (.int r158), .val (.int r159), .val (.int ((j3 &&& (2147483647 : Int32)) % (3 : Int32))), .val (.ref w_MANY_TO_MANY), .val (.ref b267), .val (.ref b290), .val (.int (0 : Int32)), .val (.int (0 : Int32))] []))
                  refine GlH.back (fun _ k => XS.iload X313.here hx rfl (hb hby at_245) rfl k) ?_
                  show GlH Z consts_1 _ _ _ _ _ _ _ (T313.setTop (mkF m 247 #[.val (.int j0), .val (.int j1), .val (.int j2), .val (.int j3), .val (.int n1), .val (.int r154), .val (.int r155), .val (.int n2), .val (.int r156), .val (.int r157), .val (.int kk), .val (.int nu), .val (.int r158), .val (.int r159), .val (.int ((j3 &&& (2147483647 : Int32)) % (3 : Int32))), .val (.ref w_MANY_TO_MANY), .val (.ref b267), .val (.ref b290), .val (.int (0 : Int32)), .val (.int (0 : Int32))] [(.int (0 : Int32))]))
                  refine GlH.back (fun _ k => XS.iload X313.here hx rfl (hb hby at_247) rfl k) ?_
                  show GlH Z consts_1 _ _ _ _ _ _ _ (T313.setTop (mkF m 249 #[.val (.int j0), .val (.int j1), .val (.int j2), .val (.int j3), .val (.int n1), .val (.int r154), .val (.int r155), .val (.int n2), .val (.int r156), .val (.int r157), .val (.int kk), .val (.int nu), .val (.int r158), .val (.int r159), .val (.int ((j3 &&& (2147483647 : Int32)) % (3 : Int32))), .val (.ref w_MANY_TO_MANY), .val (.ref b267), .val (.ref b290), .val (.int (0 : Int32)), .val (.int (0 : Int32))] [(.int (0 : Int32)), (.int (0 : Int32))]))
                  refine GlH.back (fun _ k => XS.icmpNo X313.here hx rfl (hb hby at_249) rfl (teq (by decide : (0 : Int32) = (0 : Int32))).2 k) ?_
                  show GlH Z consts_1 _ _ _ _ _ _ _ (T313.setTop (mkF m 252 #[.val (.int j0), .val (.int j1), .val (.int j2), .val (.int j3), .val (.int n1), .val (.int r154), .val (.int r155), .val (.int n2), .val (.int r156), .val (.int r157), .val (.int kk), .val (.int nu), .val (.int r158), .val (.int r159), .val (.int ((j3 &&& (2147483647 : Int32)) % (3 : Int32))), .val (.ref w_MANY_TO_MANY), .val (.ref b267), .val (.ref b290), .val (.int (0 : Int32)), .val (.int (0 : Int32))] []))
                  refine GlH.back (fun _ k => XS.iconst X313.here hx rfl (hb hby at_252) k) ?_
                  show GlH Z consts_1 _ _ _ _ _ _ _ (T313.setTop (mkF m 253 #[.val (.int j0), .val (.int j1), .val (.int j2), .val (.int j3), .val (.int n1), .val (.int r154), .val (.int r155), .val (.int n2), .val (.int r156), .val (.int r157), .val (.int kk), .val (.int nu), .val (.int r158), .val (.int r159), .val (.int ((j3 &&& (2147483647 : Int32)) % (3 : Int32))), .val (.ref w_MANY_TO_MANY), .val (.ref b267), .val (.ref b290), .val (.int (0 : Int32)), .val (.int (0 : Int32))] [(.int (1 : Int32))]))
                  refine GlH.back (fun _ k => XS.goto X313.here hx rfl (pc0 := 253) (pc' := 257) rfl (hb hby at_253) (by decide) (by decide) k) ?_
                  show GlH Z consts_1 _ _ _ _ _ _ _ (T313.setTop (mkF m 257 #[.val (.int j0), .val (.int j1), .val (.int j2), .val (.int j3), .val (.int n1), .val (.int r154), .val (.int r155), .val (.int n2), .val (.int r156), .val (.int r157), .val (.int kk), .val (.int nu), .val (.int r158), .val (.int r159), .val (.int ((j3 &&& (2147483647 : Int32)) % (3 : Int32))), .val (.ref w_MANY_TO_MANY), .val (.ref b267), .val (.ref b290), .val (.int (0 : Int32)), .val (.int (0 : Int32))] [(.int (1 : Int32))]))
                  exact GlH.ret X313 eh313 hS290 (Nat.le_refl _) hh hZ290 hEL CHr290 (v := (some (.int (1 : Int32)))) (fun h => by rw [Bd.returns] at h; cases h) Bd.notSynchronized (fun fs hr => retN X313 hx (t := .boolean) (z := (1 : Int32)) Bd.returns (by simp) (hb hby at_257) hr) ⟨N313, rfl⟩ (by decide) (by decide)
          · refine GlH.back (fun _ k => XS.ifNo X275.here hx rfl (hb hby at_170) rfl ((if0 _ _).trans (feq hc170_289).1) k) ?_
            show GlH Z consts_1 _ _ _ _ _ _ _ (T275.setTop (mkF m 173 #[.val (.int j0), .val (.int j1), .val (.int j2), .val (.int j3), .val (.int n1), .val (.int r154), .val (.int r155), .val (.int n2), .val (.int r156), .val (.int r157), .val (.int kk), .val (.int nu), .val (.int r158), .val (.int r159), .val (.int ((j3 &&& (2147483647 : Int32)) % (3 : Int32))), .val (.ref w_MANY_TO_MANY), .val (.ref b267), .unset, .unset, .unset] []))
            refine GlH.back (fun _ k => XS.aconstNull X275.here hx rfl (hb hby at_173) k) ?_
            show GlH Z consts_1 _ _ _ _ _ _ _ (T275.setTop (mkF m 174 #[.val (.int j0), .val (.int j1), .val (.int j2), .val (.int j3), .val (.int n1), .val (.int r154), .val (.int r155), .val (.int n2), .val (.int r156), .val (.int r157), .val (.int kk), .val (.int nu), .val (.int r158), .val (.int r159), .val (.int ((j3 &&& (2147483647 : Int32)) % (3 : Int32))), .val (.ref w_MANY_TO_MANY), .val (.ref b267), .unset, .unset, .unset] [.null]))
            refine GlH.back (fun _ k => XS.goto X275.here hx rfl (pc0 := 174) (pc' := 186) rfl (hb hby at_174) (by decide) (by decide) k) ?_
            show GlH Z consts_1 _ _ _ _ _ _ _ (T275.setTop (mkF m 186 #[.val (.int j0), .val (.int j1), .val (.int j2), .val (.int j3), .val (.int n1), .val (.int r154), .val (.int r155), .val (.int n2), .val (.int r156), .val (.int r157), .val (.int kk), .val (.int nu), .val (.int r158), .val (.int r159), .val (.int ((j3 &&& (2147483647 : Int32)) % (3 : Int32))), .val (.ref w_MANY_TO_MANY), .val (.ref b267), .unset, .unset, .unset] [.null]))
            refine GlH.back (fun _ k => XS.astore X275.here hx rfl (hb hby at_186) rfl rfl (l' := #[.val (.int j0), .val (.int j1), .val (.int j2), .val (.int j3), .val (.int n1), .val (.int r154), .val (.int r155), .val (.int n2), .val (.int r156), .val (.int r157), .val (.int kk), .val (.int nu), .val (.int r158), .val (.int r159), .val (.int ((j3 &&& (2147483647 : Int32)) % (3 : Int32))), .val (.ref w_MANY_TO_MANY), .val (.ref b267), .val .null, .unset, .unset]) rfl k) ?_
            show GlH Z consts_1 _ _ _ _ _ _ _ (T275.setTop (mkF m 188 #[.val (.int j0), .val (.int j1), .val (.int j2), .val (.int j3), .val (.int n1), .val (.int r154), .val (.int r155), .val (.int n2), .val (.int r156), .val (.int r157), .val (.int kk), .val (.int nu), .val (.int r158), .val (.int r159), .val (.int ((j3 &&& (2147483647 : Int32)) % (3 : Int32))), .val (.ref w_MANY_TO_MANY), .val (.ref b267), .val .null, .unset, .unset] []))
            refine GlH.back (fun _ k => XS.aload X275.here hx rfl (hb hby at_188) rfl rfl k) ?_
            show GlH Z consts_1 _ _ _ _ _ _ _ (T275.setTop (mkF m 190 #[.val (.int j0), .val (.int j1), .val (.int j2), .val (.int j3), .val (.int n1), .val (.int r154), .val (.int r155), .val (.int n2), .val (.int r156), .val (.int r157), .val (.int kk), .val (.int nu), .val (.int r158), .val (.int r159), .val (.int ((j3 &&& (2147483647 : Int32)) % (3 : Int32))), .val (.ref w_MANY_TO_MANY), .val (.ref b267), .val .null, .unset, .unset] [(.ref b267)]))
            refine GlH.back (fun _ k => XS.aload X275.here hx rfl (hb hby at_190) rfl rfl k) ?_
            show GlH Z consts_1 _ _ _ _ _ _ _ (T275.setTop (mkF m 192 #[.val (.int j0), .val (.int j1), .val (.int j2), .val (.int j3), .val (.int n1), .val (.int r154), .val (.int r155), .val (.int n2), .val (.int r156), .val (.int r157), .val (.int kk), .val (.int nu), .val (.int r158), .val (.int r159), .val (.int ((j3 &&& (2147483647 : Int32)) % (3 : Int32))), .val (.ref w_MANY_TO_MANY), .val (.ref b267), .val .null, .unset, .unset] [.null, (.ref b267)]))
            have f315 := (f276.keep Kq275)
            have f316 := (f285.keep Kq275)
            have f317 := (Ex271.keep Kq275)
            obtain ⟨cq314, kq314, q314a, q314b, q314c⟩ := isOf hZ275 rfl f315
            obtain ⟨_, _, ⟨T314, L314, k314, n314⟩, -, X314, ⟨Lc314, hQ314, l314, y314, z314⟩, st314⟩ := X275.virtualBack hx (y := (⟨"com/example/partition_planner/partitionplanner/Relationship", "relates", "(Ljava/lang/String;)Z"⟩ : MethodName)) (z := (⟨"com/example/partition_planner/partitionplanner/Relationship", "relates", "(Ljava/lang/String;)Z"⟩ : MethodName)) hown275 (mvT hZ275 (hw _ (List.mem_of_getElem? (i := 117) rfl))) (mvT hZ275 (hw _ (List.mem_of_getElem? (i := 118) rfl))) (notFace_of_selects (args := #[]) (mvT hZ275 (hw _ (List.mem_of_getElem? (i := 120) rfl)))) (mvT hZ275 (hw _ (List.mem_of_getElem? (i := 120) rfl))) (mvT hZ275 (hw _ (List.mem_of_getElem? (i := 119) rfl))) (by decide) (backOf (W := 0) (rmrelN l Z a0 hw [] b267 b270 b271 T275.heap n0 Zc275 f315 Ff275 Fs275 f316 f317) hZ275 (hw _ (List.mem_of_getElem? (i := 121) rfl)) (hw _ (List.mem_of_getElem? (i := 10) rfl)) (by decide) (by decide)) q314a q314c (g := (mkF m 192 #[.val (.int j0), .val (.int j1), .val (.int j2), .val (.int j3), .val (.int n1), .val (.int r154), .val (.int r155), .val (.int n2), .val (.int r156), .val (.int r157), .val (.int kk), .val (.int nu), .val (.int r158), .val (.int r159), .val (.int ((j3 &&& (2147483647 : Int32)) % (3 : Int32))), .val (.ref w_MANY_TO_MANY), .val (.ref b267), .val .null, .unset, .unset] [.null, (.ref b267)])) rfl (by rw [hml]; rfl) (Steps.refl _) (argsL := [.null]) (rest := []) (lenOf pd__Ljava_lang_String__Z rfl) rfl (by show 2 * 0 + _ ≤ _; exact Nat.le_of_eq rfl) (hb hby at_192) (fun _ _ => ⟨rfl, rfl, (by decide : 19 + 0 ≤ _), (by decide : 148 + 0 ≤ _)⟩)
            dsimp only [Pt.U, Pt.locs, Pt.cells, Pt.slots] at X314 l314 y314 z314 st314 hQ314
            replace l314 := Eq.symm l314
            replace y314 := Eq.symm y314
            replace z314 := Eq.symm z314
            subst l314 y314 z314
            obtain ⟨Nq314, rfl, eh314⟩ := hQ314
            have N314 := Fr.app N275 Nq314
            refine GlH.back (fun _ k => st314.trans k) ?_
            show GlH Z consts_1 _ _ _ _ _ _ _ (T314.setTop (mkF m 195 #[.val (.int j0), .val (.int j1), .val (.int j2), .val (.int j3), .val (.int n1), .val (.int r154), .val (.int r155), .val (.int n2), .val (.int r156), .val (.int r157), .val (.int kk), .val (.int nu), .val (.int r158), .val (.int r159), .val (.int ((j3 &&& (2147483647 : Int32)) % (3 : Int32))), .val (.ref w_MANY_TO_MANY), .val (.ref b267), .val .null, .unset, .unset] [(.int (0 : Int32))]))
            refine GlH.back (fun _ k => XS.istore X314.here hx rfl (hb hby at_195) rfl (l' := #[.val (.int j0), .val (.int j1), .val (.int j2), .val (.int j3), .val (.int n1), .val (.int r154), .val (.int r155), .val (.int n2), .val (.int r156), .val (.int r157), .val (.int kk), .val (.int nu), .val (.int r158), .val (.int r159), .val (.int ((j3 &&& (2147483647 : Int32)) % (3 : Int32))), .val (.ref w_MANY_TO_MANY), .val (.ref b267), .val .null, .val (.int (0 : Int32)), .unset]) rfl k) ?_
            show GlH Z consts_1 _ _ _ _ _ _ _ (T314.setTop (mkF m 197 #[.val (.int j0), .val (.int j1), .val (.int j2), .val (.int j3), .val (.int n1), .val (.int r154), .val (.int r155), .val (.int n2), .val (.int r156), .val (.int r157), .val (.int kk), .val (.int nu), .val (.int r158), .val (.int r159), .val (.int ((j3 &&& (2147483647 : Int32)) % (3 : Int32))), .val (.ref w_MANY_TO_MANY), .val (.ref b267), .val .null, .val (.int (0 : Int32)), .unset] []))
            refine GlH.back (fun _ k => XS.iload X314.here hx rfl (hb hby at_197) rfl k) ?_
            show GlH Z consts_1 _ _ _ _ _ _ _ (T314.setTop (mkF m 199 #[.val (.int j0), .val (.int j1), .val (.int j2), .val (.int j3), .val (.int n1), .val (.int r154), .val (.int r155), .val (.int n2), .val (.int r156), .val (.int r157), .val (.int kk), .val (.int nu), .val (.int r158), .val (.int r159), .val (.int ((j3 &&& (2147483647 : Int32)) % (3 : Int32))), .val (.ref w_MANY_TO_MANY), .val (.ref b267), .val .null, .val (.int (0 : Int32)), .unset] [(.int nu)]))
            refine GlH.back (fun _ k => XS.ifYes X314.here hx rfl (pc0 := 199) (pc' := 242) rfl (hb hby at_199) rfl ((if0 _ _).trans (feq (hc170_289 : ¬ nu = (0 : Int32))).2) (by decide) (by decide) k) ?_
            show GlH Z consts_1 _ _ _ _ _ _ _ (T314.setTop (mkF m 242 #[.val (.int j0), .val (.int j1), .val (.int j2), .val (.int j3), .val (.int n1), .val (.int r154), .val (.int r155), .val (.int n2), .val (.int r156), .val (.int r157), .val (.int kk), .val (.int nu), .val (.int r158), .val (.int r159), .val (.int ((j3 &&& (2147483647 : Int32)) % (3 : Int32))), .val (.ref w_MANY_TO_MANY), .val (.ref b267), .val .null, .val (.int (0 : Int32)), .unset] []))
            refine GlH.back (fun _ k => XS.iconst X314.here hx rfl (hb hby at_242) k) ?_
            show GlH Z consts_1 _ _ _ _ _ _ _ (T314.setTop (mkF m 243 #[.val (.int j0), .val (.int j1), .val (.int j2), .val (.int j3), .val (.int n1), .val (.int r154), .val (.int r155), .val (.int n2), .val (.int r156), .val (.int r157), .val (.int kk), .val (.int nu), .val (.int r158), .val (.int r159), .val (.int ((j3 &&& (2147483647 : Int32)) % (3 : Int32))), .val (.ref w_MANY_TO_MANY), .val (.ref b267), .val .null, .val (.int (0 : Int32)), .unset] [(.int (0 : Int32))]))
            refine GlH.back (fun _ k => XS.istore X314.here hx rfl (hb hby at_243) rfl (l' := #[.val (.int j0), .val (.int j1), .val (.int j2), .val (.int j3), .val (.int n1), .val (.int r154), .val (.int r155), .val (.int n2), .val (.int r156), .val (.int r157), .val (.int kk), .val (.int nu), .val (.int r158), .val (.int r159), .val (.int ((j3 &&& (2147483647 : Int32)) % (3 : Int32))), .val (.ref w_MANY_TO_MANY), .val (.ref b267), .val .null, .val (.int (0 : Int32)), .val (.int (0 : Int32))]) rfl k) ?_
            show GlH Z consts_1 _ _ _ _ _ _ _ (T314.setTop (mkF m 245 #[.val (.int j0), .val (.int j1), .val (.int j2), .val (.int j3), .val (.int n1), .val (.int r154), .val (.int r155), .val (.int n2), .val (.int r156), .val (.int r157), .val (.int kk), .val (.int nu), .val (.int r158), .val (.int r159), .val (.int ((j3 &&& (2147483647 : Int32)) % (3 : Int32))), .val (.ref w_MANY_TO_MANY), .val (.ref b267), .val .null, .val (.int (0 : Int32)), .val (.int (0 : Int32))] []))
            refine GlH.back (fun _ k => XS.iload X314.here hx rfl (hb hby at_245) rfl k) ?_
            show GlH Z consts_1 _ _ _ _ _ _ _ (T314.setTop (mkF m 247 #[.val (.int j0), .val (.int j1), .val (.int j2), .val (.int j3), .val (.int n1), .val (.int r154), .val (.int r155), .val (.int n2), .val (.int r156), .val (.int r157), .val (.int kk), .val (.int nu), .val (.int r158), .val (.int r159), .val (.int ((j3 &&& (2147483647 : Int32)) % (3 : Int32))), .val (.ref w_MANY_TO_MANY), .val (.ref b267), .val .null, .val (.int (0 : Int32)), .val (.int (0 : Int32))] [(.int (0 : Int32))]))
            refine GlH.back (fun _ k => XS.iload X314.here hx rfl (hb hby at_247) rfl k) ?_
            show GlH Z consts_1 _ _ _ _ _ _ _ (T314.setTop (mkF m 249 #[.val (.int j0), .val (.int j1), .val (.int j2), .val (.int j3), .val (.int n1), .val (.int r154), .val (.int r155), .val (.int n2), .val (.int r156), .val (.int r157), .val (.int kk), .val (.int nu), .val (.int r158), .val (.int r159), .val (.int ((j3 &&& (2147483647 : Int32)) % (3 : Int32))), .val (.ref w_MANY_TO_MANY), .val (.ref b267), .val .null, .val (.int (0 : Int32)), .val (.int (0 : Int32))] [(.int (0 : Int32)), (.int (0 : Int32))]))
            refine GlH.back (fun _ k => XS.icmpNo X314.here hx rfl (hb hby at_249) rfl (teq (by decide : (0 : Int32) = (0 : Int32))).2 k) ?_
            show GlH Z consts_1 _ _ _ _ _ _ _ (T314.setTop (mkF m 252 #[.val (.int j0), .val (.int j1), .val (.int j2), .val (.int j3), .val (.int n1), .val (.int r154), .val (.int r155), .val (.int n2), .val (.int r156), .val (.int r157), .val (.int kk), .val (.int nu), .val (.int r158), .val (.int r159), .val (.int ((j3 &&& (2147483647 : Int32)) % (3 : Int32))), .val (.ref w_MANY_TO_MANY), .val (.ref b267), .val .null, .val (.int (0 : Int32)), .val (.int (0 : Int32))] []))
            refine GlH.back (fun _ k => XS.iconst X314.here hx rfl (hb hby at_252) k) ?_
            show GlH Z consts_1 _ _ _ _ _ _ _ (T314.setTop (mkF m 253 #[.val (.int j0), .val (.int j1), .val (.int j2), .val (.int j3), .val (.int n1), .val (.int r154), .val (.int r155), .val (.int n2), .val (.int r156), .val (.int r157), .val (.int kk), .val (.int nu), .val (.int r158), .val (.int r159), .val (.int ((j3 &&& (2147483647 : Int32)) % (3 : Int32))), .val (.ref w_MANY_TO_MANY), .val (.ref b267), .val .null, .val (.int (0 : Int32)), .val (.int (0 : Int32))] [(.int (1 : Int32))]))
            refine GlH.back (fun _ k => XS.goto X314.here hx rfl (pc0 := 253) (pc' := 257) rfl (hb hby at_253) (by decide) (by decide) k) ?_
            show GlH Z consts_1 _ _ _ _ _ _ _ (T314.setTop (mkF m 257 #[.val (.int j0), .val (.int j1), .val (.int j2), .val (.int j3), .val (.int n1), .val (.int r154), .val (.int r155), .val (.int n2), .val (.int r156), .val (.int r157), .val (.int kk), .val (.int nu), .val (.int r158), .val (.int r159), .val (.int ((j3 &&& (2147483647 : Int32)) % (3 : Int32))), .val (.ref w_MANY_TO_MANY), .val (.ref b267), .val .null, .val (.int (0 : Int32)), .val (.int (0 : Int32))] [(.int (1 : Int32))]))
            exact GlH.ret X314 eh314 hS275 (Nat.le_refl _) hh hZ275 hEL CHr275 (v := (some (.int (1 : Int32)))) (fun h => by rw [Bd.returns] at h; cases h) Bd.notSynchronized (fun fs hr => retN X314 hx (t := .boolean) (z := (1 : Int32)) Bd.returns (by simp) (hb hby at_257) hr) ⟨N314, rfl⟩ (by decide) (by decide)
    refine GlH.back (fun _ k => XS.iloadN X157.here hx rfl (hb hby at_64) rfl k) ?_
    show GlH Z consts_1 _ _ _ _ _ _ _ (T157.setTop (mkF m 65 #[.val (.int j0), .val (.int j1), .val (.int j2), .val (.int j3), .val (.int n1), .val (.int r154), .val (.int r155), .val (.int n2), .val (.int r156), .val (.int r157), .val (.int kk), .unset, .unset, .unset, .unset, .unset, .unset, .unset, .unset, .unset] [(.int j2)]))
    refine GlH.back (fun _ k => XS.iconst X157.here hx rfl (hb hby at_65) k) ?_
    show GlH Z consts_1 _ _ _ _ _ _ _ (T157.setTop (mkF m 66 #[.val (.int j0), .val (.int j1), .val (.int j2), .val (.int j3), .val (.int n1), .val (.int r154), .val (.int r155), .val (.int n2), .val (.int r156), .val (.int r157), .val (.int kk), .unset, .unset, .unset, .unset, .unset, .unset, .unset, .unset, .unset] [(.int (2 : Int32)), (.int j2)]))
    refine GlH.back (fun _ k => XS.iushr X157.here hx rfl (hb hby at_66) rfl k) ?_
    show GlH Z consts_1 _ _ _ _ _ _ _ (T157.setTop (mkF m 67 #[.val (.int j0), .val (.int j1), .val (.int j2), .val (.int j3), .val (.int n1), .val (.int r154), .val (.int r155), .val (.int n2), .val (.int r156), .val (.int r157), .val (.int kk), .unset, .unset, .unset, .unset, .unset, .unset, .unset, .unset, .unset] [(.int ((j2.toUInt32 >>> ((2 : Int32) &&& 31).toUInt32).toInt32))]))
    refine GlH.back (fun _ k => XS.bipush X157.here hx rfl (hb hby at_67) k) ?_
    show GlH Z consts_1 _ _ _ _ _ _ _ (T157.setTop (mkF m 69 #[.val (.int j0), .val (.int j1), .val (.int j2), .val (.int j3), .val (.int n1), .val (.int r154), .val (.int r155), .val (.int n2), .val (.int r156), .val (.int r157), .val (.int kk), .unset, .unset, .unset, .unset, .unset, .unset, .unset, .unset, .unset] [(.int (7 : Int32)), (.int ((j2.toUInt32 >>> ((2 : Int32) &&& 31).toUInt32).toInt32))]))
    refine GlH.back (fun _ k => XS.iand X157.here hx rfl (hb hby at_69) rfl k) ?_
    show GlH Z consts_1 _ _ _ _ _ _ _ (T157.setTop (mkF m 70 #[.val (.int j0), .val (.int j1), .val (.int j2), .val (.int j3), .val (.int n1), .val (.int r154), .val (.int r155), .val (.int n2), .val (.int r156), .val (.int r157), .val (.int kk), .unset, .unset, .unset, .unset, .unset, .unset, .unset, .unset, .unset] [(.int (((j2.toUInt32 >>> ((2 : Int32) &&& 31).toUInt32).toInt32) &&& (7 : Int32)))]))
    by_cases hc70_318 : (((j2.toUInt32 >>> ((2 : Int32) &&& 31).toUInt32).toInt32) &&& (7 : Int32)) = (0 : Int32)
    · refine GlH.back (fun _ k => XS.ifNo X157.here hx rfl (hb hby at_70) rfl ((if0 _ _).trans (teq hc70_318).2) k) ?_
      show GlH Z consts_1 _ _ _ _ _ _ _ (T157.setTop (mkF m 73 #[.val (.int j0), .val (.int j1), .val (.int j2), .val (.int j3), .val (.int n1), .val (.int r154), .val (.int r155), .val (.int n2), .val (.int r156), .val (.int r157), .val (.int kk), .unset, .unset, .unset, .unset, .unset, .unset, .unset, .unset, .unset] []))
      refine GlH.back (fun _ k => XS.iconst X157.here hx rfl (hb hby at_73) k) ?_
      show GlH Z consts_1 _ _ _ _ _ _ _ (T157.setTop (mkF m 74 #[.val (.int j0), .val (.int j1), .val (.int j2), .val (.int j3), .val (.int n1), .val (.int r154), .val (.int r155), .val (.int n2), .val (.int r156), .val (.int r157), .val (.int kk), .unset, .unset, .unset, .unset, .unset, .unset, .unset, .unset, .unset] [(.int (1 : Int32))]))
      refine GlH.back (fun _ k => XS.goto X157.here hx rfl (pc0 := 74) (pc' := 78) rfl (hb hby at_74) (by decide) (by decide) k) ?_
      show GlH Z consts_1 _ _ _ _ _ _ _ (T157.setTop (mkF m 78 #[.val (.int j0), .val (.int j1), .val (.int j2), .val (.int j3), .val (.int n1), .val (.int r154), .val (.int r155), .val (.int n2), .val (.int r156), .val (.int r157), .val (.int kk), .unset, .unset, .unset, .unset, .unset, .unset, .unset, .unset, .unset] [(.int (1 : Int32))]))
      refine GlH.back (fun _ k => XS.istore X157.here hx rfl (hb hby at_78) rfl (l' := #[.val (.int j0), .val (.int j1), .val (.int j2), .val (.int j3), .val (.int n1), .val (.int r154), .val (.int r155), .val (.int n2), .val (.int r156), .val (.int r157), .val (.int kk), .val (.int (1 : Int32)), .unset, .unset, .unset, .unset, .unset, .unset, .unset, .unset]) rfl k) ?_
      show GlH Z consts_1 _ _ _ _ _ _ _ (T157.setTop (mkF m 80 #[.val (.int j0), .val (.int j1), .val (.int j2), .val (.int j3), .val (.int n1), .val (.int r154), .val (.int r155), .val (.int n2), .val (.int r156), .val (.int r157), .val (.int kk), .val (.int (1 : Int32)), .unset, .unset, .unset, .unset, .unset, .unset, .unset, .unset] []))
      exact J80 _
    · refine GlH.back (fun _ k => XS.ifYes X157.here hx rfl (pc0 := 70) (pc' := 77) rfl (hb hby at_70) rfl ((if0 _ _).trans (feq hc70_318).2) (by decide) (by decide) k) ?_
      show GlH Z consts_1 _ _ _ _ _ _ _ (T157.setTop (mkF m 77 #[.val (.int j0), .val (.int j1), .val (.int j2), .val (.int j3), .val (.int n1), .val (.int r154), .val (.int r155), .val (.int n2), .val (.int r156), .val (.int r157), .val (.int kk), .unset, .unset, .unset, .unset, .unset, .unset, .unset, .unset, .unset] []))
      refine GlH.back (fun _ k => XS.iconst X157.here hx rfl (hb hby at_77) k) ?_
      show GlH Z consts_1 _ _ _ _ _ _ _ (T157.setTop (mkF m 78 #[.val (.int j0), .val (.int j1), .val (.int j2), .val (.int j3), .val (.int n1), .val (.int r154), .val (.int r155), .val (.int n2), .val (.int r156), .val (.int r157), .val (.int kk), .unset, .unset, .unset, .unset, .unset, .unset, .unset, .unset, .unset] [(.int (0 : Int32))]))
      refine GlH.back (fun _ k => XS.istore X157.here hx rfl (hb hby at_78) rfl (l' := #[.val (.int j0), .val (.int j1), .val (.int j2), .val (.int j3), .val (.int n1), .val (.int r154), .val (.int r155), .val (.int n2), .val (.int r156), .val (.int r157), .val (.int kk), .val (.int (0 : Int32)), .unset, .unset, .unset, .unset, .unset, .unset, .unset, .unset]) rfl k) ?_
      show GlH Z consts_1 _ _ _ _ _ _ _ (T157.setTop (mkF m 80 #[.val (.int j0), .val (.int j1), .val (.int j2), .val (.int j3), .val (.int n1), .val (.int r154), .val (.int r155), .val (.int n2), .val (.int r156), .val (.int r157), .val (.int kk), .val (.int (0 : Int32)), .unset, .unset, .unset, .unset, .unset, .unset, .unset, .unset] []))
      exact J80 _
  refine GlH.back (fun _ k => XS.iload X157.here hx rfl (hb hby at_55) rfl k) ?_
  show GlH Z consts_1 _ _ _ _ _ _ _ (T157.setTop (mkF m 57 #[.val (.int j0), .val (.int j1), .val (.int j2), .val (.int j3), .val (.int n1), .val (.int r154), .val (.int r155), .val (.int n2), .val (.int r156), .val (.int r157), .val (.int (j2 &&& (3 : Int32))), .unset, .unset, .unset, .unset, .unset, .unset, .unset, .unset, .unset] [(.int (j2 &&& (3 : Int32)))]))
  refine GlH.back (fun _ k => XS.iconst X157.here hx rfl (hb hby at_57) k) ?_
  show GlH Z consts_1 _ _ _ _ _ _ _ (T157.setTop (mkF m 58 #[.val (.int j0), .val (.int j1), .val (.int j2), .val (.int j3), .val (.int n1), .val (.int r154), .val (.int r155), .val (.int n2), .val (.int r156), .val (.int r157), .val (.int (j2 &&& (3 : Int32))), .unset, .unset, .unset, .unset, .unset, .unset, .unset, .unset, .unset] [(.int (3 : Int32)), (.int (j2 &&& (3 : Int32)))]))
  by_cases hc58_319 : (j2 &&& (3 : Int32)) = (3 : Int32)
  · refine GlH.back (fun _ k => XS.icmpNo X157.here hx rfl (hb hby at_58) rfl (teq hc58_319).2 k) ?_
    show GlH Z consts_1 _ _ _ _ _ _ _ (T157.setTop (mkF m 61 #[.val (.int j0), .val (.int j1), .val (.int j2), .val (.int j3), .val (.int n1), .val (.int r154), .val (.int r155), .val (.int n2), .val (.int r156), .val (.int r157), .val (.int (j2 &&& (3 : Int32))), .unset, .unset, .unset, .unset, .unset, .unset, .unset, .unset, .unset] []))
    refine GlH.back (fun _ k => XS.iconst X157.here hx rfl (hb hby at_61) k) ?_
    show GlH Z consts_1 _ _ _ _ _ _ _ (T157.setTop (mkF m 62 #[.val (.int j0), .val (.int j1), .val (.int j2), .val (.int j3), .val (.int n1), .val (.int r154), .val (.int r155), .val (.int n2), .val (.int r156), .val (.int r157), .val (.int (j2 &&& (3 : Int32))), .unset, .unset, .unset, .unset, .unset, .unset, .unset, .unset, .unset] [(.int (2 : Int32))]))
    refine GlH.back (fun _ k => XS.istore X157.here hx rfl (hb hby at_62) rfl (l' := #[.val (.int j0), .val (.int j1), .val (.int j2), .val (.int j3), .val (.int n1), .val (.int r154), .val (.int r155), .val (.int n2), .val (.int r156), .val (.int r157), .val (.int (2 : Int32)), .unset, .unset, .unset, .unset, .unset, .unset, .unset, .unset, .unset]) rfl k) ?_
    show GlH Z consts_1 _ _ _ _ _ _ _ (T157.setTop (mkF m 64 #[.val (.int j0), .val (.int j1), .val (.int j2), .val (.int j3), .val (.int n1), .val (.int r154), .val (.int r155), .val (.int n2), .val (.int r156), .val (.int r157), .val (.int (2 : Int32)), .unset, .unset, .unset, .unset, .unset, .unset, .unset, .unset, .unset] []))
    exact J64 _ (Or.inr (Or.inr rfl))
  · refine GlH.back (fun _ k => XS.icmpYes X157.here hx rfl (pc0 := 58) (pc' := 64) rfl (hb hby at_58) rfl (feq hc58_319).2 (by decide) (by decide) k) ?_
    show GlH Z consts_1 _ _ _ _ _ _ _ (T157.setTop (mkF m 64 #[.val (.int j0), .val (.int j1), .val (.int j2), .val (.int j3), .val (.int n1), .val (.int r154), .val (.int r155), .val (.int n2), .val (.int r156), .val (.int r157), .val (.int (j2 &&& (3 : Int32))), .unset, .unset, .unset, .unset, .unset, .unset, .unset, .unset, .unset] []))
    exact J64 _ (own_k3 hc58_319)
set_option maxRecDepth 65536 in
set_option maxHeartbeats 40000000 in
theorem comes_1 {Post : Tables → Env → Array Value → State → Outcome → State → Prop} (hpost : ∀ tb e args s v u, (limb_1_1.after args s (.returned v) u = true ∧ limb_1_2.after args s (.returned v) u = true ∧ True) → ReturnedEndW s (.returned v) u (Jvm.fieldLocs frame_1_writes args s ++ Jvm.arrayLocs frame_1_arrays args s ++ Jvm.staticLocs frame_1_statics s) 40 6336 → Post tb e args s (.returned v) u) :
    ArmFor flags0 classFile x code maxLocals ret World_1 tables_1 room_1 Calls_1 rest_1 Pre_1 Post := by
  intro l hfl _ _ p e ha hc hk s m args below hf hA hF happ hP
  obtain ⟨hcalls, hrest, hpre⟩ := hP
  obtain ⟨-, -, -, hnamed, -, -, -, hat⟩ := (Spec.applies_iff hf).mp happ
  obtain ⟨hg, hn⟩ := and_e (Cond.before_iff.mp (show (Jvm.Cond.and given_1 narrow_1).before args s = true from hpre))
  obtain ⟨gv320, gv321⟩ := and_e hg
  obtain ⟨gv322, gv323⟩ := and_e gv321
  obtain ⟨gv324, gv325⟩ := and_e gv323
  obtain ⟨gv326, gv327⟩ := and_e gv325
  obtain ⟨w0, w1, w2, w3, rfl⟩ : ∃ w0 w1 w2 w3 : Value, args = #[w0, w1, w2, w3] := by
    have hs : args.size = 4 := by simpa [Cond.value, given_1] using gv320
    obtain ⟨L⟩ := args
    match L, hs with
    | [w0, w1, w2, w3], _ => exact ⟨w0, w1, w2, w3, rfl⟩
  have hw := fun d (hd : d ∈ tables_1) => atoms_spec (ws := Jvm.Cond.code x code maxLocals ret :: tables_1) hat d (List.mem_cons_of_mem _ hd)
  have hfit : Fit s := fun {y c} hc i hi => by
    obtain ⟨ha, rfl⟩ := Array.getElem?_eq_some_iff.mp hc
    have q := List.all_eq_true.mp ((Array.all_eq_true_iff_forall_mem.mp hF) _ (Array.getElem_mem ha)) i (List.mem_range.mpr hi)
    simpa [Array.getElem?_eq_getElem hi] using q
  obtain ⟨hsets, hown0⟩ := atoms_of _ (rest_1_c_eq ▸ (show rest_1_c.before _ s = true from hrest))
  have hr0 := Cond.before_iff.mp hown0
  obtain ⟨i0, ei0⟩ := is_v gv322
  obtain rfl : w0 = (.int i0) := Option.some.inj ei0
  obtain ⟨i1, ei1⟩ := is_v gv324
  obtain rfl : w1 = (.int i1) := Option.some.inj ei1
  obtain ⟨i2, ei2⟩ := is_v gv326
  obtain rfl : w2 = (.int i2) := Option.some.inj ei2
  obtain ⟨i3, ei3⟩ := is_v gv327
  obtain rfl : w3 = (.int i3) := Option.some.inj ei3
  obtain ⟨gn1, gn2⟩ := and_e hn
  obtain ⟨w_ONE_TO_MANY, ev_ONE_TO_MANY⟩ := exa_v gn1
  have S_ONE_TO_MANY := Sta.start ev_ONE_TO_MANY (Or.inr ⟨(hw _ (List.mem_of_getElem? (i := 6) rfl)), (hw _ (List.mem_of_getElem? (i := 7) rfl))⟩)
  have E_ONE_TO_MANY := Exa.start ev_ONE_TO_MANY gn1
  obtain ⟨gn3, gn4⟩ := and_e gn2
  obtain ⟨w_MANY_TO_MANY, ev_MANY_TO_MANY⟩ := exa_v gn3
  have S_MANY_TO_MANY := Sta.start ev_MANY_TO_MANY (Or.inr ⟨(hw _ (List.mem_of_getElem? (i := 6) rfl)), (hw _ (List.mem_of_getElem? (i := 136) rfl))⟩)
  have E_MANY_TO_MANY := Exa.start ev_MANY_TO_MANY gn3
  obtain ⟨w_ONE_TO_ONE, ev_ONE_TO_ONE⟩ := exa_v gn4
  have S_ONE_TO_ONE := Sta.start ev_ONE_TO_ONE (Or.inr ⟨(hw _ (List.mem_of_getElem? (i := 6) rfl)), (hw _ (List.mem_of_getElem? (i := 138) rfl))⟩)
  have E_ONE_TO_ONE := Exa.start ev_ONE_TO_ONE gn4
  have nz := not_v (Cond.before_iff.mp (hsets _ (List.mem_of_getElem? (i := 2) rfl)))
  obtain ⟨zc, ez⟩ := is_v (Cond.before_iff.mp (hsets _ (List.mem_of_getElem? (i := 1) rfl)))
  have S_C : Sta s s.heap "java/lang/String" "COMPACT_STRINGS" "Z" (.int zc) := Sta.start ez (Or.inl (hsets _ (List.mem_of_getElem? (i := 0) rfl)))
  have P0 : ¬ (zc = (0 : Int32)) := gotF (Jvm.Cond.eq_ints ez (Term.int_eval (0))) nz
  obtain ⟨wA, evA⟩ := arr_v (Cond.before_iff.mp (hsets _ (List.mem_of_getElem? (i := 14) rfl)))
  have S_A := Sta.start evA (Or.inl (hsets _ (List.mem_of_getElem? (i := 13) rfl)))
  obtain ⟨kA, vsA, V_A, hel⟩ := own_arrN hfit evA (Cond.before_iff.mp (hsets _ (List.mem_of_getElem? (i := 14) rfl))) (Cond.before_iff.mp (hsets _ (List.mem_of_getElem? (i := 16) rfl)))
  obtain ⟨wI, evI⟩ := exa_v (Cond.before_iff.mp (hsets _ (List.mem_of_getElem? (i := 11) rfl)))
  have S_I := Sta.start evI (Or.inl (hsets _ (List.mem_of_getElem? (i := 10) rfl)))
  have E_I := Exa.start evI (Cond.before_iff.mp (hsets _ (List.mem_of_getElem? (i := 11) rfl)))
  have hA : own_A vsA := fun c hc => by
    rcases hc with rfl | rfl | rfl | rfl | rfl
    · exact ⟨_, hel 97 8486882 (Cond.before_iff.mp (hsets _ (List.mem_of_getElem? (i := 114) rfl))), by decide⟩
    · exact ⟨_, hel 65 8552417 (Cond.before_iff.mp (hsets _ (List.mem_of_getElem? (i := 82) rfl))), by decide⟩
    · exact ⟨_, hel 98 8486882 (Cond.before_iff.mp (hsets _ (List.mem_of_getElem? (i := 115) rfl))), by decide⟩
    · exact ⟨_, hel 66 8552417 (Cond.before_iff.mp (hsets _ (List.mem_of_getElem? (i := 83) rfl))), by decide⟩
    · exact ⟨_, hel 114 8486882 (Cond.before_iff.mp (hsets _ (List.mem_of_getElem? (i := 131) rfl))), by decide⟩
  have hCH : CHv s consts_1 s.vm s.heap := CHv.start (own_EW hw) (show Jvm.Lit.constsHeld consts_1 s from hcalls.1) (hsets _ (List.mem_of_getElem? (i := 2) rfl)) (hw _ (List.mem_of_getElem? (i := 14) rfl)) (hw _ (List.mem_of_getElem? (i := 13) rfl))
  obtain ⟨n, o, h1, h2, h3, _, L, rfl, ⟨N, rfl⟩, -, hq⟩ := rm0 l s _ hw tables_1 i0 i1 i2 i3 w_ONE_TO_MANY w_MANY_TO_MANY w_ONE_TO_ONE wA wI kA vsA zc s.heap s.heap.size (Nat.le_refl _) (Old.start s) S_ONE_TO_MANY S_MANY_TO_MANY S_ONE_TO_ONE S_A V_A hA S_I E_I S_C P0 p e ha hc hk s m _ below hf ((Spec.applies_iff_loose hf).mp happ).1 ⟨rfl, State.Warmed39.refl s, rfl, hCH⟩ trivial
  refine ⟨n, _, h1, h2, h3, hpost _ _ _ _ _ _ ⟨Cond.after_iff.mpr rfl, Cond.after_iff.mpr (eq_i res_at (Term.int_eval (1)) rfl), trivial⟩ ⟨hq.1, hq.2.1, hq.2.2.1, (hq.2.2.2.sift fun y hy => Or.inr (N y hy)).mono (by decide) (by decide)⟩⟩
theorem main_1_1 : Claimed_1_1 := comes_1 fun _ _ _ _ _ _ h hF => ⟨h.1, hF⟩
theorem main_1_2 : Claimed_1_2 := comes_1 fun _ _ _ _ _ _ h hF => ⟨h.2.1, hF⟩
end Jvm.Pilot.@@N@@
namespace Jvm.Pilot.@@N@@
open Jvm Jvm.ClassFile Sem Op Lib Jvm.Free Jvm.Stand Jvm.Pilot.@@N@@.Jvm.D
/-! MADE BY PROGRAM (witnessworld.py) out of the Statement's table words and the real class files: 26 classes; the members and pool entries that the words name. The judged class is class 1, her method 4. -/
namespace start1
open Jvm.ClassFile
def u (s : String) : CpInfo := .utf8 (stringToUtf16 s)
/-- a pool by its gaps: so many unusable entries, then the entry; so many at the end -/
def gap : Nat → List CpInfo → List CpInfo
  | 0, r => r
  | n + 1, r => .unusable :: gap n r
def poolList (es : List (Nat × CpInfo)) (last : Nat) : List CpInfo := es.foldr (fun e r => gap e.1 (e.2 :: r)) (gap last [])
def pool (es : List (Nat × CpInfo)) (last : Nat) : Array CpInfo := ⟨poolList es last⟩
def fileOf (pool : Array CpInfo) (this : Nat) (attrs : Array Attribute := #[]) (ms : Array MethodInfo := #[]) (fl : Nat := 33) (sup : Nat := 0) (ifs : Array Nat := #[]) (fds : Array FieldInfo := #[]) : ClassFile where
  minorVersion := 0
  majorVersion := 65
  constantPool := pool
  accessFlags := fl
  thisClass := this
  superClass := sup
  interfaces := ifs
  fields := fds
  methods := ms
  attributes := attrs
def plain (name : String) (sup : Option ClassId) : Class where
  name := name
  kind := .ordinary
  loader := none
  accessFlags := 33
  super := sup
  interfaces := #[]
  cf := none
  fields := #[]
  methods := #[]
  instanceTypes := #[]
  staticTypes := #[]
  resolved := #[]
  callSites := []
  init := .initialized
  statics := none
  mirror := none

def pool0 : Array CpInfo := pool [(5, u "<init>"), (0, u "()V"), (1, .class_ 10), (1, u "java/lang/Object")] 113

def k0c0 : Code := { maxStack := 0, maxLocals := 1, code := object_method_1_code, exceptionTable := #[], attributes := #[] }
def k0m0 : Method := { name := "<init>", desc := "()V", sig := { parameters := [], returnType := none }, accessFlags := 1, code := some k0c0 }
/-- java/lang/Object -/
def k0 : Class := { plain "java/lang/Object" none with
  accessFlags := 33
  interfaces := #[]
  cf := some (fileOf pool0 8 #[] #[{ accessFlags := 1, nameIndex := 5, descriptorIndex := 6, attributes := #[] }] 33 0 #[] #[])
  fields := #[]
  methods := #[k0m0]
  instanceTypes := #[]
  staticTypes := #[]
  resolved := Array.replicate 124 none
  statics := none }

def pool1 : Array CpInfo := pool [(2, .class_ 4), (1, u "java/lang/Object"), (0, u "<init>"), (0, u "()V"), (0, .class_ 8), (0, u "java/lang/String"), (0, .methodref 7 10), (0, .nameAndType 5 11), (0, u "([C)V"), (0, .methodref 13 14), (0, .class_ 15), (0, .nameAndType 16 17), (0, u "com/example/partition_planner/partitionplanner/RelationshipRelatesPinLaw"), (0, u "ch"), (0, u "(I)C"), (0, .integer 2147483647), (0, .fieldref 20 21), (0, .class_ 22), (0, .nameAndType 23 24), (0, u "com/example/partition_planner/partitionplanner/Cardinality"), (0, u "ONE_TO_ONE"), (0, u "Lcom/example/partition_planner/partitionplanner/Cardinality;"), (0, .fieldref 20 26), (0, .nameAndType 27 24), (0, u "ONE_TO_MANY"), (0, .fieldref 20 29), (0, .nameAndType 30 24), (0, u "MANY_TO_MANY"), (0, .class_ 32), (0, u "com/example/partition_planner/partitionplanner/Relationship"), (0, .string 34), (0, u "r"), (0, .methodref 13 36), (0, .nameAndType 37 38), (0, u "str"), (0, u "(ICC)Ljava/lang/String;"), (0, .methodref 31 40), (0, .nameAndType 5 41), (0, u "(Ljava/lang/String;Ljava/lang/String;Ljava/lang/String;Lcom/example/partition_planner/partitionplanner/Cardinality;)V"), (0, .methodref 31 43), (0, .nameAndType 44 45), (0, u "relates"), (0, u "(Ljava/lang/String;)Z"), (0, .methodref 13 47), (0, .nameAndType 48 49), (0, u "same"), (0, u "(ICCICC)Z"), (3, u "law"), (0, u "(IIII)Z")] 2

def k1m0 : Method := { name := "<init>", desc := "()V", sig := { parameters := [], returnType := none }, accessFlags := 1, code := none }
def k1c1 : Code := { maxStack := 2, maxLocals := 2, code := method_2_code, exceptionTable := #[], attributes := #[] }
def k1m1 : Method := { name := "ch", desc := "(I)C", sig := { parameters := [.int], returnType := some .char }, accessFlags := 10, code := some k1c1 }
def k1c2 : Code := { maxStack := 6, maxLocals := 3, code := method_3_code, exceptionTable := #[], attributes := #[] }
def k1m2 : Method := { name := "str", desc := "(ICC)Ljava/lang/String;", sig := { parameters := [.int, .char, .char], returnType := some (.object "java/lang/String") }, accessFlags := 10, code := some k1c2 }
def k1c3 : Code := { maxStack := 2, maxLocals := 6, code := method_4_code, exceptionTable := #[], attributes := #[] }
def k1m3 : Method := { name := "same", desc := "(ICCICC)Z", sig := { parameters := [.int, .char, .char, .int, .char, .char], returnType := some .boolean }, accessFlags := 10, code := some k1c3 }
def k1c4 : Code := { maxStack := 7, maxLocals := 20, code := code, exceptionTable := #[], attributes := #[] }
def k1m4 : Method := { name := "law", desc := "(IIII)Z", sig := { parameters := [.int, .int, .int, .int], returnType := some .boolean }, accessFlags := 9, code := some k1c4 }
/-- com/example/partition_planner/partitionplanner/RelationshipRelatesPinLaw -/
def k1 : Class := { plain "com/example/partition_planner/partitionplanner/RelationshipRelatesPinLaw" (some 0) with
  accessFlags := 49
  interfaces := #[]
  cf := some (fileOf pool1 13 #[] #[{ accessFlags := 1, nameIndex := 5, descriptorIndex := 6, attributes := #[] }, { accessFlags := 10, nameIndex := 16, descriptorIndex := 17, attributes := #[] }, { accessFlags := 10, nameIndex := 37, descriptorIndex := 38, attributes := #[] }, { accessFlags := 10, nameIndex := 48, descriptorIndex := 49, attributes := #[] }, { accessFlags := 9, nameIndex := 53, descriptorIndex := 54, attributes := #[] }] 49 2 #[] #[])
  fields := #[]
  methods := #[k1m0, k1m1, k1m2, k1m3, k1m4]
  instanceTypes := #[]
  staticTypes := #[]
  resolved := Array.replicate 57 none
  statics := none }

def pool2 : Array CpInfo := pool [(1, .class_ 2), (0, u "java/lang/constant/Constable"), (0, .class_ 4), (0, u "java/lang/Object")] 6

/-- java/lang/constant/Constable -/
def k2 : Class := { plain "java/lang/constant/Constable" (some 0) with
  accessFlags := 1537
  interfaces := #[]
  cf := some (fileOf pool2 1 #[] #[] 1537 3 #[] #[])
  fields := #[]
  methods := #[]
  instanceTypes := #[]
  staticTypes := #[]
  resolved := Array.replicate 11 none
  statics := none }

def pool3 : Array CpInfo := pool [(1, .class_ 2), (0, u "java/lang/Comparable"), (0, .class_ 4), (0, u "java/lang/Object")] 7

/-- java/lang/Comparable -/
def k3 : Class := { plain "java/lang/Comparable" (some 0) with
  accessFlags := 1537
  interfaces := #[]
  cf := some (fileOf pool3 1 #[] #[] 1537 3 #[] #[])
  fields := #[]
  methods := #[]
  instanceTypes := #[]
  staticTypes := #[]
  resolved := Array.replicate 12 none
  statics := none }

def pool4 : Array CpInfo := pool [(1, .class_ 2), (0, u "java/io/Serializable"), (0, .class_ 4), (0, u "java/lang/Object")] 2

/-- java/io/Serializable -/
def k4 : Class := { plain "java/io/Serializable" (some 0) with
  accessFlags := 1537
  interfaces := #[]
  cf := some (fileOf pool4 1 #[] #[] 1537 3 #[] #[])
  fields := #[]
  methods := #[]
  instanceTypes := #[]
  staticTypes := #[]
  resolved := Array.replicate 7 none
  statics := none }

def pool5 : Array CpInfo := pool [(2, .class_ 4), (1, u "java/lang/Enum"), (0, u "name"), (0, u "Ljava/lang/String;"), (2, u "ordinal"), (0, u "I"), (1, .class_ 14), (1, u "java/lang/Object"), (4, u "hash"), (86, .class_ 108), (1, u "java/lang/Enum$EnumDesc"), (2, .class_ 112), (0, u "java/lang/constant/Constable"), (0, .class_ 114), (0, u "java/lang/Comparable"), (0, .class_ 116), (0, u "java/io/Serializable")] 87

/-- java/lang/Enum -/
def k5 : Class := { plain "java/lang/Enum" (some 0) with
  accessFlags := 1057
  interfaces := #[2, 3, 4]
  cf := some (fileOf pool5 2 #[.nestMembers #[106]] #[] 1057 12 #[111, 113, 115] #[{ accessFlags := 18, nameIndex := 5, descriptorIndex := 6, attributes := #[] }, { accessFlags := 18, nameIndex := 9, descriptorIndex := 10, attributes := #[] }, { accessFlags := 2, nameIndex := 19, descriptorIndex := 10, attributes := #[] }])
  fields := #[{ name := "name", type := (.object "java/lang/String"), accessFlags := 18, slot := 0, constantValue := 0 }, { name := "ordinal", type := .int, accessFlags := 18, slot := 1, constantValue := 0 }, { name := "hash", type := .int, accessFlags := 2, slot := 2, constantValue := 0 }]
  methods := #[]
  instanceTypes := #[(.object "java/lang/String"), .int, .int]
  staticTypes := #[]
  resolved := Array.replicate 204 none
  statics := none }

def pool6 : Array CpInfo := pool [(1, .class_ 2), (0, u "com/example/partition_planner/partitionplanner/Cardinality"), (2, u "ONE_TO_ONE"), (0, u "Lcom/example/partition_planner/partitionplanner/Cardinality;"), (2, u "ONE_TO_MANY"), (2, u "MANY_TO_MANY"), (2, u "$VALUES"), (0, u "[Lcom/example/partition_planner/partitionplanner/Cardinality;"), (6, .class_ 25), (1, u "java/lang/Enum"), (8, u "mark"), (0, u "Ljava/lang/String;")] 30

/-- com/example/partition_planner/partitionplanner/Cardinality -/
def k6 : Class := { plain "com/example/partition_planner/partitionplanner/Cardinality" (some 5) with
  accessFlags := 16433
  interfaces := #[]
  cf := some (fileOf pool6 1 #[] #[] 16433 23 #[] #[{ accessFlags := 16409, nameIndex := 5, descriptorIndex := 6, attributes := #[] }, { accessFlags := 16409, nameIndex := 9, descriptorIndex := 6, attributes := #[] }, { accessFlags := 16409, nameIndex := 12, descriptorIndex := 6, attributes := #[] }, { accessFlags := 18, nameIndex := 34, descriptorIndex := 35, attributes := #[] }, { accessFlags := 4122, nameIndex := 15, descriptorIndex := 16, attributes := #[] }])
  fields := #[{ name := "ONE_TO_ONE", type := (.object "com/example/partition_planner/partitionplanner/Cardinality"), accessFlags := 16409, slot := 0, constantValue := 0 }, { name := "ONE_TO_MANY", type := (.object "com/example/partition_planner/partitionplanner/Cardinality"), accessFlags := 16409, slot := 1, constantValue := 0 }, { name := "MANY_TO_MANY", type := (.object "com/example/partition_planner/partitionplanner/Cardinality"), accessFlags := 16409, slot := 2, constantValue := 0 }, { name := "mark", type := (.object "java/lang/String"), accessFlags := 18, slot := 3, constantValue := 0 }, { name := "$VALUES", type := (.array (.object "com/example/partition_planner/partitionplanner/Cardinality")), accessFlags := 4122, slot := 3, constantValue := 0 }]
  methods := #[]
  instanceTypes := #[(.object "java/lang/String"), .int, .int, (.object "java/lang/String")]
  staticTypes := #[(.object "com/example/partition_planner/partitionplanner/Cardinality"), (.object "com/example/partition_planner/partitionplanner/Cardinality"), (.object "com/example/partition_planner/partitionplanner/Cardinality"), (.array (.object "com/example/partition_planner/partitionplanner/Cardinality"))]
  resolved := Array.replicate 66 none
  statics := some 0 }

def pool7 : Array CpInfo := pool [(1, .methodref 2 3), (0, .class_ 4), (0, .nameAndType 5 6), (0, u "java/lang/Object"), (0, u "<init>"), (0, u "()V"), (0, .class_ 8), (0, u "java/lang/Record")] 13

def k7c0 : Code := { maxStack := 1, maxLocals := 1, code := jdk_30_method_1_code, exceptionTable := #[], attributes := #[] }
def k7m0 : Method := { name := "<init>", desc := "()V", sig := { parameters := [], returnType := none }, accessFlags := 4, code := some k7c0 }
/-- java/lang/Record -/
def k7 : Class := { plain "java/lang/Record" (some 0) with
  accessFlags := 1057
  interfaces := #[]
  cf := some (fileOf pool7 7 #[] #[{ accessFlags := 4, nameIndex := 5, descriptorIndex := 6, attributes := #[] }] 1057 2 #[] #[])
  fields := #[]
  methods := #[k7m0]
  instanceTypes := #[]
  staticTypes := #[]
  resolved := Array.replicate 22 none
  statics := none }

def pool8 : Array CpInfo := pool [(1, .methodref 2 3), (0, .class_ 4), (0, .nameAndType 5 6), (0, u "java/lang/Record"), (0, u "<init>"), (0, u "()V"), (0, .string 8), (0, u "name"), (0, .methodref 10 11), (0, .class_ 12), (0, .nameAndType 13 14), (0, u "java/util/Objects"), (0, u "requireNonNull"), (0, u "(Ljava/lang/Object;Ljava/lang/String;)Ljava/lang/Object;"), (0, .string 16), (0, u "first"), (0, .string 18), (0, u "second"), (0, .string 20), (0, u "cardinality"), (0, .methodref 22 23), (0, .class_ 24), (0, .nameAndType 25 26), (0, u "java/lang/String"), (0, u "isBlank"), (0, u "()Z"), (9, .fieldref 37 38), (0, .class_ 39), (0, .nameAndType 8 40), (0, u "com/example/partition_planner/partitionplanner/Relationship"), (0, u "Ljava/lang/String;"), (0, .fieldref 37 42), (0, .nameAndType 16 40), (0, .fieldref 37 44), (0, .nameAndType 18 40), (0, .fieldref 37 46), (0, .nameAndType 20 47), (0, u "Lcom/example/partition_planner/partitionplanner/Cardinality;"), (0, .methodref 22 49), (0, .nameAndType 50 51), (0, u "equals"), (0, u "(Ljava/lang/Object;)Z"), (11, u "(Ljava/lang/String;Ljava/lang/String;Ljava/lang/String;Lcom/example/partition_planner/partitionplanner/Cardinality;)V"), (6, u "relates"), (0, u "(Ljava/lang/String;)Z")] 34

def k8c0 : Code := { maxStack := 5, maxLocals := 5, code := prog_25_method_1_code, exceptionTable := #[], attributes := #[] }
def k8m0 : Method := { name := "<init>", desc := "(Ljava/lang/String;Ljava/lang/String;Ljava/lang/String;Lcom/example/partition_planner/partitionplanner/Cardinality;)V", sig := { parameters := [(.object "java/lang/String"), (.object "java/lang/String"), (.object "java/lang/String"), (.object "com/example/partition_planner/partitionplanner/Cardinality")], returnType := none }, accessFlags := 1, code := some k8c0 }
def k8c1 : Code := { maxStack := 2, maxLocals := 2, code := prog_25_method_2_code, exceptionTable := #[], attributes := #[] }
def k8m1 : Method := { name := "relates", desc := "(Ljava/lang/String;)Z", sig := { parameters := [(.object "java/lang/String")], returnType := some .boolean }, accessFlags := 1, code := some k8c1 }
/-- com/example/partition_planner/partitionplanner/Relationship -/
def k8 : Class := { plain "com/example/partition_planner/partitionplanner/Relationship" (some 7) with
  accessFlags := 49
  interfaces := #[]
  cf := some (fileOf pool8 37 #[] #[{ accessFlags := 1, nameIndex := 5, descriptorIndex := 63, attributes := #[] }, { accessFlags := 1, nameIndex := 70, descriptorIndex := 71, attributes := #[] }] 49 2 #[] #[{ accessFlags := 18, nameIndex := 8, descriptorIndex := 40, attributes := #[] }, { accessFlags := 18, nameIndex := 16, descriptorIndex := 40, attributes := #[] }, { accessFlags := 18, nameIndex := 18, descriptorIndex := 40, attributes := #[] }, { accessFlags := 18, nameIndex := 20, descriptorIndex := 47, attributes := #[] }])
  fields := #[{ name := "name", type := (.object "java/lang/String"), accessFlags := 18, slot := 0, constantValue := 0 }, { name := "first", type := (.object "java/lang/String"), accessFlags := 18, slot := 1, constantValue := 0 }, { name := "second", type := (.object "java/lang/String"), accessFlags := 18, slot := 2, constantValue := 0 }, { name := "cardinality", type := (.object "com/example/partition_planner/partitionplanner/Cardinality"), accessFlags := 18, slot := 3, constantValue := 0 }]
  methods := #[k8m0, k8m1]
  instanceTypes := #[(.object "java/lang/String"), (.object "java/lang/String"), (.object "java/lang/String"), (.object "com/example/partition_planner/partitionplanner/Cardinality")]
  staticTypes := #[]
  resolved := Array.replicate 106 none
  statics := none }

def pool9 : Array CpInfo := pool [(2, .class_ 4), (1, u "java/lang/CharSequence"), (42, .class_ 48), (0, u "java/lang/CharSequence$1CodePointIterator"), (10, .class_ 60), (0, u "java/lang/CharSequence$1CharIterator"), (5, .class_ 67), (0, u "java/lang/Object")] 63

/-- java/lang/CharSequence -/
def k9 : Class := { plain "java/lang/CharSequence" (some 0) with
  accessFlags := 1537
  interfaces := #[]
  cf := some (fileOf pool9 2 #[.nestMembers #[47, 59]] #[] 1537 66 #[] #[])
  fields := #[]
  methods := #[]
  instanceTypes := #[]
  staticTypes := #[]
  resolved := Array.replicate 131 none
  statics := none }

def pool10 : Array CpInfo := pool [(1, .class_ 2), (0, u "java/lang/constant/ConstantDesc"), (0, .class_ 4), (0, u "java/lang/Object")] 32

/-- java/lang/constant/ConstantDesc -/
def k10 : Class := { plain "java/lang/constant/ConstantDesc" (some 0) with
  accessFlags := 1537
  interfaces := #[]
  cf := some (fileOf pool10 1 #[] #[] 1537 3 #[] #[])
  fields := #[]
  methods := #[]
  instanceTypes := #[]
  staticTypes := #[]
  resolved := Array.replicate 37 none
  statics := none }

def pool11 : Array CpInfo := pool [(1, .methodref 2 3), (0, .class_ 4), (0, .nameAndType 5 6), (0, u "java/lang/Object"), (0, u "<init>"), (0, u "()V"), (0, .string 8), (0, u ""), (0, .fieldref 10 11), (0, .class_ 12), (0, .nameAndType 13 14), (0, u "java/lang/String"), (0, u "value"), (0, u "[B"), (0, .fieldref 10 16), (0, .nameAndType 17 18), (0, u "coder"), (0, u "B"), (2, u "hash"), (0, u "I"), (2, u "hashIsZero"), (0, u "Z"), (0, .methodref 10 28), (0, .nameAndType 5 29), (0, u "([CIILjava/lang/Void;)V"), (8, .fieldref 10 39), (0, .nameAndType 40 26), (0, u "COMPACT_STRINGS"), (1, .class_ 44), (1, u "java/lang/StringUTF16"), (0, u "compress"), (1, .methodref 42 48), (0, .nameAndType 49 50), (0, u "coderFromArrayLen"), (0, u "([BI)B"), (56, .class_ 109), (1, u "java/lang/StringLatin1"), (32, u "()Z"), (34, .methodref 42 178), (0, .nameAndType 45 179), (0, u "([CII)[B"), (154, u "()I"), (0, .methodref 10 336), (0, .nameAndType 17 337), (0, u "()B"), (154, .methodref 10 493), (0, .nameAndType 494 142), (0, u "isLatin1"), (10, .methodref 10 506), (0, .nameAndType 507 334), (0, u "length"), (33, .methodref 107 542), (0, .nameAndType 543 544), (0, u "equals"), (0, u "([B[B)Z"), (28, u "(Ljava/lang/Object;)Z"), (1, .class_ 576), (0, u "java/lang/CharSequence"), (22, u "CASE_INSENSITIVE_ORDER"), (0, u "Ljava/util/Comparator;"), (30, u "([B)I"), (244, .methodref 10 877), (0, .nameAndType 878 334), (0, u "indexOfNonWhitespace"), (45, .methodref 107 925), (0, .nameAndType 878 631), (26, u "isBlank"), (57, u "([C)V"), (90, u "serialPersistentFields"), (0, u "[Ljava/io/ObjectStreamField;"), (0, .class_ 1104), (0, u "java/lang/String$CaseInsensitiveComparator"), (1, .class_ 1107), (0, u "java/io/Serializable"), (0, .class_ 1109), (0, u "java/lang/Comparable"), (0, .class_ 1111), (0, u "java/lang/constant/Constable"), (0, .class_ 1113), (0, u "java/lang/constant/ConstantDesc"), (2, u "serialVersionUID"), (0, u "J"), (3, u "REPL"), (0, u "C"), (2, u "LATIN1"), (1, u "UTF16")] 323

def k11m0 : Method := { name := "<init>", desc := "()V", sig := { parameters := [], returnType := none }, accessFlags := 1, code := none }
def k11c1 : Code := { maxStack := 5, maxLocals := 2, code := jdk_42_method_3_code, exceptionTable := #[], attributes := #[] }
def k11m1 : Method := { name := "<init>", desc := "([C)V", sig := { parameters := [(.array .char)], returnType := none }, accessFlags := 1, code := some k11c1 }
def k11c2 : Code := { maxStack := 2, maxLocals := 1, code := jdk_42_method_54_code, exceptionTable := #[], attributes := #[] }
def k11m2 : Method := { name := "length", desc := "()I", sig := { parameters := [], returnType := some .int }, accessFlags := 1, code := some k11c2 }
def k11c3 : Code := { maxStack := 2, maxLocals := 3, code := jdk_42_method_66_code, exceptionTable := #[], attributes := #[] }
def k11m3 : Method := { name := "equals", desc := "(Ljava/lang/Object;)Z", sig := { parameters := [(.object "java/lang/Object")], returnType := some .boolean }, accessFlags := 1, code := some k11c3 }
def k11c4 : Code := { maxStack := 2, maxLocals := 1, code := jdk_42_method_117_code, exceptionTable := #[], attributes := #[] }
def k11m4 : Method := { name := "isBlank", desc := "()Z", sig := { parameters := [], returnType := some .boolean }, accessFlags := 1, code := some k11c4 }
def k11c5 : Code := { maxStack := 1, maxLocals := 1, code := jdk_42_method_120_code, exceptionTable := #[], attributes := #[] }
def k11m5 : Method := { name := "indexOfNonWhitespace", desc := "()I", sig := { parameters := [], returnType := some .int }, accessFlags := 2, code := some k11c5 }
def k11c6 : Code := { maxStack := 4, maxLocals := 6, code := jdk_42_method_149_code, exceptionTable := #[], attributes := #[] }
def k11m6 : Method := { name := "<init>", desc := "([CIILjava/lang/Void;)V", sig := { parameters := [(.array .char), .int, .int, (.object "java/lang/Void")], returnType := none }, accessFlags := 2, code := some k11c6 }
def k11c7 : Code := { maxStack := 1, maxLocals := 1, code := jdk_42_method_152_code, exceptionTable := #[], attributes := #[] }
def k11m7 : Method := { name := "coder", desc := "()B", sig := { parameters := [], returnType := some .byte }, accessFlags := 0, code := some k11c7 }
def k11c8 : Code := { maxStack := 1, maxLocals := 1, code := jdk_42_method_154_code, exceptionTable := #[], attributes := #[] }
def k11m8 : Method := { name := "isLatin1", desc := "()Z", sig := { parameters := [], returnType := some .boolean }, accessFlags := 0, code := some k11c8 }
/-- java/lang/String -/
def k11 : Class := { plain "java/lang/String" (some 0) with
  accessFlags := 49
  interfaces := #[4, 3, 9, 2, 10]
  cf := some (fileOf pool11 10 #[.nestMembers #[1103]] #[{ accessFlags := 1, nameIndex := 5, descriptorIndex := 6, attributes := #[] }, { accessFlags := 1, nameIndex := 5, descriptorIndex := 1010, attributes := #[] }, { accessFlags := 1, nameIndex := 507, descriptorIndex := 334, attributes := #[] }, { accessFlags := 1, nameIndex := 543, descriptorIndex := 573, attributes := #[] }, { accessFlags := 1, nameIndex := 952, descriptorIndex := 142, attributes := #[] }, { accessFlags := 2, nameIndex := 878, descriptorIndex := 334, attributes := #[] }, { accessFlags := 2, nameIndex := 5, descriptorIndex := 29, attributes := #[] }, { accessFlags := 0, nameIndex := 17, descriptorIndex := 337, attributes := #[] }, { accessFlags := 0, nameIndex := 494, descriptorIndex := 142, attributes := #[] }] 49 2 #[1106, 1108, 575, 1110, 1112] #[{ accessFlags := 18, nameIndex := 13, descriptorIndex := 14, attributes := #[] }, { accessFlags := 18, nameIndex := 17, descriptorIndex := 18, attributes := #[] }, { accessFlags := 2, nameIndex := 21, descriptorIndex := 22, attributes := #[] }, { accessFlags := 2, nameIndex := 25, descriptorIndex := 26, attributes := #[] }, { accessFlags := 26, nameIndex := 1116, descriptorIndex := 1117, attributes := #[] }, { accessFlags := 24, nameIndex := 40, descriptorIndex := 26, attributes := #[] }, { accessFlags := 26, nameIndex := 1101, descriptorIndex := 1102, attributes := #[] }, { accessFlags := 26, nameIndex := 1121, descriptorIndex := 1122, attributes := #[] }, { accessFlags := 25, nameIndex := 599, descriptorIndex := 600, attributes := #[] }, { accessFlags := 24, nameIndex := 1125, descriptorIndex := 18, attributes := #[] }, { accessFlags := 24, nameIndex := 1127, descriptorIndex := 18, attributes := #[] }])
  fields := #[{ name := "value", type := (.array .byte), accessFlags := 18, slot := 0, constantValue := 0 }, { name := "coder", type := .byte, accessFlags := 18, slot := 1, constantValue := 0 }, { name := "hash", type := .int, accessFlags := 2, slot := 2, constantValue := 0 }, { name := "hashIsZero", type := .boolean, accessFlags := 2, slot := 3, constantValue := 0 }, { name := "serialVersionUID", type := .long, accessFlags := 26, slot := 0, constantValue := 0 }, { name := "COMPACT_STRINGS", type := .boolean, accessFlags := 24, slot := 1, constantValue := 0 }, { name := "serialPersistentFields", type := (.array (.object "java/io/ObjectStreamField")), accessFlags := 26, slot := 2, constantValue := 0 }, { name := "REPL", type := .char, accessFlags := 26, slot := 3, constantValue := 0 }, { name := "CASE_INSENSITIVE_ORDER", type := (.object "java/util/Comparator"), accessFlags := 25, slot := 4, constantValue := 0 }, { name := "LATIN1", type := .byte, accessFlags := 24, slot := 5, constantValue := 0 }, { name := "UTF16", type := .byte, accessFlags := 24, slot := 6, constantValue := 0 }]
  methods := #[k11m0, k11m1, k11m2, k11m3, k11m4, k11m5, k11m6, k11m7, k11m8]
  instanceTypes := #[(.array .byte), .byte, .int, .boolean]
  staticTypes := #[.long, .boolean, (.array (.object "java/io/ObjectStreamField")), .char, (.object "java/util/Comparator"), .byte, .byte]
  resolved := Array.replicate 1451 none
  statics := some 1 }

def pool12 : Array CpInfo := pool [(6, .class_ 8), (1, u "java/lang/Object"), (0, u "<init>"), (0, u "()V"), (1, .class_ 14), (1, u "java/lang/StringUTF16"), (31, u "$assertionsDisabled"), (0, u "Z"), (13, u "HI_BYTE_SHIFT"), (0, u "I"), (2, u "LO_BYTE_SHIFT"), (49, .methodref 12 116), (0, .nameAndType 117 118), (0, u "compress"), (0, u "([CI[BII)I"), (3, u "([CII)[B"), (138, u "coderFromArrayLen"), (0, u "([BI)B"), (106, .class_ 371), (1, u "java/lang/StringUTF16$LinesSpliterator"), (58, u "MAX_LENGTH"), (196, .class_ 628), (0, u "java/lang/StringUTF16$CodePointsSpliterator"), (0, .class_ 630), (0, u "java/lang/StringUTF16$CharsSpliterator")] 4

def k12m0 : Method := { name := "<init>", desc := "()V", sig := { parameters := [], returnType := none }, accessFlags := 0, code := none }
def k12c1 : Code := { maxStack := 2, maxLocals := 2, code := jdk_52_method_15_code, exceptionTable := #[], attributes := #[] }
def k12m1 : Method := { name := "coderFromArrayLen", desc := "([BI)B", sig := { parameters := [(.array .byte), .int], returnType := some .byte }, accessFlags := 8, code := some k12c1 }
def k12c2 : Code := { maxStack := 5, maxLocals := 6, code := jdk_52_method_16_code, exceptionTable := #[], attributes := #[] }
def k12m2 : Method := { name := "compress", desc := "([CII)[B", sig := { parameters := [(.array .char), .int, .int], returnType := some (.array .byte) }, accessFlags := 9, code := some k12c2 }
def k12c3 : Code := { maxStack := 3, maxLocals := 7, code := jdk_52_method_21_code, exceptionTable := #[], attributes := #[] }
def k12m3 : Method := { name := "compress", desc := "([CI[BII)I", sig := { parameters := [(.array .char), .int, (.array .byte), .int, .int], returnType := some .int }, accessFlags := 9, code := some k12c3 }
/-- java/lang/StringUTF16 -/
def k12 : Class := { plain "java/lang/StringUTF16" (some 0) with
  accessFlags := 48
  interfaces := #[]
  cf := some (fileOf pool12 12 #[.nestMembers #[627, 629, 369]] #[{ accessFlags := 0, nameIndex := 9, descriptorIndex := 10, attributes := #[] }, { accessFlags := 8, nameIndex := 261, descriptorIndex := 262, attributes := #[] }, { accessFlags := 9, nameIndex := 117, descriptorIndex := 122, attributes := #[] }, { accessFlags := 9, nameIndex := 117, descriptorIndex := 118, attributes := #[] }] 48 6 #[] #[{ accessFlags := 26, nameIndex := 61, descriptorIndex := 62, attributes := #[] }, { accessFlags := 26, nameIndex := 65, descriptorIndex := 62, attributes := #[] }, { accessFlags := 24, nameIndex := 430, descriptorIndex := 62, attributes := #[] }, { accessFlags := 4120, nameIndex := 46, descriptorIndex := 47, attributes := #[] }])
  fields := #[{ name := "HI_BYTE_SHIFT", type := .int, accessFlags := 26, slot := 0, constantValue := 0 }, { name := "LO_BYTE_SHIFT", type := .int, accessFlags := 26, slot := 1, constantValue := 0 }, { name := "MAX_LENGTH", type := .int, accessFlags := 24, slot := 2, constantValue := 0 }, { name := "$assertionsDisabled", type := .boolean, accessFlags := 4120, slot := 3, constantValue := 0 }]
  methods := #[k12m0, k12m1, k12m2, k12m3]
  instanceTypes := #[]
  staticTypes := #[.int, .int, .int, .boolean]
  resolved := Array.replicate 635 none
  statics := none }

def pool13 : Array CpInfo := pool [(2, .class_ 4), (1, u "java/lang/Object"), (0, u "<init>"), (0, u "()V"), (35, .class_ 44), (1, u "java/util/Objects"), (0, u "requireNonNull"), (48, u "(Ljava/lang/Object;Ljava/lang/String;)Ljava/lang/Object;")] 89

def k13m0 : Method := { name := "<init>", desc := "()V", sig := { parameters := [], returnType := none }, accessFlags := 2, code := none }
def k13c1 : Code := { maxStack := 3, maxLocals := 2, code := jdk_31_method_11_code, exceptionTable := #[], attributes := #[] }
def k13m1 : Method := { name := "requireNonNull", desc := "(Ljava/lang/Object;Ljava/lang/String;)Ljava/lang/Object;", sig := { parameters := [(.object "java/lang/Object"), (.object "java/lang/String")], returnType := some (.object "java/lang/Object") }, accessFlags := 9, code := some k13c1 }
/-- java/util/Objects -/
def k13 : Class := { plain "java/util/Objects" (some 0) with
  accessFlags := 49
  interfaces := #[]
  cf := some (fileOf pool13 42 #[] #[{ accessFlags := 2, nameIndex := 5, descriptorIndex := 6, attributes := #[] }, { accessFlags := 9, nameIndex := 45, descriptorIndex := 94, attributes := #[] }] 49 2 #[] #[])
  fields := #[]
  methods := #[k13m0, k13m1]
  instanceTypes := #[]
  staticTypes := #[]
  resolved := Array.replicate 184 none
  statics := none }

def pool14 : Array CpInfo := pool [(4, .class_ 6), (1, u "java/lang/Object"), (0, u "<init>"), (0, u "()V"), (5, .class_ 16), (1, u "java/lang/StringLatin1"), (33, .methodref 14 51), (0, .nameAndType 52 53), (0, u "getChar"), (0, u "([BI)C"), (3, u "([B)I"), (8, .fieldref 67 68), (0, .class_ 69), (0, .nameAndType 70 71), (0, u "java/lang/CharacterDataLatin1"), (0, u "instance"), (0, u "Ljava/lang/CharacterDataLatin1;"), (19, u "(I)Z"), (29, u "$assertionsDisabled"), (0, u "Z"), (88, .methodref 67 212), (0, .nameAndType 213 91), (0, u "isWhitespace"), (2, u "indexOfNonWhitespace"), (4, .class_ 223), (1, u "java/lang/StringLatin1$LinesSpliterator"), (57, u "equals"), (0, u "([B[B)Z"), (107, .class_ 391), (0, u "java/lang/StringLatin1$CharsSpliterator")] 3

def k14m0 : Method := { name := "<init>", desc := "()V", sig := { parameters := [], returnType := none }, accessFlags := 0, code := none }
def k14c1 : Code := { maxStack := 3, maxLocals := 3, code := jdk_43_method_13_code, exceptionTable := #[], attributes := #[] }
def k14m1 : Method := { name := "equals", desc := "([B[B)Z", sig := { parameters := [(.array .byte), (.array .byte)], returnType := some .boolean }, accessFlags := 9, code := some k14c1 }
def k14c2 : Code := { maxStack := 2, maxLocals := 4, code := jdk_43_method_37_code, exceptionTable := #[], attributes := #[] }
def k14m2 : Method := { name := "indexOfNonWhitespace", desc := "([B)I", sig := { parameters := [(.array .byte)], returnType := some .int }, accessFlags := 9, code := some k14c2 }
def k14c3 : Code := { maxStack := 2, maxLocals := 2, code := jdk_43_method_44_code, exceptionTable := #[], attributes := #[] }
def k14m3 : Method := { name := "getChar", desc := "([BI)C", sig := { parameters := [(.array .byte), .int], returnType := some .char }, accessFlags := 9, code := some k14c3 }
/-- java/lang/StringLatin1 -/
def k14 : Class := { plain "java/lang/StringLatin1" (some 0) with
  accessFlags := 48
  interfaces := #[]
  cf := some (fileOf pool14 14 #[.nestMembers #[390, 221]] #[{ accessFlags := 0, nameIndex := 7, descriptorIndex := 8, attributes := #[] }, { accessFlags := 9, nameIndex := 281, descriptorIndex := 282, attributes := #[] }, { accessFlags := 9, nameIndex := 216, descriptorIndex := 57, attributes := #[] }, { accessFlags := 9, nameIndex := 52, descriptorIndex := 53, attributes := #[] }] 48 4 #[] #[{ accessFlags := 4120, nameIndex := 121, descriptorIndex := 122, attributes := #[] }])
  fields := #[{ name := "$assertionsDisabled", type := .boolean, accessFlags := 4120, slot := 0, constantValue := 0 }]
  methods := #[k14m0, k14m1, k14m2, k14m3]
  instanceTypes := #[]
  staticTypes := #[.boolean]
  resolved := Array.replicate 395 none
  statics := none }

def pool15 : Array CpInfo := pool [(2, .class_ 4), (1, u "java/lang/Object"), (0, u "<init>"), (0, u "()V"), (1, .class_ 10), (1, u "java/lang/CharacterData")] 75

def k15m0 : Method := { name := "<init>", desc := "()V", sig := { parameters := [], returnType := none }, accessFlags := 0, code := none }
/-- java/lang/CharacterData -/
def k15 : Class := { plain "java/lang/CharacterData" (some 0) with
  accessFlags := 1056
  interfaces := #[]
  cf := some (fileOf pool15 8 #[] #[{ accessFlags := 0, nameIndex := 5, descriptorIndex := 6, attributes := #[] }] 1056 2 #[] #[])
  fields := #[]
  methods := #[k15m0]
  instanceTypes := #[]
  staticTypes := #[]
  resolved := Array.replicate 86 none
  statics := none }

def pool16 : Array CpInfo := pool [(1, .fieldref 2 3), (0, .class_ 4), (0, .nameAndType 5 6), (0, u "java/lang/CharacterDataLatin1"), (0, u "A"), (0, u "[I"), (2, u "B"), (0, u "[C"), (3, u "(I)I"), (0, .methodref 2 16), (0, .nameAndType 17 14), (0, u "getProperties"), (3, u "(I)Z"), (5, u "DIGITS"), (0, u "[B"), (8, u "sharpsMap"), (1, .class_ 41), (1, u "java/lang/CharacterData"), (0, u "<init>"), (0, u "()V"), (3, u "instance"), (0, u "Ljava/lang/CharacterDataLatin1;"), (78, u "isWhitespace")] 13

def k16c0 : Code := { maxStack := 2, maxLocals := 4, code := jdk_116_method_1_code, exceptionTable := #[], attributes := #[] }
def k16m0 : Method := { name := "getProperties", desc := "(I)I", sig := { parameters := [.int], returnType := some .int }, accessFlags := 0, code := some k16c0 }
def k16c1 : Code := { maxStack := 2, maxLocals := 3, code := jdk_116_method_26_code, exceptionTable := #[], attributes := #[] }
def k16m1 : Method := { name := "isWhitespace", desc := "(I)Z", sig := { parameters := [.int], returnType := some .boolean }, accessFlags := 0, code := some k16c1 }
def k16m2 : Method := { name := "<init>", desc := "()V", sig := { parameters := [], returnType := none }, accessFlags := 2, code := none }
/-- java/lang/CharacterDataLatin1 -/
def k16 : Class := { plain "java/lang/CharacterDataLatin1" (some 15) with
  accessFlags := 32
  interfaces := #[]
  cf := some (fileOf pool16 2 #[] #[{ accessFlags := 0, nameIndex := 17, descriptorIndex := 14, attributes := #[] }, { accessFlags := 0, nameIndex := 127, descriptorIndex := 21, attributes := #[] }, { accessFlags := 2, nameIndex := 42, descriptorIndex := 43, attributes := #[] }] 32 39 #[] #[{ accessFlags := 26, nameIndex := 27, descriptorIndex := 28, attributes := #[] }, { accessFlags := 8, nameIndex := 37, descriptorIndex := 10, attributes := #[] }, { accessFlags := 24, nameIndex := 47, descriptorIndex := 48, attributes := #[] }, { accessFlags := 24, nameIndex := 5, descriptorIndex := 6, attributes := #[] }, { accessFlags := 24, nameIndex := 9, descriptorIndex := 10, attributes := #[] }])
  fields := #[{ name := "DIGITS", type := (.array .byte), accessFlags := 26, slot := 0, constantValue := 0 }, { name := "sharpsMap", type := (.array .char), accessFlags := 8, slot := 1, constantValue := 0 }, { name := "instance", type := (.object "java/lang/CharacterDataLatin1"), accessFlags := 24, slot := 2, constantValue := 0 }, { name := "A", type := (.array .int), accessFlags := 24, slot := 3, constantValue := 0 }, { name := "B", type := (.array .char), accessFlags := 24, slot := 4, constantValue := 0 }]
  methods := #[k16m0, k16m1, k16m2]
  instanceTypes := #[]
  staticTypes := #[(.array .byte), (.array .char), (.object "java/lang/CharacterDataLatin1"), (.array .int), (.array .char)]
  resolved := Array.replicate 141 none
  statics := some 2 }

def pool17 : Array CpInfo := pool [(9, u "<init>"), (6, .class_ 18), (1, u "java/lang/Object"), (0, u "()V"), (1, .class_ 23), (1, u "jdk/internal/util/ArraysSupport"), (0, u "LOG2_ARRAY_LONG_INDEX_SCALE"), (0, u "I"), (2, u "U"), (0, u "Ljdk/internal/misc/Unsafe;"), (8, u "BIG_ENDIAN"), (0, u "Z"), (8, u "LOG2_BYTE_BIT_SIZE"), (4, u "LOG2_ARRAY_INT_INDEX_SCALE"), (54, u "JLA"), (0, u "Ljdk/internal/access/JavaLangAccess;"), (11, u "LOG2_ARRAY_BOOLEAN_INDEX_SCALE"), (9, u "LOG2_ARRAY_BYTE_INDEX_SCALE"), (5, u "LOG2_ARRAY_CHAR_INDEX_SCALE"), (5, u "LOG2_ARRAY_SHORT_INDEX_SCALE"), (18, u "LOG2_ARRAY_FLOAT_INDEX_SCALE"), (24, u "LOG2_ARRAY_DOUBLE_INDEX_SCALE"), (89, u "T_BOOLEAN"), (2, u "T_CHAR"), (1, u "T_FLOAT"), (1, u "T_DOUBLE"), (1, u "T_BYTE"), (1, u "T_SHORT"), (1, u "T_INT"), (1, u "T_LONG"), (1, u "SOFT_MAX_ARRAY_LENGTH")] 83

def k17m0 : Method := { name := "<init>", desc := "()V", sig := { parameters := [], returnType := none }, accessFlags := 2, code := none }
/-- jdk/internal/util/ArraysSupport -/
def k17 : Class := { plain "jdk/internal/util/ArraysSupport" (some 0) with
  accessFlags := 33
  interfaces := #[]
  cf := some (fileOf pool17 21 #[] #[{ accessFlags := 2, nameIndex := 9, descriptorIndex := 19, attributes := #[] }] 33 16 #[] #[{ accessFlags := 24, nameIndex := 28, descriptorIndex := 29, attributes := #[] }, { accessFlags := 26, nameIndex := 38, descriptorIndex := 39, attributes := #[] }, { accessFlags := 25, nameIndex := 121, descriptorIndex := 25, attributes := #[] }, { accessFlags := 25, nameIndex := 131, descriptorIndex := 25, attributes := #[] }, { accessFlags := 25, nameIndex := 137, descriptorIndex := 25, attributes := #[] }, { accessFlags := 25, nameIndex := 143, descriptorIndex := 25, attributes := #[] }, { accessFlags := 25, nameIndex := 53, descriptorIndex := 25, attributes := #[] }, { accessFlags := 25, nameIndex := 24, descriptorIndex := 25, attributes := #[] }, { accessFlags := 25, nameIndex := 162, descriptorIndex := 25, attributes := #[] }, { accessFlags := 25, nameIndex := 187, descriptorIndex := 25, attributes := #[] }, { accessFlags := 26, nameIndex := 48, descriptorIndex := 25, attributes := #[] }, { accessFlags := 25, nameIndex := 277, descriptorIndex := 25, attributes := #[] }, { accessFlags := 25, nameIndex := 280, descriptorIndex := 25, attributes := #[] }, { accessFlags := 25, nameIndex := 282, descriptorIndex := 25, attributes := #[] }, { accessFlags := 25, nameIndex := 284, descriptorIndex := 25, attributes := #[] }, { accessFlags := 25, nameIndex := 286, descriptorIndex := 25, attributes := #[] }, { accessFlags := 25, nameIndex := 288, descriptorIndex := 25, attributes := #[] }, { accessFlags := 25, nameIndex := 290, descriptorIndex := 25, attributes := #[] }, { accessFlags := 25, nameIndex := 292, descriptorIndex := 25, attributes := #[] }, { accessFlags := 26, nameIndex := 108, descriptorIndex := 109, attributes := #[] }, { accessFlags := 25, nameIndex := 294, descriptorIndex := 25, attributes := #[] }])
  fields := #[{ name := "U", type := (.object "jdk/internal/misc/Unsafe"), accessFlags := 24, slot := 0, constantValue := 0 }, { name := "BIG_ENDIAN", type := .boolean, accessFlags := 26, slot := 1, constantValue := 0 }, { name := "LOG2_ARRAY_BOOLEAN_INDEX_SCALE", type := .int, accessFlags := 25, slot := 2, constantValue := 0 }, { name := "LOG2_ARRAY_BYTE_INDEX_SCALE", type := .int, accessFlags := 25, slot := 3, constantValue := 0 }, { name := "LOG2_ARRAY_CHAR_INDEX_SCALE", type := .int, accessFlags := 25, slot := 4, constantValue := 0 }, { name := "LOG2_ARRAY_SHORT_INDEX_SCALE", type := .int, accessFlags := 25, slot := 5, constantValue := 0 }, { name := "LOG2_ARRAY_INT_INDEX_SCALE", type := .int, accessFlags := 25, slot := 6, constantValue := 0 }, { name := "LOG2_ARRAY_LONG_INDEX_SCALE", type := .int, accessFlags := 25, slot := 7, constantValue := 0 }, { name := "LOG2_ARRAY_FLOAT_INDEX_SCALE", type := .int, accessFlags := 25, slot := 8, constantValue := 0 }, { name := "LOG2_ARRAY_DOUBLE_INDEX_SCALE", type := .int, accessFlags := 25, slot := 9, constantValue := 0 }, { name := "LOG2_BYTE_BIT_SIZE", type := .int, accessFlags := 26, slot := 10, constantValue := 0 }, { name := "T_BOOLEAN", type := .int, accessFlags := 25, slot := 11, constantValue := 0 }, { name := "T_CHAR", type := .int, accessFlags := 25, slot := 12, constantValue := 0 }, { name := "T_FLOAT", type := .int, accessFlags := 25, slot := 13, constantValue := 0 }, { name := "T_DOUBLE", type := .int, accessFlags := 25, slot := 14, constantValue := 0 }, { name := "T_BYTE", type := .int, accessFlags := 25, slot := 15, constantValue := 0 }, { name := "T_SHORT", type := .int, accessFlags := 25, slot := 16, constantValue := 0 }, { name := "T_INT", type := .int, accessFlags := 25, slot := 17, constantValue := 0 }, { name := "T_LONG", type := .int, accessFlags := 25, slot := 18, constantValue := 0 }, { name := "JLA", type := (.object "jdk/internal/access/JavaLangAccess"), accessFlags := 26, slot := 19, constantValue := 0 }, { name := "SOFT_MAX_ARRAY_LENGTH", type := .int, accessFlags := 25, slot := 20, constantValue := 0 }]
  methods := #[k17m0]
  instanceTypes := #[]
  staticTypes := #[(.object "jdk/internal/misc/Unsafe"), .boolean, .int, .int, .int, .int, .int, .int, .int, .int, .int, .int, .int, .int, .int, .int, .int, .int, .int, (.object "jdk/internal/access/JavaLangAccess"), .int]
  resolved := Array.replicate 378 none
  statics := some 3 }

def pool18 : Array CpInfo := pool [(2, .class_ 4), (1, u "java/lang/Object"), (0, u "<init>"), (0, u "()V"), (17, .class_ 26), (1, u "jdk/internal/util/Preconditions"), (28, .class_ 56), (0, u "jdk/internal/util/Preconditions$4"), (57, .class_ 115), (0, u "jdk/internal/util/Preconditions$1"), (7, u "SIOOBE_FORMATTER"), (0, u "Ljava/util/function/BiFunction;"), (0, .class_ 126), (0, u "jdk/internal/util/Preconditions$2"), (3, u "AIOOBE_FORMATTER"), (0, .class_ 132), (0, u "jdk/internal/util/Preconditions$3"), (3, u "IOOBE_FORMATTER")] 57

def k18m0 : Method := { name := "<init>", desc := "()V", sig := { parameters := [], returnType := none }, accessFlags := 1, code := none }
/-- jdk/internal/util/Preconditions -/
def k18 : Class := { plain "jdk/internal/util/Preconditions" (some 0) with
  accessFlags := 33
  interfaces := #[]
  cf := some (fileOf pool18 24 #[.nestMembers #[55, 131, 125, 114]] #[{ accessFlags := 1, nameIndex := 5, descriptorIndex := 6, attributes := #[] }] 33 2 #[] #[{ accessFlags := 25, nameIndex := 123, descriptorIndex := 124, attributes := #[] }, { accessFlags := 25, nameIndex := 130, descriptorIndex := 124, attributes := #[] }, { accessFlags := 25, nameIndex := 136, descriptorIndex := 124, attributes := #[] }])
  fields := #[{ name := "SIOOBE_FORMATTER", type := (.object "java/util/function/BiFunction"), accessFlags := 25, slot := 0, constantValue := 0 }, { name := "AIOOBE_FORMATTER", type := (.object "java/util/function/BiFunction"), accessFlags := 25, slot := 1, constantValue := 0 }, { name := "IOOBE_FORMATTER", type := (.object "java/util/function/BiFunction"), accessFlags := 25, slot := 2, constantValue := 0 }]
  methods := #[k18m0]
  instanceTypes := #[]
  staticTypes := #[(.object "java/util/function/BiFunction"), (.object "java/util/function/BiFunction"), (.object "java/util/function/BiFunction")]
  resolved := Array.replicate 194 none
  statics := some 4 }

def pool19 : Array CpInfo := pool [(1, u "java/lang/Cloneable"), (0, .class_ 1), (0, u "java/lang/Object"), (0, .class_ 3)] 3

/-- java/lang/Cloneable -/
def k19 : Class := { plain "java/lang/Cloneable" (some 0) with
  accessFlags := 1537
  interfaces := #[]
  cf := some (fileOf pool19 2 #[] #[] 1537 4 #[] #[])
  fields := #[]
  methods := #[]
  instanceTypes := #[]
  staticTypes := #[]
  resolved := Array.replicate 8 none
  statics := none }

/-- the primitive byte -/
def k20 : Class := { plain "byte" none with kind := .primitive 'B', accessFlags := 0x411 }
/-- [B -/
def k21 : Class := { plain "[B" (some 0) with kind := .array 20 .byte, interfaces := #[19, 4], accessFlags := 1041 }

/-- the primitive char -/
def k22 : Class := { plain "char" none with kind := .primitive 'C', accessFlags := 0x411 }
/-- [C -/
def k23 : Class := { plain "[C" (some 0) with kind := .array 22 .char, interfaces := #[19, 4], accessFlags := 1041 }

/-- the primitive int -/
def k24 : Class := { plain "int" none with kind := .primitive 'I', accessFlags := 0x411 }
/-- [I -/
def k25 : Class := { plain "[I" (some 0) with kind := .array 24 .int, interfaces := #[19, 4], accessFlags := 1041 }

def heap : Heap := #[{ cls := 6, slots := #[.ref 7, .ref 5, .ref 6, .null], vm := .statics 6 },
  { cls := 11, slots := #[.long 0, .int 1, .null, .int 0, .null, .int 0, .int 0], vm := .statics 11 },
  { cls := 16, slots := #[.null, .null, .ref 8, .ref 9, .null], vm := .statics 16 },
  { cls := 17, slots := #[.null, .int 0, .int 0, .int 0, .int 0, .int 0, .int 0, .int 0, .int 0, .int 0, .int 0, .int 0, .int 0, .int 0, .int 0, .int 0, .int 0, .int 0, .int 0, .null, .int 0], vm := .statics 17 },
  { cls := 18, slots := #[.null, .null, .null], vm := .statics 18 },
  { cls := 6, slots := #[.null, .int 0, .int 0, .null], vm := .none },
  { cls := 6, slots := #[.null, .int 1, .int 0, .null], vm := .none },
  { cls := 6, slots := #[.null, .int 2, .int 0, .null], vm := .none },
  { cls := 16, slots := #[], vm := .none },
  { cls := 25, slots := #[.int 1207963663, .int 1207963663, .int 1207963663, .int 1207963663, .int 1207963663, .int 1207963663, .int 1207963663, .int 1207963663, .int 1207963663, .int 1476411407, .int 1342193679, .int 1476411407, .int 1610629135, .int 1342193679, .int 1207963663, .int 1207963663, .int 1207963663, .int 1207963663, .int 1207963663, .int 1207963663, .int 1207963663, .int 1207963663, .int 1207963663, .int 1207963663, .int 1207963663, .int 1207963663, .int 1207963663, .int 1207963663, .int 1342193679, .int 1342193679, .int 1342193679, .int 1476411407, .int 1610629132, .int 1744830488, .int 1744830488, .int 671088664, .int 671113242, .int 671088664, .int 1744830488, .int 1744830488, .int (-402653163), .int (-402653162), .int 1744830488, .int 536870937, .int 939524120, .int 536870932, .int 939524120, .int 939524120, .int 402667017, .int 402667017, .int 402667017, .int 402667017, .int 402667017, .int 402667017, .int 402667017, .int 402667017, .int 402667017, .int 402667017, .int 939524120, .int 1744830488, .int (-402653159), .int 1744830489, .int (-402653159), .int 1744830488, .int 1744830488, .int 8552417, .int 8552417, .int 8552417, .int 8552417, .int 8552417, .int 8552417, .int 8552417, .int 8552417, .int 8552417, .int 8552417, .int 8552417, .int 8552417, .int 8552417, .int 8552417, .int 8552417, .int 8552417, .int 8552417, .int 8552417, .int 8552417, .int 8552417, .int 8552417, .int 8552417, .int 8552417, .int 8552417, .int 8552417, .int 8552417, .int (-402653163), .int 1744830488, .int (-402653162), .int 1744830491, .int 1744850967, .int 1744830491, .int 8486882, .int 8486882, .int 8486882, .int 8486882, .int 8486882, .int 8486882, .int 8486882, .int 8486882, .int 8486882, .int 8486882, .int 8486882, .int 8486882, .int 8486882, .int 8486882, .int 8486882, .int 8486882, .int 8486882, .int 8486882, .int 8486882, .int 8486882, .int 8486882, .int 8486882, .int 8486882, .int 8486882, .int 8486882, .int 8486882, .int (-402653163), .int 1744830489, .int (-402653162), .int 1744830489, .int 1207963663, .int 1207963663, .int 1207963663, .int 1207963663, .int 1207963663, .int 1207963663, .int 1342181391, .int 1207963663, .int 1207963663, .int 1207963663, .int 1207963663, .int 1207963663, .int 1207963663, .int 1207963663, .int 1207963663, .int 1207963663, .int 1207963663, .int 1207963663, .int 1207963663, .int 1207963663, .int 1207963663, .int 1207963663, .int 1207963663, .int 1207963663, .int 1207963663, .int 1207963663, .int 1207963663, .int 1207963663, .int 1207963663, .int 1207963663, .int 1207963663, .int 1207963663, .int 1207963663, .int 939524108, .int 1744830488, .int 671113242, .int 671113242, .int 671113242, .int 671113242, .int 1744830492, .int 1744830488, .int 1744830491, .int 1744830492, .int 28677, .int (-402653155), .int 1744830489, .int 1207963664, .int 1744830492, .int 1744830491, .int 671088668, .int 671088665, .int 402654731, .int 402654731, .int 1744830491, .int 134049794, .int 1744830488, .int 1744830488, .int 1744830491, .int 402654475, .int 28677, .int (-402653154), .int 1744832523, .int 1744832523, .int 1744832523, .int 1744830488, .int 8548353, .int 8548353, .int 8548353, .int 8548353, .int 8548353, .int 8548353, .int 8548353, .int 8548353, .int 8548353, .int 8548353, .int 8548353, .int 8548353, .int 8548353, .int 8548353, .int 8548353, .int 8548353, .int 8548353, .int 8548353, .int 8548353, .int 8548353, .int 8548353, .int 8548353, .int 8548353, .int 1744830489, .int 8548353, .int 8548353, .int 8548353, .int 8548353, .int 8548353, .int 8548353, .int 8548353, .int 134049794, .int 8482818, .int 8482818, .int 8482818, .int 8482818, .int 8482818, .int 8482818, .int 8482818, .int 8482818, .int 8482818, .int 8482818, .int 8482818, .int 8482818, .int 8482818, .int 8482818, .int 8482818, .int 8482818, .int 8482818, .int 8482818, .int 8482818, .int 8482818, .int 8482818, .int 8482818, .int 8482818, .int 1744830489, .int 8482818, .int 8482818, .int 8482818, .int 8482818, .int 8482818, .int 8482818, .int 8482818, .int 102592514], vm := .none }]
def classes : Array Class := #[k0, k1, k2, k3, k4, k5, k6, k7, k8, k9, k10, k11, k12, k13, k14, k15, k16, k17, k18, k19, k20, k21, k22, k23, k24, k25]
def interned : List (Array UInt16 × Addr) := []
def slotsUsed : Nat := 308
def theMethod : MethodId := ⟨1, 4⟩
def args0 : Array Value := #[.int 5, .int 6, .int 70, .int 1]
def aboutOver (below : List Frame) : State where
  vm := { classes := classes, interned := interned.toArray }
  heap := heap
  slotsUsed := slotsUsed
  threads := #[{ frames := .invoking theMethod args0 :: below }]
def below0 : List Frame := [.native { method := ⟨0, 0⟩, args := #[] }]
def about1 : State := aboutOver below0
def p0 : Program := .bare "" "" ""
def e0 : Env := launch0.env 0 0 0
theorem w_frames : about1.frames = Frame.invoking theMethod args0 :: below0 := rfl
set_option maxRecDepth 65536 in
theorem w_args : argsFit about1.vm theMethod args0 = true := by decide +kernel
set_option maxRecDepth 65536 in
theorem w_heap : heapFits about1 = true := by decide +kernel
set_option maxRecDepth 65536 in
theorem w_runnable : about1.curStatus? = some .runnable := by decide +kernel
set_option maxRecDepth 65536 in
theorem w_alone : about1.alone = true := by decide +kernel
set_option maxRecDepth 65536 in
theorem w_named : about1.methodNamed? x = some theMethod := by decide +kernel
set_option maxRecDepth 65536 in
theorem w_hears : about1.hears theMethod below0 = true := by decide +kernel
set_option maxRecDepth 65536 in
theorem w_ripe : about1.ripe theMethod args0 below0 = true := by decide +kernel
theorem w_running : about1.status = .running := rfl
set_option maxRecDepth 65536 in
theorem w_room : about1.hasRoom e0.platform room_1 = true :=
  launch0.hasRoom_least _ room_1 (by decide +kernel) (by decide +kernel) (by decide +kernel) (by decide +kernel) (by decide +kernel) (by decide +kernel)
theorem allAtoms_all (ts : List Jvm.Cond) (a : Array Jvm.Value) (st : Jvm.State) : (allAtoms ts).before a st = ts.all (fun c => c.before a st) := by
  induction ts with
  | nil => rfl
  | cons c t ih =>
    show (Jvm.Cond.and c (allAtoms t)).before a st = _
    rw [Jvm.Cond.before_and, ih, List.all_cons]
def words1 : List Jvm.Cond := Jvm.Cond.code x code maxLocals ret :: tables_1
/-- a 'code' word, met by the world's own term for the bytes: nothing is compared byte by byte -/
theorem code_word {y : MethodName} {bytes : ByteArray} {mx : Nat} {rt : Option FieldType} {a : Array Value} {s : State} {m : MethodId} {meth : Method} {c : Code} (h1 : s.methodNamed? y = some m) (h2 : s.vm.method? m = some meth) (h3 : meth.code = some c) (h4 : c.code = bytes)
    (h5 : (c.maxLocals == mx && c.exceptionTable.isEmpty && decide (c.maxStack ≤ mostOperands) && decide (meth.sig.returnType = rt) && !meth.locks && decide (parseMethodDescriptor y.desc = some meth.sig)) = true) : (Jvm.Cond.code y bytes mx rt).before a s = true := by
  simp only [Bool.and_eq_true, beq_iff_eq, Bool.not_eq_true', decide_eq_true_eq] at h5
  obtain ⟨⟨⟨⟨⟨g1, g2⟩, g3⟩, g4⟩, g5⟩, g6⟩ := h5
  simp [Cond.before, Cond.holds, Cond.value, h1, h2, h3, h4, g1, g2, g3, g4, g5, g6]
def isCode : Jvm.Cond → Bool
  | .code _ _ _ _ => true
  | _ => false
theorem all_split {L : List Jvm.Cond} {P : Jvm.Cond → Bool} (h1 : L.all (fun c => isCode c || P c) = true) (h2 : ∀ c ∈ L.filter isCode, P c = true) : L.all P = true := by
  refine List.all_eq_true.mpr fun c hc => ?_
  have h := List.all_eq_true.mp h1 c hc
  rcases Bool.eq_false_or_eq_true (isCode c) with hi | hi
  · exact h2 c (List.mem_filter.mpr ⟨hc, hi⟩)
  · simpa [hi] using h
set_option maxRecDepth 65536 in
theorem w_c0 : (Jvm.Cond.code x code maxLocals ret).before args0 about1 = true := code_word (m := ⟨1, 4⟩) (meth := k1m4) (c := k1c4) (by decide +kernel) rfl rfl rfl (by decide +kernel)
set_option maxRecDepth 65536 in
theorem w_c1 : (Jvm.Cond.code ({ cls := "com/example/partition_planner/partitionplanner/RelationshipRelatesPinLaw", name := "ch", desc := "(I)C" } : Jvm.MethodName) method_2_code (2 : Nat) (Option.some Jvm.ClassFile.FieldType.char)).before args0 about1 = true := code_word (m := ⟨1, 1⟩) (meth := k1m1) (c := k1c1) (by decide +kernel) rfl rfl rfl (by decide +kernel)
set_option maxRecDepth 65536 in
theorem w_c2 : (Jvm.Cond.code ({ cls := "com/example/partition_planner/partitionplanner/RelationshipRelatesPinLaw", name := "str", desc := "(ICC)Ljava/lang/String;" } : Jvm.MethodName) method_3_code (3 : Nat) (Option.some (Jvm.ClassFile.FieldType.object "java/lang/String"))).before args0 about1 = true := code_word (m := ⟨1, 2⟩) (meth := k1m2) (c := k1c2) (by decide +kernel) rfl rfl rfl (by decide +kernel)
set_option maxRecDepth 65536 in
theorem w_c3 : (Jvm.Cond.code ({ cls := "java/lang/String", name := "<init>", desc := "([C)V" } : Jvm.MethodName) jdk_42_method_3_code (2 : Nat) (Option.none : Option Jvm.ClassFile.FieldType)).before args0 about1 = true := code_word (m := ⟨11, 1⟩) (meth := k11m1) (c := k11c1) (by decide +kernel) rfl rfl rfl (by decide +kernel)
set_option maxRecDepth 65536 in
theorem w_c4 : (Jvm.Cond.code ({ cls := "java/lang/String", name := "<init>", desc := "([CIILjava/lang/Void;)V" } : Jvm.MethodName) jdk_42_method_149_code (6 : Nat) (Option.none : Option Jvm.ClassFile.FieldType)).before args0 about1 = true := code_word (m := ⟨11, 6⟩) (meth := k11m6) (c := k11c6) (by decide +kernel) rfl rfl rfl (by decide +kernel)
set_option maxRecDepth 65536 in
theorem w_c5 : (Jvm.Cond.code ({ cls := "java/lang/Object", name := "<init>", desc := "()V" } : Jvm.MethodName) object_method_1_code (1 : Nat) (Option.none : Option Jvm.ClassFile.FieldType)).before args0 about1 = true := code_word (m := ⟨0, 0⟩) (meth := k0m0) (c := k0c0) (by decide +kernel) rfl rfl rfl (by decide +kernel)
set_option maxRecDepth 65536 in
theorem w_c6 : (Jvm.Cond.code ({ cls := "java/lang/StringUTF16", name := "compress", desc := "([CII)[B" } : Jvm.MethodName) jdk_52_method_16_code (6 : Nat) (Option.some (Jvm.ClassFile.FieldType.array Jvm.ClassFile.FieldType.byte))).before args0 about1 = true := code_word (m := ⟨12, 2⟩) (meth := k12m2) (c := k12c2) (by decide +kernel) rfl rfl rfl (by decide +kernel)
set_option maxRecDepth 65536 in
theorem w_c7 : (Jvm.Cond.code ({ cls := "java/lang/StringUTF16", name := "compress", desc := "([CI[BII)I" } : Jvm.MethodName) jdk_52_method_21_code (7 : Nat) (Option.some Jvm.ClassFile.FieldType.int)).before args0 about1 = true := code_word (m := ⟨12, 3⟩) (meth := k12m3) (c := k12c3) (by decide +kernel) rfl rfl rfl (by decide +kernel)
set_option maxRecDepth 65536 in
theorem w_c8 : (Jvm.Cond.code ({ cls := "java/lang/StringUTF16", name := "coderFromArrayLen", desc := "([BI)B" } : Jvm.MethodName) jdk_52_method_15_code (2 : Nat) (Option.some Jvm.ClassFile.FieldType.byte)).before args0 about1 = true := code_word (m := ⟨12, 1⟩) (meth := k12m1) (c := k12c1) (by decide +kernel) rfl rfl rfl (by decide +kernel)
set_option maxRecDepth 65536 in
theorem w_c9 : (Jvm.Cond.code ({ cls := "com/example/partition_planner/partitionplanner/Relationship", name := "<init>", desc := "(Ljava/lang/String;Ljava/lang/String;Ljava/lang/String;Lcom/example/partition_planner/partitionplanner/Cardinality;)V" } : Jvm.MethodName) prog_25_method_1_code (5 : Nat) (Option.none : Option Jvm.ClassFile.FieldType)).before args0 about1 = true := code_word (m := ⟨8, 0⟩) (meth := k8m0) (c := k8c0) (by decide +kernel) rfl rfl rfl (by decide +kernel)
set_option maxRecDepth 65536 in
theorem w_c10 : (Jvm.Cond.code ({ cls := "java/lang/Record", name := "<init>", desc := "()V" } : Jvm.MethodName) jdk_30_method_1_code (1 : Nat) (Option.none : Option Jvm.ClassFile.FieldType)).before args0 about1 = true := code_word (m := ⟨7, 0⟩) (meth := k7m0) (c := k7c0) (by decide +kernel) rfl rfl rfl (by decide +kernel)
set_option maxRecDepth 65536 in
theorem w_c11 : (Jvm.Cond.code ({ cls := "java/util/Objects", name := "requireNonNull", desc := "(Ljava/lang/Object;Ljava/lang/String;)Ljava/lang/Object;" } : Jvm.MethodName) jdk_31_method_11_code (2 : Nat) (Option.some (Jvm.ClassFile.FieldType.object "java/lang/Object"))).before args0 about1 = true := code_word (m := ⟨13, 1⟩) (meth := k13m1) (c := k13c1) (by decide +kernel) rfl rfl rfl (by decide +kernel)
set_option maxRecDepth 65536 in
theorem w_c12 : (Jvm.Cond.code ({ cls := "java/lang/String", name := "isBlank", desc := "()Z" } : Jvm.MethodName) jdk_42_method_117_code (1 : Nat) (Option.some Jvm.ClassFile.FieldType.boolean)).before args0 about1 = true := code_word (m := ⟨11, 4⟩) (meth := k11m4) (c := k11c4) (by decide +kernel) rfl rfl rfl (by decide +kernel)
set_option maxRecDepth 65536 in
theorem w_c13 : (Jvm.Cond.code ({ cls := "java/lang/String", name := "indexOfNonWhitespace", desc := "()I" } : Jvm.MethodName) jdk_42_method_120_code (1 : Nat) (Option.some Jvm.ClassFile.FieldType.int)).before args0 about1 = true := code_word (m := ⟨11, 5⟩) (meth := k11m5) (c := k11c5) (by decide +kernel) rfl rfl rfl (by decide +kernel)
set_option maxRecDepth 65536 in
theorem w_c14 : (Jvm.Cond.code ({ cls := "java/lang/String", name := "isLatin1", desc := "()Z" } : Jvm.MethodName) jdk_42_method_154_code (1 : Nat) (Option.some Jvm.ClassFile.FieldType.boolean)).before args0 about1 = true := code_word (m := ⟨11, 8⟩) (meth := k11m8) (c := k11c8) (by decide +kernel) rfl rfl rfl (by decide +kernel)
set_option maxRecDepth 65536 in
theorem w_c15 : (Jvm.Cond.code ({ cls := "java/lang/StringLatin1", name := "indexOfNonWhitespace", desc := "([B)I" } : Jvm.MethodName) jdk_43_method_37_code (4 : Nat) (Option.some Jvm.ClassFile.FieldType.int)).before args0 about1 = true := code_word (m := ⟨14, 2⟩) (meth := k14m2) (c := k14c2) (by decide +kernel) rfl rfl rfl (by decide +kernel)
set_option maxRecDepth 65536 in
theorem w_c16 : (Jvm.Cond.code ({ cls := "java/lang/StringLatin1", name := "getChar", desc := "([BI)C" } : Jvm.MethodName) jdk_43_method_44_code (2 : Nat) (Option.some Jvm.ClassFile.FieldType.char)).before args0 about1 = true := code_word (m := ⟨14, 3⟩) (meth := k14m3) (c := k14c3) (by decide +kernel) rfl rfl rfl (by decide +kernel)
set_option maxRecDepth 65536 in
theorem w_c17 : (Jvm.Cond.code ({ cls := "java/lang/CharacterDataLatin1", name := "isWhitespace", desc := "(I)Z" } : Jvm.MethodName) jdk_116_method_26_code (3 : Nat) (Option.some Jvm.ClassFile.FieldType.boolean)).before args0 about1 = true := code_word (m := ⟨16, 1⟩) (meth := k16m1) (c := k16c1) (by decide +kernel) rfl rfl rfl (by decide +kernel)
set_option maxRecDepth 65536 in
theorem w_c18 : (Jvm.Cond.code ({ cls := "java/lang/CharacterDataLatin1", name := "getProperties", desc := "(I)I" } : Jvm.MethodName) jdk_116_method_1_code (4 : Nat) (Option.some Jvm.ClassFile.FieldType.int)).before args0 about1 = true := code_word (m := ⟨16, 0⟩) (meth := k16m0) (c := k16c0) (by decide +kernel) rfl rfl rfl (by decide +kernel)
set_option maxRecDepth 65536 in
theorem w_c19 : (Jvm.Cond.code ({ cls := "java/lang/String", name := "length", desc := "()I" } : Jvm.MethodName) jdk_42_method_54_code (1 : Nat) (Option.some Jvm.ClassFile.FieldType.int)).before args0 about1 = true := code_word (m := ⟨11, 2⟩) (meth := k11m2) (c := k11c2) (by decide +kernel) rfl rfl rfl (by decide +kernel)
set_option maxRecDepth 65536 in
theorem w_c20 : (Jvm.Cond.code ({ cls := "java/lang/String", name := "coder", desc := "()B" } : Jvm.MethodName) jdk_42_method_152_code (1 : Nat) (Option.some Jvm.ClassFile.FieldType.byte)).before args0 about1 = true := code_word (m := ⟨11, 7⟩) (meth := k11m7) (c := k11c7) (by decide +kernel) rfl rfl rfl (by decide +kernel)
set_option maxRecDepth 65536 in
theorem w_c21 : (Jvm.Cond.code ({ cls := "com/example/partition_planner/partitionplanner/Relationship", name := "relates", desc := "(Ljava/lang/String;)Z" } : Jvm.MethodName) prog_25_method_2_code (2 : Nat) (Option.some Jvm.ClassFile.FieldType.boolean)).before args0 about1 = true := code_word (m := ⟨8, 1⟩) (meth := k8m1) (c := k8c1) (by decide +kernel) rfl rfl rfl (by decide +kernel)
set_option maxRecDepth 65536 in
theorem w_c22 : (Jvm.Cond.code ({ cls := "java/lang/String", name := "equals", desc := "(Ljava/lang/Object;)Z" } : Jvm.MethodName) jdk_42_method_66_code (3 : Nat) (Option.some Jvm.ClassFile.FieldType.boolean)).before args0 about1 = true := code_word (m := ⟨11, 3⟩) (meth := k11m3) (c := k11c3) (by decide +kernel) rfl rfl rfl (by decide +kernel)
set_option maxRecDepth 65536 in
theorem w_c23 : (Jvm.Cond.code ({ cls := "java/lang/StringLatin1", name := "equals", desc := "([B[B)Z" } : Jvm.MethodName) jdk_43_method_13_code (3 : Nat) (Option.some Jvm.ClassFile.FieldType.boolean)).before args0 about1 = true := code_word (m := ⟨14, 1⟩) (meth := k14m1) (c := k14c1) (by decide +kernel) rfl rfl rfl (by decide +kernel)
set_option maxRecDepth 65536 in
theorem w_c24 : (Jvm.Cond.code ({ cls := "com/example/partition_planner/partitionplanner/RelationshipRelatesPinLaw", name := "same", desc := "(ICCICC)Z" } : Jvm.MethodName) method_4_code (6 : Nat) (Option.some Jvm.ClassFile.FieldType.boolean)).before args0 about1 = true := code_word (m := ⟨1, 3⟩) (meth := k1m3) (c := k1c3) (by decide +kernel) rfl rfl rfl (by decide +kernel)
def codes1 : List Jvm.Cond := [Jvm.Cond.code x code maxLocals ret, Jvm.Cond.code ({ cls := "com/example/partition_planner/partitionplanner/RelationshipRelatesPinLaw", name := "ch", desc := "(I)C" } : Jvm.MethodName) method_2_code (2 : Nat) (Option.some Jvm.ClassFile.FieldType.char), Jvm.Cond.code ({ cls := "com/example/partition_planner/partitionplanner/RelationshipRelatesPinLaw", name := "str", desc := "(ICC)Ljava/lang/String;" } : Jvm.MethodName) method_3_code (3 : Nat) (Option.some (Jvm.ClassFile.FieldType.object "java/lang/String")), Jvm.Cond.code ({ cls := "java/lang/String", name := "<init>", desc := "([C)V" } : Jvm.MethodName) jdk_42_method_3_code (2 : Nat) (Option.none : Option Jvm.ClassFile.FieldType), Jvm.Cond.code ({ cls := "java/lang/String", name := "<init>", desc := "([CIILjava/lang/Void;)V" } : Jvm.MethodName) jdk_42_method_149_code (6 : Nat) (Option.none : Option Jvm.ClassFile.FieldType), Jvm.Cond.code ({ cls := "java/lang/Object", name := "<init>", desc := "()V" } : Jvm.MethodName) object_method_1_code (1 : Nat) (Option.none : Option Jvm.ClassFile.FieldType), Jvm.Cond.code ({ cls := "java/lang/StringUTF16", name := "compress", desc := "([CII)[B" } : Jvm.MethodName) jdk_52_method_16_code (6 : Nat) (Option.some (Jvm.ClassFile.FieldType.array Jvm.ClassFile.FieldType.byte)), Jvm.Cond.code ({ cls := "java/lang/StringUTF16", name := "compress", desc := "([CI[BII)I" } : Jvm.MethodName) jdk_52_method_21_code (7 : Nat) (Option.some Jvm.ClassFile.FieldType.int), Jvm.Cond.code ({ cls := "java/lang/StringUTF16", name := "coderFromArrayLen", desc := "([BI)B" } : Jvm.MethodName) jdk_52_method_15_code (2 : Nat) (Option.some Jvm.ClassFile.FieldType.byte), Jvm.Cond.code ({ cls := "com/example/partition_planner/partitionplanner/Relationship", name := "<init>", desc := "(Ljava/lang/String;Ljava/lang/String;Ljava/lang/String;Lcom/example/partition_planner/partitionplanner/Cardinality;)V" } : Jvm.MethodName) prog_25_method_1_code (5 : Nat) (Option.none : Option Jvm.ClassFile.FieldType), Jvm.Cond.code ({ cls := "java/lang/Record", name := "<init>", desc := "()V" } : Jvm.MethodName) jdk_30_method_1_code (1 : Nat) (Option.none : Option Jvm.ClassFile.FieldType), Jvm.Cond.code ({ cls := "java/util/Objects", name := "requireNonNull", desc := "(Ljava/lang/Object;Ljava/lang/String;)Ljava/lang/Object;" } : Jvm.MethodName) jdk_31_method_11_code (2 : Nat) (Option.some (Jvm.ClassFile.FieldType.object "java/lang/Object")), Jvm.Cond.code ({ cls := "java/lang/String", name := "isBlank", desc := "()Z" } : Jvm.MethodName) jdk_42_method_117_code (1 : Nat) (Option.some Jvm.ClassFile.FieldType.boolean), Jvm.Cond.code ({ cls := "java/lang/String", name := "indexOfNonWhitespace", desc := "()I" } : Jvm.MethodName) jdk_42_method_120_code (1 : Nat) (Option.some Jvm.ClassFile.FieldType.int), Jvm.Cond.code ({ cls := "java/lang/String", name := "isLatin1", desc := "()Z" } : Jvm.MethodName) jdk_42_method_154_code (1 : Nat) (Option.some Jvm.ClassFile.FieldType.boolean), Jvm.Cond.code ({ cls := "java/lang/StringLatin1", name := "indexOfNonWhitespace", desc := "([B)I" } : Jvm.MethodName) jdk_43_method_37_code (4 : Nat) (Option.some Jvm.ClassFile.FieldType.int), Jvm.Cond.code ({ cls := "java/lang/StringLatin1", name := "getChar", desc := "([BI)C" } : Jvm.MethodName) jdk_43_method_44_code (2 : Nat) (Option.some Jvm.ClassFile.FieldType.char), Jvm.Cond.code ({ cls := "java/lang/CharacterDataLatin1", name := "isWhitespace", desc := "(I)Z" } : Jvm.MethodName) jdk_116_method_26_code (3 : Nat) (Option.some Jvm.ClassFile.FieldType.boolean), Jvm.Cond.code ({ cls := "java/lang/CharacterDataLatin1", name := "getProperties", desc := "(I)I" } : Jvm.MethodName) jdk_116_method_1_code (4 : Nat) (Option.some Jvm.ClassFile.FieldType.int), Jvm.Cond.code ({ cls := "java/lang/String", name := "length", desc := "()I" } : Jvm.MethodName) jdk_42_method_54_code (1 : Nat) (Option.some Jvm.ClassFile.FieldType.int), Jvm.Cond.code ({ cls := "java/lang/String", name := "coder", desc := "()B" } : Jvm.MethodName) jdk_42_method_152_code (1 : Nat) (Option.some Jvm.ClassFile.FieldType.byte), Jvm.Cond.code ({ cls := "com/example/partition_planner/partitionplanner/Relationship", name := "relates", desc := "(Ljava/lang/String;)Z" } : Jvm.MethodName) prog_25_method_2_code (2 : Nat) (Option.some Jvm.ClassFile.FieldType.boolean), Jvm.Cond.code ({ cls := "java/lang/String", name := "equals", desc := "(Ljava/lang/Object;)Z" } : Jvm.MethodName) jdk_42_method_66_code (3 : Nat) (Option.some Jvm.ClassFile.FieldType.boolean), Jvm.Cond.code ({ cls := "java/lang/StringLatin1", name := "equals", desc := "([B[B)Z" } : Jvm.MethodName) jdk_43_method_13_code (3 : Nat) (Option.some Jvm.ClassFile.FieldType.boolean), Jvm.Cond.code ({ cls := "com/example/partition_planner/partitionplanner/RelationshipRelatesPinLaw", name := "same", desc := "(ICCICC)Z" } : Jvm.MethodName) method_4_code (6 : Nat) (Option.some Jvm.ClassFile.FieldType.boolean)]
set_option maxRecDepth 65536 in
theorem codes_eq : words1.filter isCode = codes1 := rfl
theorem w_codes : ∀ c ∈ words1.filter isCode, c.before args0 about1 = true := by
  rw [codes_eq]
  intro c hc
  simp only [codes1, List.mem_cons, List.not_mem_nil, or_false] at hc
  rcases hc with rfl | rfl | rfl | rfl | rfl | rfl | rfl | rfl | rfl | rfl | rfl | rfl | rfl | rfl | rfl | rfl | rfl | rfl | rfl | rfl | rfl | rfl | rfl | rfl | rfl
  · exact w_c0
  · exact w_c1
  · exact w_c2
  · exact w_c3
  · exact w_c4
  · exact w_c5
  · exact w_c6
  · exact w_c7
  · exact w_c8
  · exact w_c9
  · exact w_c10
  · exact w_c11
  · exact w_c12
  · exact w_c13
  · exact w_c14
  · exact w_c15
  · exact w_c16
  · exact w_c17
  · exact w_c18
  · exact w_c19
  · exact w_c20
  · exact w_c21
  · exact w_c22
  · exact w_c23
  · exact w_c24
set_option maxRecDepth 65536 in
theorem w_t1 : (words1.take 24).all (fun c => isCode c || c.before args0 about1) = true := by decide +kernel
set_option maxRecDepth 65536 in
theorem w_t2 : ((words1.drop 24).take 24).all (fun c => isCode c || c.before args0 about1) = true := by decide +kernel
set_option maxRecDepth 65536 in
theorem w_t3 : (((words1.drop 24).drop 24).take 24).all (fun c => isCode c || c.before args0 about1) = true := by decide +kernel
set_option maxRecDepth 65536 in
theorem w_t4 : ((((words1.drop 24).drop 24).drop 24).take 24).all (fun c => isCode c || c.before args0 about1) = true := by decide +kernel
set_option maxRecDepth 65536 in
theorem w_t5 : (((((words1.drop 24).drop 24).drop 24).drop 24).take 24).all (fun c => isCode c || c.before args0 about1) = true := by decide +kernel
set_option maxRecDepth 65536 in
theorem w_t6 : (((((words1.drop 24).drop 24).drop 24).drop 24).drop 24).all (fun c => isCode c || c.before args0 about1) = true := by decide +kernel
theorem w_tables : (allAtoms (Jvm.Cond.code x code maxLocals ret :: tables_1)).before args0 about1 = true := by
  rw [allAtoms_all]
  show words1.all (fun c => c.before args0 about1) = true
  refine all_split ?_ w_codes
  rw [← List.take_append_drop 24 words1, List.all_append, w_t1, ← List.take_append_drop 24 (words1.drop 24), List.all_append, w_t2, ← List.take_append_drop 24 ((words1.drop 24).drop 24), List.all_append, w_t3, ← List.take_append_drop 24 (((words1.drop 24).drop 24).drop 24), List.all_append, w_t4, ← List.take_append_drop 24 ((((words1.drop 24).drop 24).drop 24).drop 24), List.all_append, w_t5, w_t6]
  rfl
set_option maxRecDepth 65536 in
theorem w_rest : rest_1_c.before args0 about1 = true := by decide +kernel
set_option maxRecDepth 65536 in
theorem w_case : (Jvm.Cond.and given_1 narrow_1).before args0 about1 = true := by decide +kernel
set_option maxRecDepth 65536 in
theorem w_consts : constsHeld consts_1 about1 := Jvm.Lit.constsHeldB_iff.mp (by decide +kernel)
theorem w_applies : (headSpec (Jvm.Cond.code x code maxLocals ret :: tables_1) room_1).applies x e0.platform about1 = true :=
  (Spec.applies_iff w_frames).mpr ⟨w_running, w_runnable, w_alone, w_named, w_hears, w_ripe, w_room, w_tables⟩
theorem atStart : AtStart classFile x code maxLocals ret World_1 tables_1 room_1 Calls_1 rest_1 Pre_1 launch0 p0 e0 about1 theMethod args0 below0 :=
  ⟨lists_1, trivial, launch0.admits_env _ _ _, launch0.least_env, fairChoices_fair.cas, fairChoices_fair.clock, w_frames, w_args, w_heap, w_applies, ⟨w_consts, trivial⟩, w_rest, w_case⟩
end start1
theorem witness_1 : WitnessClaimed_1 := ⟨start1.p0, start1.e0, start1.about1, start1.theMethod, start1.args0, start1.below0, start1.atStart⟩
end Jvm.Pilot.@@N@@
