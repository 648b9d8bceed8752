import JvmDerived
import JvmDerived.Pilot.@@N@@Statement
import JvmDerived.Pilot.@@N@@Code
set_option linter.unusedVariables false
set_option linter.unusedSimpArgs false
@@BLOCK:NumsL.lean.txt@@
/- laws to paste: Road.backV (cut by pick.py; bodies as the Statement names them) -/
namespace Jvm.Pilot.@@N@@
namespace StrChars
open Jvm Sem ClassFile Op Lib Jvm.Stand Jvm.Free.XT Jvm.Free.ALB Jvm.Free.JM Jvm.Free
open Jvm.Lib.Cold (StaticIs)
/-- a char array whose places are chars -/
def Ch (a : Addr) (A : Cell) (U : State) : Prop := Arr .char a A U ∧ Typed .char A
theorem Ch.mv {a : Addr} {A : Cell} {U U' : State} (h : Ch a A U) (hal : U.vm.Alike U'.vm) (hh : U'.heap = U.heap) : Ch a A U' := ⟨h.1.mv hal hh, h.2⟩
theorem Ch.keep {a : Addr} {A : Cell} {U U' : State} (h : Ch a A U) (hal : U.vm.Alike U'.vm) (hk : U'.heap[a]? = some A) : Ch a A U' := ⟨h.1.keep hal hk, h.2⟩
/-- what place i of a char[]'s cell holds -/
def cv (A : Cell) (i : Nat) : Int32 := match A.slots[i]? with | some (.int x) => x | _ => 0
theorem Ch.get {a : Addr} {A : Cell} {U : State} (h : Ch a A U) {i : Nat} (hi : i < A.slots.size) : A.slots[i]? = some (.int (cv A i)) := by
  have e := Array.getElem?_eq_getElem hi
  have f := h.2 i _ e
  unfold cv; rw [e]
  generalize A.slots[i] = v at f
  cases v <;> simp [fits] at f ⊢
/-- the byte that i2b leaves of a char -/
def lo8 (x : Int32) : Int32 := x.toInt8.toInt32
theorem fits_lo8 (y : Int32) : fits .byte (.int (lo8 y)) = true := by
  have h1 := y.toInt8.le_toInt
  have h2 := y.toInt8.toInt_lt
  simp only [lo8, fits, Bool.and_eq_true, decide_eq_true_eq, Int32.le_iff_toInt_le, Int8.toInt_toInt32, show (-128 : Int32).toInt = -128 from by decide, show (127 : Int32).toInt = 127 from by decide]
  omega
/-- A' is A but that each place j of lo .. hi - 1 holds f j -/
def Laid (A A' : Cell) (lo hi : Nat) (f : Nat → Value) : Prop := A'.cls = A.cls ∧ A'.vm = A.vm ∧ A'.slots.size = A.slots.size ∧ ∀ i, A'.slots[i]? = if lo ≤ i ∧ i < hi then some (f i) else A.slots[i]?
theorem Laid.zero (A : Cell) (lo : Nat) (f : Nat → Value) : Laid A A lo (lo + 0) f := ⟨rfl, rfl, rfl, fun i => by rw [if_neg (by omega)]⟩
theorem Laid.step {A Ak : Cell} {lo k : Nat} {f : Nat → Value} {v : Value} (h : Laid A Ak lo k f) (hlo : lo ≤ k) (hk : k < Ak.slots.size) (hv : v = f k) : Laid A (Ak.setSlot k v) lo (k + 1) f := by
  refine ⟨h.1, h.2.1, by simpa [Cell.setSlot] using h.2.2.1, fun i => ?_⟩
  by_cases e : k = i
  · subst e; rw [Cell.slots_setSlot_self v hk, if_pos (by omega), hv]
  · rw [Cell.slots_setSlot_ne v e, h.2.2.2 i]
    by_cases q : lo ≤ i ∧ i < k
    · rw [if_pos q, if_pos (by omega)]
    · rw [if_neg q, if_neg (by omega)]
def U16 : String := "java/lang/StringUTF16"
namespace Cmp5
def yN : MethodName := ⟨"java/lang/StringUTF16", "compress", "([CI[BII)I"⟩
abbrev yB : ByteArray := jdk_52_method_21_code
theorem d0 : decode yB 0 = .ok (.iconst 0, 1) := by decide +kernel
theorem d1 : decode yB 1 = .ok (.istore 5, 2) := by decide +kernel
theorem d3 : decode yB 3 = .ok (.iload 5, 2) := by decide +kernel
theorem d5 : decode yB 5 = .ok (.iload 4, 2) := by decide +kernel
theorem d7 : decode yB 7 = .ok (.if_icmp (.ge) 37, 3) := by decide +kernel
theorem d10 : decode yB 10 = .ok (.aload_n 0, 1) := by decide +kernel
theorem d11 : decode yB 11 = .ok (.iload_n 1, 1) := by decide +kernel
theorem d12 : decode yB 12 = .ok (.caload, 1) := by decide +kernel
theorem d13 : decode yB 13 = .ok (.istore 6, 2) := by decide +kernel
theorem d15 : decode yB 15 = .ok (.iload 6, 2) := by decide +kernel
theorem d17 : decode yB 17 = .ok (.sipush 255, 3) := by decide +kernel
theorem d20 : decode yB 20 = .ok (.if_icmp (.le) 6, 3) := by decide +kernel
theorem d26 : decode yB 26 = .ok (.aload_n 2, 1) := by decide +kernel
theorem d27 : decode yB 27 = .ok (.iload_n 3, 1) := by decide +kernel
theorem d28 : decode yB 28 = .ok (.iload 6, 2) := by decide +kernel
theorem d30 : decode yB 30 = .ok (.i2b, 1) := by decide +kernel
theorem d31 : decode yB 31 = .ok (.bastore, 1) := by decide +kernel
theorem d32 : decode yB 32 = .ok (.iinc 1 1, 3) := by decide +kernel
theorem d35 : decode yB 35 = .ok (.iinc 3 1, 3) := by decide +kernel
theorem d38 : decode yB 38 = .ok (.iinc 5 1, 3) := by decide +kernel
theorem d41 : decode yB 41 = .ok (.goto (-38), 3) := by decide +kernel
theorem d44 : decode yB 44 = .ok (.iload 4, 2) := by decide +kernel
theorem d46 : decode yB 46 = .ok (.ireturn, 1) := by decide +kernel
def site : List Cond := []
def tab : Cond := tabOf yN yB 7 (some .int) site
def P (b : Addr) (A : Cell) (d : Addr) (B : Cell) (o q len : Nat) (args : Array Value) (s : State) : Prop := args = #[.ref b, .int (Int32.ofNat o), .ref d, .int (Int32.ofNat q), .int (Int32.ofNat len)] ∧ Ch b A s ∧ Arr .byte d B s ∧ b ≠ d ∧ o + len ≤ A.slots.size ∧ q + len ≤ B.slots.size ∧ ∀ i, i < len → ¬ 255 < cv A (o + i)
def E (b : Addr) (A : Cell) (d : Addr) (B : Cell) (o q len : Nat) (r : Option Value) (s u : State) : Prop := r = some (.int (Int32.ofNat len)) ∧ ∃ B', Put d B' s u ∧ Laid B B' q (q + len) (fun j => Value.int (lo8 (cv A (o + (j - q)))))
/-- no char of the range above 255: len; the places written hold each char's low byte -/
theorem law (l : Launch) (b : Addr) (A : Cell) (d : Addr) (B : Cell) (o q len : Nat) : Law l yN 5 5 0 0 yB 7 (some .int) site (P b A d B o q len) (E b A d B o q len) (copyLocs d q len) 0 0 := by
  refine Law.of_walk (plainFor_of_name (by decide +kernel)) (by decide +kernel) (by decide +kernel) (by decide) (fun _ _ h => by rw [h.1]; rfl) (fun _ U U' hal hh h => ⟨h.1, h.2.1.mv hal hh, h.2.2.1.mv hal hh, h.2.2.2⟩) (fun r U U' V V' h1 hal h2 h => ⟨h.1, h.2.elim fun B' q => ⟨B', q.1.mv h1 h2, q.2⟩⟩) ?_
  intro p e s m args below meth c s₁ X0 hexec hbytes hml hret hlk hnm hown hh0 W hP
  obtain ⟨rfl, hA, hB, hne, l1, l2, hp⟩ := hP
  have c1 : Steps p.tables e below (s₁.setTop (entryFrame m #[.ref b, .int (Int32.ofNat o), .ref d, .int (Int32.ofNat q), .int (Int32.ofNat len)] 7)) (s₁.setTop (mkF m 0 #[.val (.ref b), .val (.int (Int32.ofNat o)), .val (.ref d), .val (.int (Int32.ofNat q)), .val (.int (Int32.ofNat len)), .unset, .unset] [])) := entry rfl
  have hA0 := hA.1.mv X0.warmed.alike hh0
  have hB0 := hB.mv X0.warmed.alike hh0
  have a31 := hA.1.2.2.2
  have c2 : Steps p.tables e below (s₁.setTop (entryFrame m #[.ref b, .int (Int32.ofNat o), .ref d, .int (Int32.ofNat q), .int (Int32.ofNat len)] 7)) (s₁.setTop (mkF m 3 #[.val (.ref b), .val (.int (Int32.ofNat o)), .val (.ref d), .val (.int (Int32.ofNat q)), .val (.int (Int32.ofNat len)), .val (.int 0), .unset] [])) := c1.trans (by
    refine iconstV X0.here hexec rfl 0 (hb hbytes d0) (by decide) ?_
    refine XS.istore X0.here hexec rfl (hb hbytes d1) rfl rfl ?_
    exact Steps.refl _)
  have loop : ∀ (r i : Nat), i + r = len → ∀ (z : Slot), (z = .unset ∨ ∃ w, z = .val w ∧ w.category = 1) → ∀ (Tl : State) (Bk : Cell), Stand p l e { frames := 0, locals := 0, cells := 0, slots := 0 } s m #[.ref b, .int (Int32.ofNat o), .ref d, .int (Int32.ofNat q), .int (Int32.ofNat len)] below meth c Tl ([] ++ copyLocs d q i) 0 0 → Put d Bk s₁ Tl → Laid B Bk q (q + i) (fun j => Value.int (lo8 (cv A (o + (j - q))))) →
      Steps p.tables e below (s₁.setTop (entryFrame m #[.ref b, .int (Int32.ofNat o), .ref d, .int (Int32.ofNat q), .int (Int32.ofNat len)] 7)) (Tl.setTop (mkF m 3 #[.val (.ref b), .val (.int (Int32.ofNat (o + i))), .val (.ref d), .val (.int (Int32.ofNat (q + i))), .val (.int (Int32.ofNat len)), .val (.int (Int32.ofNat i)), z] [])) → ∃ (T' : State) (B' : Cell) (z' : Slot), Stand p l e { frames := 0, locals := 0, cells := 0, slots := 0 } s m #[.ref b, .int (Int32.ofNat o), .ref d, .int (Int32.ofNat q), .int (Int32.ofNat len)] below meth c T' ([] ++ copyLocs d q len) 0 0 ∧ Put d B' s₁ T' ∧ Laid B B' q (q + len) (fun j => Value.int (lo8 (cv A (o + (j - q))))) ∧
      Steps p.tables e below (s₁.setTop (entryFrame m #[.ref b, .int (Int32.ofNat o), .ref d, .int (Int32.ofNat q), .int (Int32.ofNat len)] 7)) (T'.setTop (mkF m 3 #[.val (.ref b), .val (.int (Int32.ofNat (o + len))), .val (.ref d), .val (.int (Int32.ofNat (q + len))), .val (.int (Int32.ofNat len)), .val (.int (Int32.ofNat len)), z'] [])) := by
    intro r
    induction r with
    | zero =>
      intro i hi z hz Tl Bk Xl pl fl cl
      have hil : i = len := by omega
      rw [hil] at Xl fl cl
      exact ⟨Tl, Bk, z, Xl, pl, fl, cl⟩
    | succ r ih =>
      intro i hi z hz Tl Bk Xl pl fl cl
      have all := X0.warmed.alike.symm.trans Xl.warmed.alike
      have hAl := hA0.keep all (pl.other hne hA0.1)
      have hBk := hB0.like all pl.1 fl.1 fl.2.1 fl.2.2.1
      have hlt : q + i < Bk.slots.size := by rw [fl.2.2.1]; omega
      have c3 : Steps p.tables e below (s₁.setTop (entryFrame m #[.ref b, .int (Int32.ofNat o), .ref d, .int (Int32.ofNat q), .int (Int32.ofNat len)] 7)) (Tl.setTop (mkF m 12 #[.val (.ref b), .val (.int (Int32.ofNat (o + i))), .val (.ref d), .val (.int (Int32.ofNat (q + i))), .val (.int (Int32.ofNat len)), .val (.int (Int32.ofNat i)), z] [.int (Int32.ofNat (o + i)), .ref b])) := cl.trans (by
        refine XS.iload Xl.here hexec rfl (hb hbytes d3) rfl ?_
        refine XS.iload Xl.here hexec rfl (hb hbytes d5) rfl ?_
        refine XS.icmpNo Xl.here hexec rfl (hb hbytes d7) rfl (ii_ge_f (lt32 (by omega) (by omega))) ?_
        refine XS.aloadN Xl.here hexec rfl (hb hbytes d10) rfl rfl ?_
        refine XS.iloadN Xl.here hexec rfl (hb hbytes d11) rfl ?_
        exact Steps.refl _)
      have c4 : Steps p.tables e below (s₁.setTop (entryFrame m #[.ref b, .int (Int32.ofNat o), .ref d, .int (Int32.ofNat q), .int (Int32.ofNat len)] 7)) (Tl.setTop (mkF m 13 #[.val (.ref b), .val (.int (Int32.ofNat (o + i))), .val (.ref d), .val (.int (Int32.ofNat (q + i))), .val (.int (Int32.ofNat len)), .val (.int (Int32.ofNat i)), z] [.int (cv A (o + i))])) := c3.trans (by
        refine Xl.aget hexec hAl rfl (hA.get (i := o + i) (by omega)) rfl rfl (hb hbytes d12) ?_
        exact Steps.refl _)
      have c5 : Steps p.tables e below (s₁.setTop (entryFrame m #[.ref b, .int (Int32.ofNat o), .ref d, .int (Int32.ofNat q), .int (Int32.ofNat len)] 7)) (Tl.setTop (mkF m 15 #[.val (.ref b), .val (.int (Int32.ofNat (o + i))), .val (.ref d), .val (.int (Int32.ofNat (q + i))), .val (.int (Int32.ofNat len)), .val (.int (Int32.ofNat i)), .val (.int (cv A (o + i)))] [])) := c4.trans (by
        refine XS.istoreS Xl.here hexec rfl (hb hbytes d13) rfl rfl hz ?_
        exact Steps.refl _)
      have c6 : Steps p.tables e below (s₁.setTop (entryFrame m #[.ref b, .int (Int32.ofNat o), .ref d, .int (Int32.ofNat q), .int (Int32.ofNat len)] 7)) (Tl.setTop (mkF m 31 #[.val (.ref b), .val (.int (Int32.ofNat (o + i))), .val (.ref d), .val (.int (Int32.ofNat (q + i))), .val (.int (Int32.ofNat len)), .val (.int (Int32.ofNat i)), .val (.int (cv A (o + i)))] [.int (lo8 (cv A (o + i))), .int (Int32.ofNat (q + i)), .ref d])) := c5.trans (by
        refine XS.iload Xl.here hexec rfl (hb hbytes d15) rfl ?_
        refine sipushV Xl.here hexec rfl 255 (hb hbytes d17) (by decide) ?_
        refine XS.icmpYes Xl.here hexec rfl (pc0 := 20) rfl (hb hbytes d20) rfl (ii_le_t (hp i (by omega))) (by decide) rfl ?_
        refine XS.aloadN Xl.here hexec rfl (hb hbytes d26) rfl rfl ?_
        refine XS.iloadN Xl.here hexec rfl (hb hbytes d27) rfl ?_
        refine XS.iload Xl.here hexec rfl (hb hbytes d28) rfl ?_
        refine i2b Xl.here hexec rfl (hb hbytes d30) rfl ?_
        exact Steps.refl _)
      obtain ⟨T7, X7, p7, st7⟩ := Xl.aput hexec hBk rfl hlt rfl (fits_lo8 (cv A (o + i))) (g := (mkF m 31 #[.val (.ref b), .val (.int (Int32.ofNat (o + i))), .val (.ref d), .val (.int (Int32.ofNat (q + i))), .val (.int (Int32.ofNat len)), .val (.int (Int32.ofNat i)), .val (.int (cv A (o + i)))] [.int (lo8 (cv A (o + i))), .int (Int32.ofNat (q + i)), .ref d])) rfl (rest := []) rfl (hb hbytes d31)
      have c8 : Steps p.tables e below (s₁.setTop (entryFrame m #[.ref b, .int (Int32.ofNat o), .ref d, .int (Int32.ofNat q), .int (Int32.ofNat len)] 7)) (T7.setTop (mkF m 32 #[.val (.ref b), .val (.int (Int32.ofNat (o + i))), .val (.ref d), .val (.int (Int32.ofNat (q + i))), .val (.int (Int32.ofNat len)), .val (.int (Int32.ofNat i)), .val (.int (cv A (o + i)))] [])) := c6.trans (st7 _ (Steps.refl _))
      have c9 : Steps p.tables e below (s₁.setTop (entryFrame m #[.ref b, .int (Int32.ofNat o), .ref d, .int (Int32.ofNat q), .int (Int32.ofNat len)] 7)) (T7.setTop (mkF m 3 #[.val (.ref b), .val (.int (Int32.ofNat (o + i) + 1)), .val (.ref d), .val (.int (Int32.ofNat (q + i) + 1)), .val (.int (Int32.ofNat len)), .val (.int (Int32.ofNat i + 1)), .val (.int (cv A (o + i)))] [])) := c8.trans (by
        refine iincV X7.here hexec rfl 1 (hb hbytes d32) (by decide) rfl rfl ?_
        refine iincV X7.here hexec rfl 1 (hb hbytes d35) (by decide) rfl rfl ?_
        refine iincV X7.here hexec rfl 1 (hb hbytes d38) (by decide) rfl rfl ?_
        refine XS.goto X7.here hexec rfl (pc0 := 41) rfl (hb hbytes d41) (by decide) rfl ?_
        exact Steps.refl _)
      have c10 : Steps p.tables e below (s₁.setTop (entryFrame m #[.ref b, .int (Int32.ofNat o), .ref d, .int (Int32.ofNat q), .int (Int32.ofNat len)] 7)) (T7.setTop (mkF m 3 #[.val (.ref b), .val (.int (Int32.ofNat (o + (i + 1)))), .val (.ref d), .val (.int (Int32.ofNat (q + (i + 1)))), .val (.int (Int32.ofNat len)), .val (.int (Int32.ofNat (i + 1))), .val (.int (cv A (o + i)))] [])) := by
        have := c9
        rw [succ32, succ32, succ32] at this
        exact this
      exact ih (i + 1) (by omega) _ (Or.inr ⟨_, rfl, rfl⟩) T7 _ (by rw [copyLocs_step, ← List.append_assoc]; exact X7) (pl.trans p7) (fl.step (by omega) hlt (by simp)) c10
  obtain ⟨T9, B9, z9, X9, p9, f9, g9⟩ := loop len 0 (by omega) .unset (Or.inl rfl) s₁ B (by simpa [copyLocs] using X0) ⟨hB0.1, fun _ _ => rfl, rfl⟩ (Laid.zero _ _ _) c2
  have c11 : Steps p.tables e below (s₁.setTop (entryFrame m #[.ref b, .int (Int32.ofNat o), .ref d, .int (Int32.ofNat q), .int (Int32.ofNat len)] 7)) (T9.setTop (mkF m 46 #[.val (.ref b), .val (.int (Int32.ofNat (o + len))), .val (.ref d), .val (.int (Int32.ofNat (q + len))), .val (.int (Int32.ofNat len)), .val (.int (Int32.ofNat len)), z9] [.int (Int32.ofNat len)])) := g9.trans (by
    refine XS.iload X9.here hexec rfl (hb hbytes d3) rfl ?_
    refine XS.iload X9.here hexec rfl (hb hbytes d5) rfl ?_
    refine XS.icmpYes X9.here hexec rfl (pc0 := 7) rfl (hb hbytes d7) rfl (ii_ge_t (nlt32 (by omega) (Nat.le_refl _))) (by decide) rfl ?_
    refine XS.iload X9.here hexec rfl (hb hbytes d44) rfl ?_
    exact Steps.refl _)
  exact ⟨T9, some (.int (Int32.ofNat len)), _, _, _, X9, by simp, rfl, rfl, (fun h => by cases h), ⟨rfl, B9, p9.from hh0, f9⟩, fun fs hl => c11.trans (X9.ireturnOut hexec hret rfl (Or.inl rfl) (hb hbytes d46) hl)⟩
end Cmp5
namespace Cmp3
def yN : MethodName := ⟨"java/lang/StringUTF16", "compress", "([CII)[B"⟩
abbrev yB : ByteArray := jdk_52_method_16_code
theorem d0 : decode yB 0 = .ok (.iload_n 2, 1) := by decide +kernel
theorem d1 : decode yB 1 = .ok (.newarray .byte, 2) := by decide +kernel
theorem d3 : decode yB 3 = .ok (.astore_n 3, 1) := by decide +kernel
theorem d4 : decode yB 4 = .ok (.aload_n 0, 1) := by decide +kernel
theorem d5 : decode yB 5 = .ok (.iload_n 1, 1) := by decide +kernel
theorem d6 : decode yB 6 = .ok (.aload_n 3, 1) := by decide +kernel
theorem d7 : decode yB 7 = .ok (.iconst 0, 1) := by decide +kernel
theorem d8 : decode yB 8 = .ok (.iload_n 2, 1) := by decide +kernel
theorem d9 : decode yB 9 = .ok (.invokestatic 115, 3) := by decide +kernel
theorem d12 : decode yB 12 = .ok (.istore 4, 2) := by decide +kernel
theorem d14 : decode yB 14 = .ok (.iload 4, 2) := by decide +kernel
theorem d16 : decode yB 16 = .ok (.iload_n 2, 1) := by decide +kernel
theorem d17 : decode yB 17 = .ok (.if_icmp (.eq) 40, 3) := by decide +kernel
theorem d57 : decode yB 57 = .ok (.aload_n 3, 1) := by decide +kernel
theorem d58 : decode yB 58 = .ok (.areturn, 1) := by decide +kernel
def site : List Cond := [.arrayClass .byte, Cmp5.tab] ++ staticW U16 115 Cmp5.yN
def tab : Cond := tabOf yN yB 6 (some (.array .byte)) site
def P (b : Addr) (A : Cell) (o len : Nat) (args : Array Value) (s : State) : Prop := args = #[.ref b, .int (Int32.ofNat o), .int (Int32.ofNat len)] ∧ Ch b A s ∧ o + len ≤ A.slots.size ∧ len ≤ 536870912 ∧ ∀ i, i < len → ¬ 255 < cv A (o + i)
def E (b : Addr) (A : Cell) (o len : Nat) (r : Option Value) (s u : State) : Prop := NewArr .byte "[B" len (fun j => .int (lo8 (cv A (o + j)))) r s u ∧ u.heap.size = s.heap.size + 1
/-- no char of the range above 255: a new byte[] of their low bytes -/
theorem law (l : Launch) (b : Addr) (A : Cell) (o len : Nat) : Law l yN 3 3 1 18 yB 6 (some (.array .byte)) site (P b A o len) (E b A o len) [] 1 len := by
  refine Law.of_walk (plainFor_of_name (by decide +kernel)) (by decide +kernel) (by decide +kernel) (by decide) (fun _ _ h => by rw [h.1]; rfl) (fun _ U U' hal hh h => ⟨h.1, h.2.1.mv hal hh, h.2.2⟩) (fun r U U' V V' h1 hal h2 h => ⟨NewArr.mv r U U' V V' h1 hal h2 h.1, by rw [h1, h2]; exact h.2⟩) ?_
  intro p e s m args below meth c s₁ X0 hexec hbytes hml hret hlk hnm hown hh0 W hP
  obtain ⟨rfl, hA, l1, l2, hp⟩ := hP
  have a31 := hA.1.2.2.2
  have c1 : Steps p.tables e below (s₁.setTop (entryFrame m #[.ref b, .int (Int32.ofNat o), .int (Int32.ofNat len)] 6)) (s₁.setTop (mkF m 0 #[.val (.ref b), .val (.int (Int32.ofNat o)), .val (.int (Int32.ofNat len)), .unset, .unset, .unset] [])) := entry rfl
  have c2 : Steps p.tables e below (s₁.setTop (entryFrame m #[.ref b, .int (Int32.ofNat o), .int (Int32.ofNat len)] 6)) (s₁.setTop (mkF m 1 #[.val (.ref b), .val (.int (Int32.ofNat o)), .val (.int (Int32.ofNat len)), .unset, .unset, .unset] [.int (Int32.ofNat len)])) := c1.trans (by
    refine XS.iloadN X0.here hexec rfl (hb hbytes d0) rfl ?_
    exact Steps.refl _)
  obtain ⟨T3, B3, X3, ba3, bs3, bv3, bh3, bf3, st3⟩ := X0.anew hexec (atype := .byte) (wk W (.arrayClass .byte)) rfl (by show len * 1 ≤ _; omega) (by omega) (g := (mkF m 1 #[.val (.ref b), .val (.int (Int32.ofNat o)), .val (.int (Int32.ofNat len)), .unset, .unset, .unset] [.int (Int32.ofNat len)])) rfl (hb hbytes d1) (rest := []) rfl (Nat.le_refl _) (by show 0 + len ≤ len; omega)
  rw [hh0] at ba3 st3
  have kp3 : XT.Kept s T3 := (XT.Kept.of_eq hh0).push bh3
  have hA3 := hA.keep X3.warmed.alike (kp3 _ _ hA.1.1)
  have hne : b ≠ s.heap.size := hA.1.ne
  have c4 : Steps p.tables e below (s₁.setTop (entryFrame m #[.ref b, .int (Int32.ofNat o), .int (Int32.ofNat len)] 6)) (T3.setTop (mkF m 3 #[.val (.ref b), .val (.int (Int32.ofNat o)), .val (.int (Int32.ofNat len)), .unset, .unset, .unset] [.ref s.heap.size])) := c2.trans (st3 _ (Steps.refl _))
  have c5 : Steps p.tables e below (s₁.setTop (entryFrame m #[.ref b, .int (Int32.ofNat o), .int (Int32.ofNat len)] 6)) (T3.setTop (mkF m 9 #[.val (.ref b), .val (.int (Int32.ofNat o)), .val (.int (Int32.ofNat len)), .val (.ref s.heap.size), .unset, .unset] [.int (Int32.ofNat len), .int 0, .ref s.heap.size, .int (Int32.ofNat o), .ref b])) := c4.trans (by
    refine XS.astoreN X3.here hexec rfl (hb hbytes d3) rfl rfl rfl ?_
    refine XS.aloadN X3.here hexec rfl (hb hbytes d4) rfl rfl ?_
    refine XS.iloadN X3.here hexec rfl (hb hbytes d5) rfl ?_
    refine XS.aloadN X3.here hexec rfl (hb hbytes d6) rfl rfl ?_
    refine iconstV X3.here hexec rfl 0 (hb hbytes d7) (by decide) ?_
    refine XS.iloadN X3.here hexec rfl (hb hbytes d8) rfl ?_
    exact Steps.refl _)
  obtain ⟨v6, T6, X6, E6, g6⟩ := X3.callS hexec (Cmp5.law l b A s.heap.size B3 o 0 len) hown (wks W (staticW U16 115 Cmp5.yN)) (wk W Cmp5.tab) (W := 0) (Nat.le_of_ble_eq_true rfl) (Nat.le_of_ble_eq_true rfl) (Nat.le_refl _) (by show 0 + len + 0 ≤ len; omega) (g := (mkF m 9 #[.val (.ref b), .val (.int (Int32.ofNat o)), .val (.int (Int32.ofNat len)), .val (.ref s.heap.size), .unset, .unset] [.int (Int32.ofNat len), .int (Int32.ofNat 0), .ref s.heap.size, .int (Int32.ofNat o), .ref b])) rfl (by rw [hml]; rfl) c5 (argsL := [.ref b, .int (Int32.ofNat o), .ref s.heap.size, .int (Int32.ofNat 0), .int (Int32.ofNat len)]) (rest := []) rfl rfl (by show 2 * 0 + 0 ≤ _; decide) (hb hbytes d9) (⟨rfl, hA3, ba3, hne, l1, by rw [bs3]; simp, hp⟩)
  obtain ⟨rfl, B6, p6, f6⟩ := E6
  have c7 : Steps p.tables e below (s₁.setTop (entryFrame m #[.ref b, .int (Int32.ofNat o), .int (Int32.ofNat len)] 6)) (T6.setTop (mkF m 12 #[.val (.ref b), .val (.int (Int32.ofNat o)), .val (.int (Int32.ofNat len)), .val (.ref s.heap.size), .unset, .unset] [.int (Int32.ofNat len)])) := g6
  have c8 : Steps p.tables e below (s₁.setTop (entryFrame m #[.ref b, .int (Int32.ofNat o), .int (Int32.ofNat len)] 6)) (T6.setTop (mkF m 58 #[.val (.ref b), .val (.int (Int32.ofNat o)), .val (.int (Int32.ofNat len)), .val (.ref s.heap.size), .val (.int (Int32.ofNat len)), .unset] [.ref s.heap.size])) := c7.trans (by
    refine XS.istore X6.here hexec rfl (hb hbytes d12) rfl rfl ?_
    refine XS.iload X6.here hexec rfl (hb hbytes d14) rfl ?_
    refine XS.iloadN X6.here hexec rfl (hb hbytes d16) rfl ?_
    refine XS.icmpYes X6.here hexec rfl (pc0 := 17) rfl (hb hbytes d17) rfl (ii_eq_t rfl) (by decide) rfl ?_
    refine XS.aloadN X6.here hexec rfl (hb hbytes d57) rfl rfl ?_
    exact Steps.refl _)
  have X8 := X6.wide (L' := []) (cells' := 1) (slots' := len) (fun x hx hlt => by
    simp only [List.nil_append, copyLocs, List.mem_map, List.mem_range] at hx
    obtain ⟨i, -, rfl⟩ := hx
    exact absurd hlt (Nat.lt_irrefl _)) (Nat.le_refl _) (by omega)
  exact ⟨T6, some (.ref s.heap.size), _, _, _, X8, rfl, rfl, rfl, (fun h => by cases h), ⟨⟨rfl, B6, ba3.like (X3.warmed.alike.symm.trans X6.warmed.alike) p6.1 f6.1 f6.2.1 f6.2.2.1, f6.2.1.trans bv3, by rw [X6.warmed.alike.findClass, f6.1]; exact bf3, by rw [f6.2.2.1, bs3]; simp, fun j hj => by rw [f6.2.2.2 j, if_pos (by omega)]; rfl, kp3.put p6 (Nat.le_refl _)⟩, by rw [p6.2.2, bh3, hh0]; simp⟩, fun fs hl => c8.trans (X8.areturnOut hexec rfl hret rfl (hb hbytes d58) hl)⟩
end Cmp3
namespace CodL
def yN : MethodName := ⟨"java/lang/StringUTF16", "coderFromArrayLen", "([BI)B"⟩
abbrev yB : ByteArray := jdk_52_method_15_code
theorem d0 : decode yB 0 = .ok (.iload_n 1, 1) := by decide +kernel
theorem d1 : decode yB 1 = .ok (.aload_n 0, 1) := by decide +kernel
theorem d2 : decode yB 2 = .ok (.arraylength, 1) := by decide +kernel
theorem d3 : decode yB 3 = .ok (.isub, 1) := by decide +kernel
theorem d4 : decode yB 4 = .ok (.bipush 31, 2) := by decide +kernel
theorem d6 : decode yB 6 = .ok (.iushr, 1) := by decide +kernel
theorem d7 : decode yB 7 = .ok (.i2b, 1) := by decide +kernel
theorem d8 : decode yB 8 = .ok (.ireturn, 1) := by decide +kernel
def site : List Cond := []
def tab : Cond := tabOf yN yB 2 (some .byte) site
def P (d : Addr) (B : Cell) (args : Array Value) (s : State) : Prop := args = #[.ref d, .int (Int32.ofNat B.slots.size)] ∧ Arr .byte d B s
def E (r : Option Value) (s u : State) : Prop := XT.PureE (some (.int 0)) r s u
/-- an array as long as the number of chars: LATIN1 -/
theorem law (l : Launch) (d : Addr) (B : Cell) : Law l yN 2 2 0 0 yB 2 (some .byte) site (P d B) E [] 0 0 := by
  refine Law.of_walk (plainFor_of_name (by decide +kernel)) (by decide +kernel) (by decide +kernel) (by decide) (fun _ _ h => by rw [h.1]; rfl) (fun _ U U' hal hh h => ⟨h.1, h.2.mv hal hh⟩) (fun r U U' V V' h1 hal h2 h => XT.PureE.mv r U U' V V' h1 hal h2 h) ?_
  intro p e s m args below meth c s₁ X0 hexec hbytes hml hret hlk hnm hown hh0 W hP
  obtain ⟨rfl, hB⟩ := hP
  have hB0 := hB.mv X0.warmed.alike hh0
  have c1 : Steps p.tables e below (s₁.setTop (entryFrame m #[.ref d, .int (Int32.ofNat B.slots.size)] 2)) (s₁.setTop (mkF m 0 #[.val (.ref d), .val (.int (Int32.ofNat B.slots.size))] [])) := entry rfl
  have c2 : Steps p.tables e below (s₁.setTop (entryFrame m #[.ref d, .int (Int32.ofNat B.slots.size)] 2)) (s₁.setTop (mkF m 2 #[.val (.ref d), .val (.int (Int32.ofNat B.slots.size))] [.ref d, .int (Int32.ofNat B.slots.size)])) := c1.trans (by
    refine XS.iloadN X0.here hexec rfl (hb hbytes d0) rfl ?_
    refine XS.aloadN X0.here hexec rfl (hb hbytes d1) rfl rfl ?_
    exact Steps.refl _)
  have c3 : Steps p.tables e below (s₁.setTop (entryFrame m #[.ref d, .int (Int32.ofNat B.slots.size)] 2)) (s₁.setTop (mkF m 8 #[.val (.ref d), .val (.int (Int32.ofNat B.slots.size))] [.int (lo8 (ushr (Int32.ofNat B.slots.size - Int32.ofNat B.slots.size) 31))])) := c2.trans (by
    refine X0.alen hexec hB0 rfl rfl (hb hbytes d2) ?_
    refine XS.isub X0.here hexec rfl (hb hbytes d3) rfl ?_
    refine bipushV X0.here hexec rfl 31 (hb hbytes d4) (by decide) ?_
    refine iushr X0.here hexec rfl (hb hbytes d6) rfl ?_
    refine i2b X0.here hexec rfl (hb hbytes d7) rfl ?_
    exact Steps.refl _)
  have e0 : lo8 (ushr (Int32.ofNat B.slots.size - Int32.ofNat B.slots.size) 31) = 0 := by rw [Int32.sub_self]; decide
  rw [e0] at c3
  exact ⟨s₁, some (.int 0), _, _, _, X0, rfl, rfl, rfl, (fun h => by cases h), ⟨rfl, hh0⟩, fun fs hl => c3.trans (X0.ireturnOut hexec hret rfl (Or.inr (Or.inr (Or.inl rfl))) (hb hbytes d8) hl)⟩
end CodL
/-- the String at a is Latin-1 over a new byte[] (the heap's one new cell): the low bytes of the len chars of A from o on; every cell but a is kept -/
def Got (a : Addr) (D : Cell) (fV fC : Field) (A : Cell) (o len : Nat) (r : Option Value) (s u : State) : Prop := r = none ∧ ∃ D' V : Cell, Blank "java/lang/String" a D' u ∧ Same D D' [fV.slot, fC.slot] ∧ D'.slots[fV.slot]? = some (.ref s.heap.size) ∧ D'.slots[fC.slot]? = some (.int 0) ∧ Arr .byte s.heap.size V u ∧ V.vm = .none ∧ u.vm.findClass "[B" = some V.cls ∧ V.slots.size = len ∧ (∀ j, j < len → V.slots[j]? = some (.int (lo8 (cv A (o + j))))) ∧ (∀ (y : Addr) (c : Cell), y ≠ a → s.heap[y]? = some c → u.heap[y]? = some c) ∧ u.heap.size = s.heap.size + 1
theorem Got.mv {a : Addr} {D A : Cell} {fV fC : Field} {o len : Nat} : ∀ r (U U' V V' : State), U'.heap = U.heap → V.vm.Alike V'.vm → V'.heap = V.heap → Got a D fV fC A o len r U V → Got a D fV fC A o len r U' V' :=
  fun r U U' V V' h1 hal h2 ⟨e0, D', X, a1, a2, a3, a4, a5, a6, a7, a8, a9, a10, a11⟩ => ⟨e0, D', X, a1.mv hal h2, a2, by rw [h1]; exact a3, a4, by rw [h1]; exact a5.mv hal h2, a6, by rw [hal.findClass]; exact a7, a8, a9, by rw [h1, h2]; exact a10, by rw [h1, h2]; exact a11⟩
namespace New4
def yN : MethodName := ⟨"java/lang/String", "<init>", "([CIILjava/lang/Void;)V"⟩
abbrev yB : ByteArray := jdk_42_method_149_code
theorem d0 : decode yB 0 = .ok (.aload_n 0, 1) := by decide +kernel
theorem d1 : decode yB 1 = .ok (.invokespecial 1, 3) := by decide +kernel
theorem d4 : decode yB 4 = .ok (.iload_n 3, 1) := by decide +kernel
theorem d5 : decode yB 5 = .ok (.ifCond (.ne) 22, 3) := by decide +kernel
theorem d27 : decode yB 27 = .ok (.getstatic 38, 3) := by decide +kernel
theorem d30 : decode yB 30 = .ok (.ifCond (.eq) 28, 3) := by decide +kernel
theorem d33 : decode yB 33 = .ok (.aload_n 1, 1) := by decide +kernel
theorem d34 : decode yB 34 = .ok (.iload_n 2, 1) := by decide +kernel
theorem d35 : decode yB 35 = .ok (.iload_n 3, 1) := by decide +kernel
theorem d36 : decode yB 36 = .ok (.invokestatic 177, 3) := by decide +kernel
theorem d39 : decode yB 39 = .ok (.astore 5, 2) := by decide +kernel
theorem d41 : decode yB 41 = .ok (.aload_n 0, 1) := by decide +kernel
theorem d42 : decode yB 42 = .ok (.aload 5, 2) := by decide +kernel
theorem d44 : decode yB 44 = .ok (.iload_n 3, 1) := by decide +kernel
theorem d45 : decode yB 45 = .ok (.invokestatic 47, 3) := by decide +kernel
theorem d48 : decode yB 48 = .ok (.putfield 15, 3) := by decide +kernel
theorem d51 : decode yB 51 = .ok (.aload_n 0, 1) := by decide +kernel
theorem d52 : decode yB 52 = .ok (.aload 5, 2) := by decide +kernel
theorem d54 : decode yB 54 = .ok (.putfield 9, 3) := by decide +kernel
theorem d57 : decode yB 57 = .ok (.return_, 1) := by decide +kernel
def site : List Cond := [.fieldLink "java/lang/String" 38 "java/lang/String" "COMPACT_STRINGS" "Z", Cmp3.tab, CodL.tab, .laysFinal "java/lang/String" "java/lang/String" "value" "[B", .fieldLink "java/lang/String" 9 "java/lang/String" "value" "[B", .laysFinal "java/lang/String" "java/lang/String" "coder" "B", .fieldLink "java/lang/String" 15 "java/lang/String" "coder" "B"] ++ objW "java/lang/String" 1 ++ staticW "java/lang/String" 177 Cmp3.yN ++ staticW "java/lang/String" 47 CodL.yN
def tab : Cond := tabOf yN yB 6 none site
def P (a : Addr) (D : Cell) (fV fC : Field) (b : Addr) (A : Cell) (z : Int32) (o len : Nat) (args : Array Value) (s : State) : Prop := args = #[.ref a, .ref b, .int (Int32.ofNat o), .int (Int32.ofNat len), .null] ∧ Blank "java/lang/String" a D s ∧ Found "java/lang/String" "value" "[B" fV s ∧ Found "java/lang/String" "coder" "B" fC s ∧ Ch b A s ∧ StaticIs s "java/lang/String" "COMPACT_STRINGS" "Z" (.int z) ∧ ¬ z = 0 ∧ 0 < len ∧ o + len ≤ A.slots.size ∧ len ≤ 536870912 ∧ ∀ i, i < len → ¬ 255 < cv A (o + i)
def E (a : Addr) (D : Cell) (fV fC : Field) (A : Cell) (o len : Nat) (r : Option Value) (s u : State) : Prop := Got a D fV fC A o len r s u
/-- len > 0, no char of the range above 255: a Latin-1 String of their low bytes -/
theorem law (l : Launch) (a : Addr) (D : Cell) (fV fC : Field) (b : Addr) (A : Cell) (z : Int32) (o len : Nat) : Law l yN 5 4 2 35 yB 6 none site (P a D fV fC b A z o len) (E a D fV fC A o len) [⟨a, fC.slot⟩, ⟨a, fV.slot⟩] 1 len := by
  refine Law.of_walk (plainFor_of_name (by decide +kernel)) (by decide +kernel) (by decide +kernel) (by decide) (fun _ _ h => by rw [h.1]; rfl) (fun _ U U' hal hh h => ⟨h.1, h.2.1.mv hal hh, h.2.2.1.al hal, h.2.2.2.1.al hal, h.2.2.2.2.1.mv hal hh, h.2.2.2.2.2.1.there hal hh, h.2.2.2.2.2.2⟩) (fun r U U' V V' h1 hal h2 h => Got.mv r U U' V V' h1 hal h2 h) ?_
  intro p e s m args below meth c s₁ X0 hexec hbytes hml hret hlk hnm hown hh0 W hP
  obtain ⟨rfl, hB, f1, f2, hA, s1, hz, l0, l1, l2, hp⟩ := hP
  have a31 := hA.1.2.2.2
  have c1 : Steps p.tables e below (s₁.setTop (entryFrame m #[.ref a, .ref b, .int (Int32.ofNat o), .int (Int32.ofNat len), .null] 6)) (s₁.setTop (mkF m 0 #[.val (.ref a), .val (.ref b), .val (.int (Int32.ofNat o)), .val (.int (Int32.ofNat len)), .val .null, .unset] [])) := entry rfl
  have c2 : Steps p.tables e below (s₁.setTop (entryFrame m #[.ref a, .ref b, .int (Int32.ofNat o), .int (Int32.ofNat len), .null] 6)) (s₁.setTop (mkF m 1 #[.val (.ref a), .val (.ref b), .val (.int (Int32.ofNat o)), .val (.int (Int32.ofNat len)), .val .null, .unset] [.ref a])) := c1.trans (by
    refine XS.aloadN X0.here hexec rfl (hb hbytes d0) rfl rfl ?_
    exact Steps.refl _)
  obtain ⟨T3, X3, q3, st3⟩ := X0.oinit hexec hown (wks W (objW "java/lang/String" 1)) (g := (mkF m 1 #[.val (.ref a), .val (.ref b), .val (.int (Int32.ofNat o)), .val (.int (Int32.ofNat len)), .val .null, .unset] [.ref a])) rfl (by rw [hml]; rfl) (rest := []) rfl (hb hbytes d1) (W := 0) (by show 2 * 0 + 0 ≤ _; decide) (Nat.le_of_ble_eq_true rfl) (Nat.le_of_ble_eq_true rfl)
  have hh3 := q3.trans hh0
  have c4 : Steps p.tables e below (s₁.setTop (entryFrame m #[.ref a, .ref b, .int (Int32.ofNat o), .int (Int32.ofNat len), .null] 6)) (T3.setTop (mkF m 27 #[.val (.ref a), .val (.ref b), .val (.int (Int32.ofNat o)), .val (.int (Int32.ofNat len)), .val .null, .unset] [])) := (c2.trans (st3 _ (Steps.refl _))).trans (by
    refine XS.iloadN X3.here hexec rfl (hb hbytes d4) rfl ?_
    refine XS.ifYes X3.here hexec rfl (pc0 := 5) rfl (hb hbytes d5) rfl (i0_ne_t (nz32 (by omega) l0)) (by decide) rfl ?_
    exact Steps.refl _)
  obtain ⟨T5, X5, q5, st5⟩ := X3.sget hexec hown (wk W (.fieldLink "java/lang/String" 38 "java/lang/String" "COMPACT_STRINGS" "Z")) s1 (fun _ _ h => by rw [hh3]; exact h) (g := (mkF m 27 #[.val (.ref a), .val (.ref b), .val (.int (Int32.ofNat o)), .val (.int (Int32.ofNat len)), .val .null, .unset] [])) rfl (hb hbytes d27)
  have hh5 := q5.trans hh3
  have c6 : Steps p.tables e below (s₁.setTop (entryFrame m #[.ref a, .ref b, .int (Int32.ofNat o), .int (Int32.ofNat len), .null] 6)) (T5.setTop (mkF m 30 #[.val (.ref a), .val (.ref b), .val (.int (Int32.ofNat o)), .val (.int (Int32.ofNat len)), .val .null, .unset] [.int z])) := c4.trans (st5 _ (Steps.refl _))
  have c7 : Steps p.tables e below (s₁.setTop (entryFrame m #[.ref a, .ref b, .int (Int32.ofNat o), .int (Int32.ofNat len), .null] 6)) (T5.setTop (mkF m 36 #[.val (.ref a), .val (.ref b), .val (.int (Int32.ofNat o)), .val (.int (Int32.ofNat len)), .val .null, .unset] [.int (Int32.ofNat len), .int (Int32.ofNat o), .ref b])) := c6.trans (by
    refine XS.ifNo X5.here hexec rfl (hb hbytes d30) rfl (i0_eq_f hz) ?_
    refine XS.aloadN X5.here hexec rfl (hb hbytes d33) rfl rfl ?_
    refine XS.iloadN X5.here hexec rfl (hb hbytes d34) rfl ?_
    refine XS.iloadN X5.here hexec rfl (hb hbytes d35) rfl ?_
    exact Steps.refl _)
  obtain ⟨v8, T8, X8, E8, g8⟩ := X5.callS hexec (Cmp3.law l b A o len) hown (wks W (staticW "java/lang/String" 177 Cmp3.yN)) (wk W Cmp3.tab) (W := 0) (Nat.le_of_ble_eq_true rfl) (Nat.le_of_ble_eq_true rfl) (Nat.le_refl _) (by show 0 + len ≤ len; omega) (g := (mkF m 36 #[.val (.ref a), .val (.ref b), .val (.int (Int32.ofNat o)), .val (.int (Int32.ofNat len)), .val .null, .unset] [.int (Int32.ofNat len), .int (Int32.ofNat o), .ref b])) rfl (by rw [hml]; rfl) c7 (argsL := [.ref b, .int (Int32.ofNat o), .int (Int32.ofNat len)]) (rest := []) rfl rfl (by show 2 * 0 + 0 ≤ _; decide) (hb hbytes d36) (⟨rfl, hA.mv X5.warmed.alike hh5, l1, l2, hp⟩)
  obtain ⟨e8, z8⟩ := E8
  obtain ⟨rfl, N, n1, n2, n3, n4, n5, n6⟩ := NewArr.mv _ T5 s _ _ hh5.symm (Vm.Alike.refl _) rfl e8
  rw [hh5] at z8
  have hB1 := hB.keep X8.warmed.alike (n6 _ _ hB.1)
  have hne : s.heap.size ≠ a := (Nat.ne_of_lt (Array.getElem?_eq_some_iff.mp hB.1).1).symm
  have c9 : Steps p.tables e below (s₁.setTop (entryFrame m #[.ref a, .ref b, .int (Int32.ofNat o), .int (Int32.ofNat len), .null] 6)) (T8.setTop (mkF m 39 #[.val (.ref a), .val (.ref b), .val (.int (Int32.ofNat o)), .val (.int (Int32.ofNat len)), .val .null, .unset] [.ref s.heap.size])) := g8
  have c10 : Steps p.tables e below (s₁.setTop (entryFrame m #[.ref a, .ref b, .int (Int32.ofNat o), .int (Int32.ofNat len), .null] 6)) (T8.setTop (mkF m 45 #[.val (.ref a), .val (.ref b), .val (.int (Int32.ofNat o)), .val (.int (Int32.ofNat len)), .val .null, .val (.ref s.heap.size)] [.int (Int32.ofNat N.slots.size), .ref s.heap.size, .ref a])) := by
    have hc : Steps p.tables e below (s₁.setTop (entryFrame m #[.ref a, .ref b, .int (Int32.ofNat o), .int (Int32.ofNat len), .null] 6)) (T8.setTop (mkF m 45 #[.val (.ref a), .val (.ref b), .val (.int (Int32.ofNat o)), .val (.int (Int32.ofNat len)), .val .null, .val (.ref s.heap.size)] [.int (Int32.ofNat len), .ref s.heap.size, .ref a])) := c9.trans (by
      refine XS.astore X8.here hexec rfl (hb hbytes d39) rfl rfl rfl ?_
      refine XS.aloadN X8.here hexec rfl (hb hbytes d41) rfl rfl ?_
      refine XS.aload X8.here hexec rfl (hb hbytes d42) rfl rfl ?_
      refine XS.iloadN X8.here hexec rfl (hb hbytes d44) rfl ?_
      exact Steps.refl _)
    rw [n4]; exact hc
  obtain ⟨v11, T11, X11, E11, g11⟩ := X8.callS hexec (CodL.law l s.heap.size N) hown (wks W (staticW "java/lang/String" 47 CodL.yN)) (wk W CodL.tab) (W := 1) (Nat.le_of_ble_eq_true rfl) (Nat.le_of_ble_eq_true rfl) (Nat.le_refl _) (by show 0 + len + 0 ≤ len; omega) (g := (mkF m 45 #[.val (.ref a), .val (.ref b), .val (.int (Int32.ofNat o)), .val (.int (Int32.ofNat len)), .val .null, .val (.ref s.heap.size)] [.int (Int32.ofNat N.slots.size), .ref s.heap.size, .ref a])) rfl (by rw [hml]; rfl) c10 (argsL := [.ref s.heap.size, .int (Int32.ofNat N.slots.size)]) (rest := [.ref a]) rfl rfl (by show 2 * 0 + (1 + 0) ≤ _; decide) (hb hbytes d45) (⟨rfl, n1⟩)
  obtain ⟨rfl, q11⟩ := E11
  have hB11 := hB1.mv (X8.warmed.alike.symm.trans X11.warmed.alike) q11
  have c12 : Steps p.tables e below (s₁.setTop (entryFrame m #[.ref a, .ref b, .int (Int32.ofNat o), .int (Int32.ofNat len), .null] 6)) (T11.setTop (mkF m 48 #[.val (.ref a), .val (.ref b), .val (.int (Int32.ofNat o)), .val (.int (Int32.ofNat len)), .val .null, .val (.ref s.heap.size)] [.int 0, .ref a])) := g11
  obtain ⟨T13, X13, p13, bl13, sl13, st13⟩ := X11.finit hexec hown (wk W (.fieldLink "java/lang/String" 15 "java/lang/String" "coder" "B")) (Or.inr ⟨_, (wk W (.laysFinal "java/lang/String" "java/lang/String" "coder" "B"))⟩) (Or.inl ⟨rfl, hnm⟩) f2 (Or.inl rfl) hB11 (t := .byte) (by decide +kernel) rfl (g := (mkF m 48 #[.val (.ref a), .val (.ref b), .val (.int (Int32.ofNat o)), .val (.int (Int32.ofNat len)), .val .null, .val (.ref s.heap.size)] [.int 0, .ref a])) rfl (rest := []) rfl (hb hbytes d48)
  have c14 : Steps p.tables e below (s₁.setTop (entryFrame m #[.ref a, .ref b, .int (Int32.ofNat o), .int (Int32.ofNat len), .null] 6)) (T13.setTop (mkF m 54 #[.val (.ref a), .val (.ref b), .val (.int (Int32.ofNat o)), .val (.int (Int32.ofNat len)), .val .null, .val (.ref s.heap.size)] [.ref s.heap.size, .ref a])) := (c12.trans (st13 _ (Steps.refl _))).trans (by
    refine XS.aloadN X13.here hexec rfl (hb hbytes d51) rfl rfl ?_
    refine XS.aload X13.here hexec rfl (hb hbytes d52) rfl rfl ?_
    exact Steps.refl _)
  obtain ⟨T15, X15, p15, bl15, sl15, st15⟩ := X13.finit hexec hown (wk W (.fieldLink "java/lang/String" 9 "java/lang/String" "value" "[B")) (Or.inr ⟨_, (wk W (.laysFinal "java/lang/String" "java/lang/String" "value" "[B"))⟩) (Or.inl ⟨rfl, hnm⟩) f1 (Or.inl rfl) bl13 (t := (.array .byte)) (by decide +kernel) rfl (g := (mkF m 54 #[.val (.ref a), .val (.ref b), .val (.int (Int32.ofNat o)), .val (.int (Int32.ofNat len)), .val .null, .val (.ref s.heap.size)] [.ref s.heap.size, .ref a])) rfl (rest := []) rfl (hb hbytes d54)
  have c16 : Steps p.tables e below (s₁.setTop (entryFrame m #[.ref a, .ref b, .int (Int32.ofNat o), .int (Int32.ofNat len), .null] 6)) (T15.setTop (mkF m 57 #[.val (.ref a), .val (.ref b), .val (.int (Int32.ofNat o)), .val (.int (Int32.ofNat len)), .val .null, .val (.ref s.heap.size)] [])) := c14.trans (st15 _ (Steps.refl _))
  have ap := apart (Or.inr ⟨_, (wk W (.laysFinal "java/lang/String" "java/lang/String" "value" "[B"))⟩) (Or.inr ⟨_, (wk W (.laysFinal "java/lang/String" "java/lang/String" "coder" "B"))⟩) f1 f2 (t₁ := .array .byte) (t₂ := .byte) (by decide +kernel) (by decide +kernel) (by decide)
  have al := X8.warmed.alike.symm.trans X15.warmed.alike
  have n7 : T11.heap[s.heap.size]? = some N := by rw [q11]; exact n1.1
  exact ⟨T15, none, _, _, _, X15, by simp, rfl, by omega, (fun _ => rfl), ⟨rfl, _, N, bl15, ((Same.refl D _).set _ (by simp)).set _ (by simp), sl15, (Cell.slots_setSlot_ne _ ap).trans sl13, n1.keep al (p15.other hne (p13.other hne n7)), n2, by rw [al.findClass]; exact n3, n4, n5, fun y c h1 h2 => p15.other h1 (p13.other h1 (by rw [q11]; exact n6 y c h2)), by rw [p15.2.2, p13.2.2, q11]; exact z8⟩, fun fs hl => c16.trans (X15.returnOut hexec hret (hb hbytes d57) hl)⟩
end New4
namespace New1
def yN : MethodName := ⟨"java/lang/String", "<init>", "([C)V"⟩
abbrev yB : ByteArray := jdk_42_method_3_code
theorem d0 : decode yB 0 = .ok (.aload_n 0, 1) := by decide +kernel
theorem d1 : decode yB 1 = .ok (.aload_n 1, 1) := by decide +kernel
theorem d2 : decode yB 2 = .ok (.iconst 0, 1) := by decide +kernel
theorem d3 : decode yB 3 = .ok (.aload_n 1, 1) := by decide +kernel
theorem d4 : decode yB 4 = .ok (.arraylength, 1) := by decide +kernel
theorem d5 : decode yB 5 = .ok (.aconst_null, 1) := by decide +kernel
theorem d6 : decode yB 6 = .ok (.invokespecial 27, 3) := by decide +kernel
theorem d9 : decode yB 9 = .ok (.return_, 1) := by decide +kernel
def site : List Cond := [New4.tab] ++ initW "java/lang/String" 27 New4.yN
def tab : Cond := tabOf yN yB 2 none site
def P (a : Addr) (D : Cell) (fV fC : Field) (b : Addr) (A : Cell) (z : Int32) (args : Array Value) (s : State) : Prop := args = #[.ref a, .ref b] ∧ Blank "java/lang/String" a D s ∧ Found "java/lang/String" "value" "[B" fV s ∧ Found "java/lang/String" "coder" "B" fC s ∧ Ch b A s ∧ StaticIs s "java/lang/String" "COMPACT_STRINGS" "Z" (.int z) ∧ ¬ z = 0 ∧ 0 < A.slots.size ∧ A.slots.size ≤ 536870912 ∧ ∀ i, i < A.slots.size → ¬ 255 < cv A i
def E (a : Addr) (D : Cell) (fV fC : Field) (A : Cell) (r : Option Value) (s u : State) : Prop := Got a D fV fC A 0 A.slots.size r s u
/-- new String(chars), not empty, no char above 255: a Latin-1 String of their low bytes -/
theorem law (l : Launch) (a : Addr) (D : Cell) (fV fC : Field) (b : Addr) (A : Cell) (z : Int32) : Law l yN 2 1 3 52 yB 2 none site (P a D fV fC b A z) (E a D fV fC A) [⟨a, fC.slot⟩, ⟨a, fV.slot⟩] 1 A.slots.size := by
  refine Law.of_walk (plainFor_of_name (by decide +kernel)) (by decide +kernel) (by decide +kernel) (by decide) (fun _ _ h => by rw [h.1]; rfl) (fun _ U U' hal hh h => ⟨h.1, h.2.1.mv hal hh, h.2.2.1.al hal, h.2.2.2.1.al hal, h.2.2.2.2.1.mv hal hh, h.2.2.2.2.2.1.there hal hh, h.2.2.2.2.2.2⟩) (fun r U U' V V' h1 hal h2 h => Got.mv r U U' V V' h1 hal h2 h) ?_
  intro p e s m args below meth c s₁ X0 hexec hbytes hml hret hlk hnm hown hh0 W hP
  obtain ⟨rfl, hB, f1, f2, hA, s1, hz, l0, l2, hp⟩ := hP
  have c1 : Steps p.tables e below (s₁.setTop (entryFrame m #[.ref a, .ref b] 2)) (s₁.setTop (mkF m 0 #[.val (.ref a), .val (.ref b)] [])) := entry rfl
  have c2 : Steps p.tables e below (s₁.setTop (entryFrame m #[.ref a, .ref b] 2)) (s₁.setTop (mkF m 6 #[.val (.ref a), .val (.ref b)] [.null, .int (Int32.ofNat A.slots.size), .int 0, .ref b, .ref a])) := c1.trans (by
    refine XS.aloadN X0.here hexec rfl (hb hbytes d0) rfl rfl ?_
    refine XS.aloadN X0.here hexec rfl (hb hbytes d1) rfl rfl ?_
    refine iconstV X0.here hexec rfl 0 (hb hbytes d2) (by decide) ?_
    refine XS.aloadN X0.here hexec rfl (hb hbytes d3) rfl rfl ?_
    refine X0.alen hexec (hA.1.mv X0.warmed.alike hh0) rfl rfl (hb hbytes d4) ?_
    refine XS.aconstNull X0.here hexec rfl (hb hbytes d5) ?_
    exact Steps.refl _)
  obtain ⟨v3, T3, X3, E3, g3⟩ := X0.callN hexec (New4.law l a D fV fC b A z 0 A.slots.size) rfl hown (wks W (initW "java/lang/String" 27 New4.yN)) (W New4.tab (by simp only [site, List.mem_cons, List.mem_append, true_or, or_true])) (W := 0) (Nat.le_of_ble_eq_true rfl) (Nat.le_of_ble_eq_true rfl) (Nat.le_refl _) (by show 0 + A.slots.size ≤ A.slots.size; omega) (g := (mkF m 6 #[.val (.ref a), .val (.ref b)] [.null, .int (Int32.ofNat A.slots.size), .int (Int32.ofNat 0), .ref b, .ref a])) rfl (by rw [hml]; rfl) c2 (argsL := [.ref b, .int (Int32.ofNat 0), .int (Int32.ofNat A.slots.size), .null]) (rest := []) rfl rfl (by show 2 * 0 + 0 ≤ _; decide) (hb hbytes d6) (⟨rfl, hB.mv X0.warmed.alike hh0, f1.al X0.warmed.alike, f2.al X0.warmed.alike, hA.mv X0.warmed.alike hh0, s1.there X0.warmed.alike hh0, hz, l0, by omega, l2, fun i hi => by rw [Nat.zero_add]; exact hp i hi⟩)
  have e0 := Got.mv _ s₁ s _ _ hh0.symm (Vm.Alike.refl _) rfl E3
  obtain rfl := e0.1
  have c4 : Steps p.tables e below (s₁.setTop (entryFrame m #[.ref a, .ref b] 2)) (T3.setTop (mkF m 9 #[.val (.ref a), .val (.ref b)] [])) := g3
  exact ⟨T3, none, _, _, _, X3, by simp, rfl, by omega, (fun _ => rfl), e0, fun fs hl => c4.trans (X3.returnOut hexec hret (hb hbytes d9) hl)⟩
theorem pays {l : Launch} {R : Room} {p : Program} {e : Env} {below : List Frame} {s : State} {sargs : Array Value} {len W : Nat} (a : Addr) (D : Cell) (fV fC : Field) (b : Addr) (A : Cell) (z : Int32) (htab : tab.before sargs s = true) (hfr : 4 ≤ R.frames) (hlo : W + 65 ≤ R.locals) :
    Back l R p e below s sargs yN len W (fun A₁ a₁ => A₁.cells + 1 ≤ R.cells ∧ A₁.slots + A.slots.size ≤ R.slots ∧ P a D fV fC b A z a₁ A₁.U) (fun A₁ _ v₁ B₁ => E a D fV fC A v₁ A₁.U B₁.U ∧ B₁.locs = A₁.locs ++ [⟨a, fC.slot⟩, ⟨a, fV.slot⟩] ∧ B₁.cells = A₁.cells + 1 ∧ B₁.slots = A₁.slots + A.slots.size) :=
  (law l a D fV fC b A z).pays htab hfr (by omega)
end New1
end StrChars
namespace StrChars.Road
open Jvm Sem ClassFile Op Lib Jvm.Stand Jvm.Free Jvm.Free.XT
open Jvm.Lib.Cold (StaticIs)
abbrev ST : String := "java/lang/String"
/-- every table word that New1's law asks, flat -/
abbrev words : List Jvm.Cond := [.code New1.yN New1.yB 2 none, .initialized ST, .methodLink ST 27 New4.yN, .instanceMethod New4.yN,
  .code New4.yN New4.yB 6 none, .fieldLink ST 38 ST "COMPACT_STRINGS" "Z", .laysFinal ST ST "value" "[B", .fieldLink ST 9 ST "value" "[B", .laysFinal ST ST "coder" "B", .fieldLink ST 15 ST "coder" "B",
  .methodLink ST 1 Lib.objectInit, .instanceMethod Lib.objectInit, .code Lib.objectInit ⟨#[0xb1]⟩ 1 none, .methodLink ST 177 Cmp3.yN, .static Cmp3.yN, .methodLink ST 47 CodL.yN, .static CodL.yN,
  .code Cmp3.yN Cmp3.yB 6 (some (.array .byte)), .initialized U16, .arrayClass .byte, .methodLink U16 115 Cmp5.yN, .static Cmp5.yN, .code Cmp5.yN Cmp5.yB 7 (some .int), .code CodL.yN CodL.yB 2 (some .byte)]
theorem tab_of {a : Array Value} {s : State} (h : ∀ w ∈ words, w.before a s = true) : New1.tab.before a s = true := by
  have h5 : Cmp5.tab.before a s = true := unparts (wk h (.code Cmp5.yN Cmp5.yB 7 (some .int))) (wks h (.initialized Cmp5.yN.cls :: Cmp5.site))
  have hc : CodL.tab.before a s = true := unparts (wk h (.code CodL.yN CodL.yB 2 (some .byte))) (wks h (.initialized CodL.yN.cls :: CodL.site))
  have q5 : ∀ w ∈ Cmp5.tab :: words, w.before a s = true := fun w hw => (List.mem_cons.mp hw).elim (fun e => e ▸ h5) (h w)
  have h3 : Cmp3.tab.before a s = true := unparts (wk q5 (.code Cmp3.yN Cmp3.yB 6 (some (.array .byte)))) (wks q5 (.initialized Cmp3.yN.cls :: Cmp3.site))
  have q3 : ∀ w ∈ Cmp3.tab :: CodL.tab :: words, w.before a s = true := fun w hw => (List.mem_cons.mp hw).elim (fun e => e ▸ h3) fun hw => (List.mem_cons.mp hw).elim (fun e => e ▸ hc) (h w)
  have h4 : New4.tab.before a s = true := unparts (wk q3 (.code New4.yN New4.yB 6 none)) (wks q3 (.initialized New4.yN.cls :: New4.site))
  have q4 : ∀ w ∈ New4.tab :: words, w.before a s = true := fun w hw => (List.mem_cons.mp hw).elim (fun e => e ▸ h4) (h w)
  exact unparts (wk q4 (.code New1.yN New1.yB 2 none)) (wks q4 (.initialized New1.yN.cls :: New1.site))
/-- the words ride from the start Z to the walk's own state -/
theorem moved {Z s : State} {a0 args : Array Value} (hZ : Z.Warmed39 s.vm) (hw : ∀ d ∈ words, d.before a0 Z = true) : ∀ d ∈ words, d.before args s = true := fun d hd => by
  have q := hw d hd
  have t : ∀ d ∈ words, d = .arrayClass .byte ∨ (d.onTables && d.keepsFace) = true := by decide +kernel
  rcases t d hd with rfl | t
  · exact RoadKit.mvA hZ q
  · exact RoadKit.mv hZ q t
/-- WHAT COMES BACK, over the tables of the start Z: h the heap at the call, h' behind it -/
def Q (Z : State) (x : Addr) (A : Cell) (h : Heap) (v : Option Value) (h' : Heap) (L : List Loc) : Prop := v = none ∧ (∀ y ∈ L, y.base = x) ∧ RoadKit.Keep h h' [x] ∧ h'.size = h.size + 1 ∧ RoadKit.Exa Z h' x ST ∧ RoadKit.Fld Z h' x ST "value" "[B" (.ref h.size) ∧ RoadKit.Fld Z h' x ST "coder" "B" (.int 0) ∧
  (∃ V : Cell, RoadKit.Arr Z h' h.size V .byte ∧ V.vm = .none ∧ Z.vm.findClass "[B" = some V.cls ∧ V.slots.size = A.slots.size ∧ ∀ j, j < A.slots.size → V.slots[j]? = some (.int (lo8 (cv A j)))) ∧
  ∀ (O n d : String) (w : Value), RoadKit.Fld Z h x O n d w → RoadKit.slotOf Z O n d ≠ RoadKit.slotOf Z ST "value" "[B" → RoadKit.slotOf Z O n d ≠ RoadKit.slotOf Z ST "coder" "B" → RoadKit.Fld Z h' x O n d w
/-- **new String(chars) AT A CALL, IN THE ROAD'S FORM**: for specialBack behind newO: x the fresh String, b the char[] with the cell A -/
theorem back {p : Program} {l : Launch} {e : Env} {R : Room} {s : State} {args : Array Value} {below : List Frame} {len W : Nat} {Z : State} {a0 : Array Value} {h : Heap} (hZ : Z.Warmed39 s.vm) (hw : ∀ d ∈ words, d.before a0 Z = true) {kI : Nat} (wi : (Jvm.Cond.instantiable ST kI).before a0 Z = true)
    {x b : Addr} {A : Cell} {z : Int32} {v0 c0 : Value} (E : RoadKit.Exa Z h x ST) (V : RoadKit.Fld Z h x ST "value" "[B" v0) (C : RoadKit.Fld Z h x ST "coder" "B" c0) (K : RoadKit.Arr Z h b A .char) (hty : Typed .char A) (S : RoadKit.Sta Z h ST "COMPACT_STRINGS" "Z" (.int z)) (hz : ¬ z = 0)
    (l0 : 0 < A.slots.size) (l2 : A.slots.size ≤ 536870912) (hp : ∀ i, i < A.slots.size → ¬ 255 < cv A i) (hfr : 4 ≤ R.frames) (hlo : W + 65 ≤ R.locals) :
    Back l R p e below s args New1.yN len W (fun P a => a = #[.ref x, .ref b] ∧ P.U.heap = h ∧ P.cells + 1 ≤ R.cells ∧ P.slots + A.slots.size ≤ R.slots)
      (fun P _ v B => ∃ L, Q Z x A h v B.U.heap L ∧ B.locs = P.locs ++ L ∧ B.cells = P.cells + 1 ∧ B.slots = P.slots + A.slots.size) := by
  intro m meth c P g ig mk a X hg hsize hdg hW hn hp'
  obtain ⟨rfl, rfl, r1, r2⟩ := hp'
  have al : Z.vm.Alike P.U.vm := hZ.alike.trans X.warmed.alike
  obtain ⟨D, cfV, kV, iV, fV, hD, gV, stV, knV, obV, asV, slV⟩ := id V
  obtain ⟨D', cfC, kC, iC, fC, hD', gC, stC, -, -, asC, slC⟩ := id C
  cases hD.symm.trans hD'
  obtain ⟨D2, kD, e1, e2, e3, e4, e5⟩ := id E
  cases hD.symm.trans e1
  obtain ⟨c2, k2, i1, i2, i3, -⟩ := Cond.instantiable_spec wi
  cases e2.symm.trans i1
  cases e3.symm.trans i2
  obtain ⟨kU, u1, u2⟩ := al.2.2 _ _ e3
  have hB : Blank ST x D P.U := ⟨hD, ⟨knV, fun q hq => by rw [hq] at obV; cases obV⟩, by rw [al.findClass]; exact e2, kU, u1, by rw [u2]; exact i3, by rw [u2]; exact e5 i3⟩
  have F1 : Found ST "value" "[B" fV P.U := ⟨SBG.found_only al ⟨cfV, kV, iV, gV⟩, stV⟩
  have F2 : Found ST "coder" "B" fC P.U := ⟨SBG.found_only al ⟨cfC, kC, iC, gC⟩, stC⟩
  have hA : Ch b A P.U := ⟨⟨K.1, State.isArrayOf_alike al K.2.1, K.2.2, by omega⟩, hty⟩
  have hS : StaticIs P.U ST "COMPACT_STRINGS" "Z" (.int z) := by
    obtain ⟨cfS, iS, kS, fS, st, cS, t1, t2, t3, t4, t5, t6, t7⟩ := S
    exact StaticIs.there (s := { Z with heap := P.U.heap }) ⟨cfS, iS, kS, fS, st, cS, t1, t2, t3, t4, t5, (fun q => by rw [q] at t6; cases t6), t7⟩ al rfl
  obtain ⟨v, B, X', ⟨⟨hv, E', V', q1, q2, q3, q4, q5, q6, q7, q8, q9, q10, q11⟩, hl, hc, hs⟩, st⟩ := New1.pays x D fV fC b A z (tab_of (moved hZ hw)) hfr hlo m meth c P g ig mk _ X hg hsize hdg hW hn ⟨r1, r2, rfl, hB, F1, F2, hA, hS, hz, l0, l2, hp⟩
  have al' : Z.vm.Alike B.U.vm := hZ.alike.trans X'.warmed.alike
  have hsz : E'.slots.size = D.slots.size := by
    obtain ⟨-, -, -, kB, w1, w2, w3⟩ := q1
    obtain ⟨kB', y1, y2⟩ := al'.2.2 _ _ e3
    rw [q2.2.1] at w1
    cases w1.symm.trans y1
    rw [w3, e5 i3, y2]
  refine ⟨v, B, X', ⟨_, ⟨hv, ?_, ⟨by omega, fun y cy hy hn' => q10 y cy (by simpa using hn') hy, fun y cy hy => ?_⟩, q11, ⟨E', _, q1.1, by rw [q2.2.1]; exact e2, by rw [q2.2.1]; exact e3, by rw [q2.1]; exact obV, fun _ => by rw [hsz]; exact e5 i3⟩,
    ⟨E', cfV, kV, iV, fV, q1.1, gV, stV, by rw [q2.1]; exact knV, by rw [q2.1]; exact obV, by rw [q2.2.1]; exact asV, q3⟩, ⟨E', cfC, kC, iC, fC, q1.1, gC, stC, by rw [q2.1]; exact knV, by rw [q2.1]; exact obV, by rw [q2.2.1]; exact asC, q4⟩,
    ⟨V', ⟨q5.1, State.isArrayOf_alike al'.symm q5.2.1, q5.2.2.1⟩, q6, by rw [← al'.findClass]; exact q7, q8, fun j hj => by have := q9 j hj; rwa [Nat.zero_add] at this⟩, fun O n d w F n1 n2 => ?_⟩, hl, hc, hs⟩, st⟩
  · intro y hy
    simp only [List.mem_cons, List.not_mem_nil, or_false] at hy
    rcases hy with rfl | rfl <;> rfl
  · by_cases q : y = x
    · subst q
      cases hD.symm.trans hy
      exact ⟨E', q1.1, q2.2.1, q2.1, hsz⟩
    · exact ⟨cy, q10 y cy q hy, rfl, rfl, rfl⟩
  · obtain ⟨D3, cf, k, i, f, g1, g2, g3, g4, g5, g6, g7⟩ := F
    cases hD.symm.trans g1
    simp only [RoadKit.slotOf, g2, gV, gC, Option.map_some, Option.getD_some] at n1 n2
    exact ⟨E', cf, k, i, f, q1.1, g2, g3, by rw [q2.1]; exact g4, by rw [q2.1]; exact g5, by rw [q2.2.1]; exact g6, by rw [q2.2.2 f.slot (by simp [n1, n2])]; exact g7⟩
end StrChars.Road
namespace StrChars.Road
open Jvm Sem ClassFile Op Lib Jvm.Stand Jvm.Free Jvm.Free.XT
/-- WHAT COMES BACK, the byte[] as a list of values -/
def QA (Z : State) (x : Addr) (zn : Int32) (cs : List Int32) (h : Heap) (v : Option Value) (h' : Heap) (L : List Loc) : Prop := v = none ∧ (∀ y ∈ L, y.base = x) ∧ RoadKit.Keep h h' [x] ∧ h'.size = h.size + 1 ∧ RoadKit.Exa Z h' x ST ∧ RoadKit.Fld Z h' x ST "value" "[B" (.ref h.size) ∧ RoadKit.Fld Z h' x ST "coder" "B" (.int 0) ∧
  (∃ kb, Z.vm.findClass "[B" = some kb ∧ RoadKit.Arv Z h' h.size kb .byte zn (cs.map fun c => .int (lo8 c)) (.int 0)) ∧
  ∀ (O n d : String) (w : Value), RoadKit.Fld Z h x O n d w → RoadKit.slotOf Z O n d ≠ RoadKit.slotOf Z ST "value" "[B" → RoadKit.slotOf Z O n d ≠ RoadKit.slotOf Z ST "coder" "B" → RoadKit.Fld Z h' x O n d w
/-- **new String(chars) AT A CALL, THE ARRAYS AS LISTS**: the char[] at b holds cs, not empty, no char above 255 -/
theorem backArv {p : Program} {l : Launch} {e : Env} {R : Room} {s : State} {args : Array Value} {below : List Frame} {len W : Nat} {Z : State} {a0 : Array Value} {h : Heap} (hZ : Z.Warmed39 s.vm) (hw : ∀ d ∈ words, d.before a0 Z = true) {kI : Nat} (wi : (Jvm.Cond.instantiable ST kI).before a0 Z = true)
    {x b : Addr} {k : ClassId} {zn z : Int32} {cs : List Int32} {dv v0 c0 : Value} (E : RoadKit.Exa Z h x ST) (V : RoadKit.Fld Z h x ST "value" "[B" v0) (C : RoadKit.Fld Z h x ST "coder" "B" c0) (K : RoadKit.Arv Z h b k .char zn (cs.map Value.int) dv) (S : RoadKit.Sta Z h ST "COMPACT_STRINGS" "Z" (.int z)) (hz : ¬ z = 0)
    (hlen : zn.toNatClampNeg = cs.length) (h0 : 0 < cs.length) (hbig : cs.length ≤ 536870912) (hall : ∀ c ∈ cs, ¬ 255 < c) (hfr : 4 ≤ R.frames) (hlo : W + 65 ≤ R.locals) :
    Back l R p e below s args New1.yN len W (fun P a => a = #[.ref x, .ref b] ∧ P.U.heap = h ∧ P.cells + 1 ≤ R.cells ∧ P.slots + cs.length ≤ R.slots)
      (fun P _ v B => ∃ L, QA Z x zn cs h v B.U.heap L ∧ B.locs = P.locs ++ L ∧ B.cells = P.cells + 1 ∧ B.slots = P.slots + cs.length) := by
  obtain ⟨A, K1, K2, K3, K4, K5, K6⟩ := K
  have e : A.slots.size = cs.length := K3.trans hlen
  have hat : ∀ (i : Nat) (hi : i < cs.length), A.slots[i]? = some (.int cs[i]) := fun i hi => by rw [K5 i (by omega)]; simp [List.getD_eq_getElem?_getD, hi]
  have hcv : ∀ (i : Nat) (hi : i < cs.length), cv A i = cs[i] := fun i hi => by unfold cv; rw [hat i hi]
  have hty : Typed .char A := fun i v hv => by
    have hi : i < A.slots.size := (Array.getElem?_eq_some_iff.mp hv).1
    have q := K5 i hi
    rw [hv] at q
    rw [Option.some.inj q]
    exact K6 i hi
  refine Back.mono (back hZ hw wi E V C K1 hty S hz (by omega) (by omega) (fun i hi => by rw [hcv i (by omega)]; exact hall _ (List.getElem_mem _)) hfr hlo) (fun P a hp => ⟨hp.1, hp.2.1, hp.2.2.1, by rw [e]; exact hp.2.2.2⟩) (fun P a v B hp hq => ?_)
  obtain ⟨L, ⟨q1, q2, q3, q4, q5, q6, q7, ⟨V', v1, v2, v3, v4, v5⟩, q9⟩, hl, hc, hs⟩ := hq
  refine ⟨L, ⟨q1, q2, q3, q4, q5, q6, q7, ⟨V'.cls, v3, V', v1, rfl, by rw [v4, e, hlen], K4, fun i hi => ?_, fun i hi => ?_⟩, q9⟩, hl, hc, by rw [hs, e]⟩
  · have hi' : i < cs.length := by omega
    rw [v5 i (by omega), hcv i hi']; simp [List.getD_eq_getElem?_getD, hi']
  · have hi' : i < cs.length := by omega
    simp only [List.getD_eq_getElem?_getD, List.getElem?_map, List.getElem?_eq_getElem hi', Option.map_some, Option.getD_some]
    exact fits_lo8 _
end StrChars.Road
namespace StrChars.Road
open Jvm Sem ClassFile Op Lib Jvm.Stand Jvm.Free Jvm.Free.XT
/-- WHAT COMES BACK, in the writer's own shape -/
def QV (Z : State) (x : Addr) (N : Int32) (bs : List Int32) (h : Heap) (n0 : Nat) (v : Option Value) (h' : Heap) (L : List Loc) : Prop := v = none ∧ RoadKit.Fr n0 L ∧ RoadKit.Keep h h' [x] ∧ RoadKit.Exa Z h' x ST ∧ RoadKit.Fld Z h' x ST "coder" "B" (.int 0) ∧
  ∃ (t : Addr) (kb : ClassId), n0 ≤ t ∧ h.size ≤ t ∧ ¬ t = x ∧ RoadKit.Fld Z h' x ST "value" "[B" (.ref t) ∧ RoadKit.Arv Z h' t kb .byte N (bs.map Value.int) (.int 0)
/-- **new String(chars) AT A CALL, FOR THE WRITER**: a char[] of n known ints, each 0 to 255 -/
theorem backV {p : Program} {l : Launch} {e : Env} {R : Room} {s : State} {args : Array Value} {below : List Frame} {len W : Nat} {Z : State} {a0 : Array Value} {h : Heap} (hZ : Z.Warmed39 s.vm) (hw : ∀ d ∈ words, d.before a0 Z = true) {kI : Nat} (wi : (Jvm.Cond.instantiable ST kI).before a0 Z = true)
    {x b : Addr} {kC : ClassId} {cs bs : List Int32} {d v0 c0 : Value} {z N : Int32} {n n0 : Nat} (hx0 : n0 ≤ x) (hh0 : n0 ≤ h.size) (E : RoadKit.Exa Z h x ST) (V : RoadKit.Fld Z h x ST "value" "[B" v0) (C : RoadKit.Fld Z h x ST "coder" "B" c0) (K : RoadKit.Arv Z h b kC .char N (cs.map Value.int) d) (S : RoadKit.Sta Z h ST "COMPACT_STRINGS" "Z" (.int z)) (hz : ¬ z = 0)
    (hn : cs.length = n) (hN : N = Int32.ofNat n) (l0 : 0 < n) (l2 : n ≤ 4000) (hp : ∀ c ∈ cs, ¬ c < 0 ∧ ¬ (255 : Int32) < c) (hb : bs = cs.map (fun c => c.toInt8.toInt32)) (hfr : 4 ≤ R.frames) (hlo : W + 65 ≤ R.locals) :
    Back l R p e below s args (⟨"java/lang/String", "<init>", "([C)V"⟩ : MethodName) len W (fun P a => a = #[.ref x, .ref b] ∧ P.U.heap = h ∧ P.cells + 1 ≤ R.cells ∧ P.slots + n ≤ R.slots)
      (fun P _ v B => ∃ L, QV Z x N bs h n0 v B.U.heap L ∧ B.locs = P.locs ++ L ∧ B.cells = P.cells + 1 ∧ B.slots = P.slots + n) := by
  subst hn hN hb
  refine Back.mono (backArv hZ hw wi E V C K S hz (n32 (by omega)) l0 (by omega) (fun c hc => (hp c hc).2) hfr hlo) (fun P a hp => hp) (fun P a v B hp hq => ?_)
  obtain ⟨L, ⟨q1, q2, q3, q4, q5, q6, q7, ⟨kb, v1, v2⟩, q9⟩, hl, hc, hs⟩ := hq
  exact ⟨L, ⟨q1, fun y hy => by rw [q2 y hy]; exact hx0, q3, q5, q7, h.size, kb, hh0, Nat.le_refl _, Nat.ne_of_gt E.lt, q6, by rw [List.map_map]; exact v2⟩, hl, hc, hs⟩
end StrChars.Road
end Jvm.Pilot.@@N@@

namespace Jvm.Pilot.@@N@@
open Jvm Jvm.ClassFile Sem Op Lib Jvm.Free Jvm.Stand Jvm.LawKit Jvm.RoadKit Bundle Jvm.Pilot.@@N@@.Jvm.D
/-! the goal of a body's walk, closed under steps that lead to where it holds -/
def Gl (p : Program) (e : Env) (below : List Frame) (s : State) (Q : Option Value → Heap → List Loc → Prop) (k n : Nat) (S0 : State) : Prop :=
  ∃ s₂ o, Steps p.tables e below S0 s₂ ∧ s₂.status = .running ∧ Ended s₂ below o ∧ ∃ v L, o = .returned v ∧ Q v s₂.heap L ∧ FrameEnd s o s₂ L k n
theorem Gl.back {p : Program} {e : Env} {below : List Frame} {s : State} {Q : Option Value → Heap → List Loc → Prop} {k n : Nat} {S0 S1 : State} (h : ∀ t, Steps p.tables e below S1 t → Steps p.tables e below S0 t) (g : Gl p e below s Q k n S1) : Gl p e below s Q k n S0 := by
  obtain ⟨s₂, o, h1, r⟩ := g; exact ⟨s₂, o, h _ h1, r⟩
theorem Gl.ret {p : Program} {l : Launch} {e : Env} {R : Room} {s : State} {m : MethodId} {args : Array Value} {below : List Frame} {meth : Method} {c : Code} {T : State} {locs : List Loc} {cells slots : Nat} (X : Stand p l e R s m args below meth c T locs cells slots) {h : Heap} (eT : T.heap = h)
    {v : Option Value} (hv : meth.sig.returnType = none → v = none) (hlocks : meth.locks = false) {S0 : State} (st : ∀ fs, (∀ (f : JFrame) (acts : List Action), f.method = m → f.locked = none → f.entered = [] → (doReturn e (T.setTop f) acts v).1 = T.setFrames fs) → Steps p.tables e below S0 (T.setFrames fs))
    {Q : Option Value → Heap → List Loc → Prop} {k n : Nat} (hQ : Q v h locs) (hk : cells ≤ k) (hn : slots ≤ n) : Gl p e below s Q k n S0 := by
  obtain ⟨fs, hr, hrun, hended, hW, hsame⟩ := X.leave (v := v) hv hlocks
  exact ⟨_, _, st fs hr, hrun, hended, v, locs, rfl, eT ▸ hQ, ⟨_, rfl⟩, hW, hsame.mono hk hn⟩
def GlW (p : Program) (e : Env) (below : List Frame) (s : State) (Q : Option Value → Heap → List Loc → Prop) (k n : Nat) (S0 : State) : Prop :=
  ∃ s₂ o, Steps p.tables e below S0 s₂ ∧ s₂.status = .running ∧ Ended s₂ below o ∧ ∃ v L, o = .returned v ∧ Q v s₂.heap L ∧ ReturnedEndW s o s₂ L k n
theorem GlW.back {p : Program} {e : Env} {below : List Frame} {s : State} {Q : Option Value → Heap → List Loc → Prop} {k n : Nat} {S0 S1 : State} (h : ∀ t, Steps p.tables e below S1 t → Steps p.tables e below S0 t) (g : GlW p e below s Q k n S1) : GlW p e below s Q k n S0 := by
  obtain ⟨s₂, o, h1, r⟩ := g; exact ⟨s₂, o, h _ h1, r⟩
theorem GlW.ret {p : Program} {l : Launch} {e : Env} {R : Room} {s : State} {vm0 : Vm} {m : MethodId} {args : Array Value} {below : List Frame} {meth : Method} {c : Code} {T : State} {locs : List Loc} {cells slots : Nat} (X : Stand p l e R (s.setVm vm0) m args below meth c T locs cells slots) {h : Heap} (eT : T.heap = h)
    {k0 : Nat} (hS : s.Since vm0 k0) (hk0 : k0 ≤ h.size) {v : Option Value} (hv : meth.sig.returnType = none → v = none) (hlocks : meth.locks = false) {S0 : State} (st : ∀ fs, (∀ (f : JFrame) (acts : List Action), f.method = m → f.locked = none → f.entered = [] → (doReturn e (T.setTop f) acts v).1 = T.setFrames fs) → Steps p.tables e below S0 (T.setFrames fs))
    {Q : Option Value → Heap → List Loc → Prop} {k n : Nat} (hQ : Q v h locs) (hk : cells ≤ k) (hn : slots ≤ n) : GlW p e below s Q k n S0 := by
  obtain ⟨fs, hr, hrun, hended, hE⟩ := X.leaveW hS (by rw [eT]; exact hk0) (v := v) hv hlocks
  exact ⟨_, _, st fs hr, hrun, hended, v, locs, rfl, eT ▸ hQ, hE.1, hE.2.1, hE.2.2.1, hE.2.2.2.mono hk hn⟩
theorem own_lcL {x y : Int64} (h : x < y) : lcmpW x y < 0 := by rw [lcW]; exact (lc_lt x y).mpr h
theorem own_lcLn {x y : Int64} (h : ¬ x < y) : ¬ lcmpW x y < 0 := by rw [lcW]; exact fun q => h ((lc_lt x y).mp q)
theorem own_lcG {x y : Int64} (h : y < x) : 0 < lcmpW x y := by rw [lcW]; exact (lc_gt x y).mpr h
theorem own_lcGn {x y : Int64} (h : ¬ y < x) : ¬ 0 < lcmpW x y := by rw [lcW]; exact fun q => h ((lc_gt x y).mp q)
theorem own_lcE {x y : Int64} (h : x = y) : lcmpW x y = 0 := by rw [lcW]; exact (lc_eq x y).mpr h
theorem own_lcEn {x y : Int64} (h : ¬ x = y) : ¬ lcmpW x y = 0 := by rw [lcW]; exact fun q => h ((lc_eq x y).mp q)
theorem own_and255 (x : Int32) : ¬ (x &&& (255 : Int32)) < 0 ∧ ¬ (255 : Int32) < (x &&& (255 : Int32)) := by
  have h := Jvm.Kit.i32_mask x 255 (k := 8) (by decide) (by decide)
  have e0 : (0 : Int32).toInt = 0 := by decide
  have e1 : (255 : Int32).toInt = 255 := by decide
  rw [Int32.lt_iff_toInt_lt, Int32.lt_iff_toInt_lt, e0, e1]; omega
theorem own_and3 (x : Int32) : x &&& (3 : Int32) = 0 ∨ x &&& (3 : Int32) = 1 ∨ x &&& (3 : Int32) = 2 ∨ x &&& (3 : Int32) = 3 := by
  have h := Jvm.Kit.i32_mask x 3 (k := 2) (by decide) (by decide)
  have e : ∀ y : Int32, (x &&& (3 : Int32)).toInt = y.toInt → x &&& (3 : Int32) = y := fun y => Int32.toInt_inj.mp
  have hx : (x &&& (3 : Int32)).toInt = 0 ∨ (x &&& (3 : Int32)).toInt = 1 ∨ (x &&& (3 : Int32)).toInt = 2 ∨ (x &&& (3 : Int32)).toInt = 3 := by omega
  rcases hx with q | q | q | q
  · exact Or.inl (e 0 q)
  · exact Or.inr (Or.inl (e 1 q))
  · exact Or.inr (Or.inr (Or.inl (e 2 q)))
  · exact Or.inr (Or.inr (Or.inr (e 3 q)))
theorem own_len {args : Array Value} {s : State} {t : Term} {z : Int32} (h : (Term.length t).eval args s none [] s = some (.int z)) : ∃ (b : Addr) (cl : Cell), t.eval args s none [] s = some (.ref b) ∧ s.arrayAt? b = some cl ∧ cl.slots.size < 2 ^ 31 ∧ cl.slots.size.toInt32 = z := by
  obtain ⟨b, e⟩ := len_v h
  simp only [Term.eval, e] at h
  cases ha : s.arrayAt? b with
  | none => simp [ha] at h
  | some cl =>
    by_cases q : cl.slots.size < 2 ^ 31
    · simp [ha, q] at h
      exact ⟨b, cl, e, ha, q, h⟩
    · simp [ha, q] at h
theorem own_irr {x : Int64} : ¬ x < x := by rw [Int64.lt_iff_toInt_lt]; omega
theorem own_asym {x y : Int64} (h : x < y) : ¬ y < x := by rw [Int64.lt_iff_toInt_lt] at h ⊢; omega
theorem own_fldJ {args : Array Value} {s : State} {t : Term} {C n d : String} {k : Int64} {a : Addr} (ev : t.eval args s none [] s = some (.ref a)) (h : (Jvm.Cond.eq (Term.field t C n d) (Term.long k)).value args s none s [] = some true) : Fld s s.heap a C n d (.long k) := by
  have e := fld_at (C := C) (n := n) (dd := d) ev
  obtain ⟨x, y, h1, h2, k1, k2⟩ := cmp_v (Or.inl h)
  obtain rfl : Value.long k = y := Option.some.inj h2
  obtain ⟨z, rfl⟩ := k2
  have q := eq_L h1 h2
  obtain rfl : z = k := gotT q h
  exact Fld.start (e ▸ h1)
theorem own_arr0 {args : Array Value} {s : State} {t : Term} {ty : FieldType} {a : Addr} (hf : Fit s) (ev : t.eval args s none [] s = some (.ref a)) (h : (Jvm.Cond.arrayOf t ty).value args s none s [] = some true) (hl : (Jvm.Cond.eq (Term.length t) (Term.int 0)).value args s none s [] = some true) (dv : Value) : ∃ k, Arv s s.heap a k ty 0 [] dv := by
  obtain ⟨c, A⟩ := Arr.start ev h
  obtain ⟨x, y, h1, h2, k1, k2⟩ := cmp_v (Or.inl hl)
  obtain rfl : Value.int 0 = y := Option.some.inj h2
  obtain ⟨z, rfl⟩ := k2
  obtain rfl : z = 0 := gotT (Jvm.Cond.eq_ints h1 h2) hl
  have hAt : s.arrayAt? a = some c := A.fin (Vm.Alike.refl _)
  obtain ⟨b, cl, e1, e2, e3, e4⟩ := own_len h1
  cases ev.symm.trans e1
  cases hAt.symm.trans e2
  have hz : c.slots.size = 0 := by
    have q := congrArg Int32.toInt e4
    rw [len_toInt e3] at q
    have : (0 : Int32).toInt = 0 := by decide
    omega
  exact ⟨c.cls, Arv.start hf A e3 e4 (by decide) (by decide) trivial⟩
theorem own_nn (x : Int64) : ¬ (x &&& (9223372036854775807 : Int64)) < (-(9223372036 : Int64)) := by
  have h := Jvm.Kit.i64_mask x 9223372036854775807 (k := 63) (by decide) (by decide)
  have e : (-(9223372036 : Int64)).toInt = -9223372036 := by decide
  rw [Int64.lt_iff_toInt_lt, e]; omega
theorem own_next {a r : Int64} (h : ¬ a = (9223372036854775807 : Int64)) (q : ¬ r < a + (1 : Int64)) : a < r := by
  have e : (9223372036854775807 : Int64).toInt = 9223372036854775807 := by decide
  have e1 : (1 : Int64).toInt = 1 := by decide
  have h1 : a.toInt ≠ 9223372036854775807 := fun z => h (Int64.toInt_inj.mp (z.trans e.symm))
  have b := a.toInt_lt
  have b2 := a.le_toInt
  have s : (a + (1 : Int64)).toInt = a.toInt + (1 : Int64).toInt := Jvm.Kit.i64_add (by omega) (by omega)
  rw [Int64.lt_iff_toInt_lt] at q ⊢
  omega
theorem d2_0 : decode jdk_30_method_1_code 0 = .ok (.aload_n 0, 1) := by decide +kernel
theorem d2_1 : decode jdk_30_method_1_code 1 = .ok (.invokespecial 1, 3) := by decide +kernel
theorem d2_4 : decode jdk_30_method_1_code 4 = .ok (.return_, 1) := by decide +kernel
theorem pn_java_lang_Record : plainName "java/lang/Record" = true := by first | (simp [plainName, overriddenIn]; done) | decide +kernel
theorem ef_rec (m : MethodId) (x0 : Addr) : entryFrame m #[(.ref x0)] 1 = mkF m 0 #[.val (.ref x0)] [] := by first | (simp [entryFrame, mkF, argsToLocals, Value.category]; done) | rfl
def Qrec (Z : State) (a : Addr) (h0 : Heap) (n0 : Nat) (v : Option Value) (h : Heap) (L : List Loc) : Prop := Fr n0 L ∧ (v = none ∧ h = h0)
set_option maxRecDepth 65536 in
set_option maxHeartbeats 40000000 in
theorem rmrec (l : Launch) (Z : State) (a0 : Array Value) (hw : ∀ d ∈ tables_1, d.before a0 Z = true) (ws : List Jvm.Cond) (a : Addr) (h0 : Heap) (n0 : Nat) (Z0 : n0 ≤ h0.size) :
    MetFree l (⟨"java/lang/Record", "<init>", "()V"⟩ : MethodName) (head1 (Jvm.Cond.code (⟨"java/lang/Record", "<init>", "()V"⟩ : MethodName) jdk_30_method_1_code 1 none :: ws) ({ frames := 1, cells := 0, slots := 0, locals := 12 } : Room)) (fun as0 U => as0 = #[(.ref a)] ∧ Z.Warmed39 U.vm ∧ U.heap = h0) (fun _ _ _ _ _ => True) (fun _ U oc0 U' => ∃ v L, oc0 = .returned v ∧ Qrec Z a h0 n0 v U'.heap L ∧ FrameEnd U oc0 U' L ({ frames := 1, cells := 0, slots := 0, locals := 12 } : Room).cells ({ frames := 1, cells := 0, slots := 0, locals := 12 } : Room).slots) := by
  refine MetFree.of_bodySF (plainFor_of_name pn_java_lang_Record) hisR ?_
  intro p e s m args below meth c s₁ Bd hml0 hP hK
  obtain ⟨rfl, hZ, hh⟩ := hP
  have hx := Bd.exec
  have hby := Bd.bytes
  have hml : c.maxLocals = 1 := hml0
  have hown : s.vm.findClass "java/lang/Record" = some m.cls := findClass_of_methodNamed Bd.named
  have hnm := (name_of_methodNamed Bd.named Bd.method).1
  have X0 : Stand p l e ({ frames := 1, cells := 0, slots := 0, locals := 12 } : Room) s m #[(.ref a)] below meth c s₁ [] 0 0 := Stand.of_body Bd
  have e0 : s₁.heap = h0 := by rw [← hh, Bd.state]; rfl
  have N0 := Fr.nil n0
  show Gl p e below s (Qrec Z a h0 n0) ({ frames := 1, cells := 0, slots := 0, locals := 12 } : Room).cells ({ frames := 1, cells := 0, slots := 0, locals := 12 } : Room).slots (s₁.setTop (entryFrame m #[(.ref a)] 1))
  refine Gl.back (fun _ k => castTop (ef_rec m a) k) ?_
  show Gl _ _ _ _ _ _ _ (s₁.setTop (mkF m 0 #[.val (.ref a)] []))
  refine Gl.back (fun _ k => XS.aloadN X0.here hx rfl (hb hby d2_0) rfl rfl k) ?_
  show Gl _ _ _ _ _ _ _ (s₁.setTop (mkF m 1 #[.val (.ref a)] [(.ref a)]))
  obtain ⟨T1, X1, e1, st1⟩ := initO X0 hx hZ hown (hw _ (List.mem_of_getElem? (i := 14) rfl)) (hw _ (List.mem_of_getElem? (i := 15) rfl)) (hw _ (List.mem_of_getElem? (i := 16) rfl)) e0 (g := (mkF m 1 #[.val (.ref a)] [(.ref a)])) rfl (by rw [hml]; rfl) rfl (hb hby d2_1) (by decide) (W := 0) (by show 2 * 0 + _ ≤ _; exact Nat.le_of_eq rfl) (by decide)
  refine Gl.back (fun _ k => st1 _ k) ?_
  show Gl _ _ _ _ _ _ _ (T1.setTop (mkF m 4 #[.val (.ref a)] []))
  exact Gl.ret X1 e1 (v := none) (fun _ => rfl) Bd.notSynchronized (fun fs hr => X1.returnOut hx Bd.returns (hb hby d2_4) hr) ⟨N0, rfl, rfl⟩ (by decide) (by decide)
theorem d7_0 : decode jdk_22_method_1_code 0 = .ok (.aload_n 0, 1) := by decide +kernel
theorem d7_1 : decode jdk_22_method_1_code 1 = .ok (.invokespecial 1, 3) := by decide +kernel
theorem d7_4 : decode jdk_22_method_1_code 4 = .ok (.return_, 1) := by decide +kernel
theorem pn_java_util_AbstractCollection : plainName "java/util/AbstractCollection" = true := by first | (simp [plainName, overriddenIn]; done) | decide +kernel
theorem ef_abc (m : MethodId) (x0 : Addr) : entryFrame m #[(.ref x0)] 1 = mkF m 0 #[.val (.ref x0)] [] := by first | (simp [entryFrame, mkF, argsToLocals, Value.category]; done) | rfl
def Qabc (Z : State) (a : Addr) (h0 : Heap) (n0 : Nat) (v : Option Value) (h : Heap) (L : List Loc) : Prop := Fr n0 L ∧ (v = none ∧ h = h0)
set_option maxRecDepth 65536 in
set_option maxHeartbeats 40000000 in
theorem rmabc (l : Launch) (Z : State) (a0 : Array Value) (hw : ∀ d ∈ tables_1, d.before a0 Z = true) (ws : List Jvm.Cond) (a : Addr) (h0 : Heap) (n0 : Nat) (Z0 : n0 ≤ h0.size) :
    MetFree l (⟨"java/util/AbstractCollection", "<init>", "()V"⟩ : MethodName) (head1 (Jvm.Cond.code (⟨"java/util/AbstractCollection", "<init>", "()V"⟩ : MethodName) jdk_22_method_1_code 1 none :: ws) ({ frames := 1, cells := 0, slots := 0, locals := 12 } : Room)) (fun as0 U => as0 = #[(.ref a)] ∧ Z.Warmed39 U.vm ∧ U.heap = h0) (fun _ _ _ _ _ => True) (fun _ U oc0 U' => ∃ v L, oc0 = .returned v ∧ Qabc Z a h0 n0 v U'.heap L ∧ FrameEnd U oc0 U' L ({ frames := 1, cells := 0, slots := 0, locals := 12 } : Room).cells ({ frames := 1, cells := 0, slots := 0, locals := 12 } : Room).slots) := by
  refine MetFree.of_bodySF (plainFor_of_name pn_java_util_AbstractCollection) hisR ?_
  intro p e s m args below meth c s₁ Bd hml0 hP hK
  obtain ⟨rfl, hZ, hh⟩ := hP
  have hx := Bd.exec
  have hby := Bd.bytes
  have hml : c.maxLocals = 1 := hml0
  have hown : s.vm.findClass "java/util/AbstractCollection" = some m.cls := findClass_of_methodNamed Bd.named
  have hnm := (name_of_methodNamed Bd.named Bd.method).1
  have X0 : Stand p l e ({ frames := 1, cells := 0, slots := 0, locals := 12 } : Room) s m #[(.ref a)] below meth c s₁ [] 0 0 := Stand.of_body Bd
  have e0 : s₁.heap = h0 := by rw [← hh, Bd.state]; rfl
  have N0 := Fr.nil n0
  show Gl p e below s (Qabc Z a h0 n0) ({ frames := 1, cells := 0, slots := 0, locals := 12 } : Room).cells ({ frames := 1, cells := 0, slots := 0, locals := 12 } : Room).slots (s₁.setTop (entryFrame m #[(.ref a)] 1))
  refine Gl.back (fun _ k => castTop (ef_abc m a) k) ?_
  show Gl _ _ _ _ _ _ _ (s₁.setTop (mkF m 0 #[.val (.ref a)] []))
  refine Gl.back (fun _ k => XS.aloadN X0.here hx rfl (hb hby d7_0) rfl rfl k) ?_
  show Gl _ _ _ _ _ _ _ (s₁.setTop (mkF m 1 #[.val (.ref a)] [(.ref a)]))
  obtain ⟨T2, X2, e2, st2⟩ := initO X0 hx hZ hown (hw _ (List.mem_of_getElem? (i := 41) rfl)) (hw _ (List.mem_of_getElem? (i := 15) rfl)) (hw _ (List.mem_of_getElem? (i := 16) rfl)) e0 (g := (mkF m 1 #[.val (.ref a)] [(.ref a)])) rfl (by rw [hml]; rfl) rfl (hb hby d7_1) (by decide) (W := 0) (by show 2 * 0 + _ ≤ _; exact Nat.le_of_eq rfl) (by decide)
  refine Gl.back (fun _ k => st2 _ k) ?_
  show Gl _ _ _ _ _ _ _ (T2.setTop (mkF m 4 #[.val (.ref a)] []))
  exact Gl.ret X2 e2 (v := none) (fun _ => rfl) Bd.notSynchronized (fun fs hr => X2.returnOut hx Bd.returns (hb hby d7_4) hr) ⟨N0, rfl, rfl⟩ (by decide) (by decide)
theorem d1_0 : decode prog_40_method_1_code 0 = .ok (.aload_n 0, 1) := by decide +kernel
theorem d1_1 : decode prog_40_method_1_code 1 = .ok (.invokespecial 1, 3) := by decide +kernel
theorem pd___V : parseMethodDescriptor "()V" = some ⟨[], none⟩ := by decide +kernel
theorem d1_4 : decode prog_40_method_1_code 4 = .ok (.aload_n 0, 1) := by decide +kernel
theorem d1_5 : decode prog_40_method_1_code 5 = .ok (.lload_n 1, 1) := by decide +kernel
theorem d1_6 : decode prog_40_method_1_code 6 = .ok (.putfield 7, 3) := by decide +kernel
theorem d1_9 : decode prog_40_method_1_code 9 = .ok (.return_, 1) := by decide +kernel
theorem pn_com_example_gavelwatch_gavelwatch_model_Money : plainName "com/example/gavelwatch/gavelwatch/model/Money" = true := by first | (simp [plainName, overriddenIn]; done) | decide +kernel
theorem ef_money (m : MethodId) (x0 : Addr) (x1 : Int64) : entryFrame m #[(.ref x0), (.long x1)] 3 = mkF m 0 #[.val (.ref x0), .val (.long x1), .second] [] := by first | (simp [entryFrame, mkF, argsToLocals, Value.category]; done) | rfl
def Qmoney (Z : State) (a : Addr) (x : Int64) (h0 : Heap) (n0 : Nat) (v : Option Value) (h : Heap) (L : List Loc) : Prop := Fr n0 L ∧ (v = none ∧ Keep h0 h [a] ∧ Fld Z h a "com/example/gavelwatch/gavelwatch/model/Money" "cents" "J" (.long x))
set_option maxRecDepth 65536 in
set_option maxHeartbeats 40000000 in
theorem rmmoney (l : Launch) (Z : State) (a0 : Array Value) (hw : ∀ d ∈ tables_1, d.before a0 Z = true) (ws : List Jvm.Cond) (a : Addr) (x : Int64) (h0 : Heap) (n0 : Nat) (Z0 : n0 ≤ h0.size) (g_a : n0 ≤ a) (E_a : Exa Z h0 a "com/example/gavelwatch/gavelwatch/model/Money") (F_a_cents : Fld Z h0 a "com/example/gavelwatch/gavelwatch/model/Money" "cents" "J" (.long (0 : Int64))) :
    MetFree l (⟨"com/example/gavelwatch/gavelwatch/model/Money", "<init>", "(J)V"⟩ : MethodName) (head1 (Jvm.Cond.code (⟨"com/example/gavelwatch/gavelwatch/model/Money", "<init>", "(J)V"⟩ : MethodName) prog_40_method_1_code 3 none :: ws) ({ frames := 2, cells := 0, slots := 0, locals := 24 } : Room)) (fun as0 U => as0 = #[(.ref a), (.long x)] ∧ Z.Warmed39 U.vm ∧ U.heap = h0) (fun _ _ _ _ _ => True) (fun _ U oc0 U' => ∃ v L, oc0 = .returned v ∧ Qmoney Z a x h0 n0 v U'.heap L ∧ FrameEnd U oc0 U' L ({ frames := 2, cells := 0, slots := 0, locals := 24 } : Room).cells ({ frames := 2, cells := 0, slots := 0, locals := 24 } : Room).slots) := by
  refine MetFree.of_bodySF (plainFor_of_name pn_com_example_gavelwatch_gavelwatch_model_Money) hisR ?_
  intro p e s m args below meth c s₁ Bd hml0 hP hK
  obtain ⟨rfl, hZ, hh⟩ := hP
  have hx := Bd.exec
  have hby := Bd.bytes
  have hml : c.maxLocals = 3 := hml0
  have hown : s.vm.findClass "com/example/gavelwatch/gavelwatch/model/Money" = some m.cls := findClass_of_methodNamed Bd.named
  have hnm := (name_of_methodNamed Bd.named Bd.method).1
  have X0 : Stand p l e ({ frames := 2, cells := 0, slots := 0, locals := 24 } : Room) s m #[(.ref a), (.long x)] below meth c s₁ [] 0 0 := Stand.of_body Bd
  have e0 : s₁.heap = h0 := by rw [← hh, Bd.state]; rfl
  have N0 := Fr.nil n0
  show Gl p e below s (Qmoney Z a x h0 n0) ({ frames := 2, cells := 0, slots := 0, locals := 24 } : Room).cells ({ frames := 2, cells := 0, slots := 0, locals := 24 } : Room).slots (s₁.setTop (entryFrame m #[(.ref a), (.long x)] 3))
  refine Gl.back (fun _ k => castTop (ef_money m a x) k) ?_
  show Gl _ _ _ _ _ _ _ (s₁.setTop (mkF m 0 #[.val (.ref a), .val (.long x), .second] []))
  refine Gl.back (fun _ k => XS.aloadN X0.here hx rfl (hb hby d1_0) rfl rfl k) ?_
  show Gl _ _ _ _ _ _ _ (s₁.setTop (mkF m 1 #[.val (.ref a), .val (.long x), .second] [(.ref a)]))
  obtain ⟨_, _, ⟨T3, L3, k3, n3⟩, -, X3, ⟨Lc3, hQ3, l3, y3, z3⟩, st3⟩ := X0.specialBack hx (y := (⟨"java/lang/Record", "<init>", "()V"⟩ : MethodName)) rfl hown (mvT hZ (hw _ (List.mem_of_getElem? (i := 9) rfl))) (mvT hZ (hw _ (List.mem_of_getElem? (i := 10) rfl))) (mvT hZ (hw _ (List.mem_of_getElem? (i := 13) rfl))) (by decide) (backOf (W := 0) (rmrec l Z a0 hw [] a  h0 n0 Z0 ) hZ (hw _ (List.mem_of_getElem? (i := 13) rfl)) (hw _ (List.mem_of_getElem? (i := 12) rfl)) (by decide) (by decide)) (g := (mkF m 1 #[.val (.ref a), .val (.long x), .second] [(.ref a)])) rfl (by rw [hml]; rfl) (Steps.refl _) (a := a) (argsL := []) (rest := []) (lenOf pd___V rfl) rfl (by show 2 * 0 + _ ≤ _; exact Nat.le_of_eq rfl) (hb hby d1_1) (fun _ _ => ⟨rfl, e0, (by decide : 0 + 0 ≤ _), (by decide : 0 + 0 ≤ _)⟩)
  dsimp only [Pt.U, Pt.locs, Pt.cells, Pt.slots] at X3 l3 y3 z3 st3 hQ3
  subst l3 y3 z3
  obtain ⟨Nq3, rfl, eh3⟩ := hQ3
  have N3 := Fr.app N0 Nq3
  refine Gl.back (fun _ k => st3.trans k) ?_
  show Gl _ _ _ _ _ _ _ (T3.setTop (mkF m 4 #[.val (.ref a), .val (.long x), .second] []))
  refine Gl.back (fun _ k => XS.aloadN X3.here hx rfl (hb hby d1_4) rfl rfl k) ?_
  show Gl _ _ _ _ _ _ _ (T3.setTop (mkF m 5 #[.val (.ref a), .val (.long x), .second] [(.ref a)]))
  refine Gl.back (fun _ k => XS.lloadN X3.here hx rfl (hb hby d1_5) rfl k) ?_
  show Gl _ _ _ _ _ _ _ (T3.setTop (mkF m 6 #[.val (.ref a), .val (.long x), .second] [(.long x), (.ref a)]))
  obtain ⟨T4, h4, X4, e4, W4, st4⟩ := putF X3 hx hZ hown (host := "") (Or.inl (hw _ (List.mem_of_getElem? (i := 17) rfl))) Via.refl eh3 F_a_cents E_a (Or.inr ⟨(hw _ (List.mem_of_getElem? (i := 18) rfl)), rfl, hnm⟩) (hw _ (List.mem_of_getElem? (i := 4) rfl)) (ty := .long) (by decide) rfl rfl (g := (mkF m 6 #[.val (.ref a), .val (.long x), .second] [(.long x), (.ref a)])) rfl rfl (hb hby d1_6)
  have Fw4 := F_a_cents.same W4
  have K4 := Keep.wr (Keep.refl h0 [a]) W4 (Or.inl (List.mem_of_getElem? (i := 0) rfl))
  have Z4 : n0 ≤ h4.size := Nat.le_trans Z0 (Keep.of_wr W4).1
  have N4 := Fr.snoc X4 N3 g_a
  refine Gl.back (fun _ k => st4 _ k) ?_
  show Gl _ _ _ _ _ _ _ (T4.setTop (mkF m 9 #[.val (.ref a), .val (.long x), .second] []))
  exact Gl.ret X4 e4 (v := none) (fun _ => rfl) Bd.notSynchronized (fun fs hr => X4.returnOut hx Bd.returns (hb hby d1_9) hr) ⟨N4, rfl, K4, Fw4⟩ (by decide) (by decide)
theorem d6_0 : decode jdk_39_method_1_code 0 = .ok (.aload_n 0, 1) := by decide +kernel
theorem d6_1 : decode jdk_39_method_1_code 1 = .ok (.invokespecial 1, 3) := by decide +kernel
theorem d6_4 : decode jdk_39_method_1_code 4 = .ok (.aload_n 0, 1) := by decide +kernel
theorem d6_5 : decode jdk_39_method_1_code 5 = .ok (.iconst 0, 1) := by decide +kernel
theorem d6_6 : decode jdk_39_method_1_code 6 = .ok (.putfield 7, 3) := by decide +kernel
theorem d6_9 : decode jdk_39_method_1_code 9 = .ok (.return_, 1) := by decide +kernel
theorem pn_java_util_AbstractList : plainName "java/util/AbstractList" = true := by first | (simp [plainName, overriddenIn]; done) | decide +kernel
theorem ef_abl (m : MethodId) (x0 : Addr) : entryFrame m #[(.ref x0)] 1 = mkF m 0 #[.val (.ref x0)] [] := by first | (simp [entryFrame, mkF, argsToLocals, Value.category]; done) | rfl
def Qabl (Z : State) (a : Addr) (h0 : Heap) (n0 : Nat) (v : Option Value) (h : Heap) (L : List Loc) : Prop := Fr n0 L ∧ (v = none ∧ Keep h0 h [a] ∧ Fld Z h a "java/util/AbstractList" "modCount" "I" (.int (0 : Int32)) ∧ Fld Z h a "java/util/ArrayList" "elementData" "[Ljava/lang/Object;" .null ∧ Fld Z h a "java/util/ArrayList" "size" "I" (.int (0 : Int32)))
set_option maxRecDepth 65536 in
set_option maxHeartbeats 40000000 in
theorem rmabl (l : Launch) (Z : State) (a0 : Array Value) (hw : ∀ d ∈ tables_1, d.before a0 Z = true) (ws : List Jvm.Cond) (a : Addr) (h0 : Heap) (n0 : Nat) (Z0 : n0 ≤ h0.size) (g_a : n0 ≤ a) (E_a : Exa Z h0 a "java/util/ArrayList") (F_a_modCount : Fld Z h0 a "java/util/AbstractList" "modCount" "I" (.int (0 : Int32))) (F_a_elementData : Fld Z h0 a "java/util/ArrayList" "elementData" "[Ljava/lang/Object;" .null) (F_a_size : Fld Z h0 a "java/util/ArrayList" "size" "I" (.int (0 : Int32))) :
    MetFree l (⟨"java/util/AbstractList", "<init>", "()V"⟩ : MethodName) (head1 (Jvm.Cond.code (⟨"java/util/AbstractList", "<init>", "()V"⟩ : MethodName) jdk_39_method_1_code 1 none :: ws) ({ frames := 2, cells := 0, slots := 0, locals := 24 } : Room)) (fun as0 U => as0 = #[(.ref a)] ∧ Z.Warmed39 U.vm ∧ U.heap = h0) (fun _ _ _ _ _ => True) (fun _ U oc0 U' => ∃ v L, oc0 = .returned v ∧ Qabl Z a h0 n0 v U'.heap L ∧ FrameEnd U oc0 U' L ({ frames := 2, cells := 0, slots := 0, locals := 24 } : Room).cells ({ frames := 2, cells := 0, slots := 0, locals := 24 } : Room).slots) := by
  refine MetFree.of_bodySF (plainFor_of_name pn_java_util_AbstractList) hisR ?_
  intro p e s m args below meth c s₁ Bd hml0 hP hK
  obtain ⟨rfl, hZ, hh⟩ := hP
  have hx := Bd.exec
  have hby := Bd.bytes
  have hml : c.maxLocals = 1 := hml0
  have hown : s.vm.findClass "java/util/AbstractList" = some m.cls := findClass_of_methodNamed Bd.named
  have hnm := (name_of_methodNamed Bd.named Bd.method).1
  have X0 : Stand p l e ({ frames := 2, cells := 0, slots := 0, locals := 24 } : Room) s m #[(.ref a)] below meth c s₁ [] 0 0 := Stand.of_body Bd
  have e0 : s₁.heap = h0 := by rw [← hh, Bd.state]; rfl
  have N0 := Fr.nil n0
  show Gl p e below s (Qabl Z a h0 n0) ({ frames := 2, cells := 0, slots := 0, locals := 24 } : Room).cells ({ frames := 2, cells := 0, slots := 0, locals := 24 } : Room).slots (s₁.setTop (entryFrame m #[(.ref a)] 1))
  refine Gl.back (fun _ k => castTop (ef_abl m a) k) ?_
  show Gl _ _ _ _ _ _ _ (s₁.setTop (mkF m 0 #[.val (.ref a)] []))
  refine Gl.back (fun _ k => XS.aloadN X0.here hx rfl (hb hby d6_0) rfl rfl k) ?_
  show Gl _ _ _ _ _ _ _ (s₁.setTop (mkF m 1 #[.val (.ref a)] [(.ref a)]))
  obtain ⟨_, _, ⟨T5, L5, k5, n5⟩, -, X5, ⟨Lc5, hQ5, l5, y5, z5⟩, st5⟩ := X0.specialBack hx (y := (⟨"java/util/AbstractCollection", "<init>", "()V"⟩ : MethodName)) rfl hown (mvT hZ (hw _ (List.mem_of_getElem? (i := 35) rfl))) (mvT hZ (hw _ (List.mem_of_getElem? (i := 36) rfl))) (mvT hZ (hw _ (List.mem_of_getElem? (i := 40) rfl))) (by decide) (backOf (W := 0) (rmabc l Z a0 hw [] a  h0 n0 Z0 ) hZ (hw _ (List.mem_of_getElem? (i := 40) rfl)) (hw _ (List.mem_of_getElem? (i := 39) rfl)) (by decide) (by decide)) (g := (mkF m 1 #[.val (.ref a)] [(.ref a)])) rfl (by rw [hml]; rfl) (Steps.refl _) (a := a) (argsL := []) (rest := []) (lenOf pd___V rfl) rfl (by show 2 * 0 + _ ≤ _; exact Nat.le_of_eq rfl) (hb hby d6_1) (fun _ _ => ⟨rfl, e0, (by decide : 0 + 0 ≤ _), (by decide : 0 + 0 ≤ _)⟩)
  dsimp only [Pt.U, Pt.locs, Pt.cells, Pt.slots] at X5 l5 y5 z5 st5 hQ5
  subst l5 y5 z5
  obtain ⟨Nq5, rfl, eh5⟩ := hQ5
  have N5 := Fr.app N0 Nq5
  refine Gl.back (fun _ k => st5.trans k) ?_
  show Gl _ _ _ _ _ _ _ (T5.setTop (mkF m 4 #[.val (.ref a)] []))
  refine Gl.back (fun _ k => XS.aloadN X5.here hx rfl (hb hby d6_4) rfl rfl k) ?_
  show Gl _ _ _ _ _ _ _ (T5.setTop (mkF m 5 #[.val (.ref a)] [(.ref a)]))
  refine Gl.back (fun _ k => XS.iconst X5.here hx rfl (hb hby d6_5) k) ?_
  show Gl _ _ _ _ _ _ _ (T5.setTop (mkF m 6 #[.val (.ref a)] [(.int (0 : Int32)), (.ref a)]))
  obtain ⟨T6, h6, X6, e6, W6, st6⟩ := putF X5 hx hZ hown (host := "") (Or.inl (hw _ (List.mem_of_getElem? (i := 42) rfl))) Via.refl eh5 F_a_modCount E_a (Or.inl (hw _ (List.mem_of_getElem? (i := 43) rfl))) (hw _ (List.mem_of_getElem? (i := 24) rfl)) (ty := .int) (by decide) rfl rfl (g := (mkF m 6 #[.val (.ref a)] [(.int (0 : Int32)), (.ref a)])) rfl rfl (hb hby d6_6)
  have Fw6 := F_a_modCount.same W6
  have K6 := Keep.wr (Keep.refl h0 [a]) W6 (Or.inl (List.mem_of_getElem? (i := 0) rfl))
  have Z6 : n0 ≤ h6.size := Nat.le_trans Z0 (Keep.of_wr W6).1
  have N6 := Fr.snoc X6 N5 g_a
  refine Gl.back (fun _ k => st6 _ k) ?_
  show Gl _ _ _ _ _ _ _ (T6.setTop (mkF m 9 #[.val (.ref a)] []))
  have f7 := (F_a_elementData.other W6 (Or.inr (slot_ne (Or.inl (hw _ (List.mem_of_getElem? (i := 46) rfl))) (Or.inl (hw _ (List.mem_of_getElem? (i := 43) rfl))) (by decide) (t := (.array (.object "java/lang/Object"))) (t' := .int) (by decide) (by decide))))
  have f8 := (F_a_size.other W6 (Or.inr (slot_ne (Or.inl (hw _ (List.mem_of_getElem? (i := 160) rfl))) (Or.inl (hw _ (List.mem_of_getElem? (i := 43) rfl))) (by decide) (t := .int) (t' := .int) (by decide) (by decide))))
  exact Gl.ret X6 e6 (v := none) (fun _ => rfl) Bd.notSynchronized (fun fs hr => X6.returnOut hx Bd.returns (hb hby d6_9) hr) ⟨N6, rfl, K6, Fw6, f7, f8⟩ (by decide) (by decide)
theorem d5_0 : decode jdk_38_method_2_code 0 = .ok (.aload_n 0, 1) := by decide +kernel
theorem d5_1 : decode jdk_38_method_2_code 1 = .ok (.invokespecial 1, 3) := by decide +kernel
theorem d5_4 : decode jdk_38_method_2_code 4 = .ok (.aload_n 0, 1) := by decide +kernel
theorem d5_5 : decode jdk_38_method_2_code 5 = .ok (.getstatic 39, 3) := by decide +kernel
theorem d5_8 : decode jdk_38_method_2_code 8 = .ok (.putfield 9, 3) := by decide +kernel
theorem d5_11 : decode jdk_38_method_2_code 11 = .ok (.return_, 1) := by decide +kernel
theorem pn_java_util_ArrayList : plainName "java/util/ArrayList" = true := by first | (simp [plainName, overriddenIn]; done) | decide +kernel
theorem ef_ali (m : MethodId) (x0 : Addr) : entryFrame m #[(.ref x0)] 1 = mkF m 0 #[.val (.ref x0)] [] := by first | (simp [entryFrame, mkF, argsToLocals, Value.category]; done) | rfl
def Qali (Z : State) (a : Addr) (wD : Addr) (h0 : Heap) (n0 : Nat) (v : Option Value) (h : Heap) (L : List Loc) : Prop := Fr n0 L ∧ (v = none ∧ Keep h0 h [a] ∧ Fld Z h a "java/util/AbstractList" "modCount" "I" (.int (0 : Int32)) ∧ Fld Z h a "java/util/ArrayList" "elementData" "[Ljava/lang/Object;" (.ref wD) ∧ Fld Z h a "java/util/ArrayList" "size" "I" (.int (0 : Int32)))
set_option maxRecDepth 65536 in
set_option maxHeartbeats 40000000 in
theorem rmali (l : Launch) (Z : State) (a0 : Array Value) (hw : ∀ d ∈ tables_1, d.before a0 Z = true) (ws : List Jvm.Cond) (a : Addr) (wD : Addr) (h0 : Heap) (n0 : Nat) (Z0 : n0 ≤ h0.size) (O0 : Old Z n0 h0) (g_a : n0 ≤ a) (E_a : Exa Z h0 a "java/util/ArrayList") (F_a_modCount : Fld Z h0 a "java/util/AbstractList" "modCount" "I" (.int (0 : Int32))) (F_a_elementData : Fld Z h0 a "java/util/ArrayList" "elementData" "[Ljava/lang/Object;" .null) (F_a_size : Fld Z h0 a "java/util/ArrayList" "size" "I" (.int (0 : Int32))) (S_DEFAULTCAPACITY_EMPTY_ELEMENTDATA : Sta Z Z.heap "java/util/ArrayList" "DEFAULTCAPACITY_EMPTY_ELEMENTDATA" "[Ljava/lang/Object;" (.ref wD)) :
    MetFree l (⟨"java/util/ArrayList", "<init>", "()V"⟩ : MethodName) (head1 (Jvm.Cond.code (⟨"java/util/ArrayList", "<init>", "()V"⟩ : MethodName) jdk_38_method_2_code 1 none :: ws) ({ frames := 3, cells := 0, slots := 0, locals := 36 } : Room)) (fun as0 U => as0 = #[(.ref a)] ∧ Z.Warmed39 U.vm ∧ U.heap = h0) (fun _ _ _ _ _ => True) (fun _ U oc0 U' => ∃ v L, oc0 = .returned v ∧ Qali Z a wD h0 n0 v U'.heap L ∧ FrameEnd U oc0 U' L ({ frames := 3, cells := 0, slots := 0, locals := 36 } : Room).cells ({ frames := 3, cells := 0, slots := 0, locals := 36 } : Room).slots) := by
  refine MetFree.of_bodySF (plainFor_of_name pn_java_util_ArrayList) hisR ?_
  intro p e s m args below meth c s₁ Bd hml0 hP hK
  obtain ⟨rfl, hZ, hh⟩ := hP
  have hx := Bd.exec
  have hby := Bd.bytes
  have hml : c.maxLocals = 1 := hml0
  have hown : s.vm.findClass "java/util/ArrayList" = some m.cls := findClass_of_methodNamed Bd.named
  have hnm := (name_of_methodNamed Bd.named Bd.method).1
  have X0 : Stand p l e ({ frames := 3, cells := 0, slots := 0, locals := 36 } : Room) s m #[(.ref a)] below meth c s₁ [] 0 0 := Stand.of_body Bd
  have e0 : s₁.heap = h0 := by rw [← hh, Bd.state]; rfl
  have N0 := Fr.nil n0
  show Gl p e below s (Qali Z a wD h0 n0) ({ frames := 3, cells := 0, slots := 0, locals := 36 } : Room).cells ({ frames := 3, cells := 0, slots := 0, locals := 36 } : Room).slots (s₁.setTop (entryFrame m #[(.ref a)] 1))
  refine Gl.back (fun _ k => castTop (ef_ali m a) k) ?_
  show Gl _ _ _ _ _ _ _ (s₁.setTop (mkF m 0 #[.val (.ref a)] []))
  refine Gl.back (fun _ k => XS.aloadN X0.here hx rfl (hb hby d5_0) rfl rfl k) ?_
  show Gl _ _ _ _ _ _ _ (s₁.setTop (mkF m 1 #[.val (.ref a)] [(.ref a)]))
  obtain ⟨_, _, ⟨T9, L9, k9, n9⟩, -, X9, ⟨Lc9, hQ9, l9, y9, z9⟩, st9⟩ := X0.specialBack hx (y := (⟨"java/util/AbstractList", "<init>", "()V"⟩ : MethodName)) rfl hown (mvT hZ (hw _ (List.mem_of_getElem? (i := 29) rfl))) (mvT hZ (hw _ (List.mem_of_getElem? (i := 30) rfl))) (mvT hZ (hw _ (List.mem_of_getElem? (i := 34) rfl))) (by decide) (backOf (W := 0) (rmabl l Z a0 hw [] a  h0 n0 Z0 g_a E_a F_a_modCount F_a_elementData F_a_size) hZ (hw _ (List.mem_of_getElem? (i := 34) rfl)) (hw _ (List.mem_of_getElem? (i := 33) rfl)) (by decide) (by decide)) (g := (mkF m 1 #[.val (.ref a)] [(.ref a)])) rfl (by rw [hml]; rfl) (Steps.refl _) (a := a) (argsL := []) (rest := []) (lenOf pd___V rfl) rfl (by show 2 * 0 + _ ≤ _; exact Nat.le_of_eq rfl) (hb hby d5_1) (fun _ _ => ⟨rfl, e0, (by decide : 0 + 0 ≤ _), (by decide : 0 + 0 ≤ _)⟩)
  dsimp only [Pt.U, Pt.locs, Pt.cells, Pt.slots] at X9 l9 y9 z9 st9 hQ9
  subst l9 y9 z9
  obtain ⟨Nq9, rfl, Kq9, Fm9, Fe9, Fs9⟩ := hQ9
  have N9 := Fr.app N0 Nq9
  have Kc9 := Keep.trans (Keep.refl h0 [a]) Kq9 (allS (Or.inl (List.mem_of_getElem? (i := 0) rfl)) all0)
  have Zc9 : n0 ≤ T9.heap.size := Nat.le_trans Z0 Kq9.1
  have Oc9 := Old.keep O0 Kq9 (allS g_a all0)
  refine Gl.back (fun _ k => st9.trans k) ?_
  show Gl _ _ _ _ _ _ _ (T9.setTop (mkF m 4 #[.val (.ref a)] []))
  refine Gl.back (fun _ k => XS.aloadN X9.here hx rfl (hb hby d5_4) rfl rfl k) ?_
  show Gl _ _ _ _ _ _ _ (T9.setTop (mkF m 5 #[.val (.ref a)] [(.ref a)]))
  obtain ⟨T10, X10, e10, st10⟩ := getS2 X9 hx hZ hown (host := "") (Or.inl (hw _ (List.mem_of_getElem? (i := 44) rfl))) Via.refl rfl (S_DEFAULTCAPACITY_EMPTY_ELEMENTDATA.ext Oc9.2) (g := (mkF m 5 #[.val (.ref a)] [(.ref a)])) rfl (hb hby d5_5)
  refine Gl.back (fun _ k => st10 _ k) ?_
  show Gl _ _ _ _ _ _ _ (T10.setTop (mkF m 8 #[.val (.ref a)] [(.ref wD), (.ref a)]))
  have f11 := (E_a.keep Kq9)
  obtain ⟨T12, h12, X12, e12, W12, st12⟩ := putF X10 hx hZ hown (host := "") (Or.inl (hw _ (List.mem_of_getElem? (i := 45) rfl))) Via.refl e10 Fe9 f11 (Or.inl (hw _ (List.mem_of_getElem? (i := 46) rfl))) (hw _ (List.mem_of_getElem? (i := 24) rfl)) (ty := (.array (.object "java/lang/Object"))) (by decide) rfl rfl (g := (mkF m 8 #[.val (.ref a)] [(.ref wD), (.ref a)])) rfl rfl (hb hby d5_8)
  have Fw12 := Fe9.same W12
  have K12 := Keep.wr Kc9 W12 (Or.inl (List.mem_of_getElem? (i := 0) rfl))
  have O12 := Old.wr Oc9 W12 g_a
  have Z12 : n0 ≤ h12.size := Nat.le_trans Zc9 (Keep.of_wr W12).1
  have N12 := Fr.snoc X12 N9 g_a
  refine Gl.back (fun _ k => st12 _ k) ?_
  show Gl _ _ _ _ _ _ _ (T12.setTop (mkF m 11 #[.val (.ref a)] []))
  have f13 := (Fm9.other W12 (Or.inr (slot_ne (Or.inl (hw _ (List.mem_of_getElem? (i := 43) rfl))) (Or.inl (hw _ (List.mem_of_getElem? (i := 46) rfl))) (by decide) (t := .int) (t' := (.array (.object "java/lang/Object"))) (by decide) (by decide))))
  have f14 := (Fs9.other W12 (Or.inr (slot_ne (Or.inl (hw _ (List.mem_of_getElem? (i := 160) rfl))) (Or.inl (hw _ (List.mem_of_getElem? (i := 46) rfl))) (by decide) (t := .int) (t' := (.array (.object "java/lang/Object"))) (by decide) (by decide))))
  exact Gl.ret X12 e12 (v := none) (fun _ => rfl) Bd.notSynchronized (fun fs hr => X12.returnOut hx Bd.returns (hb hby d5_11) hr) ⟨N12, rfl, K12, f13, Fw12, f14⟩ (by decide) (by decide)
theorem d4_0 : decode prog_50_method_1_code 0 = .ok (.aload_n 0, 1) := by decide +kernel
theorem d4_1 : decode prog_50_method_1_code 1 = .ok (.invokespecial 1, 3) := by decide +kernel
theorem d4_4 : decode prog_50_method_1_code 4 = .ok (.aload_n 0, 1) := by decide +kernel
theorem d4_5 : decode prog_50_method_1_code 5 = .ok (.new 7, 3) := by decide +kernel
theorem d4_8 : decode prog_50_method_1_code 8 = .ok (.dup, 1) := by decide +kernel
theorem d4_9 : decode prog_50_method_1_code 9 = .ok (.invokespecial 9, 3) := by decide +kernel
theorem d4_12 : decode prog_50_method_1_code 12 = .ok (.putfield 10, 3) := by decide +kernel
theorem d4_15 : decode prog_50_method_1_code 15 = .ok (.aload_n 0, 1) := by decide +kernel
theorem d4_16 : decode prog_50_method_1_code 16 = .ok (.aload_n 1, 1) := by decide +kernel
theorem d4_17 : decode prog_50_method_1_code 17 = .ok (.putfield 16, 3) := by decide +kernel
theorem d4_20 : decode prog_50_method_1_code 20 = .ok (.return_, 1) := by decide +kernel
theorem pn_com_example_gavelwatch_gavelwatch_sim_RunningAuction : plainName "com/example/gavelwatch/gavelwatch/sim/RunningAuction" = true := by first | (simp [plainName, overriddenIn]; done) | decide +kernel
theorem ef_rai (m : MethodId) (x0 : Addr) (x1 : Addr) : entryFrame m #[(.ref x0), (.ref x1)] 2 = mkF m 0 #[.val (.ref x0), .val (.ref x1)] [] := by first | (simp [entryFrame, mkF, argsToLocals, Value.category]; done) | rfl
def Qrai (Z : State) (a : Addr) (m1 : Addr) (wD : Addr) (h0 : Heap) (n0 : Nat) (v : Option Value) (h : Heap) (L : List Loc) : Prop := Fr n0 L ∧ (v = none ∧ Keep h0 h [a] ∧ ∃ l : Addr, h0.size ≤ l ∧ n0 ≤ l ∧ Exa Z h l "java/util/ArrayList" ∧ Fld Z h a "com/example/gavelwatch/gavelwatch/sim/RunningAuction" "bids" "Ljava/util/List;" (.ref l) ∧ Fld Z h a "com/example/gavelwatch/gavelwatch/sim/RunningAuction" "openingBid" "Lcom/example/gavelwatch/gavelwatch/model/Money;" (.ref m1) ∧ Fld Z h a "com/example/gavelwatch/gavelwatch/sim/RunningAuction" "highest" "Lcom/example/gavelwatch/gavelwatch/model/Bid;" .null ∧ Fld Z h l "java/util/AbstractList" "modCount" "I" (.int (0 : Int32)) ∧ Fld Z h l "java/util/ArrayList" "elementData" "[Ljava/lang/Object;" (.ref wD) ∧ Fld Z h l "java/util/ArrayList" "size" "I" (.int (0 : Int32)))
set_option maxRecDepth 65536 in
set_option maxHeartbeats 40000000 in
theorem rmrai (l : Launch) (Z : State) (a0 : Array Value) (hw : ∀ d ∈ tables_1, d.before a0 Z = true) (ws : List Jvm.Cond) (a : Addr) (m1 : Addr) (wD : Addr) (h0 : Heap) (n0 : Nat) (Z0 : n0 ≤ h0.size) (O0 : Old Z n0 h0) (g_a : n0 ≤ a) (E_a : Exa Z h0 a "com/example/gavelwatch/gavelwatch/sim/RunningAuction") (F_a_bids : Fld Z h0 a "com/example/gavelwatch/gavelwatch/sim/RunningAuction" "bids" "Ljava/util/List;" .null) (F_a_openingBid : Fld Z h0 a "com/example/gavelwatch/gavelwatch/sim/RunningAuction" "openingBid" "Lcom/example/gavelwatch/gavelwatch/model/Money;" .null) (F_a_highest : Fld Z h0 a "com/example/gavelwatch/gavelwatch/sim/RunningAuction" "highest" "Lcom/example/gavelwatch/gavelwatch/model/Bid;" .null) (S_DEFAULTCAPACITY_EMPTY_ELEMENTDATA : Sta Z Z.heap "java/util/ArrayList" "DEFAULTCAPACITY_EMPTY_ELEMENTDATA" "[Ljava/lang/Object;" (.ref wD)) :
    MetFree l (⟨"com/example/gavelwatch/gavelwatch/sim/RunningAuction", "<init>", "(Lcom/example/gavelwatch/gavelwatch/model/Money;)V"⟩ : MethodName) (head1 (Jvm.Cond.code (⟨"com/example/gavelwatch/gavelwatch/sim/RunningAuction", "<init>", "(Lcom/example/gavelwatch/gavelwatch/model/Money;)V"⟩ : MethodName) prog_50_method_1_code 2 none :: ws) ({ frames := 4, cells := 1, slots := 3, locals := 50 } : Room)) (fun as0 U => as0 = #[(.ref a), (.ref m1)] ∧ Z.Warmed39 U.vm ∧ U.heap = h0) (fun _ _ _ _ _ => True) (fun _ U oc0 U' => ∃ v L, oc0 = .returned v ∧ Qrai Z a m1 wD h0 n0 v U'.heap L ∧ FrameEnd U oc0 U' L ({ frames := 4, cells := 1, slots := 3, locals := 50 } : Room).cells ({ frames := 4, cells := 1, slots := 3, locals := 50 } : Room).slots) := by
  refine MetFree.of_bodySF (plainFor_of_name pn_com_example_gavelwatch_gavelwatch_sim_RunningAuction) hisR ?_
  intro p e s m args below meth c s₁ Bd hml0 hP hK
  obtain ⟨rfl, hZ, hh⟩ := hP
  have hx := Bd.exec
  have hby := Bd.bytes
  have hml : c.maxLocals = 2 := hml0
  have hown : s.vm.findClass "com/example/gavelwatch/gavelwatch/sim/RunningAuction" = some m.cls := findClass_of_methodNamed Bd.named
  have hnm := (name_of_methodNamed Bd.named Bd.method).1
  have X0 : Stand p l e ({ frames := 4, cells := 1, slots := 3, locals := 50 } : Room) s m #[(.ref a), (.ref m1)] below meth c s₁ [] 0 0 := Stand.of_body Bd
  have e0 : s₁.heap = h0 := by rw [← hh, Bd.state]; rfl
  have N0 := Fr.nil n0
  show Gl p e below s (Qrai Z a m1 wD h0 n0) ({ frames := 4, cells := 1, slots := 3, locals := 50 } : Room).cells ({ frames := 4, cells := 1, slots := 3, locals := 50 } : Room).slots (s₁.setTop (entryFrame m #[(.ref a), (.ref m1)] 2))
  refine Gl.back (fun _ k => castTop (ef_rai m a m1) k) ?_
  show Gl _ _ _ _ _ _ _ (s₁.setTop (mkF m 0 #[.val (.ref a), .val (.ref m1)] []))
  refine Gl.back (fun _ k => XS.aloadN X0.here hx rfl (hb hby d4_0) rfl rfl k) ?_
  show Gl _ _ _ _ _ _ _ (s₁.setTop (mkF m 1 #[.val (.ref a), .val (.ref m1)] [(.ref a)]))
  obtain ⟨T15, X15, e15, st15⟩ := initO X0 hx hZ hown (hw _ (List.mem_of_getElem? (i := 22) rfl)) (hw _ (List.mem_of_getElem? (i := 15) rfl)) (hw _ (List.mem_of_getElem? (i := 16) rfl)) e0 (g := (mkF m 1 #[.val (.ref a), .val (.ref m1)] [(.ref a)])) rfl (by rw [hml]; rfl) rfl (hb hby d4_1) (by decide) (W := 0) (by show 2 * 0 + _ ≤ _; exact Nat.le_of_eq rfl) (by decide)
  refine Gl.back (fun _ k => st15 _ k) ?_
  show Gl _ _ _ _ _ _ _ (T15.setTop (mkF m 4 #[.val (.ref a), .val (.ref m1)] []))
  refine Gl.back (fun _ k => XS.aloadN X15.here hx rfl (hb hby d4_4) rfl rfl k) ?_
  show Gl _ _ _ _ _ _ _ (T15.setTop (mkF m 5 #[.val (.ref a), .val (.ref m1)] [(.ref a)]))
  obtain ⟨T16, h16, X16, e16, E16, A16, D16, -, st16⟩ := newO X15 hx hZ hown (hw _ (List.mem_of_getElem? (i := 23) rfl)) (hw _ (List.mem_of_getElem? (i := 24) rfl)) (hw _ (List.mem_of_getElem? (i := 25) rfl)) e15 (g := (mkF m 5 #[.val (.ref a), .val (.ref m1)] [(.ref a)])) rfl (hb hby d4_5) (by decide) (by decide)
  obtain ⟨b16, g16⟩ : ∃ z, z = h0.size := ⟨_, rfl⟩
  rw [← g16] at A16 D16 st16
  have ne_a_b16 : a ≠ b16 := Nat.ne_of_lt (Nat.lt_of_lt_of_le E_a.lt (Nat.le_of_eq g16.symm))
  have g_b16 : n0 ≤ b16 := Nat.le_trans Z0 (Nat.le_of_eq g16.symm)
  have sz_b16 : h0.size ≤ b16 := Nat.le_trans (Keep.refl h0 [a]).1 (Nat.le_of_eq g16.symm)
  have Z16 : n0 ≤ h16.size := Nat.le_trans Z0 E16.1
  have K16 := Keep.ext (Keep.refl h0 [a]) E16
  have O16 := Old.ext O0 E16
  have F16_modCount : Fld Z h16 b16 "java/util/AbstractList" "modCount" "I" (.int (0 : Int32)) := D16 (Or.inl (hw _ (List.mem_of_getElem? (i := 43) rfl))) (ty := .int) (by decide)
  have F16_elementData : Fld Z h16 b16 "java/util/ArrayList" "elementData" "[Ljava/lang/Object;" .null := D16 (Or.inl (hw _ (List.mem_of_getElem? (i := 46) rfl))) (ty := (.array (.object "java/lang/Object"))) (by decide)
  have F16_size : Fld Z h16 b16 "java/util/ArrayList" "size" "I" (.int (0 : Int32)) := D16 (Or.inl (hw _ (List.mem_of_getElem? (i := 160) rfl))) (ty := .int) (by decide)
  refine Gl.back (fun _ k => st16 _ k) ?_
  show Gl _ _ _ _ _ _ _ (T16.setTop (mkF m 8 #[.val (.ref a), .val (.ref m1)] [(.ref b16), (.ref a)]))
  refine Gl.back (fun _ k => XS.dup X16.here hx rfl (hb hby d4_8) rfl rfl k) ?_
  show Gl _ _ _ _ _ _ _ (T16.setTop (mkF m 9 #[.val (.ref a), .val (.ref m1)] [(.ref b16), (.ref b16), (.ref a)]))
  obtain ⟨_, _, ⟨T17, L17, k17, n17⟩, -, X17, ⟨Lc17, hQ17, l17, y17, z17⟩, st17⟩ := X16.specialBack hx (y := (⟨"java/util/ArrayList", "<init>", "()V"⟩ : MethodName)) rfl hown (mvT hZ (hw _ (List.mem_of_getElem? (i := 26) rfl))) (mvT hZ (hw _ (List.mem_of_getElem? (i := 27) rfl))) (mvT hZ (hw _ (List.mem_of_getElem? (i := 28) rfl))) (by decide) (backOf (W := 2) (rmali l Z a0 hw [] b16 wD h16 n0 Z16 O16 g_b16 A16 F16_modCount F16_elementData F16_size S_DEFAULTCAPACITY_EMPTY_ELEMENTDATA) hZ (hw _ (List.mem_of_getElem? (i := 28) rfl)) (hw _ (List.mem_of_getElem? (i := 25) rfl)) (by decide) (by decide)) (g := (mkF m 9 #[.val (.ref a), .val (.ref m1)] [(.ref b16), (.ref b16), (.ref a)])) rfl (by rw [hml]; rfl) (Steps.refl _) (a := b16) (argsL := []) (rest := [(.ref b16), (.ref a)]) (lenOf pd___V rfl) rfl (by show 2 * 0 + _ ≤ _; exact Nat.le_of_eq rfl) (hb hby d4_9) (fun _ _ => ⟨rfl, e16, (by decide : 1 + 0 ≤ _), (by decide : 3 + 0 ≤ _)⟩)
  dsimp only [Pt.U, Pt.locs, Pt.cells, Pt.slots] at X17 l17 y17 z17 st17 hQ17
  subst l17 y17 z17
  obtain ⟨Nq17, rfl, Kq17, Fm17, Fe17, Fs17⟩ := hQ17
  have N17 := Fr.app N0 Nq17
  have Kc17 := Keep.trans K16 Kq17 (allS (Or.inr sz_b16) all0)
  have Zc17 : n0 ≤ T17.heap.size := Nat.le_trans Z16 Kq17.1
  have Oc17 := Old.keep O16 Kq17 (allS g_b16 all0)
  refine Gl.back (fun _ k => st17.trans k) ?_
  show Gl _ _ _ _ _ _ _ (T17.setTop (mkF m 12 #[.val (.ref a), .val (.ref m1)] [(.ref b16), (.ref a)]))
  have f18 := ((E_a.ext E16).keep Kq17)
  have f19 := ((F_a_bids.ext E16).keep Kq17 (ninS ne_a_b16 nin0))
  obtain ⟨T20, h20, X20, e20, W20, st20⟩ := putF X17 hx hZ hown (host := "") (Or.inl (hw _ (List.mem_of_getElem? (i := 47) rfl))) Via.refl rfl f19 f18 (Or.inr ⟨(hw _ (List.mem_of_getElem? (i := 48) rfl)), rfl, hnm⟩) (hw _ (List.mem_of_getElem? (i := 1) rfl)) (ty := (.object "java/util/List")) (by decide) rfl rfl (g := (mkF m 12 #[.val (.ref a), .val (.ref m1)] [(.ref b16), (.ref a)])) rfl rfl (hb hby d4_12)
  have Fw20 := f19.same W20
  have K20 := Keep.wr Kc17 W20 (Or.inl (List.mem_of_getElem? (i := 0) rfl))
  have O20 := Old.wr Oc17 W20 g_a
  have Z20 : n0 ≤ h20.size := Nat.le_trans Zc17 (Keep.of_wr W20).1
  have N20 := Fr.snoc X20 N17 g_a
  refine Gl.back (fun _ k => st20 _ k) ?_
  show Gl _ _ _ _ _ _ _ (T20.setTop (mkF m 15 #[.val (.ref a), .val (.ref m1)] []))
  refine Gl.back (fun _ k => XS.aloadN X20.here hx rfl (hb hby d4_15) rfl rfl k) ?_
  show Gl _ _ _ _ _ _ _ (T20.setTop (mkF m 16 #[.val (.ref a), .val (.ref m1)] [(.ref a)]))
  refine Gl.back (fun _ k => XS.aloadN X20.here hx rfl (hb hby d4_16) rfl rfl k) ?_
  show Gl _ _ _ _ _ _ _ (T20.setTop (mkF m 17 #[.val (.ref a), .val (.ref m1)] [(.ref m1), (.ref a)]))
  have f21 := (f18.wr W20)
  have f22 := (((F_a_openingBid.ext E16).keep Kq17 (ninS ne_a_b16 nin0)).other W20 (Or.inr (slot_ne (Or.inr (hw _ (List.mem_of_getElem? (i := 50) rfl))) (Or.inr (hw _ (List.mem_of_getElem? (i := 48) rfl))) (by decide) (t := (.object "com/example/gavelwatch/gavelwatch/model/Money")) (t' := (.object "java/util/List")) (by decide) (by decide))))
  obtain ⟨T23, h23, X23, e23, W23, st23⟩ := putF X20 hx hZ hown (host := "") (Or.inl (hw _ (List.mem_of_getElem? (i := 49) rfl))) Via.refl e20 f22 f21 (Or.inr ⟨(hw _ (List.mem_of_getElem? (i := 50) rfl)), rfl, hnm⟩) (hw _ (List.mem_of_getElem? (i := 1) rfl)) (ty := (.object "com/example/gavelwatch/gavelwatch/model/Money")) (by decide) rfl rfl (g := (mkF m 17 #[.val (.ref a), .val (.ref m1)] [(.ref m1), (.ref a)])) rfl rfl (hb hby d4_17)
  have Fw23 := f22.same W23
  have K23 := Keep.wr K20 W23 (Or.inl (List.mem_of_getElem? (i := 0) rfl))
  have O23 := Old.wr O20 W23 g_a
  have Z23 : n0 ≤ h23.size := Nat.le_trans Z20 (Keep.of_wr W23).1
  have N23 := Fr.snoc X23 N20 g_a
  refine Gl.back (fun _ k => st23 _ k) ?_
  show Gl _ _ _ _ _ _ _ (T23.setTop (mkF m 20 #[.val (.ref a), .val (.ref m1)] []))
  have f24 := (((A16.keep Kq17).wr W20).wr W23)
  have f25 := (Fw20.other W23 (Or.inr (slot_ne (Or.inr (hw _ (List.mem_of_getElem? (i := 48) rfl))) (Or.inr (hw _ (List.mem_of_getElem? (i := 50) rfl))) (by decide) (t := (.object "java/util/List")) (t' := (.object "com/example/gavelwatch/gavelwatch/model/Money")) (by decide) (by decide))))
  have f26 := ((((F_a_highest.ext E16).keep Kq17 (ninS ne_a_b16 nin0)).other W20 (Or.inr (slot_ne (Or.inl (hw _ (List.mem_of_getElem? (i := 57) rfl))) (Or.inr (hw _ (List.mem_of_getElem? (i := 48) rfl))) (by decide) (t := (.object "com/example/gavelwatch/gavelwatch/model/Bid")) (t' := (.object "java/util/List")) (by decide) (by decide)))).other W23 (Or.inr (slot_ne (Or.inl (hw _ (List.mem_of_getElem? (i := 57) rfl))) (Or.inr (hw _ (List.mem_of_getElem? (i := 50) rfl))) (by decide) (t := (.object "com/example/gavelwatch/gavelwatch/model/Bid")) (t' := (.object "com/example/gavelwatch/gavelwatch/model/Money")) (by decide) (by decide))))
  have f27 := ((Fm17.other W20 (Or.inl (Ne.symm ne_a_b16))).other W23 (Or.inl (Ne.symm ne_a_b16)))
  have f28 := ((Fe17.other W20 (Or.inl (Ne.symm ne_a_b16))).other W23 (Or.inl (Ne.symm ne_a_b16)))
  have f29 := ((Fs17.other W20 (Or.inl (Ne.symm ne_a_b16))).other W23 (Or.inl (Ne.symm ne_a_b16)))
  exact Gl.ret X23 e23 (v := none) (fun _ => rfl) Bd.notSynchronized (fun fs hr => X23.returnOut hx Bd.returns (hb hby d4_20) hr) ⟨N23, rfl, K23, b16, sz_b16, g_b16, f24, f25, Fw23, f26, f27, f28, f29⟩ (by decide) (by decide)
theorem d8_0 : decode prog_50_method_2_code 0 = .ok (.aload_n 0, 1) := by decide +kernel
theorem d8_1 : decode prog_50_method_2_code 1 = .ok (.getfield 20, 3) := by decide +kernel
theorem d8_4 : decode prog_50_method_2_code 4 = .ok (.ifnull 7, 3) := by decide +kernel
theorem d8_11 : decode prog_50_method_2_code 11 = .ok (.iconst 0, 1) := by decide +kernel
theorem d8_12 : decode prog_50_method_2_code 12 = .ok (.ireturn, 1) := by decide +kernel
theorem ef_has0 (m : MethodId) (x0 : Addr) : entryFrame m #[(.ref x0)] 1 = mkF m 0 #[.val (.ref x0)] [] := by first | (simp [entryFrame, mkF, argsToLocals, Value.category]; done) | rfl
def Qhas0 (Z : State) (a : Addr) (h0 : Heap) (n0 : Nat) (v : Option Value) (h : Heap) (L : List Loc) : Prop := Fr n0 L ∧ (v = some (.int 0) ∧ h = h0)
set_option maxRecDepth 65536 in
set_option maxHeartbeats 40000000 in
theorem rmhas0 (l : Launch) (Z : State) (a0 : Array Value) (hw : ∀ d ∈ tables_1, d.before a0 Z = true) (ws : List Jvm.Cond) (a : Addr) (h0 : Heap) (n0 : Nat) (Z0 : n0 ≤ h0.size) (F_a_highest : Fld Z h0 a "com/example/gavelwatch/gavelwatch/sim/RunningAuction" "highest" "Lcom/example/gavelwatch/gavelwatch/model/Bid;" .null) :
    MetFree l (⟨"com/example/gavelwatch/gavelwatch/sim/RunningAuction", "hasBids", "()Z"⟩ : MethodName) (head1 (Jvm.Cond.code (⟨"com/example/gavelwatch/gavelwatch/sim/RunningAuction", "hasBids", "()Z"⟩ : MethodName) prog_50_method_2_code 1 (some .boolean) :: ws) ({ frames := 0, cells := 0, slots := 0, locals := 0 } : Room)) (fun as0 U => as0 = #[(.ref a)] ∧ Z.Warmed39 U.vm ∧ U.heap = h0) (fun _ _ _ _ _ => True) (fun _ U oc0 U' => ∃ v L, oc0 = .returned v ∧ Qhas0 Z a h0 n0 v U'.heap L ∧ FrameEnd U oc0 U' L ({ frames := 0, cells := 0, slots := 0, locals := 0 } : Room).cells ({ frames := 0, cells := 0, slots := 0, locals := 0 } : Room).slots) := by
  refine MetFree.of_bodySF (plainFor_of_name pn_com_example_gavelwatch_gavelwatch_sim_RunningAuction) hisR ?_
  intro p e s m args below meth c s₁ Bd hml0 hP hK
  obtain ⟨rfl, hZ, hh⟩ := hP
  have hx := Bd.exec
  have hby := Bd.bytes
  have hml : c.maxLocals = 1 := hml0
  have hown : s.vm.findClass "com/example/gavelwatch/gavelwatch/sim/RunningAuction" = some m.cls := findClass_of_methodNamed Bd.named
  have hnm := (name_of_methodNamed Bd.named Bd.method).1
  have X0 : Stand p l e ({ frames := 0, cells := 0, slots := 0, locals := 0 } : Room) s m #[(.ref a)] below meth c s₁ [] 0 0 := Stand.of_body Bd
  have e0 : s₁.heap = h0 := by rw [← hh, Bd.state]; rfl
  have N0 := Fr.nil n0
  show Gl p e below s (Qhas0 Z a h0 n0) ({ frames := 0, cells := 0, slots := 0, locals := 0 } : Room).cells ({ frames := 0, cells := 0, slots := 0, locals := 0 } : Room).slots (s₁.setTop (entryFrame m #[(.ref a)] 1))
  refine Gl.back (fun _ k => castTop (ef_has0 m a) k) ?_
  show Gl _ _ _ _ _ _ _ (s₁.setTop (mkF m 0 #[.val (.ref a)] []))
  refine Gl.back (fun _ k => XS.aloadN X0.here hx rfl (hb hby d8_0) rfl rfl k) ?_
  show Gl _ _ _ _ _ _ _ (s₁.setTop (mkF m 1 #[.val (.ref a)] [(.ref a)]))
  obtain ⟨T30, X30, e30, st30⟩ := getF X0 hx hZ hown (host := "") (Or.inl (hw _ (List.mem_of_getElem? (i := 56) rfl))) Via.refl e0 F_a_highest (g := (mkF m 1 #[.val (.ref a)] [(.ref a)])) rfl rfl (hb hby d8_1)
  refine Gl.back (fun _ k => st30 _ k) ?_
  show Gl _ _ _ _ _ _ _ (T30.setTop (mkF m 4 #[.val (.ref a)] [.null]))
  refine Gl.back (fun _ k => XS.ifnullYes X30.here hx rfl (pc0 := 4) (pc' := 11) rfl (hb hby d8_4) rfl (by decide) (by decide) k) ?_
  show Gl _ _ _ _ _ _ _ (T30.setTop (mkF m 11 #[.val (.ref a)] []))
  refine Gl.back (fun _ k => XS.iconst X30.here hx rfl (hb hby d8_11) k) ?_
  show Gl _ _ _ _ _ _ _ (T30.setTop (mkF m 12 #[.val (.ref a)] [(.int (0 : Int32))]))
  exact Gl.ret X30 e30 (v := (some (.int (0 : Int32)))) (fun h => by rw [Bd.returns] at h; cases h) Bd.notSynchronized (fun fs hr => retN X30 hx (t := .boolean) (z := (0 : Int32)) Bd.returns (by simp) (hb hby d8_12) hr) ⟨N0, rfl, rfl⟩ (by decide) (by decide)
theorem d8_7 : decode prog_50_method_2_code 7 = .ok (.iconst 1, 1) := by decide +kernel
theorem d8_8 : decode prog_50_method_2_code 8 = .ok (.goto 4, 3) := by decide +kernel
theorem ef_has1 (m : MethodId) (x0 : Addr) : entryFrame m #[(.ref x0)] 1 = mkF m 0 #[.val (.ref x0)] [] := by first | (simp [entryFrame, mkF, argsToLocals, Value.category]; done) | rfl
def Qhas1 (Z : State) (a : Addr) (b : Addr) (h0 : Heap) (n0 : Nat) (v : Option Value) (h : Heap) (L : List Loc) : Prop := Fr n0 L ∧ (v = some (.int 1) ∧ h = h0)
set_option maxRecDepth 65536 in
set_option maxHeartbeats 40000000 in
theorem rmhas1 (l : Launch) (Z : State) (a0 : Array Value) (hw : ∀ d ∈ tables_1, d.before a0 Z = true) (ws : List Jvm.Cond) (a : Addr) (b : Addr) (h0 : Heap) (n0 : Nat) (Z0 : n0 ≤ h0.size) (F_a_highest : Fld Z h0 a "com/example/gavelwatch/gavelwatch/sim/RunningAuction" "highest" "Lcom/example/gavelwatch/gavelwatch/model/Bid;" (.ref b)) :
    MetFree l (⟨"com/example/gavelwatch/gavelwatch/sim/RunningAuction", "hasBids", "()Z"⟩ : MethodName) (head1 (Jvm.Cond.code (⟨"com/example/gavelwatch/gavelwatch/sim/RunningAuction", "hasBids", "()Z"⟩ : MethodName) prog_50_method_2_code 1 (some .boolean) :: ws) ({ frames := 0, cells := 0, slots := 0, locals := 0 } : Room)) (fun as0 U => as0 = #[(.ref a)] ∧ Z.Warmed39 U.vm ∧ U.heap = h0) (fun _ _ _ _ _ => True) (fun _ U oc0 U' => ∃ v L, oc0 = .returned v ∧ Qhas1 Z a b h0 n0 v U'.heap L ∧ FrameEnd U oc0 U' L ({ frames := 0, cells := 0, slots := 0, locals := 0 } : Room).cells ({ frames := 0, cells := 0, slots := 0, locals := 0 } : Room).slots) := by
  refine MetFree.of_bodySF (plainFor_of_name pn_com_example_gavelwatch_gavelwatch_sim_RunningAuction) hisR ?_
  intro p e s m args below meth c s₁ Bd hml0 hP hK
  obtain ⟨rfl, hZ, hh⟩ := hP
  have hx := Bd.exec
  have hby := Bd.bytes
  have hml : c.maxLocals = 1 := hml0
  have hown : s.vm.findClass "com/example/gavelwatch/gavelwatch/sim/RunningAuction" = some m.cls := findClass_of_methodNamed Bd.named
  have hnm := (name_of_methodNamed Bd.named Bd.method).1
  have X0 : Stand p l e ({ frames := 0, cells := 0, slots := 0, locals := 0 } : Room) s m #[(.ref a)] below meth c s₁ [] 0 0 := Stand.of_body Bd
  have e0 : s₁.heap = h0 := by rw [← hh, Bd.state]; rfl
  have N0 := Fr.nil n0
  show Gl p e below s (Qhas1 Z a b h0 n0) ({ frames := 0, cells := 0, slots := 0, locals := 0 } : Room).cells ({ frames := 0, cells := 0, slots := 0, locals := 0 } : Room).slots (s₁.setTop (entryFrame m #[(.ref a)] 1))
  refine Gl.back (fun _ k => castTop (ef_has1 m a) k) ?_
  show Gl _ _ _ _ _ _ _ (s₁.setTop (mkF m 0 #[.val (.ref a)] []))
  refine Gl.back (fun _ k => XS.aloadN X0.here hx rfl (hb hby d8_0) rfl rfl k) ?_
  show Gl _ _ _ _ _ _ _ (s₁.setTop (mkF m 1 #[.val (.ref a)] [(.ref a)]))
  obtain ⟨T31, X31, e31, st31⟩ := getF X0 hx hZ hown (host := "") (Or.inl (hw _ (List.mem_of_getElem? (i := 56) rfl))) Via.refl e0 F_a_highest (g := (mkF m 1 #[.val (.ref a)] [(.ref a)])) rfl rfl (hb hby d8_1)
  refine Gl.back (fun _ k => st31 _ k) ?_
  show Gl _ _ _ _ _ _ _ (T31.setTop (mkF m 4 #[.val (.ref a)] [(.ref b)]))
  refine Gl.back (fun _ k => XS.ifnullNo X31.here hx rfl (hb hby d8_4) rfl k) ?_
  show Gl _ _ _ _ _ _ _ (T31.setTop (mkF m 7 #[.val (.ref a)] []))
  refine Gl.back (fun _ k => XS.iconst X31.here hx rfl (hb hby d8_7) k) ?_
  show Gl _ _ _ _ _ _ _ (T31.setTop (mkF m 8 #[.val (.ref a)] [(.int (1 : Int32))]))
  refine Gl.back (fun _ k => XS.goto X31.here hx rfl (pc0 := 8) (pc' := 12) rfl (hb hby d8_8) (by decide) (by decide) k) ?_
  show Gl _ _ _ _ _ _ _ (T31.setTop (mkF m 12 #[.val (.ref a)] [(.int (1 : Int32))]))
  exact Gl.ret X31 e31 (v := (some (.int (1 : Int32)))) (fun h => by rw [Bd.returns] at h; cases h) Bd.notSynchronized (fun fs hr => retN X31 hx (t := .boolean) (z := (1 : Int32)) Bd.returns (by simp) (hb hby d8_12) hr) ⟨N0, rfl, rfl⟩ (by decide) (by decide)
theorem d28_0 : decode prog_28_method_6_code 0 = .ok (.aload_n 0, 1) := by decide +kernel
theorem d28_1 : decode prog_28_method_6_code 1 = .ok (.getfield 22, 3) := by decide +kernel
theorem d28_4 : decode prog_28_method_6_code 4 = .ok (.areturn, 1) := by decide +kernel
theorem pn_com_example_gavelwatch_gavelwatch_model_Bid : plainName "com/example/gavelwatch/gavelwatch/model/Bid" = true := by first | (simp [plainName, overriddenIn]; done) | decide +kernel
theorem ef_amount (m : MethodId) (x0 : Addr) : entryFrame m #[(.ref x0)] 1 = mkF m 0 #[.val (.ref x0)] [] := by first | (simp [entryFrame, mkF, argsToLocals, Value.category]; done) | rfl
def Qamount (Z : State) (a : Addr) (o : Addr) (h0 : Heap) (n0 : Nat) (v : Option Value) (h : Heap) (L : List Loc) : Prop := Fr n0 L ∧ (v = some (.ref o) ∧ h = h0)
set_option maxRecDepth 65536 in
set_option maxHeartbeats 40000000 in
theorem rmamount (l : Launch) (Z : State) (a0 : Array Value) (hw : ∀ d ∈ tables_1, d.before a0 Z = true) (ws : List Jvm.Cond) (a : Addr) (o : Addr) (h0 : Heap) (n0 : Nat) (Z0 : n0 ≤ h0.size) (F_a_amount : Fld Z h0 a "com/example/gavelwatch/gavelwatch/model/Bid" "amount" "Lcom/example/gavelwatch/gavelwatch/model/Money;" (.ref o)) :
    MetFree l (⟨"com/example/gavelwatch/gavelwatch/model/Bid", "amount", "()Lcom/example/gavelwatch/gavelwatch/model/Money;"⟩ : MethodName) (head1 (Jvm.Cond.code (⟨"com/example/gavelwatch/gavelwatch/model/Bid", "amount", "()Lcom/example/gavelwatch/gavelwatch/model/Money;"⟩ : MethodName) prog_28_method_6_code 1 (some (.object "com/example/gavelwatch/gavelwatch/model/Money")) :: ws) ({ frames := 0, cells := 0, slots := 0, locals := 0 } : Room)) (fun as0 U => as0 = #[(.ref a)] ∧ Z.Warmed39 U.vm ∧ U.heap = h0) (fun _ _ _ _ _ => True) (fun _ U oc0 U' => ∃ v L, oc0 = .returned v ∧ Qamount Z a o h0 n0 v U'.heap L ∧ FrameEnd U oc0 U' L ({ frames := 0, cells := 0, slots := 0, locals := 0 } : Room).cells ({ frames := 0, cells := 0, slots := 0, locals := 0 } : Room).slots) := by
  refine MetFree.of_bodySF (plainFor_of_name pn_com_example_gavelwatch_gavelwatch_model_Bid) hisR ?_
  intro p e s m args below meth c s₁ Bd hml0 hP hK
  obtain ⟨rfl, hZ, hh⟩ := hP
  have hx := Bd.exec
  have hby := Bd.bytes
  have hml : c.maxLocals = 1 := hml0
  have hown : s.vm.findClass "com/example/gavelwatch/gavelwatch/model/Bid" = some m.cls := findClass_of_methodNamed Bd.named
  have hnm := (name_of_methodNamed Bd.named Bd.method).1
  have X0 : Stand p l e ({ frames := 0, cells := 0, slots := 0, locals := 0 } : Room) s m #[(.ref a)] below meth c s₁ [] 0 0 := Stand.of_body Bd
  have e0 : s₁.heap = h0 := by rw [← hh, Bd.state]; rfl
  have N0 := Fr.nil n0
  show Gl p e below s (Qamount Z a o h0 n0) ({ frames := 0, cells := 0, slots := 0, locals := 0 } : Room).cells ({ frames := 0, cells := 0, slots := 0, locals := 0 } : Room).slots (s₁.setTop (entryFrame m #[(.ref a)] 1))
  refine Gl.back (fun _ k => castTop (ef_amount m a) k) ?_
  show Gl _ _ _ _ _ _ _ (s₁.setTop (mkF m 0 #[.val (.ref a)] []))
  refine Gl.back (fun _ k => XS.aloadN X0.here hx rfl (hb hby d28_0) rfl rfl k) ?_
  show Gl _ _ _ _ _ _ _ (s₁.setTop (mkF m 1 #[.val (.ref a)] [(.ref a)]))
  obtain ⟨T32, X32, e32, st32⟩ := getF X0 hx hZ hown (host := "") (Or.inl (hw _ (List.mem_of_getElem? (i := 144) rfl))) Via.refl e0 F_a_amount (g := (mkF m 1 #[.val (.ref a)] [(.ref a)])) rfl rfl (hb hby d28_1)
  refine Gl.back (fun _ k => st32 _ k) ?_
  show Gl _ _ _ _ _ _ _ (T32.setTop (mkF m 4 #[.val (.ref a)] [(.ref o)]))
  exact Gl.ret X32 e32 (v := (some (.ref o))) (fun h => by rw [Bd.returns] at h; cases h) Bd.notSynchronized (fun fs hr => retOut X32 hx (w := (.ref o)) Bd.returns rfl (Or.inr (Or.inr (Or.inr (Or.inr ⟨rfl, rfl, rfl⟩)))) (hb hby d28_4) hr) ⟨N0, rfl, rfl⟩ (by decide) (by decide)
theorem d18_0 : decode prog_50_method_3_code 0 = .ok (.aload_n 0, 1) := by decide +kernel
theorem d18_1 : decode prog_50_method_3_code 1 = .ok (.invokevirtual 24, 3) := by decide +kernel
theorem pd___Z : parseMethodDescriptor "()Z" = some ⟨[], some .boolean⟩ := by decide +kernel
theorem d18_4 : decode prog_50_method_3_code 4 = .ok (.ifCond .eq 13, 3) := by decide +kernel
theorem d18_17 : decode prog_50_method_3_code 17 = .ok (.aload_n 0, 1) := by decide +kernel
theorem d18_18 : decode prog_50_method_3_code 18 = .ok (.getfield 16, 3) := by decide +kernel
theorem d18_21 : decode prog_50_method_3_code 21 = .ok (.areturn, 1) := by decide +kernel
theorem ef_price0 (m : MethodId) (x0 : Addr) : entryFrame m #[(.ref x0)] 1 = mkF m 0 #[.val (.ref x0)] [] := by first | (simp [entryFrame, mkF, argsToLocals, Value.category]; done) | rfl
def Qprice0 (Z : State) (a : Addr) (o : Addr) (h0 : Heap) (n0 : Nat) (v : Option Value) (h : Heap) (L : List Loc) : Prop := Fr n0 L ∧ (v = some (.ref o) ∧ h = h0)
set_option maxRecDepth 65536 in
set_option maxHeartbeats 40000000 in
theorem rmprice0 (l : Launch) (Z : State) (a0 : Array Value) (hw : ∀ d ∈ tables_1, d.before a0 Z = true) (ws : List Jvm.Cond) (a : Addr) (o : Addr) (h0 : Heap) (n0 : Nat) (Z0 : n0 ≤ h0.size) (E_a : Exa Z h0 a "com/example/gavelwatch/gavelwatch/sim/RunningAuction") (F_a_highest : Fld Z h0 a "com/example/gavelwatch/gavelwatch/sim/RunningAuction" "highest" "Lcom/example/gavelwatch/gavelwatch/model/Bid;" .null) (F_a_openingBid : Fld Z h0 a "com/example/gavelwatch/gavelwatch/sim/RunningAuction" "openingBid" "Lcom/example/gavelwatch/gavelwatch/model/Money;" (.ref o)) :
    MetFree l (⟨"com/example/gavelwatch/gavelwatch/sim/RunningAuction", "price", "()Lcom/example/gavelwatch/gavelwatch/model/Money;"⟩ : MethodName) (head1 (Jvm.Cond.code (⟨"com/example/gavelwatch/gavelwatch/sim/RunningAuction", "price", "()Lcom/example/gavelwatch/gavelwatch/model/Money;"⟩ : MethodName) prog_50_method_3_code 1 (some (.object "com/example/gavelwatch/gavelwatch/model/Money")) :: ws) ({ frames := 1, cells := 0, slots := 0, locals := 12 } : Room)) (fun as0 U => as0 = #[(.ref a)] ∧ Z.Warmed39 U.vm ∧ U.heap = h0) (fun _ _ _ _ _ => True) (fun _ U oc0 U' => ∃ v L, oc0 = .returned v ∧ Qprice0 Z a o h0 n0 v U'.heap L ∧ FrameEnd U oc0 U' L ({ frames := 1, cells := 0, slots := 0, locals := 12 } : Room).cells ({ frames := 1, cells := 0, slots := 0, locals := 12 } : Room).slots) := by
  refine MetFree.of_bodySF (plainFor_of_name pn_com_example_gavelwatch_gavelwatch_sim_RunningAuction) hisR ?_
  intro p e s m args below meth c s₁ Bd hml0 hP hK
  obtain ⟨rfl, hZ, hh⟩ := hP
  have hx := Bd.exec
  have hby := Bd.bytes
  have hml : c.maxLocals = 1 := hml0
  have hown : s.vm.findClass "com/example/gavelwatch/gavelwatch/sim/RunningAuction" = some m.cls := findClass_of_methodNamed Bd.named
  have hnm := (name_of_methodNamed Bd.named Bd.method).1
  have X0 : Stand p l e ({ frames := 1, cells := 0, slots := 0, locals := 12 } : Room) s m #[(.ref a)] below meth c s₁ [] 0 0 := Stand.of_body Bd
  have e0 : s₁.heap = h0 := by rw [← hh, Bd.state]; rfl
  have N0 := Fr.nil n0
  show Gl p e below s (Qprice0 Z a o h0 n0) ({ frames := 1, cells := 0, slots := 0, locals := 12 } : Room).cells ({ frames := 1, cells := 0, slots := 0, locals := 12 } : Room).slots (s₁.setTop (entryFrame m #[(.ref a)] 1))
  refine Gl.back (fun _ k => castTop (ef_price0 m a) k) ?_
  show Gl _ _ _ _ _ _ _ (s₁.setTop (mkF m 0 #[.val (.ref a)] []))
  refine Gl.back (fun _ k => XS.aloadN X0.here hx rfl (hb hby d18_0) rfl rfl k) ?_
  show Gl _ _ _ _ _ _ _ (s₁.setTop (mkF m 1 #[.val (.ref a)] [(.ref a)]))
  obtain ⟨cq33, kq33, q33a, q33b, q33c⟩ := isOf hZ e0 E_a
  obtain ⟨_, _, ⟨T33, L33, k33, n33⟩, -, X33, ⟨Lc33, hQ33, l33, y33, z33⟩, st33⟩ := X0.virtualBack hx (y := (⟨"com/example/gavelwatch/gavelwatch/sim/RunningAuction", "hasBids", "()Z"⟩ : MethodName)) (z := (⟨"com/example/gavelwatch/gavelwatch/sim/RunningAuction", "hasBids", "()Z"⟩ : MethodName)) hown (mvT hZ (hw _ (List.mem_of_getElem? (i := 117) rfl))) (mvT hZ (hw _ (List.mem_of_getElem? (i := 52) rfl))) (notFace_of_selects (args := #[]) (mvT hZ (hw _ (List.mem_of_getElem? (i := 54) rfl)))) (mvT hZ (hw _ (List.mem_of_getElem? (i := 54) rfl))) (mvT hZ (hw _ (List.mem_of_getElem? (i := 53) rfl))) (by decide) (backOf (W := 0) (rmhas0 l Z a0 hw [] a  h0 n0 Z0 F_a_highest) hZ (hw _ (List.mem_of_getElem? (i := 55) rfl)) (hw _ (List.mem_of_getElem? (i := 2) rfl)) (by decide) (by decide)) q33a q33c (g := (mkF m 1 #[.val (.ref a)] [(.ref a)])) rfl (by rw [hml]; rfl) (Steps.refl _) (argsL := []) (rest := []) (lenOf pd___Z rfl) rfl (by show 2 * 0 + _ ≤ _; exact Nat.le_of_eq rfl) (hb hby d18_1) (fun _ _ => ⟨rfl, e0, (by decide : 0 + 0 ≤ _), (by decide : 0 + 0 ≤ _)⟩)
  dsimp only [Pt.U, Pt.locs, Pt.cells, Pt.slots] at X33 l33 y33 z33 st33 hQ33
  subst l33 y33 z33
  obtain ⟨Nq33, rfl, eh33⟩ := hQ33
  have N33 := Fr.app N0 Nq33
  refine Gl.back (fun _ k => st33.trans k) ?_
  show Gl _ _ _ _ _ _ _ (T33.setTop (mkF m 4 #[.val (.ref a)] [(.int (0 : Int32))]))
  refine Gl.back (fun _ k => XS.ifYes X33.here hx rfl (pc0 := 4) (pc' := 17) rfl (hb hby d18_4) rfl ((if0 _ _).trans (teq (by decide : (0 : Int32) = (0 : Int32))).1) (by decide) (by decide) k) ?_
  show Gl _ _ _ _ _ _ _ (T33.setTop (mkF m 17 #[.val (.ref a)] []))
  refine Gl.back (fun _ k => XS.aloadN X33.here hx rfl (hb hby d18_17) rfl rfl k) ?_
  show Gl _ _ _ _ _ _ _ (T33.setTop (mkF m 18 #[.val (.ref a)] [(.ref a)]))
  obtain ⟨T34, X34, e34, st34⟩ := getF X33 hx hZ hown (host := "") (Or.inl (hw _ (List.mem_of_getElem? (i := 49) rfl))) Via.refl eh33 F_a_openingBid (g := (mkF m 18 #[.val (.ref a)] [(.ref a)])) rfl rfl (hb hby d18_18)
  refine Gl.back (fun _ k => st34 _ k) ?_
  show Gl _ _ _ _ _ _ _ (T34.setTop (mkF m 21 #[.val (.ref a)] [(.ref o)]))
  exact Gl.ret X34 e34 (v := (some (.ref o))) (fun h => by rw [Bd.returns] at h; cases h) Bd.notSynchronized (fun fs hr => retOut X34 hx (w := (.ref o)) Bd.returns rfl (Or.inr (Or.inr (Or.inr (Or.inr ⟨rfl, rfl, rfl⟩)))) (hb hby d18_21) hr) ⟨N33, rfl, rfl⟩ (by decide) (by decide)
theorem d18_7 : decode prog_50_method_3_code 7 = .ok (.aload_n 0, 1) := by decide +kernel
theorem d18_8 : decode prog_50_method_3_code 8 = .ok (.getfield 20, 3) := by decide +kernel
theorem d18_11 : decode prog_50_method_3_code 11 = .ok (.invokevirtual 28, 3) := by decide +kernel
theorem pd___Lcom_example_gavelwatch_gavelwatch_model_Money_ : parseMethodDescriptor "()Lcom/example/gavelwatch/gavelwatch/model/Money;" = some ⟨[], some (.object "com/example/gavelwatch/gavelwatch/model/Money")⟩ := by decide +kernel
theorem d18_14 : decode prog_50_method_3_code 14 = .ok (.goto 7, 3) := by decide +kernel
theorem ef_price1 (m : MethodId) (x0 : Addr) : entryFrame m #[(.ref x0)] 1 = mkF m 0 #[.val (.ref x0)] [] := by first | (simp [entryFrame, mkF, argsToLocals, Value.category]; done) | rfl
def Qprice1 (Z : State) (a : Addr) (b o : Addr) (h0 : Heap) (n0 : Nat) (v : Option Value) (h : Heap) (L : List Loc) : Prop := Fr n0 L ∧ (v = some (.ref o) ∧ h = h0)
set_option maxRecDepth 65536 in
set_option maxHeartbeats 40000000 in
theorem rmprice1 (l : Launch) (Z : State) (a0 : Array Value) (hw : ∀ d ∈ tables_1, d.before a0 Z = true) (ws : List Jvm.Cond) (a : Addr) (b o : Addr) (h0 : Heap) (n0 : Nat) (Z0 : n0 ≤ h0.size) (E_a : Exa Z h0 a "com/example/gavelwatch/gavelwatch/sim/RunningAuction") (F_a_highest : Fld Z h0 a "com/example/gavelwatch/gavelwatch/sim/RunningAuction" "highest" "Lcom/example/gavelwatch/gavelwatch/model/Bid;" (.ref b)) (E_b : Exa Z h0 b "com/example/gavelwatch/gavelwatch/model/Bid") (F_b_amount : Fld Z h0 b "com/example/gavelwatch/gavelwatch/model/Bid" "amount" "Lcom/example/gavelwatch/gavelwatch/model/Money;" (.ref o)) :
    MetFree l (⟨"com/example/gavelwatch/gavelwatch/sim/RunningAuction", "price", "()Lcom/example/gavelwatch/gavelwatch/model/Money;"⟩ : MethodName) (head1 (Jvm.Cond.code (⟨"com/example/gavelwatch/gavelwatch/sim/RunningAuction", "price", "()Lcom/example/gavelwatch/gavelwatch/model/Money;"⟩ : MethodName) prog_50_method_3_code 1 (some (.object "com/example/gavelwatch/gavelwatch/model/Money")) :: ws) ({ frames := 1, cells := 0, slots := 0, locals := 12 } : Room)) (fun as0 U => as0 = #[(.ref a)] ∧ Z.Warmed39 U.vm ∧ U.heap = h0) (fun _ _ _ _ _ => True) (fun _ U oc0 U' => ∃ v L, oc0 = .returned v ∧ Qprice1 Z a b o h0 n0 v U'.heap L ∧ FrameEnd U oc0 U' L ({ frames := 1, cells := 0, slots := 0, locals := 12 } : Room).cells ({ frames := 1, cells := 0, slots := 0, locals := 12 } : Room).slots) := by
  refine MetFree.of_bodySF (plainFor_of_name pn_com_example_gavelwatch_gavelwatch_sim_RunningAuction) hisR ?_
  intro p e s m args below meth c s₁ Bd hml0 hP hK
  obtain ⟨rfl, hZ, hh⟩ := hP
  have hx := Bd.exec
  have hby := Bd.bytes
  have hml : c.maxLocals = 1 := hml0
  have hown : s.vm.findClass "com/example/gavelwatch/gavelwatch/sim/RunningAuction" = some m.cls := findClass_of_methodNamed Bd.named
  have hnm := (name_of_methodNamed Bd.named Bd.method).1
  have X0 : Stand p l e ({ frames := 1, cells := 0, slots := 0, locals := 12 } : Room) s m #[(.ref a)] below meth c s₁ [] 0 0 := Stand.of_body Bd
  have e0 : s₁.heap = h0 := by rw [← hh, Bd.state]; rfl
  have N0 := Fr.nil n0
  show Gl p e below s (Qprice1 Z a b o h0 n0) ({ frames := 1, cells := 0, slots := 0, locals := 12 } : Room).cells ({ frames := 1, cells := 0, slots := 0, locals := 12 } : Room).slots (s₁.setTop (entryFrame m #[(.ref a)] 1))
  refine Gl.back (fun _ k => castTop (ef_price1 m a) k) ?_
  show Gl _ _ _ _ _ _ _ (s₁.setTop (mkF m 0 #[.val (.ref a)] []))
  refine Gl.back (fun _ k => XS.aloadN X0.here hx rfl (hb hby d18_0) rfl rfl k) ?_
  show Gl _ _ _ _ _ _ _ (s₁.setTop (mkF m 1 #[.val (.ref a)] [(.ref a)]))
  obtain ⟨cq35, kq35, q35a, q35b, q35c⟩ := isOf hZ e0 E_a
  obtain ⟨_, _, ⟨T35, L35, k35, n35⟩, -, X35, ⟨Lc35, hQ35, l35, y35, z35⟩, st35⟩ := X0.virtualBack hx (y := (⟨"com/example/gavelwatch/gavelwatch/sim/RunningAuction", "hasBids", "()Z"⟩ : MethodName)) (z := (⟨"com/example/gavelwatch/gavelwatch/sim/RunningAuction", "hasBids", "()Z"⟩ : MethodName)) hown (mvT hZ (hw _ (List.mem_of_getElem? (i := 117) rfl))) (mvT hZ (hw _ (List.mem_of_getElem? (i := 52) rfl))) (notFace_of_selects (args := #[]) (mvT hZ (hw _ (List.mem_of_getElem? (i := 54) rfl)))) (mvT hZ (hw _ (List.mem_of_getElem? (i := 54) rfl))) (mvT hZ (hw _ (List.mem_of_getElem? (i := 53) rfl))) (by decide) (backOf (W := 0) (rmhas1 l Z a0 hw [] a b h0 n0 Z0 F_a_highest) hZ (hw _ (List.mem_of_getElem? (i := 55) rfl)) (hw _ (List.mem_of_getElem? (i := 2) rfl)) (by decide) (by decide)) q35a q35c (g := (mkF m 1 #[.val (.ref a)] [(.ref a)])) rfl (by rw [hml]; rfl) (Steps.refl _) (argsL := []) (rest := []) (lenOf pd___Z rfl) rfl (by show 2 * 0 + _ ≤ _; exact Nat.le_of_eq rfl) (hb hby d18_1) (fun _ _ => ⟨rfl, e0, (by decide : 0 + 0 ≤ _), (by decide : 0 + 0 ≤ _)⟩)
  dsimp only [Pt.U, Pt.locs, Pt.cells, Pt.slots] at X35 l35 y35 z35 st35 hQ35
  subst l35 y35 z35
  obtain ⟨Nq35, rfl, eh35⟩ := hQ35
  have N35 := Fr.app N0 Nq35
  refine Gl.back (fun _ k => st35.trans k) ?_
  show Gl _ _ _ _ _ _ _ (T35.setTop (mkF m 4 #[.val (.ref a)] [(.int (1 : Int32))]))
  refine Gl.back (fun _ k => XS.ifNo X35.here hx rfl (hb hby d18_4) rfl ((if0 _ _).trans (feq (by decide : ¬ (1 : Int32) = (0 : Int32))).1) k) ?_
  show Gl _ _ _ _ _ _ _ (T35.setTop (mkF m 7 #[.val (.ref a)] []))
  refine Gl.back (fun _ k => XS.aloadN X35.here hx rfl (hb hby d18_7) rfl rfl k) ?_
  show Gl _ _ _ _ _ _ _ (T35.setTop (mkF m 8 #[.val (.ref a)] [(.ref a)]))
  obtain ⟨T36, X36, e36, st36⟩ := getF X35 hx hZ hown (host := "") (Or.inl (hw _ (List.mem_of_getElem? (i := 56) rfl))) Via.refl eh35 F_a_highest (g := (mkF m 8 #[.val (.ref a)] [(.ref a)])) rfl rfl (hb hby d18_8)
  refine Gl.back (fun _ k => st36 _ k) ?_
  show Gl _ _ _ _ _ _ _ (T36.setTop (mkF m 11 #[.val (.ref a)] [(.ref b)]))
  obtain ⟨cq37, kq37, q37a, q37b, q37c⟩ := isOf hZ e36 E_b
  obtain ⟨_, _, ⟨T37, L37, k37, n37⟩, -, X37, ⟨Lc37, hQ37, l37, y37, z37⟩, st37⟩ := X36.virtualBack hx (y := (⟨"com/example/gavelwatch/gavelwatch/model/Bid", "amount", "()Lcom/example/gavelwatch/gavelwatch/model/Money;"⟩ : MethodName)) (z := (⟨"com/example/gavelwatch/gavelwatch/model/Bid", "amount", "()Lcom/example/gavelwatch/gavelwatch/model/Money;"⟩ : MethodName)) hown (mvT hZ (hw _ (List.mem_of_getElem? (i := 182) rfl))) (mvT hZ (hw _ (List.mem_of_getElem? (i := 183) rfl))) (notFace_of_selects (args := #[]) (mvT hZ (hw _ (List.mem_of_getElem? (i := 185) rfl)))) (mvT hZ (hw _ (List.mem_of_getElem? (i := 185) rfl))) (mvT hZ (hw _ (List.mem_of_getElem? (i := 184) rfl))) (by decide) (backOf (W := 0) (rmamount l Z a0 hw [] b o h0 n0 Z0 F_b_amount) hZ (hw _ (List.mem_of_getElem? (i := 186) rfl)) (hw _ (List.mem_of_getElem? (i := 129) rfl)) (by decide) (by decide)) q37a q37c (g := (mkF m 11 #[.val (.ref a)] [(.ref b)])) rfl (by rw [hml]; rfl) (Steps.refl _) (argsL := []) (rest := []) (lenOf pd___Lcom_example_gavelwatch_gavelwatch_model_Money_ rfl) rfl (by show 2 * 0 + _ ≤ _; exact Nat.le_of_eq rfl) (hb hby d18_11) (fun _ _ => ⟨rfl, e36, (by decide : 0 + 0 ≤ _), (by decide : 0 + 0 ≤ _)⟩)
  dsimp only [Pt.U, Pt.locs, Pt.cells, Pt.slots] at X37 l37 y37 z37 st37 hQ37
  subst l37 y37 z37
  obtain ⟨Nq37, rfl, eh37⟩ := hQ37
  have N37 := Fr.app N35 Nq37
  refine Gl.back (fun _ k => st37.trans k) ?_
  show Gl _ _ _ _ _ _ _ (T37.setTop (mkF m 14 #[.val (.ref a)] [(.ref o)]))
  refine Gl.back (fun _ k => XS.goto X37.here hx rfl (pc0 := 14) (pc' := 21) rfl (hb hby d18_14) (by decide) (by decide) k) ?_
  show Gl _ _ _ _ _ _ _ (T37.setTop (mkF m 21 #[.val (.ref a)] [(.ref o)]))
  exact Gl.ret X37 eh37 (v := (some (.ref o))) (fun h => by rw [Bd.returns] at h; cases h) Bd.notSynchronized (fun fs hr => retOut X37 hx (w := (.ref o)) Bd.returns rfl (Or.inr (Or.inr (Or.inr (Or.inr ⟨rfl, rfl, rfl⟩)))) (hb hby d18_21) hr) ⟨N37, rfl, rfl⟩ (by decide) (by decide)
theorem d14_0 : decode jdk_29_method_66_code 0 = .ok (.lload_n 0, 1) := by decide +kernel
theorem d14_1 : decode jdk_29_method_66_code 1 = .ok (.lload_n 2, 1) := by decide +kernel
theorem d14_2 : decode jdk_29_method_66_code 2 = .ok (.lcmp, 1) := by decide +kernel
theorem d14_3 : decode jdk_29_method_66_code 3 = .ok (.ifCond .lt 7, 3) := by decide +kernel
theorem d14_10 : decode jdk_29_method_66_code 10 = .ok (.lload_n 2, 1) := by decide +kernel
theorem d14_11 : decode jdk_29_method_66_code 11 = .ok (.lreturn, 1) := by decide +kernel
theorem d14_6 : decode jdk_29_method_66_code 6 = .ok (.lload_n 0, 1) := by decide +kernel
theorem d14_7 : decode jdk_29_method_66_code 7 = .ok (.goto 4, 3) := by decide +kernel
theorem ef_maxJ (m : MethodId) (x0 : Int64) (x1 : Int64) : entryFrame m #[(.long x0), (.long x1)] 4 = mkF m 0 #[.val (.long x0), .second, .val (.long x1), .second] [] := by first | (simp [entryFrame, mkF, argsToLocals, Value.category]; done) | rfl
def QmaxJ (Z : State) (q0 : Int64) (q1 : Int64) (h0 : Heap) (n0 : Nat) (v : Option Value) (h : Heap) (L : List Loc) : Prop := Fr n0 L ∧ (∃ r : Int64, v = some (.long r) ∧ ¬ r < q0 ∧ ¬ r < q1 ∧ h = h0)
set_option maxRecDepth 65536 in
set_option maxHeartbeats 40000000 in
theorem rmmaxJ (l : Launch) (Z : State) (a0 : Array Value) (hw : ∀ d ∈ tables_1, d.before a0 Z = true) (ws : List Jvm.Cond) (q0 : Int64) (q1 : Int64) (h0 : Heap) (n0 : Nat) (Z0 : n0 ≤ h0.size) :
    MetFree l (⟨"java/lang/Math", "max", "(JJ)J"⟩ : MethodName) (head1 (Jvm.Cond.code (⟨"java/lang/Math", "max", "(JJ)J"⟩ : MethodName) jdk_29_method_66_code 4 (some .long) :: ws) ({ frames := 0, cells := 0, slots := 0, locals := 0 } : Room)) (fun as0 U => as0 = #[(.long q0), (.long q1)] ∧ Z.Warmed39 U.vm ∧ U.heap = h0) (fun _ _ _ _ _ => True) (fun _ U oc0 U' => ∃ v L, oc0 = .returned v ∧ QmaxJ Z q0 q1 h0 n0 v U'.heap L ∧ FrameEnd U oc0 U' L ({ frames := 0, cells := 0, slots := 0, locals := 0 } : Room).cells ({ frames := 0, cells := 0, slots := 0, locals := 0 } : Room).slots) := by
  refine MetFree.of_bodySF (Jvm.Free.JP.mathPlain rfl (by decide +kernel)) hisR ?_
  intro p e s m args below meth c s₁ Bd hml0 hP hK
  obtain ⟨rfl, hZ, hh⟩ := hP
  have hx := Bd.exec
  have hby := Bd.bytes
  have hml : c.maxLocals = 4 := hml0
  have hown : s.vm.findClass "java/lang/Math" = some m.cls := findClass_of_methodNamed Bd.named
  have hnm := (name_of_methodNamed Bd.named Bd.method).1
  have X0 : Stand p l e ({ frames := 0, cells := 0, slots := 0, locals := 0 } : Room) s m #[(.long q0), (.long q1)] below meth c s₁ [] 0 0 := Stand.of_body Bd
  have e0 : s₁.heap = h0 := by rw [← hh, Bd.state]; rfl
  have N0 := Fr.nil n0
  show Gl p e below s (QmaxJ Z q0 q1 h0 n0) ({ frames := 0, cells := 0, slots := 0, locals := 0 } : Room).cells ({ frames := 0, cells := 0, slots := 0, locals := 0 } : Room).slots (s₁.setTop (entryFrame m #[(.long q0), (.long q1)] 4))
  refine Gl.back (fun _ k => castTop (ef_maxJ m q0 q1) k) ?_
  show Gl _ _ _ _ _ _ _ (s₁.setTop (mkF m 0 #[.val (.long q0), .second, .val (.long q1), .second] []))
  refine Gl.back (fun _ k => XS.lloadN X0.here hx rfl (hb hby d14_0) rfl k) ?_
  show Gl _ _ _ _ _ _ _ (s₁.setTop (mkF m 1 #[.val (.long q0), .second, .val (.long q1), .second] [(.long q0)]))
  refine Gl.back (fun _ k => XS.lloadN X0.here hx rfl (hb hby d14_1) rfl k) ?_
  show Gl _ _ _ _ _ _ _ (s₁.setTop (mkF m 2 #[.val (.long q0), .second, .val (.long q1), .second] [(.long q1), (.long q0)]))
  refine Gl.back (fun _ k => XS.lcmp X0.here hx rfl (hb hby d14_2) rfl k) ?_
  show Gl _ _ _ _ _ _ _ (s₁.setTop (mkF m 3 #[.val (.long q0), .second, .val (.long q1), .second] [(.int (lcmpW q0 q1))]))
  by_cases hc3_38 : q0 < q1
  · refine Gl.back (fun _ k => XS.ifYes X0.here hx rfl (pc0 := 3) (pc' := 10) rfl (hb hby d14_3) rfl ((if0 _ _).trans (tlt (own_lcL hc3_38)).1) (by decide) (by decide) k) ?_
    show Gl _ _ _ _ _ _ _ (s₁.setTop (mkF m 10 #[.val (.long q0), .second, .val (.long q1), .second] []))
    refine Gl.back (fun _ k => XS.lloadN X0.here hx rfl (hb hby d14_10) rfl k) ?_
    show Gl _ _ _ _ _ _ _ (s₁.setTop (mkF m 11 #[.val (.long q0), .second, .val (.long q1), .second] [(.long q1)]))
    exact Gl.ret X0 e0 (v := (some (.long q1))) (fun h => by rw [Bd.returns] at h; cases h) Bd.notSynchronized (fun fs hr => retOut X0 hx (w := (.long q1)) Bd.returns rfl (Or.inr (Or.inl ⟨rfl, rfl, _, rfl⟩)) (hb hby d14_11) hr) ⟨N0, q1, rfl, own_asym hc3_38, own_irr, rfl⟩ (by decide) (by decide)
  · refine Gl.back (fun _ k => XS.ifNo X0.here hx rfl (hb hby d14_3) rfl ((if0 _ _).trans (flt (own_lcLn hc3_38)).1) k) ?_
    show Gl _ _ _ _ _ _ _ (s₁.setTop (mkF m 6 #[.val (.long q0), .second, .val (.long q1), .second] []))
    refine Gl.back (fun _ k => XS.lloadN X0.here hx rfl (hb hby d14_6) rfl k) ?_
    show Gl _ _ _ _ _ _ _ (s₁.setTop (mkF m 7 #[.val (.long q0), .second, .val (.long q1), .second] [(.long q0)]))
    refine Gl.back (fun _ k => XS.goto X0.here hx rfl (pc0 := 7) (pc' := 11) rfl (hb hby d14_7) (by decide) (by decide) k) ?_
    show Gl _ _ _ _ _ _ _ (s₁.setTop (mkF m 11 #[.val (.long q0), .second, .val (.long q1), .second] [(.long q0)]))
    exact Gl.ret X0 e0 (v := (some (.long q0))) (fun h => by rw [Bd.returns] at h; cases h) Bd.notSynchronized (fun fs hr => retOut X0 hx (w := (.long q0)) Bd.returns rfl (Or.inr (Or.inl ⟨rfl, rfl, _, rfl⟩)) (hb hby d14_11) hr) ⟨N0, q0, rfl, own_irr, hc3_38, rfl⟩ (by decide) (by decide)
theorem d20_0 : decode jdk_35_method_42_code 0 = .ok (.lload_n 0, 1) := by decide +kernel
theorem d20_1 : decode jdk_35_method_42_code 1 = .ok (.lload_n 2, 1) := by decide +kernel
theorem d20_2 : decode jdk_35_method_42_code 2 = .ok (.lcmp, 1) := by decide +kernel
theorem d20_3 : decode jdk_35_method_42_code 3 = .ok (.ifCond .ge 7, 3) := by decide +kernel
theorem d20_6 : decode jdk_35_method_42_code 6 = .ok (.iconst (-1), 1) := by decide +kernel
theorem d20_7 : decode jdk_35_method_42_code 7 = .ok (.goto 14, 3) := by decide +kernel
theorem d20_21 : decode jdk_35_method_42_code 21 = .ok (.ireturn, 1) := by decide +kernel
theorem d20_10 : decode jdk_35_method_42_code 10 = .ok (.lload_n 0, 1) := by decide +kernel
theorem d20_11 : decode jdk_35_method_42_code 11 = .ok (.lload_n 2, 1) := by decide +kernel
theorem d20_12 : decode jdk_35_method_42_code 12 = .ok (.lcmp, 1) := by decide +kernel
theorem d20_13 : decode jdk_35_method_42_code 13 = .ok (.ifCond .ne 7, 3) := by decide +kernel
theorem d20_16 : decode jdk_35_method_42_code 16 = .ok (.iconst 0, 1) := by decide +kernel
theorem d20_17 : decode jdk_35_method_42_code 17 = .ok (.goto 4, 3) := by decide +kernel
theorem d20_20 : decode jdk_35_method_42_code 20 = .ok (.iconst 1, 1) := by decide +kernel
theorem pn_java_lang_Long : plainName "java/lang/Long" = true := by first | (simp [plainName, overriddenIn]; done) | decide +kernel
theorem ef_lcomp (m : MethodId) (x0 : Int64) (x1 : Int64) : entryFrame m #[(.long x0), (.long x1)] 4 = mkF m 0 #[.val (.long x0), .second, .val (.long x1), .second] [] := by first | (simp [entryFrame, mkF, argsToLocals, Value.category]; done) | rfl
def Qlcomp (Z : State) (x : Int64) (y : Int64) (h0 : Heap) (n0 : Nat) (v : Option Value) (h : Heap) (L : List Loc) : Prop := Fr n0 L ∧ ((v = some (.int (-1)) ∧ h = h0 ∧ x < y) ∨ (v = some (.int 0) ∧ h = h0 ∧ ¬ x < y ∧ x = y) ∨ (v = some (.int 1) ∧ h = h0 ∧ ¬ x < y ∧ ¬ x = y))
set_option maxRecDepth 65536 in
set_option maxHeartbeats 40000000 in
theorem rmlcomp (l : Launch) (Z : State) (a0 : Array Value) (hw : ∀ d ∈ tables_1, d.before a0 Z = true) (ws : List Jvm.Cond) (x : Int64) (y : Int64) (h0 : Heap) (n0 : Nat) (Z0 : n0 ≤ h0.size) :
    MetFree l (⟨"java/lang/Long", "compare", "(JJ)I"⟩ : MethodName) (head1 (Jvm.Cond.code (⟨"java/lang/Long", "compare", "(JJ)I"⟩ : MethodName) jdk_35_method_42_code 4 (some .int) :: ws) ({ frames := 0, cells := 0, slots := 0, locals := 0 } : Room)) (fun as0 U => as0 = #[(.long x), (.long y)] ∧ Z.Warmed39 U.vm ∧ U.heap = h0) (fun _ _ _ _ _ => True) (fun _ U oc0 U' => ∃ v L, oc0 = .returned v ∧ Qlcomp Z x y h0 n0 v U'.heap L ∧ FrameEnd U oc0 U' L ({ frames := 0, cells := 0, slots := 0, locals := 0 } : Room).cells ({ frames := 0, cells := 0, slots := 0, locals := 0 } : Room).slots) := by
  refine MetFree.of_bodySF (plainFor_of_name pn_java_lang_Long) hisR ?_
  intro p e s m args below meth c s₁ Bd hml0 hP hK
  obtain ⟨rfl, hZ, hh⟩ := hP
  have hx := Bd.exec
  have hby := Bd.bytes
  have hml : c.maxLocals = 4 := hml0
  have hown : s.vm.findClass "java/lang/Long" = some m.cls := findClass_of_methodNamed Bd.named
  have hnm := (name_of_methodNamed Bd.named Bd.method).1
  have X0 : Stand p l e ({ frames := 0, cells := 0, slots := 0, locals := 0 } : Room) s m #[(.long x), (.long y)] below meth c s₁ [] 0 0 := Stand.of_body Bd
  have e0 : s₁.heap = h0 := by rw [← hh, Bd.state]; rfl
  have N0 := Fr.nil n0
  show Gl p e below s (Qlcomp Z x y h0 n0) ({ frames := 0, cells := 0, slots := 0, locals := 0 } : Room).cells ({ frames := 0, cells := 0, slots := 0, locals := 0 } : Room).slots (s₁.setTop (entryFrame m #[(.long x), (.long y)] 4))
  refine Gl.back (fun _ k => castTop (ef_lcomp m x y) k) ?_
  show Gl _ _ _ _ _ _ _ (s₁.setTop (mkF m 0 #[.val (.long x), .second, .val (.long y), .second] []))
  refine Gl.back (fun _ k => XS.lloadN X0.here hx rfl (hb hby d20_0) rfl k) ?_
  show Gl _ _ _ _ _ _ _ (s₁.setTop (mkF m 1 #[.val (.long x), .second, .val (.long y), .second] [(.long x)]))
  refine Gl.back (fun _ k => XS.lloadN X0.here hx rfl (hb hby d20_1) rfl k) ?_
  show Gl _ _ _ _ _ _ _ (s₁.setTop (mkF m 2 #[.val (.long x), .second, .val (.long y), .second] [(.long y), (.long x)]))
  refine Gl.back (fun _ k => XS.lcmp X0.here hx rfl (hb hby d20_2) rfl k) ?_
  show Gl _ _ _ _ _ _ _ (s₁.setTop (mkF m 3 #[.val (.long x), .second, .val (.long y), .second] [(.int (lcmpW x y))]))
  by_cases hc3_39 : x < y
  · refine Gl.back (fun _ k => XS.ifNo X0.here hx rfl (hb hby d20_3) rfl ((if0 _ _).trans (tlt (own_lcL hc3_39)).2.1) k) ?_
    show Gl _ _ _ _ _ _ _ (s₁.setTop (mkF m 6 #[.val (.long x), .second, .val (.long y), .second] []))
    refine Gl.back (fun _ k => XS.iconst X0.here hx rfl (hb hby d20_6) k) ?_
    show Gl _ _ _ _ _ _ _ (s₁.setTop (mkF m 7 #[.val (.long x), .second, .val (.long y), .second] [(.int (-1 : Int32))]))
    refine Gl.back (fun _ k => XS.goto X0.here hx rfl (pc0 := 7) (pc' := 21) rfl (hb hby d20_7) (by decide) (by decide) k) ?_
    show Gl _ _ _ _ _ _ _ (s₁.setTop (mkF m 21 #[.val (.long x), .second, .val (.long y), .second] [(.int (-1 : Int32))]))
    exact Gl.ret X0 e0 (v := (some (.int (-1 : Int32)))) (fun h => by rw [Bd.returns] at h; cases h) Bd.notSynchronized (fun fs hr => retOut X0 hx (w := (.int (-1 : Int32))) Bd.returns rfl (Or.inl ⟨rfl, Or.inl rfl, _, rfl⟩) (hb hby d20_21) hr) ⟨N0, Or.inl ⟨rfl, rfl, hc3_39⟩⟩ (by decide) (by decide)
  · refine Gl.back (fun _ k => XS.ifYes X0.here hx rfl (pc0 := 3) (pc' := 10) rfl (hb hby d20_3) rfl ((if0 _ _).trans (flt (own_lcLn hc3_39)).2.1) (by decide) (by decide) k) ?_
    show Gl _ _ _ _ _ _ _ (s₁.setTop (mkF m 10 #[.val (.long x), .second, .val (.long y), .second] []))
    refine Gl.back (fun _ k => XS.lloadN X0.here hx rfl (hb hby d20_10) rfl k) ?_
    show Gl _ _ _ _ _ _ _ (s₁.setTop (mkF m 11 #[.val (.long x), .second, .val (.long y), .second] [(.long x)]))
    refine Gl.back (fun _ k => XS.lloadN X0.here hx rfl (hb hby d20_11) rfl k) ?_
    show Gl _ _ _ _ _ _ _ (s₁.setTop (mkF m 12 #[.val (.long x), .second, .val (.long y), .second] [(.long y), (.long x)]))
    refine Gl.back (fun _ k => XS.lcmp X0.here hx rfl (hb hby d20_12) rfl k) ?_
    show Gl _ _ _ _ _ _ _ (s₁.setTop (mkF m 13 #[.val (.long x), .second, .val (.long y), .second] [(.int (lcmpW x y))]))
    by_cases hc13_40 : x = y
    · refine Gl.back (fun _ k => XS.ifNo X0.here hx rfl (hb hby d20_13) rfl ((if0 _ _).trans (teq (own_lcE hc13_40)).2) k) ?_
      show Gl _ _ _ _ _ _ _ (s₁.setTop (mkF m 16 #[.val (.long x), .second, .val (.long y), .second] []))
      refine Gl.back (fun _ k => XS.iconst X0.here hx rfl (hb hby d20_16) k) ?_
      show Gl _ _ _ _ _ _ _ (s₁.setTop (mkF m 17 #[.val (.long x), .second, .val (.long y), .second] [(.int (0 : Int32))]))
      refine Gl.back (fun _ k => XS.goto X0.here hx rfl (pc0 := 17) (pc' := 21) rfl (hb hby d20_17) (by decide) (by decide) k) ?_
      show Gl _ _ _ _ _ _ _ (s₁.setTop (mkF m 21 #[.val (.long x), .second, .val (.long y), .second] [(.int (0 : Int32))]))
      exact Gl.ret X0 e0 (v := (some (.int (0 : Int32)))) (fun h => by rw [Bd.returns] at h; cases h) Bd.notSynchronized (fun fs hr => retOut X0 hx (w := (.int (0 : Int32))) Bd.returns rfl (Or.inl ⟨rfl, Or.inl rfl, _, rfl⟩) (hb hby d20_21) hr) ⟨N0, Or.inr (Or.inl ⟨rfl, rfl, hc3_39, hc13_40⟩)⟩ (by decide) (by decide)
    · refine Gl.back (fun _ k => XS.ifYes X0.here hx rfl (pc0 := 13) (pc' := 20) rfl (hb hby d20_13) rfl ((if0 _ _).trans (feq (own_lcEn hc13_40)).2) (by decide) (by decide) k) ?_
      show Gl _ _ _ _ _ _ _ (s₁.setTop (mkF m 20 #[.val (.long x), .second, .val (.long y), .second] []))
      refine Gl.back (fun _ k => XS.iconst X0.here hx rfl (hb hby d20_20) k) ?_
      show Gl _ _ _ _ _ _ _ (s₁.setTop (mkF m 21 #[.val (.long x), .second, .val (.long y), .second] [(.int (1 : Int32))]))
      exact Gl.ret X0 e0 (v := (some (.int (1 : Int32)))) (fun h => by rw [Bd.returns] at h; cases h) Bd.notSynchronized (fun fs hr => retOut X0 hx (w := (.int (1 : Int32))) Bd.returns rfl (Or.inl ⟨rfl, Or.inl rfl, _, rfl⟩) (hb hby d20_21) hr) ⟨N0, Or.inr (Or.inr ⟨rfl, rfl, hc3_39, hc13_40⟩)⟩ (by decide) (by decide)
theorem d19_0 : decode prog_40_method_4_code 0 = .ok (.aload_n 0, 1) := by decide +kernel
theorem d19_1 : decode prog_40_method_4_code 1 = .ok (.getfield 7, 3) := by decide +kernel
theorem d19_4 : decode prog_40_method_4_code 4 = .ok (.aload_n 1, 1) := by decide +kernel
theorem d19_5 : decode prog_40_method_4_code 5 = .ok (.getfield 7, 3) := by decide +kernel
theorem d19_8 : decode prog_40_method_4_code 8 = .ok (.invokestatic 54, 3) := by decide +kernel
theorem pd__JJ_I : parseMethodDescriptor "(JJ)I" = some ⟨[.long, .long], some .int⟩ := by decide +kernel
theorem d19_11 : decode prog_40_method_4_code 11 = .ok (.ireturn, 1) := by decide +kernel
theorem ef_cmp (m : MethodId) (x0 : Addr) (x1 : Addr) : entryFrame m #[(.ref x0), (.ref x1)] 2 = mkF m 0 #[.val (.ref x0), .val (.ref x1)] [] := by first | (simp [entryFrame, mkF, argsToLocals, Value.category]; done) | rfl
def Qcmp (Z : State) (a : Addr) (b : Addr) (x y : Int64) (h0 : Heap) (n0 : Nat) (v : Option Value) (h : Heap) (L : List Loc) : Prop := Fr n0 L ∧ ((v = some (.int (-1)) ∧ h = h0 ∧ x < y) ∨ (v = some (.int 0) ∧ h = h0 ∧ ¬ x < y ∧ x = y) ∨ (v = some (.int 1) ∧ h = h0 ∧ ¬ x < y ∧ ¬ x = y))
set_option maxRecDepth 65536 in
set_option maxHeartbeats 40000000 in
theorem rmcmp (l : Launch) (Z : State) (a0 : Array Value) (hw : ∀ d ∈ tables_1, d.before a0 Z = true) (ws : List Jvm.Cond) (a : Addr) (b : Addr) (x y : Int64) (h0 : Heap) (n0 : Nat) (Z0 : n0 ≤ h0.size) (F_a_cents : Fld Z h0 a "com/example/gavelwatch/gavelwatch/model/Money" "cents" "J" (.long x)) (F_b_cents : Fld Z h0 b "com/example/gavelwatch/gavelwatch/model/Money" "cents" "J" (.long y)) :
    MetFree l (⟨"com/example/gavelwatch/gavelwatch/model/Money", "compareTo", "(Lcom/example/gavelwatch/gavelwatch/model/Money;)I"⟩ : MethodName) (head1 (Jvm.Cond.code (⟨"com/example/gavelwatch/gavelwatch/model/Money", "compareTo", "(Lcom/example/gavelwatch/gavelwatch/model/Money;)I"⟩ : MethodName) prog_40_method_4_code 2 (some .int) :: ws) ({ frames := 1, cells := 0, slots := 0, locals := 15 } : Room)) (fun as0 U => as0 = #[(.ref a), (.ref b)] ∧ Z.Warmed39 U.vm ∧ U.heap = h0) (fun _ _ _ _ _ => True) (fun _ U oc0 U' => ∃ v L, oc0 = .returned v ∧ Qcmp Z a b x y h0 n0 v U'.heap L ∧ FrameEnd U oc0 U' L ({ frames := 1, cells := 0, slots := 0, locals := 15 } : Room).cells ({ frames := 1, cells := 0, slots := 0, locals := 15 } : Room).slots) := by
  refine MetFree.of_bodySF (plainFor_of_name pn_com_example_gavelwatch_gavelwatch_model_Money) hisR ?_
  intro p e s m args below meth c s₁ Bd hml0 hP hK
  obtain ⟨rfl, hZ, hh⟩ := hP
  have hx := Bd.exec
  have hby := Bd.bytes
  have hml : c.maxLocals = 2 := hml0
  have hown : s.vm.findClass "com/example/gavelwatch/gavelwatch/model/Money" = some m.cls := findClass_of_methodNamed Bd.named
  have hnm := (name_of_methodNamed Bd.named Bd.method).1
  have X0 : Stand p l e ({ frames := 1, cells := 0, slots := 0, locals := 15 } : Room) s m #[(.ref a), (.ref b)] below meth c s₁ [] 0 0 := Stand.of_body Bd
  have e0 : s₁.heap = h0 := by rw [← hh, Bd.state]; rfl
  have N0 := Fr.nil n0
  show Gl p e below s (Qcmp Z a b x y h0 n0) ({ frames := 1, cells := 0, slots := 0, locals := 15 } : Room).cells ({ frames := 1, cells := 0, slots := 0, locals := 15 } : Room).slots (s₁.setTop (entryFrame m #[(.ref a), (.ref b)] 2))
  refine Gl.back (fun _ k => castTop (ef_cmp m a b) k) ?_
  show Gl _ _ _ _ _ _ _ (s₁.setTop (mkF m 0 #[.val (.ref a), .val (.ref b)] []))
  refine Gl.back (fun _ k => XS.aloadN X0.here hx rfl (hb hby d19_0) rfl rfl k) ?_
  show Gl _ _ _ _ _ _ _ (s₁.setTop (mkF m 1 #[.val (.ref a), .val (.ref b)] [(.ref a)]))
  obtain ⟨T41, X41, e41, st41⟩ := getF X0 hx hZ hown (host := "") (Or.inl (hw _ (List.mem_of_getElem? (i := 17) rfl))) Via.refl e0 F_a_cents (g := (mkF m 1 #[.val (.ref a), .val (.ref b)] [(.ref a)])) rfl rfl (hb hby d19_1)
  refine Gl.back (fun _ k => st41 _ k) ?_
  show Gl _ _ _ _ _ _ _ (T41.setTop (mkF m 4 #[.val (.ref a), .val (.ref b)] [(.long x)]))
  refine Gl.back (fun _ k => XS.aloadN X41.here hx rfl (hb hby d19_4) rfl rfl k) ?_
  show Gl _ _ _ _ _ _ _ (T41.setTop (mkF m 5 #[.val (.ref a), .val (.ref b)] [(.ref b), (.long x)]))
  obtain ⟨T42, X42, e42, st42⟩ := getF X41 hx hZ hown (host := "") (Or.inl (hw _ (List.mem_of_getElem? (i := 17) rfl))) Via.refl e41 F_b_cents (g := (mkF m 5 #[.val (.ref a), .val (.ref b)] [(.ref b), (.long x)])) rfl rfl (hb hby d19_5)
  refine Gl.back (fun _ k => st42 _ k) ?_
  show Gl _ _ _ _ _ _ _ (T42.setTop (mkF m 8 #[.val (.ref a), .val (.ref b)] [(.long y), (.long x)]))
  obtain ⟨_, _, ⟨T43, L43, k43, n43⟩, -, X43, ⟨Lc43, hQ43, l43, y43, z43⟩, st43⟩ := Jvm.LawKit.callS X42 hx (y := (⟨"java/lang/Long", "compare", "(JJ)I"⟩ : MethodName)) hown (mvT hZ (hw _ (List.mem_of_getElem? (i := 123) rfl))) (mvT hZ (hw _ (List.mem_of_getElem? (i := 124) rfl))) (mvT hZ (hw _ (List.mem_of_getElem? (i := 125) rfl))) (mvT hZ (hw _ (List.mem_of_getElem? (i := 126) rfl))) (by decide) (backOf (W := 0) (rmlcomp l Z a0 hw [] x y  h0 n0 Z0 ) hZ (hw _ (List.mem_of_getElem? (i := 126) rfl)) (hw _ (List.mem_of_getElem? (i := 125) rfl)) (by decide) (by decide)) (g := (mkF m 8 #[.val (.ref a), .val (.ref b)] [(.long y), (.long x)])) rfl (by rw [hml]; rfl) (argsL := [(.long x), (.long y)]) (rest := []) (lenOf pd__JJ_I rfl) rfl (by show 2 * 0 + _ ≤ _; exact Nat.le_of_eq rfl) (hb hby d19_8) (fun _ _ => ⟨rfl, e42, (by decide : 0 + 0 ≤ _), (by decide : 0 + 0 ≤ _)⟩)
  dsimp only [Pt.U, Pt.locs, Pt.cells, Pt.slots] at X43 l43 y43 z43 st43 hQ43
  subst l43 y43 z43
  obtain ⟨Nq43, hQ43⟩ := hQ43
  rcases hQ43 with ⟨rfl, eh43, hA43⟩ | ⟨rfl, eh43, hA43, hB43⟩ | ⟨rfl, eh43, hA43, hB43⟩
  · have N43 := Fr.app N0 Nq43
    refine Gl.back (fun _ k => st43 _ k) ?_
    show Gl _ _ _ _ _ _ _ (T43.setTop (mkF m 11 #[.val (.ref a), .val (.ref b)] [(.int (-1 : Int32))]))
    exact Gl.ret X43 eh43 (v := (some (.int (-1 : Int32)))) (fun h => by rw [Bd.returns] at h; cases h) Bd.notSynchronized (fun fs hr => retOut X43 hx (w := (.int (-1 : Int32))) Bd.returns rfl (Or.inl ⟨rfl, Or.inl rfl, _, rfl⟩) (hb hby d19_11) hr) ⟨N43, Or.inl ⟨rfl, rfl, hA43⟩⟩ (by decide) (by decide)
  · have N43 := Fr.app N0 Nq43
    refine Gl.back (fun _ k => st43 _ k) ?_
    show Gl _ _ _ _ _ _ _ (T43.setTop (mkF m 11 #[.val (.ref a), .val (.ref b)] [(.int (0 : Int32))]))
    exact Gl.ret X43 eh43 (v := (some (.int (0 : Int32)))) (fun h => by rw [Bd.returns] at h; cases h) Bd.notSynchronized (fun fs hr => retOut X43 hx (w := (.int (0 : Int32))) Bd.returns rfl (Or.inl ⟨rfl, Or.inl rfl, _, rfl⟩) (hb hby d19_11) hr) ⟨N43, Or.inr (Or.inl ⟨rfl, rfl, hA43, hB43⟩)⟩ (by decide) (by decide)
  · have N43 := Fr.app N0 Nq43
    refine Gl.back (fun _ k => st43 _ k) ?_
    show Gl _ _ _ _ _ _ _ (T43.setTop (mkF m 11 #[.val (.ref a), .val (.ref b)] [(.int (1 : Int32))]))
    exact Gl.ret X43 eh43 (v := (some (.int (1 : Int32)))) (fun h => by rw [Bd.returns] at h; cases h) Bd.notSynchronized (fun fs hr => retOut X43 hx (w := (.int (1 : Int32))) Bd.returns rfl (Or.inl ⟨rfl, Or.inl rfl, _, rfl⟩) (hb hby d19_11) hr) ⟨N43, Or.inr (Or.inr ⟨rfl, rfl, hA43, hB43⟩)⟩ (by decide) (by decide)
theorem d17_0 : decode prog_50_method_4_code 0 = .ok (.aload_n 1, 1) := by decide +kernel
theorem d17_1 : decode prog_50_method_4_code 1 = .ok (.aload_n 0, 1) := by decide +kernel
theorem d17_2 : decode prog_50_method_4_code 2 = .ok (.invokevirtual 34, 3) := by decide +kernel
theorem d17_5 : decode prog_50_method_4_code 5 = .ok (.invokevirtual 37, 3) := by decide +kernel
theorem pd__Lcom_example_gavelwatch_gavelwatch_model_Money__I : parseMethodDescriptor "(Lcom/example/gavelwatch/gavelwatch/model/Money;)I" = some ⟨[(.object "com/example/gavelwatch/gavelwatch/model/Money")], some .int⟩ := by decide +kernel
theorem d17_8 : decode prog_50_method_4_code 8 = .ok (.istore_n 2, 1) := by decide +kernel
theorem d17_9 : decode prog_50_method_4_code 9 = .ok (.aload_n 0, 1) := by decide +kernel
theorem d17_10 : decode prog_50_method_4_code 10 = .ok (.invokevirtual 24, 3) := by decide +kernel
theorem d17_13 : decode prog_50_method_4_code 13 = .ok (.ifCond .eq 15, 3) := by decide +kernel
theorem d17_28 : decode prog_50_method_4_code 28 = .ok (.iload_n 2, 1) := by decide +kernel
theorem d17_29 : decode prog_50_method_4_code 29 = .ok (.ifCond .lt 7, 3) := by decide +kernel
theorem d17_32 : decode prog_50_method_4_code 32 = .ok (.iconst 1, 1) := by decide +kernel
theorem d17_33 : decode prog_50_method_4_code 33 = .ok (.goto 4, 3) := by decide +kernel
theorem d17_37 : decode prog_50_method_4_code 37 = .ok (.ireturn, 1) := by decide +kernel
theorem ef_acc0 (m : MethodId) (x0 : Addr) (x1 : Addr) : entryFrame m #[(.ref x0), (.ref x1)] 3 = mkF m 0 #[.val (.ref x0), .val (.ref x1), .unset] [] := by first | (simp [entryFrame, mkF, argsToLocals, Value.category]; done) | rfl
def Qacc0 (Z : State) (a : Addr) (m1 : Addr) (o : Addr) (x y : Int64) (h0 : Heap) (n0 : Nat) (v : Option Value) (h : Heap) (L : List Loc) : Prop := Fr n0 L ∧ (v = some (.int 1) ∧ h = h0)
set_option maxRecDepth 65536 in
set_option maxHeartbeats 40000000 in
theorem rmacc0 (l : Launch) (Z : State) (a0 : Array Value) (hw : ∀ d ∈ tables_1, d.before a0 Z = true) (ws : List Jvm.Cond) (a : Addr) (m1 : Addr) (o : Addr) (x y : Int64) (h0 : Heap) (n0 : Nat) (Z0 : n0 ≤ h0.size) (E_a : Exa Z h0 a "com/example/gavelwatch/gavelwatch/sim/RunningAuction") (F_a_highest : Fld Z h0 a "com/example/gavelwatch/gavelwatch/sim/RunningAuction" "highest" "Lcom/example/gavelwatch/gavelwatch/model/Bid;" .null) (F_a_openingBid : Fld Z h0 a "com/example/gavelwatch/gavelwatch/sim/RunningAuction" "openingBid" "Lcom/example/gavelwatch/gavelwatch/model/Money;" (.ref o)) (E_o : Exa Z h0 o "com/example/gavelwatch/gavelwatch/model/Money") (F_o_cents : Fld Z h0 o "com/example/gavelwatch/gavelwatch/model/Money" "cents" "J" (.long y)) (E_m1 : Exa Z h0 m1 "com/example/gavelwatch/gavelwatch/model/Money") (F_m1_cents : Fld Z h0 m1 "com/example/gavelwatch/gavelwatch/model/Money" "cents" "J" (.long x)) (hge : ¬ x < y) :
    MetFree l (⟨"com/example/gavelwatch/gavelwatch/sim/RunningAuction", "accepts", "(Lcom/example/gavelwatch/gavelwatch/model/Money;)Z"⟩ : MethodName) (head1 (Jvm.Cond.code (⟨"com/example/gavelwatch/gavelwatch/sim/RunningAuction", "accepts", "(Lcom/example/gavelwatch/gavelwatch/model/Money;)Z"⟩ : MethodName) prog_50_method_4_code 3 (some .boolean) :: ws) ({ frames := 2, cells := 0, slots := 0, locals := 28 } : Room)) (fun as0 U => as0 = #[(.ref a), (.ref m1)] ∧ Z.Warmed39 U.vm ∧ U.heap = h0) (fun _ _ _ _ _ => True) (fun _ U oc0 U' => ∃ v L, oc0 = .returned v ∧ Qacc0 Z a m1 o x y h0 n0 v U'.heap L ∧ FrameEnd U oc0 U' L ({ frames := 2, cells := 0, slots := 0, locals := 28 } : Room).cells ({ frames := 2, cells := 0, slots := 0, locals := 28 } : Room).slots) := by
  refine MetFree.of_bodySF (plainFor_of_name pn_com_example_gavelwatch_gavelwatch_sim_RunningAuction) hisR ?_
  intro p e s m args below meth c s₁ Bd hml0 hP hK
  obtain ⟨rfl, hZ, hh⟩ := hP
  have hx := Bd.exec
  have hby := Bd.bytes
  have hml : c.maxLocals = 3 := hml0
  have hown : s.vm.findClass "com/example/gavelwatch/gavelwatch/sim/RunningAuction" = some m.cls := findClass_of_methodNamed Bd.named
  have hnm := (name_of_methodNamed Bd.named Bd.method).1
  have X0 : Stand p l e ({ frames := 2, cells := 0, slots := 0, locals := 28 } : Room) s m #[(.ref a), (.ref m1)] below meth c s₁ [] 0 0 := Stand.of_body Bd
  have e0 : s₁.heap = h0 := by rw [← hh, Bd.state]; rfl
  have N0 := Fr.nil n0
  show Gl p e below s (Qacc0 Z a m1 o x y h0 n0) ({ frames := 2, cells := 0, slots := 0, locals := 28 } : Room).cells ({ frames := 2, cells := 0, slots := 0, locals := 28 } : Room).slots (s₁.setTop (entryFrame m #[(.ref a), (.ref m1)] 3))
  refine Gl.back (fun _ k => castTop (ef_acc0 m a m1) k) ?_
  show Gl _ _ _ _ _ _ _ (s₁.setTop (mkF m 0 #[.val (.ref a), .val (.ref m1), .unset] []))
  refine Gl.back (fun _ k => XS.aloadN X0.here hx rfl (hb hby d17_0) rfl rfl k) ?_
  show Gl _ _ _ _ _ _ _ (s₁.setTop (mkF m 1 #[.val (.ref a), .val (.ref m1), .unset] [(.ref m1)]))
  refine Gl.back (fun _ k => XS.aloadN X0.here hx rfl (hb hby d17_1) rfl rfl k) ?_
  show Gl _ _ _ _ _ _ _ (s₁.setTop (mkF m 2 #[.val (.ref a), .val (.ref m1), .unset] [(.ref a), (.ref m1)]))
  obtain ⟨cq44, kq44, q44a, q44b, q44c⟩ := isOf hZ e0 E_a
  obtain ⟨_, _, ⟨T44, L44, k44, n44⟩, -, X44, ⟨Lc44, hQ44, l44, y44, z44⟩, st44⟩ := X0.virtualBack hx (y := (⟨"com/example/gavelwatch/gavelwatch/sim/RunningAuction", "price", "()Lcom/example/gavelwatch/gavelwatch/model/Money;"⟩ : MethodName)) (z := (⟨"com/example/gavelwatch/gavelwatch/sim/RunningAuction", "price", "()Lcom/example/gavelwatch/gavelwatch/model/Money;"⟩ : MethodName)) hown (mvT hZ (hw _ (List.mem_of_getElem? (i := 112) rfl))) (mvT hZ (hw _ (List.mem_of_getElem? (i := 113) rfl))) (notFace_of_selects (args := #[]) (mvT hZ (hw _ (List.mem_of_getElem? (i := 115) rfl)))) (mvT hZ (hw _ (List.mem_of_getElem? (i := 115) rfl))) (mvT hZ (hw _ (List.mem_of_getElem? (i := 114) rfl))) (by decide) (backOf (W := 1) (rmprice0 l Z a0 hw [] a o h0 n0 Z0 E_a F_a_highest F_a_openingBid) hZ (hw _ (List.mem_of_getElem? (i := 116) rfl)) (hw _ (List.mem_of_getElem? (i := 2) rfl)) (by decide) (by decide)) q44a q44c (g := (mkF m 2 #[.val (.ref a), .val (.ref m1), .unset] [(.ref a), (.ref m1)])) rfl (by rw [hml]; rfl) (Steps.refl _) (argsL := []) (rest := [(.ref m1)]) (lenOf pd___Lcom_example_gavelwatch_gavelwatch_model_Money_ rfl) rfl (by show 2 * 0 + _ ≤ _; exact Nat.le_of_eq rfl) (hb hby d17_2) (fun _ _ => ⟨rfl, e0, (by decide : 0 + 0 ≤ _), (by decide : 0 + 0 ≤ _)⟩)
  dsimp only [Pt.U, Pt.locs, Pt.cells, Pt.slots] at X44 l44 y44 z44 st44 hQ44
  subst l44 y44 z44
  obtain ⟨Nq44, rfl, eh44⟩ := hQ44
  have N44 := Fr.app N0 Nq44
  refine Gl.back (fun _ k => st44.trans k) ?_
  show Gl _ _ _ _ _ _ _ (T44.setTop (mkF m 5 #[.val (.ref a), .val (.ref m1), .unset] [(.ref o), (.ref m1)]))
  obtain ⟨cq45, kq45, q45a, q45b, q45c⟩ := isOf hZ eh44 E_m1
  obtain ⟨_, _, ⟨T45, L45, k45, n45⟩, -, X45, ⟨Lc45, hQ45, l45, y45, z45⟩, st45⟩ := X44.virtualBack hx (y := (⟨"com/example/gavelwatch/gavelwatch/model/Money", "compareTo", "(Lcom/example/gavelwatch/gavelwatch/model/Money;)I"⟩ : MethodName)) (z := (⟨"com/example/gavelwatch/gavelwatch/model/Money", "compareTo", "(Lcom/example/gavelwatch/gavelwatch/model/Money;)I"⟩ : MethodName)) hown (mvT hZ (hw _ (List.mem_of_getElem? (i := 118) rfl))) (mvT hZ (hw _ (List.mem_of_getElem? (i := 119) rfl))) (notFace_of_selects (args := #[]) (mvT hZ (hw _ (List.mem_of_getElem? (i := 121) rfl)))) (mvT hZ (hw _ (List.mem_of_getElem? (i := 121) rfl))) (mvT hZ (hw _ (List.mem_of_getElem? (i := 120) rfl))) (by decide) (backOf (W := 0) (rmcmp l Z a0 hw [] m1 o x y h0 n0 Z0 F_m1_cents F_o_cents) hZ (hw _ (List.mem_of_getElem? (i := 122) rfl)) (hw _ (List.mem_of_getElem? (i := 5) rfl)) (by decide) (by decide)) q45a q45c (g := (mkF m 5 #[.val (.ref a), .val (.ref m1), .unset] [(.ref o), (.ref m1)])) rfl (by rw [hml]; rfl) (Steps.refl _) (argsL := [(.ref o)]) (rest := []) (lenOf pd__Lcom_example_gavelwatch_gavelwatch_model_Money__I rfl) rfl (by show 2 * 0 + _ ≤ _; exact Nat.le_of_eq rfl) (hb hby d17_5) (fun _ _ => ⟨rfl, eh44, (by decide : 0 + 0 ≤ _), (by decide : 0 + 0 ≤ _)⟩)
  dsimp only [Pt.U, Pt.locs, Pt.cells, Pt.slots] at X45 l45 y45 z45 st45 hQ45
  subst l45 y45 z45
  obtain ⟨Nq45, hQ45⟩ := hQ45
  rcases hQ45 with ⟨rfl, eh45, hA45⟩ | ⟨rfl, eh45, hA45, hB45⟩ | ⟨rfl, eh45, hA45, hB45⟩
  · exact absurd hA45 hge
  · have N45 := Fr.app N44 Nq45
    refine Gl.back (fun _ k => st45.trans k) ?_
    show Gl _ _ _ _ _ _ _ (T45.setTop (mkF m 8 #[.val (.ref a), .val (.ref m1), .unset] [(.int (0 : Int32))]))
    refine Gl.back (fun _ k => XS.istoreN X45.here hx rfl (hb hby d17_8) rfl (l' := #[.val (.ref a), .val (.ref m1), .val (.int (0 : Int32))]) rfl k) ?_
    show Gl _ _ _ _ _ _ _ (T45.setTop (mkF m 9 #[.val (.ref a), .val (.ref m1), .val (.int (0 : Int32))] []))
    refine Gl.back (fun _ k => XS.aloadN X45.here hx rfl (hb hby d17_9) rfl rfl k) ?_
    show Gl _ _ _ _ _ _ _ (T45.setTop (mkF m 10 #[.val (.ref a), .val (.ref m1), .val (.int (0 : Int32))] [(.ref a)]))
    obtain ⟨cq46, kq46, q46a, q46b, q46c⟩ := isOf hZ eh45 E_a
    obtain ⟨_, _, ⟨T46, L46, k46, n46⟩, -, X46, ⟨Lc46, hQ46, l46, y46, z46⟩, st46⟩ := X45.virtualBack hx (y := (⟨"com/example/gavelwatch/gavelwatch/sim/RunningAuction", "hasBids", "()Z"⟩ : MethodName)) (z := (⟨"com/example/gavelwatch/gavelwatch/sim/RunningAuction", "hasBids", "()Z"⟩ : MethodName)) hown (mvT hZ (hw _ (List.mem_of_getElem? (i := 117) rfl))) (mvT hZ (hw _ (List.mem_of_getElem? (i := 52) rfl))) (notFace_of_selects (args := #[]) (mvT hZ (hw _ (List.mem_of_getElem? (i := 54) rfl)))) (mvT hZ (hw _ (List.mem_of_getElem? (i := 54) rfl))) (mvT hZ (hw _ (List.mem_of_getElem? (i := 53) rfl))) (by decide) (backOf (W := 0) (rmhas0 l Z a0 hw [] a  h0 n0 Z0 F_a_highest) hZ (hw _ (List.mem_of_getElem? (i := 55) rfl)) (hw _ (List.mem_of_getElem? (i := 2) rfl)) (by decide) (by decide)) q46a q46c (g := (mkF m 10 #[.val (.ref a), .val (.ref m1), .val (.int (0 : Int32))] [(.ref a)])) rfl (by rw [hml]; rfl) (Steps.refl _) (argsL := []) (rest := []) (lenOf pd___Z rfl) rfl (by show 2 * 0 + _ ≤ _; exact Nat.le_of_eq rfl) (hb hby d17_10) (fun _ _ => ⟨rfl, eh45, (by decide : 0 + 0 ≤ _), (by decide : 0 + 0 ≤ _)⟩)
    dsimp only [Pt.U, Pt.locs, Pt.cells, Pt.slots] at X46 l46 y46 z46 st46 hQ46
    subst l46 y46 z46
    obtain ⟨Nq46, rfl, eh46⟩ := hQ46
    have N46 := Fr.app N45 Nq46
    refine Gl.back (fun _ k => st46.trans k) ?_
    show Gl _ _ _ _ _ _ _ (T46.setTop (mkF m 13 #[.val (.ref a), .val (.ref m1), .val (.int (0 : Int32))] [(.int (0 : Int32))]))
    refine Gl.back (fun _ k => XS.ifYes X46.here hx rfl (pc0 := 13) (pc' := 28) rfl (hb hby d17_13) rfl ((if0 _ _).trans (teq (by decide : (0 : Int32) = (0 : Int32))).1) (by decide) (by decide) k) ?_
    show Gl _ _ _ _ _ _ _ (T46.setTop (mkF m 28 #[.val (.ref a), .val (.ref m1), .val (.int (0 : Int32))] []))
    refine Gl.back (fun _ k => XS.iloadN X46.here hx rfl (hb hby d17_28) rfl k) ?_
    show Gl _ _ _ _ _ _ _ (T46.setTop (mkF m 29 #[.val (.ref a), .val (.ref m1), .val (.int (0 : Int32))] [(.int (0 : Int32))]))
    refine Gl.back (fun _ k => XS.ifNo X46.here hx rfl (hb hby d17_29) rfl ((if0 _ _).trans (flt (by decide : ¬ (0 : Int32) < (0 : Int32))).1) k) ?_
    show Gl _ _ _ _ _ _ _ (T46.setTop (mkF m 32 #[.val (.ref a), .val (.ref m1), .val (.int (0 : Int32))] []))
    refine Gl.back (fun _ k => XS.iconst X46.here hx rfl (hb hby d17_32) k) ?_
    show Gl _ _ _ _ _ _ _ (T46.setTop (mkF m 33 #[.val (.ref a), .val (.ref m1), .val (.int (0 : Int32))] [(.int (1 : Int32))]))
    refine Gl.back (fun _ k => XS.goto X46.here hx rfl (pc0 := 33) (pc' := 37) rfl (hb hby d17_33) (by decide) (by decide) k) ?_
    show Gl _ _ _ _ _ _ _ (T46.setTop (mkF m 37 #[.val (.ref a), .val (.ref m1), .val (.int (0 : Int32))] [(.int (1 : Int32))]))
    exact Gl.ret X46 eh46 (v := (some (.int (1 : Int32)))) (fun h => by rw [Bd.returns] at h; cases h) Bd.notSynchronized (fun fs hr => retN X46 hx (t := .boolean) (z := (1 : Int32)) Bd.returns (by simp) (hb hby d17_37) hr) ⟨N46, rfl, rfl⟩ (by decide) (by decide)
  · have N45 := Fr.app N44 Nq45
    refine Gl.back (fun _ k => st45.trans k) ?_
    show Gl _ _ _ _ _ _ _ (T45.setTop (mkF m 8 #[.val (.ref a), .val (.ref m1), .unset] [(.int (1 : Int32))]))
    refine Gl.back (fun _ k => XS.istoreN X45.here hx rfl (hb hby d17_8) rfl (l' := #[.val (.ref a), .val (.ref m1), .val (.int (1 : Int32))]) rfl k) ?_
    show Gl _ _ _ _ _ _ _ (T45.setTop (mkF m 9 #[.val (.ref a), .val (.ref m1), .val (.int (1 : Int32))] []))
    refine Gl.back (fun _ k => XS.aloadN X45.here hx rfl (hb hby d17_9) rfl rfl k) ?_
    show Gl _ _ _ _ _ _ _ (T45.setTop (mkF m 10 #[.val (.ref a), .val (.ref m1), .val (.int (1 : Int32))] [(.ref a)]))
    obtain ⟨cq47, kq47, q47a, q47b, q47c⟩ := isOf hZ eh45 E_a
    obtain ⟨_, _, ⟨T47, L47, k47, n47⟩, -, X47, ⟨Lc47, hQ47, l47, y47, z47⟩, st47⟩ := X45.virtualBack hx (y := (⟨"com/example/gavelwatch/gavelwatch/sim/RunningAuction", "hasBids", "()Z"⟩ : MethodName)) (z := (⟨"com/example/gavelwatch/gavelwatch/sim/RunningAuction", "hasBids", "()Z"⟩ : MethodName)) hown (mvT hZ (hw _ (List.mem_of_getElem? (i := 117) rfl))) (mvT hZ (hw _ (List.mem_of_getElem? (i := 52) rfl))) (notFace_of_selects (args := #[]) (mvT hZ (hw _ (List.mem_of_getElem? (i := 54) rfl)))) (mvT hZ (hw _ (List.mem_of_getElem? (i := 54) rfl))) (mvT hZ (hw _ (List.mem_of_getElem? (i := 53) rfl))) (by decide) (backOf (W := 0) (rmhas0 l Z a0 hw [] a  h0 n0 Z0 F_a_highest) hZ (hw _ (List.mem_of_getElem? (i := 55) rfl)) (hw _ (List.mem_of_getElem? (i := 2) rfl)) (by decide) (by decide)) q47a q47c (g := (mkF m 10 #[.val (.ref a), .val (.ref m1), .val (.int (1 : Int32))] [(.ref a)])) rfl (by rw [hml]; rfl) (Steps.refl _) (argsL := []) (rest := []) (lenOf pd___Z rfl) rfl (by show 2 * 0 + _ ≤ _; exact Nat.le_of_eq rfl) (hb hby d17_10) (fun _ _ => ⟨rfl, eh45, (by decide : 0 + 0 ≤ _), (by decide : 0 + 0 ≤ _)⟩)
    dsimp only [Pt.U, Pt.locs, Pt.cells, Pt.slots] at X47 l47 y47 z47 st47 hQ47
    subst l47 y47 z47
    obtain ⟨Nq47, rfl, eh47⟩ := hQ47
    have N47 := Fr.app N45 Nq47
    refine Gl.back (fun _ k => st47.trans k) ?_
    show Gl _ _ _ _ _ _ _ (T47.setTop (mkF m 13 #[.val (.ref a), .val (.ref m1), .val (.int (1 : Int32))] [(.int (0 : Int32))]))
    refine Gl.back (fun _ k => XS.ifYes X47.here hx rfl (pc0 := 13) (pc' := 28) rfl (hb hby d17_13) rfl ((if0 _ _).trans (teq (by decide : (0 : Int32) = (0 : Int32))).1) (by decide) (by decide) k) ?_
    show Gl _ _ _ _ _ _ _ (T47.setTop (mkF m 28 #[.val (.ref a), .val (.ref m1), .val (.int (1 : Int32))] []))
    refine Gl.back (fun _ k => XS.iloadN X47.here hx rfl (hb hby d17_28) rfl k) ?_
    show Gl _ _ _ _ _ _ _ (T47.setTop (mkF m 29 #[.val (.ref a), .val (.ref m1), .val (.int (1 : Int32))] [(.int (1 : Int32))]))
    refine Gl.back (fun _ k => XS.ifNo X47.here hx rfl (hb hby d17_29) rfl ((if0 _ _).trans (flt (by decide : ¬ (1 : Int32) < (0 : Int32))).1) k) ?_
    show Gl _ _ _ _ _ _ _ (T47.setTop (mkF m 32 #[.val (.ref a), .val (.ref m1), .val (.int (1 : Int32))] []))
    refine Gl.back (fun _ k => XS.iconst X47.here hx rfl (hb hby d17_32) k) ?_
    show Gl _ _ _ _ _ _ _ (T47.setTop (mkF m 33 #[.val (.ref a), .val (.ref m1), .val (.int (1 : Int32))] [(.int (1 : Int32))]))
    refine Gl.back (fun _ k => XS.goto X47.here hx rfl (pc0 := 33) (pc' := 37) rfl (hb hby d17_33) (by decide) (by decide) k) ?_
    show Gl _ _ _ _ _ _ _ (T47.setTop (mkF m 37 #[.val (.ref a), .val (.ref m1), .val (.int (1 : Int32))] [(.int (1 : Int32))]))
    exact Gl.ret X47 eh47 (v := (some (.int (1 : Int32)))) (fun h => by rw [Bd.returns] at h; cases h) Bd.notSynchronized (fun fs hr => retN X47 hx (t := .boolean) (z := (1 : Int32)) Bd.returns (by simp) (hb hby d17_37) hr) ⟨N47, rfl, rfl⟩ (by decide) (by decide)
theorem d17_16 : decode prog_50_method_4_code 16 = .ok (.iload_n 2, 1) := by decide +kernel
theorem d17_17 : decode prog_50_method_4_code 17 = .ok (.ifCond .le 7, 3) := by decide +kernel
theorem d17_20 : decode prog_50_method_4_code 20 = .ok (.iconst 1, 1) := by decide +kernel
theorem d17_21 : decode prog_50_method_4_code 21 = .ok (.goto 16, 3) := by decide +kernel
theorem ef_acc1 (m : MethodId) (x0 : Addr) (x1 : Addr) : entryFrame m #[(.ref x0), (.ref x1)] 3 = mkF m 0 #[.val (.ref x0), .val (.ref x1), .unset] [] := by first | (simp [entryFrame, mkF, argsToLocals, Value.category]; done) | rfl
def Qacc1 (Z : State) (a : Addr) (m1 : Addr) (b o : Addr) (x y : Int64) (h0 : Heap) (n0 : Nat) (v : Option Value) (h : Heap) (L : List Loc) : Prop := Fr n0 L ∧ (v = some (.int 1) ∧ h = h0)
set_option maxRecDepth 65536 in
set_option maxHeartbeats 40000000 in
theorem rmacc1 (l : Launch) (Z : State) (a0 : Array Value) (hw : ∀ d ∈ tables_1, d.before a0 Z = true) (ws : List Jvm.Cond) (a : Addr) (m1 : Addr) (b o : Addr) (x y : Int64) (h0 : Heap) (n0 : Nat) (Z0 : n0 ≤ h0.size) (E_a : Exa Z h0 a "com/example/gavelwatch/gavelwatch/sim/RunningAuction") (F_a_highest : Fld Z h0 a "com/example/gavelwatch/gavelwatch/sim/RunningAuction" "highest" "Lcom/example/gavelwatch/gavelwatch/model/Bid;" (.ref b)) (E_b : Exa Z h0 b "com/example/gavelwatch/gavelwatch/model/Bid") (F_b_amount : Fld Z h0 b "com/example/gavelwatch/gavelwatch/model/Bid" "amount" "Lcom/example/gavelwatch/gavelwatch/model/Money;" (.ref o)) (E_o : Exa Z h0 o "com/example/gavelwatch/gavelwatch/model/Money") (F_o_cents : Fld Z h0 o "com/example/gavelwatch/gavelwatch/model/Money" "cents" "J" (.long y)) (E_m1 : Exa Z h0 m1 "com/example/gavelwatch/gavelwatch/model/Money") (F_m1_cents : Fld Z h0 m1 "com/example/gavelwatch/gavelwatch/model/Money" "cents" "J" (.long x)) (hlt : y < x) :
    MetFree l (⟨"com/example/gavelwatch/gavelwatch/sim/RunningAuction", "accepts", "(Lcom/example/gavelwatch/gavelwatch/model/Money;)Z"⟩ : MethodName) (head1 (Jvm.Cond.code (⟨"com/example/gavelwatch/gavelwatch/sim/RunningAuction", "accepts", "(Lcom/example/gavelwatch/gavelwatch/model/Money;)Z"⟩ : MethodName) prog_50_method_4_code 3 (some .boolean) :: ws) ({ frames := 2, cells := 0, slots := 0, locals := 28 } : Room)) (fun as0 U => as0 = #[(.ref a), (.ref m1)] ∧ Z.Warmed39 U.vm ∧ U.heap = h0) (fun _ _ _ _ _ => True) (fun _ U oc0 U' => ∃ v L, oc0 = .returned v ∧ Qacc1 Z a m1 b o x y h0 n0 v U'.heap L ∧ FrameEnd U oc0 U' L ({ frames := 2, cells := 0, slots := 0, locals := 28 } : Room).cells ({ frames := 2, cells := 0, slots := 0, locals := 28 } : Room).slots) := by
  refine MetFree.of_bodySF (plainFor_of_name pn_com_example_gavelwatch_gavelwatch_sim_RunningAuction) hisR ?_
  intro p e s m args below meth c s₁ Bd hml0 hP hK
  obtain ⟨rfl, hZ, hh⟩ := hP
  have hx := Bd.exec
  have hby := Bd.bytes
  have hml : c.maxLocals = 3 := hml0
  have hown : s.vm.findClass "com/example/gavelwatch/gavelwatch/sim/RunningAuction" = some m.cls := findClass_of_methodNamed Bd.named
  have hnm := (name_of_methodNamed Bd.named Bd.method).1
  have X0 : Stand p l e ({ frames := 2, cells := 0, slots := 0, locals := 28 } : Room) s m #[(.ref a), (.ref m1)] below meth c s₁ [] 0 0 := Stand.of_body Bd
  have e0 : s₁.heap = h0 := by rw [← hh, Bd.state]; rfl
  have N0 := Fr.nil n0
  show Gl p e below s (Qacc1 Z a m1 b o x y h0 n0) ({ frames := 2, cells := 0, slots := 0, locals := 28 } : Room).cells ({ frames := 2, cells := 0, slots := 0, locals := 28 } : Room).slots (s₁.setTop (entryFrame m #[(.ref a), (.ref m1)] 3))
  refine Gl.back (fun _ k => castTop (ef_acc1 m a m1) k) ?_
  show Gl _ _ _ _ _ _ _ (s₁.setTop (mkF m 0 #[.val (.ref a), .val (.ref m1), .unset] []))
  refine Gl.back (fun _ k => XS.aloadN X0.here hx rfl (hb hby d17_0) rfl rfl k) ?_
  show Gl _ _ _ _ _ _ _ (s₁.setTop (mkF m 1 #[.val (.ref a), .val (.ref m1), .unset] [(.ref m1)]))
  refine Gl.back (fun _ k => XS.aloadN X0.here hx rfl (hb hby d17_1) rfl rfl k) ?_
  show Gl _ _ _ _ _ _ _ (s₁.setTop (mkF m 2 #[.val (.ref a), .val (.ref m1), .unset] [(.ref a), (.ref m1)]))
  obtain ⟨cq48, kq48, q48a, q48b, q48c⟩ := isOf hZ e0 E_a
  obtain ⟨_, _, ⟨T48, L48, k48, n48⟩, -, X48, ⟨Lc48, hQ48, l48, y48, z48⟩, st48⟩ := X0.virtualBack hx (y := (⟨"com/example/gavelwatch/gavelwatch/sim/RunningAuction", "price", "()Lcom/example/gavelwatch/gavelwatch/model/Money;"⟩ : MethodName)) (z := (⟨"com/example/gavelwatch/gavelwatch/sim/RunningAuction", "price", "()Lcom/example/gavelwatch/gavelwatch/model/Money;"⟩ : MethodName)) hown (mvT hZ (hw _ (List.mem_of_getElem? (i := 112) rfl))) (mvT hZ (hw _ (List.mem_of_getElem? (i := 113) rfl))) (notFace_of_selects (args := #[]) (mvT hZ (hw _ (List.mem_of_getElem? (i := 115) rfl)))) (mvT hZ (hw _ (List.mem_of_getElem? (i := 115) rfl))) (mvT hZ (hw _ (List.mem_of_getElem? (i := 114) rfl))) (by decide) (backOf (W := 1) (rmprice1 l Z a0 hw [] a b o h0 n0 Z0 E_a F_a_highest E_b F_b_amount) hZ (hw _ (List.mem_of_getElem? (i := 116) rfl)) (hw _ (List.mem_of_getElem? (i := 2) rfl)) (by decide) (by decide)) q48a q48c (g := (mkF m 2 #[.val (.ref a), .val (.ref m1), .unset] [(.ref a), (.ref m1)])) rfl (by rw [hml]; rfl) (Steps.refl _) (argsL := []) (rest := [(.ref m1)]) (lenOf pd___Lcom_example_gavelwatch_gavelwatch_model_Money_ rfl) rfl (by show 2 * 0 + _ ≤ _; exact Nat.le_of_eq rfl) (hb hby d17_2) (fun _ _ => ⟨rfl, e0, (by decide : 0 + 0 ≤ _), (by decide : 0 + 0 ≤ _)⟩)
  dsimp only [Pt.U, Pt.locs, Pt.cells, Pt.slots] at X48 l48 y48 z48 st48 hQ48
  subst l48 y48 z48
  obtain ⟨Nq48, rfl, eh48⟩ := hQ48
  have N48 := Fr.app N0 Nq48
  refine Gl.back (fun _ k => st48.trans k) ?_
  show Gl _ _ _ _ _ _ _ (T48.setTop (mkF m 5 #[.val (.ref a), .val (.ref m1), .unset] [(.ref o), (.ref m1)]))
  obtain ⟨cq49, kq49, q49a, q49b, q49c⟩ := isOf hZ eh48 E_m1
  obtain ⟨_, _, ⟨T49, L49, k49, n49⟩, -, X49, ⟨Lc49, hQ49, l49, y49, z49⟩, st49⟩ := X48.virtualBack hx (y := (⟨"com/example/gavelwatch/gavelwatch/model/Money", "compareTo", "(Lcom/example/gavelwatch/gavelwatch/model/Money;)I"⟩ : MethodName)) (z := (⟨"com/example/gavelwatch/gavelwatch/model/Money", "compareTo", "(Lcom/example/gavelwatch/gavelwatch/model/Money;)I"⟩ : MethodName)) hown (mvT hZ (hw _ (List.mem_of_getElem? (i := 118) rfl))) (mvT hZ (hw _ (List.mem_of_getElem? (i := 119) rfl))) (notFace_of_selects (args := #[]) (mvT hZ (hw _ (List.mem_of_getElem? (i := 121) rfl)))) (mvT hZ (hw _ (List.mem_of_getElem? (i := 121) rfl))) (mvT hZ (hw _ (List.mem_of_getElem? (i := 120) rfl))) (by decide) (backOf (W := 0) (rmcmp l Z a0 hw [] m1 o x y h0 n0 Z0 F_m1_cents F_o_cents) hZ (hw _ (List.mem_of_getElem? (i := 122) rfl)) (hw _ (List.mem_of_getElem? (i := 5) rfl)) (by decide) (by decide)) q49a q49c (g := (mkF m 5 #[.val (.ref a), .val (.ref m1), .unset] [(.ref o), (.ref m1)])) rfl (by rw [hml]; rfl) (Steps.refl _) (argsL := [(.ref o)]) (rest := []) (lenOf pd__Lcom_example_gavelwatch_gavelwatch_model_Money__I rfl) rfl (by show 2 * 0 + _ ≤ _; exact Nat.le_of_eq rfl) (hb hby d17_5) (fun _ _ => ⟨rfl, eh48, (by decide : 0 + 0 ≤ _), (by decide : 0 + 0 ≤ _)⟩)
  dsimp only [Pt.U, Pt.locs, Pt.cells, Pt.slots] at X49 l49 y49 z49 st49 hQ49
  subst l49 y49 z49
  obtain ⟨Nq49, hQ49⟩ := hQ49
  rcases hQ49 with ⟨rfl, eh49, hA49⟩ | ⟨rfl, eh49, hA49, hB49⟩ | ⟨rfl, eh49, hA49, hB49⟩
  · exact absurd hA49 (own_asym hlt)
  · exact absurd (hB49 ▸ hlt) own_irr
  · have N49 := Fr.app N48 Nq49
    refine Gl.back (fun _ k => st49.trans k) ?_
    show Gl _ _ _ _ _ _ _ (T49.setTop (mkF m 8 #[.val (.ref a), .val (.ref m1), .unset] [(.int (1 : Int32))]))
    refine Gl.back (fun _ k => XS.istoreN X49.here hx rfl (hb hby d17_8) rfl (l' := #[.val (.ref a), .val (.ref m1), .val (.int (1 : Int32))]) rfl k) ?_
    show Gl _ _ _ _ _ _ _ (T49.setTop (mkF m 9 #[.val (.ref a), .val (.ref m1), .val (.int (1 : Int32))] []))
    refine Gl.back (fun _ k => XS.aloadN X49.here hx rfl (hb hby d17_9) rfl rfl k) ?_
    show Gl _ _ _ _ _ _ _ (T49.setTop (mkF m 10 #[.val (.ref a), .val (.ref m1), .val (.int (1 : Int32))] [(.ref a)]))
    obtain ⟨cq50, kq50, q50a, q50b, q50c⟩ := isOf hZ eh49 E_a
    obtain ⟨_, _, ⟨T50, L50, k50, n50⟩, -, X50, ⟨Lc50, hQ50, l50, y50, z50⟩, st50⟩ := X49.virtualBack hx (y := (⟨"com/example/gavelwatch/gavelwatch/sim/RunningAuction", "hasBids", "()Z"⟩ : MethodName)) (z := (⟨"com/example/gavelwatch/gavelwatch/sim/RunningAuction", "hasBids", "()Z"⟩ : MethodName)) hown (mvT hZ (hw _ (List.mem_of_getElem? (i := 117) rfl))) (mvT hZ (hw _ (List.mem_of_getElem? (i := 52) rfl))) (notFace_of_selects (args := #[]) (mvT hZ (hw _ (List.mem_of_getElem? (i := 54) rfl)))) (mvT hZ (hw _ (List.mem_of_getElem? (i := 54) rfl))) (mvT hZ (hw _ (List.mem_of_getElem? (i := 53) rfl))) (by decide) (backOf (W := 0) (rmhas1 l Z a0 hw [] a b h0 n0 Z0 F_a_highest) hZ (hw _ (List.mem_of_getElem? (i := 55) rfl)) (hw _ (List.mem_of_getElem? (i := 2) rfl)) (by decide) (by decide)) q50a q50c (g := (mkF m 10 #[.val (.ref a), .val (.ref m1), .val (.int (1 : Int32))] [(.ref a)])) rfl (by rw [hml]; rfl) (Steps.refl _) (argsL := []) (rest := []) (lenOf pd___Z rfl) rfl (by show 2 * 0 + _ ≤ _; exact Nat.le_of_eq rfl) (hb hby d17_10) (fun _ _ => ⟨rfl, eh49, (by decide : 0 + 0 ≤ _), (by decide : 0 + 0 ≤ _)⟩)
    dsimp only [Pt.U, Pt.locs, Pt.cells, Pt.slots] at X50 l50 y50 z50 st50 hQ50
    subst l50 y50 z50
    obtain ⟨Nq50, rfl, eh50⟩ := hQ50
    have N50 := Fr.app N49 Nq50
    refine Gl.back (fun _ k => st50.trans k) ?_
    show Gl _ _ _ _ _ _ _ (T50.setTop (mkF m 13 #[.val (.ref a), .val (.ref m1), .val (.int (1 : Int32))] [(.int (1 : Int32))]))
    refine Gl.back (fun _ k => XS.ifNo X50.here hx rfl (hb hby d17_13) rfl ((if0 _ _).trans (feq (by decide : ¬ (1 : Int32) = (0 : Int32))).1) k) ?_
    show Gl _ _ _ _ _ _ _ (T50.setTop (mkF m 16 #[.val (.ref a), .val (.ref m1), .val (.int (1 : Int32))] []))
    refine Gl.back (fun _ k => XS.iloadN X50.here hx rfl (hb hby d17_16) rfl k) ?_
    show Gl _ _ _ _ _ _ _ (T50.setTop (mkF m 17 #[.val (.ref a), .val (.ref m1), .val (.int (1 : Int32))] [(.int (1 : Int32))]))
    refine Gl.back (fun _ k => XS.ifNo X50.here hx rfl (hb hby d17_17) rfl ((if0 _ _).trans (tlt (by decide : (0 : Int32) < (1 : Int32))).2.2.2) k) ?_
    show Gl _ _ _ _ _ _ _ (T50.setTop (mkF m 20 #[.val (.ref a), .val (.ref m1), .val (.int (1 : Int32))] []))
    refine Gl.back (fun _ k => XS.iconst X50.here hx rfl (hb hby d17_20) k) ?_
    show Gl _ _ _ _ _ _ _ (T50.setTop (mkF m 21 #[.val (.ref a), .val (.ref m1), .val (.int (1 : Int32))] [(.int (1 : Int32))]))
    refine Gl.back (fun _ k => XS.goto X50.here hx rfl (pc0 := 21) (pc' := 37) rfl (hb hby d17_21) (by decide) (by decide) k) ?_
    show Gl _ _ _ _ _ _ _ (T50.setTop (mkF m 37 #[.val (.ref a), .val (.ref m1), .val (.int (1 : Int32))] [(.int (1 : Int32))]))
    exact Gl.ret X50 eh50 (v := (some (.int (1 : Int32)))) (fun h => by rw [Bd.returns] at h; cases h) Bd.notSynchronized (fun fs hr => retN X50 hx (t := .boolean) (z := (1 : Int32)) Bd.returns (by simp) (hb hby d17_37) hr) ⟨N50, rfl, rfl⟩ (by decide) (by decide)
theorem d22_0 : decode jdk_31_method_11_code 0 = .ok (.aload_n 0, 1) := by decide +kernel
theorem d22_1 : decode jdk_31_method_11_code 1 = .ok (.ifnonnull 12, 3) := by decide +kernel
theorem d22_13 : decode jdk_31_method_11_code 13 = .ok (.aload_n 0, 1) := by decide +kernel
theorem d22_14 : decode jdk_31_method_11_code 14 = .ok (.areturn, 1) := by decide +kernel
theorem pn_java_util_Objects : plainName "java/util/Objects" = true := by first | (simp [plainName, overriddenIn]; done) | decide +kernel
theorem ef_rnn (m : MethodId) (x0 : Addr) (x1 : Addr) : entryFrame m #[(.ref x0), (.ref x1)] 2 = mkF m 0 #[.val (.ref x0), .val (.ref x1)] [] := by first | (simp [entryFrame, mkF, argsToLocals, Value.category]; done) | rfl
def Qrnn (Z : State) (a : Addr) (b : Addr) (h0 : Heap) (n0 : Nat) (v : Option Value) (h : Heap) (L : List Loc) : Prop := Fr n0 L ∧ (v = some (.ref a) ∧ h = h0)
set_option maxRecDepth 65536 in
set_option maxHeartbeats 40000000 in
theorem rmrnn (l : Launch) (Z : State) (a0 : Array Value) (hw : ∀ d ∈ tables_1, d.before a0 Z = true) (ws : List Jvm.Cond) (a : Addr) (b : Addr) (h0 : Heap) (n0 : Nat) (Z0 : n0 ≤ h0.size) :
    MetFree l (⟨"java/util/Objects", "requireNonNull", "(Ljava/lang/Object;Ljava/lang/String;)Ljava/lang/Object;"⟩ : MethodName) (head1 (Jvm.Cond.code (⟨"java/util/Objects", "requireNonNull", "(Ljava/lang/Object;Ljava/lang/String;)Ljava/lang/Object;"⟩ : MethodName) jdk_31_method_11_code 2 (some (.object "java/lang/Object")) :: ws) ({ frames := 0, cells := 0, slots := 0, locals := 0 } : Room)) (fun as0 U => as0 = #[(.ref a), (.ref b)] ∧ Z.Warmed39 U.vm ∧ U.heap = h0) (fun _ _ _ _ _ => True) (fun _ U oc0 U' => ∃ v L, oc0 = .returned v ∧ Qrnn Z a b h0 n0 v U'.heap L ∧ FrameEnd U oc0 U' L ({ frames := 0, cells := 0, slots := 0, locals := 0 } : Room).cells ({ frames := 0, cells := 0, slots := 0, locals := 0 } : Room).slots) := by
  refine MetFree.of_bodySF (plainFor_of_name pn_java_util_Objects) hisR ?_
  intro p e s m args below meth c s₁ Bd hml0 hP hK
  obtain ⟨rfl, hZ, hh⟩ := hP
  have hx := Bd.exec
  have hby := Bd.bytes
  have hml : c.maxLocals = 2 := hml0
  have hown : s.vm.findClass "java/util/Objects" = some m.cls := findClass_of_methodNamed Bd.named
  have hnm := (name_of_methodNamed Bd.named Bd.method).1
  have X0 : Stand p l e ({ frames := 0, cells := 0, slots := 0, locals := 0 } : Room) s m #[(.ref a), (.ref b)] below meth c s₁ [] 0 0 := Stand.of_body Bd
  have e0 : s₁.heap = h0 := by rw [← hh, Bd.state]; rfl
  have N0 := Fr.nil n0
  show Gl p e below s (Qrnn Z a b h0 n0) ({ frames := 0, cells := 0, slots := 0, locals := 0 } : Room).cells ({ frames := 0, cells := 0, slots := 0, locals := 0 } : Room).slots (s₁.setTop (entryFrame m #[(.ref a), (.ref b)] 2))
  refine Gl.back (fun _ k => castTop (ef_rnn m a b) k) ?_
  show Gl _ _ _ _ _ _ _ (s₁.setTop (mkF m 0 #[.val (.ref a), .val (.ref b)] []))
  refine Gl.back (fun _ k => XS.aloadN X0.here hx rfl (hb hby d22_0) rfl rfl k) ?_
  show Gl _ _ _ _ _ _ _ (s₁.setTop (mkF m 1 #[.val (.ref a), .val (.ref b)] [(.ref a)]))
  refine Gl.back (fun _ k => XS.ifnonnullYes X0.here hx rfl (pc0 := 1) (pc' := 13) rfl (hb hby d22_1) rfl (by decide) (by decide) k) ?_
  show Gl _ _ _ _ _ _ _ (s₁.setTop (mkF m 13 #[.val (.ref a), .val (.ref b)] []))
  refine Gl.back (fun _ k => XS.aloadN X0.here hx rfl (hb hby d22_13) rfl rfl k) ?_
  show Gl _ _ _ _ _ _ _ (s₁.setTop (mkF m 14 #[.val (.ref a), .val (.ref b)] [(.ref a)]))
  exact Gl.ret X0 e0 (v := (some (.ref a))) (fun h => by rw [Bd.returns] at h; cases h) Bd.notSynchronized (fun fs hr => retOut X0 hx (w := (.ref a)) Bd.returns rfl (Or.inr (Or.inr (Or.inr (Or.inr ⟨rfl, rfl, rfl⟩)))) (hb hby d22_14) hr) ⟨N0, rfl, rfl⟩ (by decide) (by decide)
theorem d21_0 : decode prog_28_method_1_code 0 = .ok (.aload_n 0, 1) := by decide +kernel
theorem d21_1 : decode prog_28_method_1_code 1 = .ok (.invokespecial 1, 3) := by decide +kernel
theorem d21_4 : decode prog_28_method_1_code 4 = .ok (.aload_n 1, 1) := by decide +kernel
theorem d21_5 : decode prog_28_method_1_code 5 = .ok (.ldc 7, 2) := by decide +kernel
theorem d21_7 : decode prog_28_method_1_code 7 = .ok (.invokestatic 9, 3) := by decide +kernel
theorem pd__Ljava_lang_Object_Ljava_lang_String__Ljava_lang_Object_ : parseMethodDescriptor "(Ljava/lang/Object;Ljava/lang/String;)Ljava/lang/Object;" = some ⟨[(.object "java/lang/Object"), (.object "java/lang/String")], some (.object "java/lang/Object")⟩ := by decide +kernel
theorem d21_10 : decode prog_28_method_1_code 10 = .ok (.pop, 1) := by decide +kernel
theorem d21_11 : decode prog_28_method_1_code 11 = .ok (.aload_n 2, 1) := by decide +kernel
theorem d21_12 : decode prog_28_method_1_code 12 = .ok (.ldc 15, 2) := by decide +kernel
theorem d21_14 : decode prog_28_method_1_code 14 = .ok (.invokestatic 9, 3) := by decide +kernel
theorem d21_17 : decode prog_28_method_1_code 17 = .ok (.pop, 1) := by decide +kernel
theorem d21_18 : decode prog_28_method_1_code 18 = .ok (.aload_n 0, 1) := by decide +kernel
theorem d21_19 : decode prog_28_method_1_code 19 = .ok (.aload_n 1, 1) := by decide +kernel
theorem d21_20 : decode prog_28_method_1_code 20 = .ok (.putfield 17, 3) := by decide +kernel
theorem d21_23 : decode prog_28_method_1_code 23 = .ok (.aload_n 0, 1) := by decide +kernel
theorem d21_24 : decode prog_28_method_1_code 24 = .ok (.aload_n 2, 1) := by decide +kernel
theorem d21_25 : decode prog_28_method_1_code 25 = .ok (.putfield 22, 3) := by decide +kernel
theorem d21_28 : decode prog_28_method_1_code 28 = .ok (.aload_n 0, 1) := by decide +kernel
theorem d21_29 : decode prog_28_method_1_code 29 = .ok (.lload_n 3, 1) := by decide +kernel
theorem d21_30 : decode prog_28_method_1_code 30 = .ok (.putfield 25, 3) := by decide +kernel
theorem d21_33 : decode prog_28_method_1_code 33 = .ok (.return_, 1) := by decide +kernel
theorem ef_bidi (m : MethodId) (x0 : Addr) (x1 : Addr) (x2 : Addr) (x3 : Int64) : entryFrame m #[(.ref x0), (.ref x1), (.ref x2), (.long x3)] 5 = mkF m 0 #[.val (.ref x0), .val (.ref x1), .val (.ref x2), .val (.long x3), .second] [] := by first | (simp [entryFrame, mkF, argsToLocals, Value.category]; done) | rfl
def Qbidi (Z : State) (a : Addr) (b1 : Addr) (m1 : Addr) (t1 : Int64) (h0 : Heap) (n0 : Nat) (v : Option Value) (h : Heap) (L : List Loc) : Prop := Fr n0 L ∧ (v = none ∧ Keep h0 h [a] ∧ Fld Z h a "com/example/gavelwatch/gavelwatch/model/Bid" "amount" "Lcom/example/gavelwatch/gavelwatch/model/Money;" (.ref m1))
set_option maxRecDepth 65536 in
set_option maxHeartbeats 40000000 in
theorem rmbidi (l : Launch) (Z : State) (a0 : Array Value) (hw : ∀ d ∈ tables_1, d.before a0 Z = true) (ws : List Jvm.Cond) (a : Addr) (b1 : Addr) (m1 : Addr) (t1 : Int64) (h0 : Heap) (n0 : Nat) (Z0 : n0 ≤ h0.size) (g_a : n0 ≤ a) (E_a : Exa Z h0 a "com/example/gavelwatch/gavelwatch/model/Bid") (F_a_bidder : Fld Z h0 a "com/example/gavelwatch/gavelwatch/model/Bid" "bidder" "Ljava/lang/String;" .null) (F_a_amount : Fld Z h0 a "com/example/gavelwatch/gavelwatch/model/Bid" "amount" "Lcom/example/gavelwatch/gavelwatch/model/Money;" .null) (F_a_time : Fld Z h0 a "com/example/gavelwatch/gavelwatch/model/Bid" "time" "J" (.long (0 : Int64))) :
    MetFree l (⟨"com/example/gavelwatch/gavelwatch/model/Bid", "<init>", "(Ljava/lang/String;Lcom/example/gavelwatch/gavelwatch/model/Money;J)V"⟩ : MethodName) (head1 (Jvm.Cond.code (⟨"com/example/gavelwatch/gavelwatch/model/Bid", "<init>", "(Ljava/lang/String;Lcom/example/gavelwatch/gavelwatch/model/Money;J)V"⟩ : MethodName) prog_28_method_1_code 5 none :: ws) ({ frames := 2, cells := 4, slots := 56, locals := 24 } : Room)) (fun as0 U => as0 = #[(.ref a), (.ref b1), (.ref m1), (.long t1)] ∧ Z.Warmed39 U.vm ∧ U.heap = h0) (fun _ _ _ _ _ => True) (fun _ U oc0 U' => ∃ v L, oc0 = .returned v ∧ Qbidi Z a b1 m1 t1 h0 n0 v U'.heap L ∧ ReturnedEndW U oc0 U' L ({ frames := 2, cells := 4, slots := 56, locals := 24 } : Room).cells ({ frames := 2, cells := 4, slots := 56, locals := 24 } : Room).slots) := by
  refine MetFree.of_bodySF (plainFor_of_name pn_com_example_gavelwatch_gavelwatch_model_Bid) hisR ?_
  intro p e s m args below meth c s₁ Bd hml0 hP hK
  obtain ⟨rfl, hZ, hh⟩ := hP
  have hx := Bd.exec
  have hby := Bd.bytes
  have hml : c.maxLocals = 5 := hml0
  have hown : s.vm.findClass "com/example/gavelwatch/gavelwatch/model/Bid" = some m.cls := findClass_of_methodNamed Bd.named
  have hnm := (name_of_methodNamed Bd.named Bd.method).1
  have X0 : Stand p l e ({ frames := 2, cells := 4, slots := 56, locals := 24 } : Room) (s.setVm s.vm) m #[(.ref a), (.ref b1), (.ref m1), (.long t1)] below meth c s₁ [] 0 0 := Stand.of_body Bd
  have e0 : s₁.heap = h0 := by rw [← hh, Bd.state]; rfl
  have N0 := Fr.nil n0
  have hZ0 : Z.Warmed39 (s.setVm s.vm).vm := hZ
  have hown0 : (s.setVm s.vm).vm.findClass "com/example/gavelwatch/gavelwatch/model/Bid" = some m.cls := hown
  have hS0 : s.Since s.vm 0 := (State.WarmedH.refl s).since 0
  have SK0 : 0 ≤ h0.size := Nat.zero_le _
  show GlW p e below s (Qbidi Z a b1 m1 t1 h0 n0) ({ frames := 2, cells := 4, slots := 56, locals := 24 } : Room).cells ({ frames := 2, cells := 4, slots := 56, locals := 24 } : Room).slots (s₁.setTop (entryFrame m #[(.ref a), (.ref b1), (.ref m1), (.long t1)] 5))
  refine GlW.back (fun _ k => castTop (ef_bidi m a b1 m1 t1) k) ?_
  show GlW _ _ _ _ _ _ _ (s₁.setTop (mkF m 0 #[.val (.ref a), .val (.ref b1), .val (.ref m1), .val (.long t1), .second] []))
  refine GlW.back (fun _ k => XS.aloadN X0.here hx rfl (hb hby d21_0) rfl rfl k) ?_
  show GlW _ _ _ _ _ _ _ (s₁.setTop (mkF m 1 #[.val (.ref a), .val (.ref b1), .val (.ref m1), .val (.long t1), .second] [(.ref a)]))
  obtain ⟨_, _, ⟨T51, L51, k51, n51⟩, -, X51, ⟨Lc51, hQ51, l51, y51, z51⟩, st51⟩ := X0.specialBack hx (y := (⟨"java/lang/Record", "<init>", "()V"⟩ : MethodName)) rfl hown0 (mvT hZ0 (hw _ (List.mem_of_getElem? (i := 133) rfl))) (mvT hZ0 (hw _ (List.mem_of_getElem? (i := 10) rfl))) (mvT hZ0 (hw _ (List.mem_of_getElem? (i := 13) rfl))) (by decide) (backOf (W := 0) (rmrec l Z a0 hw [] a  h0 n0 Z0 ) hZ0 (hw _ (List.mem_of_getElem? (i := 13) rfl)) (hw _ (List.mem_of_getElem? (i := 12) rfl)) (by decide) (by decide)) (g := (mkF m 1 #[.val (.ref a), .val (.ref b1), .val (.ref m1), .val (.long t1), .second] [(.ref a)])) rfl (by rw [hml]; rfl) (Steps.refl _) (a := a) (argsL := []) (rest := []) (lenOf pd___V rfl) rfl (by show 2 * 0 + _ ≤ _; exact Nat.le_of_eq rfl) (hb hby d21_1) (fun _ _ => ⟨rfl, e0, (by decide : 0 + 0 ≤ _), (by decide : 0 + 0 ≤ _)⟩)
  dsimp only [Pt.U, Pt.locs, Pt.cells, Pt.slots] at X51 l51 y51 z51 st51 hQ51
  subst l51 y51 z51
  obtain ⟨Nq51, rfl, eh51⟩ := hQ51
  have N51 := Fr.app N0 Nq51
  refine GlW.back (fun _ k => st51.trans k) ?_
  show GlW _ _ _ _ _ _ _ (T51.setTop (mkF m 4 #[.val (.ref a), .val (.ref b1), .val (.ref m1), .val (.long t1), .second] []))
  refine GlW.back (fun _ k => XS.aloadN X51.here hx rfl (hb hby d21_4) rfl rfl k) ?_
  show GlW _ _ _ _ _ _ _ (T51.setTop (mkF m 5 #[.val (.ref a), .val (.ref b1), .val (.ref m1), .val (.long t1), .second] [(.ref b1)]))
  have wS : ∀ d ∈ Bundle.stringAtoms, d.before a0 Z = true := fun d hd => hw d ((by decide +kernel : ∀ d ∈ Bundle.stringAtoms, d ∈ tables_1) d hd)
  obtain ⟨b52, T52, h52, k152, X52, e52, E52, hS52, SK52, hZ52, hown52, st52⟩ := ldcS X51 hx hZ0 hown0 (hw _ (List.mem_of_getElem? (i := 134) rfl)) wS eh51 hS0 SK0 (g := (mkF m 5 #[.val (.ref a), .val (.ref b1), .val (.ref m1), .val (.long t1), .second] [(.ref b1)])) rfl (hb hby d21_5) (n := 24) (by decide +kernel) (by decide) (by decide) (by decide)
  have Z52 : n0 ≤ h52.size := Nat.le_trans Z0 E52.1
  have K52 := Keep.ext (Keep.refl h0 [a]) E52
  refine GlW.back (fun _ k => st52 _ k) ?_
  show GlW _ _ _ _ _ _ _ (T52.setTop (mkF m 7 #[.val (.ref a), .val (.ref b1), .val (.ref m1), .val (.long t1), .second] [(.ref b52), (.ref b1)]))
  obtain ⟨_, _, ⟨T53, L53, k53, n53⟩, -, X53, ⟨Lc53, hQ53, l53, y53, z53⟩, st53⟩ := Jvm.LawKit.callS X52 hx (y := (⟨"java/util/Objects", "requireNonNull", "(Ljava/lang/Object;Ljava/lang/String;)Ljava/lang/Object;"⟩ : MethodName)) hown52 (mvT hZ52 (hw _ (List.mem_of_getElem? (i := 137) rfl))) (mvT hZ52 (hw _ (List.mem_of_getElem? (i := 138) rfl))) (mvT hZ52 (hw _ (List.mem_of_getElem? (i := 139) rfl))) (mvT hZ52 (hw _ (List.mem_of_getElem? (i := 140) rfl))) (by decide) (backOf (W := 0) (rmrnn l Z a0 hw [] b1 b52  h52 n0 Z52 ) hZ52 (hw _ (List.mem_of_getElem? (i := 140) rfl)) (hw _ (List.mem_of_getElem? (i := 139) rfl)) (by decide) (by decide)) (g := (mkF m 7 #[.val (.ref a), .val (.ref b1), .val (.ref m1), .val (.long t1), .second] [(.ref b52), (.ref b1)])) rfl (by rw [hml]; rfl) (argsL := [(.ref b1), (.ref b52)]) (rest := []) (lenOf pd__Ljava_lang_Object_Ljava_lang_String__Ljava_lang_Object_ rfl) rfl (by show 2 * 0 + _ ≤ _; exact Nat.le_of_eq rfl) (hb hby d21_7) (fun _ _ => ⟨rfl, e52, (by decide : 2 + 0 ≤ _), (by decide : 28 + 0 ≤ _)⟩)
  dsimp only [Pt.U, Pt.locs, Pt.cells, Pt.slots] at X53 l53 y53 z53 st53 hQ53
  subst l53 y53 z53
  obtain ⟨Nq53, rfl, eh53⟩ := hQ53
  have N53 := Fr.app N51 Nq53
  refine GlW.back (fun _ k => st53 _ k) ?_
  show GlW _ _ _ _ _ _ _ (T53.setTop (mkF m 10 #[.val (.ref a), .val (.ref b1), .val (.ref m1), .val (.long t1), .second] [(.ref b1)]))
  refine GlW.back (fun _ k => XS.pop X53.here hx rfl (hb hby d21_10) rfl rfl k) ?_
  show GlW _ _ _ _ _ _ _ (T53.setTop (mkF m 11 #[.val (.ref a), .val (.ref b1), .val (.ref m1), .val (.long t1), .second] []))
  refine GlW.back (fun _ k => XS.aloadN X53.here hx rfl (hb hby d21_11) rfl rfl k) ?_
  show GlW _ _ _ _ _ _ _ (T53.setTop (mkF m 12 #[.val (.ref a), .val (.ref b1), .val (.ref m1), .val (.long t1), .second] [(.ref m1)]))
  have wS : ∀ d ∈ Bundle.stringAtoms, d.before a0 Z = true := fun d hd => hw d ((by decide +kernel : ∀ d ∈ Bundle.stringAtoms, d ∈ tables_1) d hd)
  obtain ⟨b54, T54, h54, k154, X54, e54, E54, hS54, SK54, hZ54, hown54, st54⟩ := ldcS X53 hx hZ52 hown52 (hw _ (List.mem_of_getElem? (i := 141) rfl)) wS eh53 hS52 SK52 (g := (mkF m 12 #[.val (.ref a), .val (.ref b1), .val (.ref m1), .val (.long t1), .second] [(.ref m1)])) rfl (hb hby d21_12) (n := 24) (by decide +kernel) (by decide) (by decide) (by decide)
  have Z54 : n0 ≤ h54.size := Nat.le_trans Z52 E54.1
  have K54 := Keep.ext K52 E54
  refine GlW.back (fun _ k => st54 _ k) ?_
  show GlW _ _ _ _ _ _ _ (T54.setTop (mkF m 14 #[.val (.ref a), .val (.ref b1), .val (.ref m1), .val (.long t1), .second] [(.ref b54), (.ref m1)]))
  obtain ⟨_, _, ⟨T55, L55, k55, n55⟩, -, X55, ⟨Lc55, hQ55, l55, y55, z55⟩, st55⟩ := Jvm.LawKit.callS X54 hx (y := (⟨"java/util/Objects", "requireNonNull", "(Ljava/lang/Object;Ljava/lang/String;)Ljava/lang/Object;"⟩ : MethodName)) hown54 (mvT hZ54 (hw _ (List.mem_of_getElem? (i := 137) rfl))) (mvT hZ54 (hw _ (List.mem_of_getElem? (i := 138) rfl))) (mvT hZ54 (hw _ (List.mem_of_getElem? (i := 139) rfl))) (mvT hZ54 (hw _ (List.mem_of_getElem? (i := 140) rfl))) (by decide) (backOf (W := 0) (rmrnn l Z a0 hw [] m1 b54  h54 n0 Z54 ) hZ54 (hw _ (List.mem_of_getElem? (i := 140) rfl)) (hw _ (List.mem_of_getElem? (i := 139) rfl)) (by decide) (by decide)) (g := (mkF m 14 #[.val (.ref a), .val (.ref b1), .val (.ref m1), .val (.long t1), .second] [(.ref b54), (.ref m1)])) rfl (by rw [hml]; rfl) (argsL := [(.ref m1), (.ref b54)]) (rest := []) (lenOf pd__Ljava_lang_Object_Ljava_lang_String__Ljava_lang_Object_ rfl) rfl (by show 2 * 0 + _ ≤ _; exact Nat.le_of_eq rfl) (hb hby d21_14) (fun _ _ => ⟨rfl, e54, (by decide : 4 + 0 ≤ _), (by decide : 56 + 0 ≤ _)⟩)
  dsimp only [Pt.U, Pt.locs, Pt.cells, Pt.slots] at X55 l55 y55 z55 st55 hQ55
  subst l55 y55 z55
  obtain ⟨Nq55, rfl, eh55⟩ := hQ55
  have N55 := Fr.app N53 Nq55
  refine GlW.back (fun _ k => st55 _ k) ?_
  show GlW _ _ _ _ _ _ _ (T55.setTop (mkF m 17 #[.val (.ref a), .val (.ref b1), .val (.ref m1), .val (.long t1), .second] [(.ref m1)]))
  refine GlW.back (fun _ k => XS.pop X55.here hx rfl (hb hby d21_17) rfl rfl k) ?_
  show GlW _ _ _ _ _ _ _ (T55.setTop (mkF m 18 #[.val (.ref a), .val (.ref b1), .val (.ref m1), .val (.long t1), .second] []))
  refine GlW.back (fun _ k => XS.aloadN X55.here hx rfl (hb hby d21_18) rfl rfl k) ?_
  show GlW _ _ _ _ _ _ _ (T55.setTop (mkF m 19 #[.val (.ref a), .val (.ref b1), .val (.ref m1), .val (.long t1), .second] [(.ref a)]))
  refine GlW.back (fun _ k => XS.aloadN X55.here hx rfl (hb hby d21_19) rfl rfl k) ?_
  show GlW _ _ _ _ _ _ _ (T55.setTop (mkF m 20 #[.val (.ref a), .val (.ref b1), .val (.ref m1), .val (.long t1), .second] [(.ref b1), (.ref a)]))
  have f56 := ((E_a.ext E52).ext E54)
  have f57 := ((F_a_bidder.ext E52).ext E54)
  obtain ⟨T58, h58, X58, e58, W58, st58⟩ := putF X55 hx hZ54 hown54 (host := "") (Or.inl (hw _ (List.mem_of_getElem? (i := 142) rfl))) Via.refl eh55 f57 f56 (Or.inr ⟨(hw _ (List.mem_of_getElem? (i := 143) rfl)), rfl, hnm⟩) (hw _ (List.mem_of_getElem? (i := 128) rfl)) (ty := (.object "java/lang/String")) (by decide) rfl rfl (g := (mkF m 20 #[.val (.ref a), .val (.ref b1), .val (.ref m1), .val (.long t1), .second] [(.ref b1), (.ref a)])) rfl rfl (hb hby d21_20)
  have Fw58 := f57.same W58
  have K58 := Keep.wr K54 W58 (Or.inl (List.mem_of_getElem? (i := 0) rfl))
  have Z58 : n0 ≤ h58.size := Nat.le_trans Z54 (Keep.of_wr W58).1
  have SK58 := Nat.le_trans SK54 (Keep.of_wr W58).1
  have N58 := Fr.snoc X58 N55 g_a
  refine GlW.back (fun _ k => st58 _ k) ?_
  show GlW _ _ _ _ _ _ _ (T58.setTop (mkF m 23 #[.val (.ref a), .val (.ref b1), .val (.ref m1), .val (.long t1), .second] []))
  refine GlW.back (fun _ k => XS.aloadN X58.here hx rfl (hb hby d21_23) rfl rfl k) ?_
  show GlW _ _ _ _ _ _ _ (T58.setTop (mkF m 24 #[.val (.ref a), .val (.ref b1), .val (.ref m1), .val (.long t1), .second] [(.ref a)]))
  refine GlW.back (fun _ k => XS.aloadN X58.here hx rfl (hb hby d21_24) rfl rfl k) ?_
  show GlW _ _ _ _ _ _ _ (T58.setTop (mkF m 25 #[.val (.ref a), .val (.ref b1), .val (.ref m1), .val (.long t1), .second] [(.ref m1), (.ref a)]))
  have f59 := (f56.wr W58)
  have f60 := (((F_a_amount.ext E52).ext E54).other W58 (Or.inr (slot_ne (Or.inr (hw _ (List.mem_of_getElem? (i := 145) rfl))) (Or.inr (hw _ (List.mem_of_getElem? (i := 143) rfl))) (by decide) (t := (.object "com/example/gavelwatch/gavelwatch/model/Money")) (t' := (.object "java/lang/String")) (by decide) (by decide))))
  obtain ⟨T61, h61, X61, e61, W61, st61⟩ := putF X58 hx hZ54 hown54 (host := "") (Or.inl (hw _ (List.mem_of_getElem? (i := 144) rfl))) Via.refl e58 f60 f59 (Or.inr ⟨(hw _ (List.mem_of_getElem? (i := 145) rfl)), rfl, hnm⟩) (hw _ (List.mem_of_getElem? (i := 128) rfl)) (ty := (.object "com/example/gavelwatch/gavelwatch/model/Money")) (by decide) rfl rfl (g := (mkF m 25 #[.val (.ref a), .val (.ref b1), .val (.ref m1), .val (.long t1), .second] [(.ref m1), (.ref a)])) rfl rfl (hb hby d21_25)
  have Fw61 := f60.same W61
  have K61 := Keep.wr K58 W61 (Or.inl (List.mem_of_getElem? (i := 0) rfl))
  have Z61 : n0 ≤ h61.size := Nat.le_trans Z58 (Keep.of_wr W61).1
  have SK61 := Nat.le_trans SK58 (Keep.of_wr W61).1
  have N61 := Fr.snoc X61 N58 g_a
  refine GlW.back (fun _ k => st61 _ k) ?_
  show GlW _ _ _ _ _ _ _ (T61.setTop (mkF m 28 #[.val (.ref a), .val (.ref b1), .val (.ref m1), .val (.long t1), .second] []))
  refine GlW.back (fun _ k => XS.aloadN X61.here hx rfl (hb hby d21_28) rfl rfl k) ?_
  show GlW _ _ _ _ _ _ _ (T61.setTop (mkF m 29 #[.val (.ref a), .val (.ref b1), .val (.ref m1), .val (.long t1), .second] [(.ref a)]))
  refine GlW.back (fun _ k => XS.lloadN X61.here hx rfl (hb hby d21_29) rfl k) ?_
  show GlW _ _ _ _ _ _ _ (T61.setTop (mkF m 30 #[.val (.ref a), .val (.ref b1), .val (.ref m1), .val (.long t1), .second] [(.long t1), (.ref a)]))
  have f62 := (f59.wr W61)
  have f63 := ((((F_a_time.ext E52).ext E54).other W58 (Or.inr (slot_ne (Or.inr (hw _ (List.mem_of_getElem? (i := 147) rfl))) (Or.inr (hw _ (List.mem_of_getElem? (i := 143) rfl))) (by decide) (t := .long) (t' := (.object "java/lang/String")) (by decide) (by decide)))).other W61 (Or.inr (slot_ne (Or.inr (hw _ (List.mem_of_getElem? (i := 147) rfl))) (Or.inr (hw _ (List.mem_of_getElem? (i := 145) rfl))) (by decide) (t := .long) (t' := (.object "com/example/gavelwatch/gavelwatch/model/Money")) (by decide) (by decide))))
  obtain ⟨T64, h64, X64, e64, W64, st64⟩ := putF X61 hx hZ54 hown54 (host := "") (Or.inl (hw _ (List.mem_of_getElem? (i := 146) rfl))) Via.refl e61 f63 f62 (Or.inr ⟨(hw _ (List.mem_of_getElem? (i := 147) rfl)), rfl, hnm⟩) (hw _ (List.mem_of_getElem? (i := 128) rfl)) (ty := .long) (by decide) rfl rfl (g := (mkF m 30 #[.val (.ref a), .val (.ref b1), .val (.ref m1), .val (.long t1), .second] [(.long t1), (.ref a)])) rfl rfl (hb hby d21_30)
  have Fw64 := f63.same W64
  have K64 := Keep.wr K61 W64 (Or.inl (List.mem_of_getElem? (i := 0) rfl))
  have Z64 : n0 ≤ h64.size := Nat.le_trans Z61 (Keep.of_wr W64).1
  have SK64 := Nat.le_trans SK61 (Keep.of_wr W64).1
  have N64 := Fr.snoc X64 N61 g_a
  refine GlW.back (fun _ k => st64 _ k) ?_
  show GlW _ _ _ _ _ _ _ (T64.setTop (mkF m 33 #[.val (.ref a), .val (.ref b1), .val (.ref m1), .val (.long t1), .second] []))
  have f65 := (Fw61.other W64 (Or.inr (slot_ne (Or.inr (hw _ (List.mem_of_getElem? (i := 145) rfl))) (Or.inr (hw _ (List.mem_of_getElem? (i := 147) rfl))) (by decide) (t := (.object "com/example/gavelwatch/gavelwatch/model/Money")) (t' := .long) (by decide) (by decide))))
  exact GlW.ret X64 e64 hS54 SK64 (v := none) (fun _ => rfl) Bd.notSynchronized (fun fs hr => X64.returnOut hx Bd.returns (hb hby d21_33) hr) ⟨N64, rfl, K64, f65⟩ (by decide) (by decide)
theorem d16_0 : decode jdk_2799_method_7_code 0 = .ok (.aload_n 0, 1) := by decide +kernel
theorem d16_1 : decode jdk_2799_method_7_code 1 = .ok (.getfield 44, 3) := by decide +kernel
theorem d16_4 : decode jdk_2799_method_7_code 4 = .ok (.dup2, 1) := by decide +kernel
theorem d16_5 : decode jdk_2799_method_7_code 5 = .ok (.lstore_n 3, 1) := by decide +kernel
theorem d16_6 : decode jdk_2799_method_7_code 6 = .ok (.lconst 1, 1) := by decide +kernel
theorem d16_7 : decode jdk_2799_method_7_code 7 = .ok (.lcmp, 1) := by decide +kernel
theorem d16_8 : decode jdk_2799_method_7_code 8 = .ok (.ifCond .ne 5, 3) := by decide +kernel
theorem d16_13 : decode jdk_2799_method_7_code 13 = .ok (.lload_n 1, 1) := by decide +kernel
theorem d16_14 : decode jdk_2799_method_7_code 14 = .ok (.aload_n 0, 1) := by decide +kernel
theorem d16_15 : decode jdk_2799_method_7_code 15 = .ok (.getfield 52, 3) := by decide +kernel
theorem d16_18 : decode jdk_2799_method_7_code 18 = .ok (.dup2, 1) := by decide +kernel
theorem d16_19 : decode jdk_2799_method_7_code 19 = .ok (.lstore 5, 2) := by decide +kernel
theorem d16_21 : decode jdk_2799_method_7_code 21 = .ok (.lcmp, 1) := by decide +kernel
theorem d16_22 : decode jdk_2799_method_7_code 22 = .ok (.ifCond .le 7, 3) := by decide +kernel
theorem d16_25 : decode jdk_2799_method_7_code 25 = .ok (.ldc2_w 50, 3) := by decide +kernel
theorem d16_28 : decode jdk_2799_method_7_code 28 = .ok (.lreturn, 1) := by decide +kernel
theorem d16_29 : decode jdk_2799_method_7_code 29 = .ok (.lload_n 1, 1) := by decide +kernel
theorem d16_30 : decode jdk_2799_method_7_code 30 = .ok (.lload 5, 2) := by decide +kernel
theorem d16_32 : decode jdk_2799_method_7_code 32 = .ok (.lneg, 1) := by decide +kernel
theorem d16_33 : decode jdk_2799_method_7_code 33 = .ok (.lcmp, 1) := by decide +kernel
theorem d16_34 : decode jdk_2799_method_7_code 34 = .ok (.ifCond .ge 7, 3) := by decide +kernel
theorem d16_41 : decode jdk_2799_method_7_code 41 = .ok (.lload_n 1, 1) := by decide +kernel
theorem d16_42 : decode jdk_2799_method_7_code 42 = .ok (.lload_n 3, 1) := by decide +kernel
theorem d16_43 : decode jdk_2799_method_7_code 43 = .ok (.lmul, 1) := by decide +kernel
theorem d16_44 : decode jdk_2799_method_7_code 44 = .ok (.lreturn, 1) := by decide +kernel
theorem pn_java_util_concurrent_TimeUnit : plainName "java/util/concurrent/TimeUnit" = true := by first | (simp [plainName, overriddenIn]; done) | decide +kernel
theorem ef_nano (m : MethodId) (x0 : Addr) (x1 : Int64) : entryFrame m #[(.ref x0), (.long x1)] 7 = mkF m 0 #[.val (.ref x0), .val (.long x1), .second, .unset, .unset, .unset, .unset] [] := by first | (simp [entryFrame, mkF, argsToLocals, Value.category]; done) | rfl
def Qnano (Z : State) (u : Addr) (t1 : Int64) (h0 : Heap) (n0 : Nat) (v : Option Value) (h : Heap) (L : List Loc) : Prop := Fr n0 L ∧ (∃ r : Int64, v = some (.long r) ∧ h = h0)
set_option maxRecDepth 65536 in
set_option maxHeartbeats 40000000 in
theorem rmnano (l : Launch) (Z : State) (a0 : Array Value) (hw : ∀ d ∈ tables_1, d.before a0 Z = true) (ws : List Jvm.Cond) (u : Addr) (t1 : Int64) (h0 : Heap) (n0 : Nat) (Z0 : n0 ≤ h0.size) (O0 : Old Z n0 h0) (E_u : Exa Z Z.heap u "java/util/concurrent/TimeUnit") (F_u_scale : Fld Z Z.heap u "java/util/concurrent/TimeUnit" "scale" "J" (.long (1000000000 : Int64))) (F_u_maxNanos : Fld Z Z.heap u "java/util/concurrent/TimeUnit" "maxNanos" "J" (.long (9223372036 : Int64))) (hn2 : ¬ t1 < (-(9223372036 : Int64))) :
    MetFree l (⟨"java/util/concurrent/TimeUnit", "toNanos", "(J)J"⟩ : MethodName) (head1 (Jvm.Cond.code (⟨"java/util/concurrent/TimeUnit", "toNanos", "(J)J"⟩ : MethodName) jdk_2799_method_7_code 7 (some .long) :: ws) ({ frames := 0, cells := 0, slots := 0, locals := 0 } : Room)) (fun as0 U => as0 = #[(.ref u), (.long t1)] ∧ Z.Warmed39 U.vm ∧ U.heap = h0) (fun _ _ _ _ _ => True) (fun _ U oc0 U' => ∃ v L, oc0 = .returned v ∧ Qnano Z u t1 h0 n0 v U'.heap L ∧ FrameEnd U oc0 U' L ({ frames := 0, cells := 0, slots := 0, locals := 0 } : Room).cells ({ frames := 0, cells := 0, slots := 0, locals := 0 } : Room).slots) := by
  refine MetFree.of_bodySF (plainFor_of_name pn_java_util_concurrent_TimeUnit) hisR ?_
  intro p e s m args below meth c s₁ Bd hml0 hP hK
  obtain ⟨rfl, hZ, hh⟩ := hP
  have hx := Bd.exec
  have hby := Bd.bytes
  have hml : c.maxLocals = 7 := hml0
  have hown : s.vm.findClass "java/util/concurrent/TimeUnit" = some m.cls := findClass_of_methodNamed Bd.named
  have hnm := (name_of_methodNamed Bd.named Bd.method).1
  have X0 : Stand p l e ({ frames := 0, cells := 0, slots := 0, locals := 0 } : Room) s m #[(.ref u), (.long t1)] below meth c s₁ [] 0 0 := Stand.of_body Bd
  have e0 : s₁.heap = h0 := by rw [← hh, Bd.state]; rfl
  have N0 := Fr.nil n0
  show Gl p e below s (Qnano Z u t1 h0 n0) ({ frames := 0, cells := 0, slots := 0, locals := 0 } : Room).cells ({ frames := 0, cells := 0, slots := 0, locals := 0 } : Room).slots (s₁.setTop (entryFrame m #[(.ref u), (.long t1)] 7))
  refine Gl.back (fun _ k => castTop (ef_nano m u t1) k) ?_
  show Gl _ _ _ _ _ _ _ (s₁.setTop (mkF m 0 #[.val (.ref u), .val (.long t1), .second, .unset, .unset, .unset, .unset] []))
  refine Gl.back (fun _ k => XS.aloadN X0.here hx rfl (hb hby d16_0) rfl rfl k) ?_
  show Gl _ _ _ _ _ _ _ (s₁.setTop (mkF m 1 #[.val (.ref u), .val (.long t1), .second, .unset, .unset, .unset, .unset] [(.ref u)]))
  obtain ⟨T66, X66, e66, st66⟩ := getF X0 hx hZ hown (host := "") (Or.inl (hw _ (List.mem_of_getElem? (i := 103) rfl))) Via.refl e0 (F_u_scale.ext O0.2) (g := (mkF m 1 #[.val (.ref u), .val (.long t1), .second, .unset, .unset, .unset, .unset] [(.ref u)])) rfl rfl (hb hby d16_1)
  refine Gl.back (fun _ k => st66 _ k) ?_
  show Gl _ _ _ _ _ _ _ (T66.setTop (mkF m 4 #[.val (.ref u), .val (.long t1), .second, .unset, .unset, .unset, .unset] [(.long (1000000000 : Int64))]))
  refine Gl.back (S1 := T66.setTop (mkF m 5 #[.val (.ref u), .val (.long t1), .second, .unset, .unset, .unset, .unset] [(.long (1000000000 : Int64)), (.long (1000000000 : Int64))])) (fun _ k => by jvm_step X66.here [X66.here.top, hx, (hb hby d16_4), Value.category]; exact k) ?_
  show Gl _ _ _ _ _ _ _ (T66.setTop (mkF m 5 #[.val (.ref u), .val (.long t1), .second, .unset, .unset, .unset, .unset] [(.long (1000000000 : Int64)), (.long (1000000000 : Int64))]))
  refine Gl.back (fun _ k => XS.lstoreN X66.here hx rfl (hb hby d16_5) rfl (l' := #[.val (.ref u), .val (.long t1), .second, .val (.long (1000000000 : Int64)), .second, .unset, .unset]) rfl k) ?_
  show Gl _ _ _ _ _ _ _ (T66.setTop (mkF m 6 #[.val (.ref u), .val (.long t1), .second, .val (.long (1000000000 : Int64)), .second, .unset, .unset] [(.long (1000000000 : Int64))]))
  refine Gl.back (fun _ k => XS.lconst X66.here hx rfl (hb hby d16_6) k) ?_
  show Gl _ _ _ _ _ _ _ (T66.setTop (mkF m 7 #[.val (.ref u), .val (.long t1), .second, .val (.long (1000000000 : Int64)), .second, .unset, .unset] [(.long (1 : Int64)), (.long (1000000000 : Int64))]))
  refine Gl.back (fun _ k => XS.lcmp X66.here hx rfl (hb hby d16_7) rfl k) ?_
  show Gl _ _ _ _ _ _ _ (T66.setTop (mkF m 8 #[.val (.ref u), .val (.long t1), .second, .val (.long (1000000000 : Int64)), .second, .unset, .unset] [(.int (lcmpW (1000000000 : Int64) (1 : Int64)))]))
  refine Gl.back (fun _ k => XS.ifYes X66.here hx rfl (pc0 := 8) (pc' := 13) rfl (hb hby d16_8) rfl ((if0 _ _).trans (feq (own_lcEn (by decide : ¬ (1000000000 : Int64) = (1 : Int64)))).2) (by decide) (by decide) k) ?_
  show Gl _ _ _ _ _ _ _ (T66.setTop (mkF m 13 #[.val (.ref u), .val (.long t1), .second, .val (.long (1000000000 : Int64)), .second, .unset, .unset] []))
  refine Gl.back (fun _ k => XS.lloadN X66.here hx rfl (hb hby d16_13) rfl k) ?_
  show Gl _ _ _ _ _ _ _ (T66.setTop (mkF m 14 #[.val (.ref u), .val (.long t1), .second, .val (.long (1000000000 : Int64)), .second, .unset, .unset] [(.long t1)]))
  refine Gl.back (fun _ k => XS.aloadN X66.here hx rfl (hb hby d16_14) rfl rfl k) ?_
  show Gl _ _ _ _ _ _ _ (T66.setTop (mkF m 15 #[.val (.ref u), .val (.long t1), .second, .val (.long (1000000000 : Int64)), .second, .unset, .unset] [(.ref u), (.long t1)]))
  obtain ⟨T67, X67, e67, st67⟩ := getF X66 hx hZ hown (host := "") (Or.inl (hw _ (List.mem_of_getElem? (i := 105) rfl))) Via.refl e66 (F_u_maxNanos.ext O0.2) (g := (mkF m 15 #[.val (.ref u), .val (.long t1), .second, .val (.long (1000000000 : Int64)), .second, .unset, .unset] [(.ref u), (.long t1)])) rfl rfl (hb hby d16_15)
  refine Gl.back (fun _ k => st67 _ k) ?_
  show Gl _ _ _ _ _ _ _ (T67.setTop (mkF m 18 #[.val (.ref u), .val (.long t1), .second, .val (.long (1000000000 : Int64)), .second, .unset, .unset] [(.long (9223372036 : Int64)), (.long t1)]))
  refine Gl.back (S1 := T67.setTop (mkF m 19 #[.val (.ref u), .val (.long t1), .second, .val (.long (1000000000 : Int64)), .second, .unset, .unset] [(.long (9223372036 : Int64)), (.long (9223372036 : Int64)), (.long t1)])) (fun _ k => by jvm_step X67.here [X67.here.top, hx, (hb hby d16_18), Value.category]; exact k) ?_
  show Gl _ _ _ _ _ _ _ (T67.setTop (mkF m 19 #[.val (.ref u), .val (.long t1), .second, .val (.long (1000000000 : Int64)), .second, .unset, .unset] [(.long (9223372036 : Int64)), (.long (9223372036 : Int64)), (.long t1)]))
  refine Gl.back (fun _ k => XS.lstore X67.here hx rfl (hb hby d16_19) rfl (l' := #[.val (.ref u), .val (.long t1), .second, .val (.long (1000000000 : Int64)), .second, .val (.long (9223372036 : Int64)), .second]) rfl k) ?_
  show Gl _ _ _ _ _ _ _ (T67.setTop (mkF m 21 #[.val (.ref u), .val (.long t1), .second, .val (.long (1000000000 : Int64)), .second, .val (.long (9223372036 : Int64)), .second] [(.long (9223372036 : Int64)), (.long t1)]))
  refine Gl.back (fun _ k => XS.lcmp X67.here hx rfl (hb hby d16_21) rfl k) ?_
  show Gl _ _ _ _ _ _ _ (T67.setTop (mkF m 22 #[.val (.ref u), .val (.long t1), .second, .val (.long (1000000000 : Int64)), .second, .val (.long (9223372036 : Int64)), .second] [(.int (lcmpW t1 (9223372036 : Int64)))]))
  by_cases hc22_68 : (9223372036 : Int64) < t1
  · refine Gl.back (fun _ k => XS.ifNo X67.here hx rfl (hb hby d16_22) rfl ((if0 _ _).trans (tlt (own_lcG hc22_68)).2.2.2) k) ?_
    show Gl _ _ _ _ _ _ _ (T67.setTop (mkF m 25 #[.val (.ref u), .val (.long t1), .second, .val (.long (1000000000 : Int64)), .second, .val (.long (9223372036 : Int64)), .second] []))
    refine Gl.back (fun _ k => X67.ldc2Long hx hown (mvT hZ (hw _ (List.mem_of_getElem? (i := 200) rfl))) (g := (mkF m 25 #[.val (.ref u), .val (.long t1), .second, .val (.long (1000000000 : Int64)), .second, .val (.long (9223372036 : Int64)), .second] [])) rfl (hb hby d16_25) _ k) ?_
    show Gl _ _ _ _ _ _ _ (T67.setTop (mkF m 28 #[.val (.ref u), .val (.long t1), .second, .val (.long (1000000000 : Int64)), .second, .val (.long (9223372036 : Int64)), .second] [(.long (9223372036854775807 : Int64))]))
    exact Gl.ret X67 e67 (v := (some (.long (9223372036854775807 : Int64)))) (fun h => by rw [Bd.returns] at h; cases h) Bd.notSynchronized (fun fs hr => retOut X67 hx (w := (.long (9223372036854775807 : Int64))) Bd.returns rfl (Or.inr (Or.inl ⟨rfl, rfl, _, rfl⟩)) (hb hby d16_28) hr) ⟨N0, _, rfl, rfl⟩ (by decide) (by decide)
  · refine Gl.back (fun _ k => XS.ifYes X67.here hx rfl (pc0 := 22) (pc' := 29) rfl (hb hby d16_22) rfl ((if0 _ _).trans (flt (own_lcGn hc22_68)).2.2.2) (by decide) (by decide) k) ?_
    show Gl _ _ _ _ _ _ _ (T67.setTop (mkF m 29 #[.val (.ref u), .val (.long t1), .second, .val (.long (1000000000 : Int64)), .second, .val (.long (9223372036 : Int64)), .second] []))
    refine Gl.back (fun _ k => XS.lloadN X67.here hx rfl (hb hby d16_29) rfl k) ?_
    show Gl _ _ _ _ _ _ _ (T67.setTop (mkF m 30 #[.val (.ref u), .val (.long t1), .second, .val (.long (1000000000 : Int64)), .second, .val (.long (9223372036 : Int64)), .second] [(.long t1)]))
    refine Gl.back (fun _ k => XS.lload X67.here hx rfl (hb hby d16_30) rfl k) ?_
    show Gl _ _ _ _ _ _ _ (T67.setTop (mkF m 32 #[.val (.ref u), .val (.long t1), .second, .val (.long (1000000000 : Int64)), .second, .val (.long (9223372036 : Int64)), .second] [(.long (9223372036 : Int64)), (.long t1)]))
    refine Gl.back (fun _ k => XS.lneg X67.here hx rfl (hb hby d16_32) rfl k) ?_
    show Gl _ _ _ _ _ _ _ (T67.setTop (mkF m 33 #[.val (.ref u), .val (.long t1), .second, .val (.long (1000000000 : Int64)), .second, .val (.long (9223372036 : Int64)), .second] [(.long (-(9223372036 : Int64))), (.long t1)]))
    refine Gl.back (fun _ k => XS.lcmp X67.here hx rfl (hb hby d16_33) rfl k) ?_
    show Gl _ _ _ _ _ _ _ (T67.setTop (mkF m 34 #[.val (.ref u), .val (.long t1), .second, .val (.long (1000000000 : Int64)), .second, .val (.long (9223372036 : Int64)), .second] [(.int (lcmpW t1 (-(9223372036 : Int64))))]))
    refine Gl.back (fun _ k => XS.ifYes X67.here hx rfl (pc0 := 34) (pc' := 41) rfl (hb hby d16_34) rfl ((if0 _ _).trans (flt (own_lcLn (hn2 : ¬ t1 < (-(9223372036 : Int64))))).2.1) (by decide) (by decide) k) ?_
    show Gl _ _ _ _ _ _ _ (T67.setTop (mkF m 41 #[.val (.ref u), .val (.long t1), .second, .val (.long (1000000000 : Int64)), .second, .val (.long (9223372036 : Int64)), .second] []))
    refine Gl.back (fun _ k => XS.lloadN X67.here hx rfl (hb hby d16_41) rfl k) ?_
    show Gl _ _ _ _ _ _ _ (T67.setTop (mkF m 42 #[.val (.ref u), .val (.long t1), .second, .val (.long (1000000000 : Int64)), .second, .val (.long (9223372036 : Int64)), .second] [(.long t1)]))
    refine Gl.back (fun _ k => XS.lloadN X67.here hx rfl (hb hby d16_42) rfl k) ?_
    show Gl _ _ _ _ _ _ _ (T67.setTop (mkF m 43 #[.val (.ref u), .val (.long t1), .second, .val (.long (1000000000 : Int64)), .second, .val (.long (9223372036 : Int64)), .second] [(.long (1000000000 : Int64)), (.long t1)]))
    refine Gl.back (fun _ k => XS.lmul X67.here hx rfl (hb hby d16_43) rfl k) ?_
    show Gl _ _ _ _ _ _ _ (T67.setTop (mkF m 44 #[.val (.ref u), .val (.long t1), .second, .val (.long (1000000000 : Int64)), .second, .val (.long (9223372036 : Int64)), .second] [(.long (t1 * (1000000000 : Int64)))]))
    exact Gl.ret X67 e67 (v := (some (.long (t1 * (1000000000 : Int64))))) (fun h => by rw [Bd.returns] at h; cases h) Bd.notSynchronized (fun fs hr => retOut X67 hx (w := (.long (t1 * (1000000000 : Int64)))) Bd.returns rfl (Or.inr (Or.inl ⟨rfl, rfl, _, rfl⟩)) (hb hby d16_44) hr) ⟨N0, _, rfl, rfl⟩ (by decide) (by decide)
theorem d27_0 : decode jdk_29_method_65_code 0 = .ok (.iload_n 0, 1) := by decide +kernel
theorem d27_1 : decode jdk_29_method_65_code 1 = .ok (.iload_n 1, 1) := by decide +kernel
theorem d27_2 : decode jdk_29_method_65_code 2 = .ok (.if_icmp .lt 7, 3) := by decide +kernel
theorem d27_5 : decode jdk_29_method_65_code 5 = .ok (.iload_n 0, 1) := by decide +kernel
theorem d27_6 : decode jdk_29_method_65_code 6 = .ok (.goto 4, 3) := by decide +kernel
theorem d27_10 : decode jdk_29_method_65_code 10 = .ok (.ireturn, 1) := by decide +kernel
theorem ef_maxI (m : MethodId)  : entryFrame m #[(.int (10 : Int32)), (.int (1 : Int32))] 2 = mkF m 0 #[.val (.int (10 : Int32)), .val (.int (1 : Int32))] [] := by first | (simp [entryFrame, mkF, argsToLocals, Value.category]; done) | rfl
def QmaxI (Z : State)  (h0 : Heap) (n0 : Nat) (v : Option Value) (h : Heap) (L : List Loc) : Prop := Fr n0 L ∧ (v = some (.int 10) ∧ h = h0)
set_option maxRecDepth 65536 in
set_option maxHeartbeats 40000000 in
theorem rmmaxI (l : Launch) (Z : State) (a0 : Array Value) (hw : ∀ d ∈ tables_1, d.before a0 Z = true) (ws : List Jvm.Cond)  (h0 : Heap) (n0 : Nat) (Z0 : n0 ≤ h0.size) :
    MetFree l (⟨"java/lang/Math", "max", "(II)I"⟩ : MethodName) (head1 (Jvm.Cond.code (⟨"java/lang/Math", "max", "(II)I"⟩ : MethodName) jdk_29_method_65_code 2 (some .int) :: ws) ({ frames := 0, cells := 0, slots := 0, locals := 0 } : Room)) (fun as0 U => as0 = #[(.int (10 : Int32)), (.int (1 : Int32))] ∧ Z.Warmed39 U.vm ∧ U.heap = h0) (fun _ _ _ _ _ => True) (fun _ U oc0 U' => ∃ v L, oc0 = .returned v ∧ QmaxI Z  h0 n0 v U'.heap L ∧ FrameEnd U oc0 U' L ({ frames := 0, cells := 0, slots := 0, locals := 0 } : Room).cells ({ frames := 0, cells := 0, slots := 0, locals := 0 } : Room).slots) := by
  refine MetFree.of_bodySF (Jvm.Free.JP.mathPlain rfl (by decide +kernel)) hisR ?_
  intro p e s m args below meth c s₁ Bd hml0 hP hK
  obtain ⟨rfl, hZ, hh⟩ := hP
  have hx := Bd.exec
  have hby := Bd.bytes
  have hml : c.maxLocals = 2 := hml0
  have hown : s.vm.findClass "java/lang/Math" = some m.cls := findClass_of_methodNamed Bd.named
  have hnm := (name_of_methodNamed Bd.named Bd.method).1
  have X0 : Stand p l e ({ frames := 0, cells := 0, slots := 0, locals := 0 } : Room) s m #[(.int (10 : Int32)), (.int (1 : Int32))] below meth c s₁ [] 0 0 := Stand.of_body Bd
  have e0 : s₁.heap = h0 := by rw [← hh, Bd.state]; rfl
  have N0 := Fr.nil n0
  show Gl p e below s (QmaxI Z  h0 n0) ({ frames := 0, cells := 0, slots := 0, locals := 0 } : Room).cells ({ frames := 0, cells := 0, slots := 0, locals := 0 } : Room).slots (s₁.setTop (entryFrame m #[(.int (10 : Int32)), (.int (1 : Int32))] 2))
  refine Gl.back (fun _ k => castTop (ef_maxI m ) k) ?_
  show Gl _ _ _ _ _ _ _ (s₁.setTop (mkF m 0 #[.val (.int (10 : Int32)), .val (.int (1 : Int32))] []))
  refine Gl.back (fun _ k => XS.iloadN X0.here hx rfl (hb hby d27_0) rfl k) ?_
  show Gl _ _ _ _ _ _ _ (s₁.setTop (mkF m 1 #[.val (.int (10 : Int32)), .val (.int (1 : Int32))] [(.int (10 : Int32))]))
  refine Gl.back (fun _ k => XS.iloadN X0.here hx rfl (hb hby d27_1) rfl k) ?_
  show Gl _ _ _ _ _ _ _ (s₁.setTop (mkF m 2 #[.val (.int (10 : Int32)), .val (.int (1 : Int32))] [(.int (1 : Int32)), (.int (10 : Int32))]))
  refine Gl.back (fun _ k => XS.icmpNo X0.here hx rfl (hb hby d27_2) rfl (flt (by decide : ¬ (10 : Int32) < (1 : Int32))).1 k) ?_
  show Gl _ _ _ _ _ _ _ (s₁.setTop (mkF m 5 #[.val (.int (10 : Int32)), .val (.int (1 : Int32))] []))
  refine Gl.back (fun _ k => XS.iloadN X0.here hx rfl (hb hby d27_5) rfl k) ?_
  show Gl _ _ _ _ _ _ _ (s₁.setTop (mkF m 6 #[.val (.int (10 : Int32)), .val (.int (1 : Int32))] [(.int (10 : Int32))]))
  refine Gl.back (fun _ k => XS.goto X0.here hx rfl (pc0 := 6) (pc' := 10) rfl (hb hby d27_6) (by decide) (by decide) k) ?_
  show Gl _ _ _ _ _ _ _ (s₁.setTop (mkF m 10 #[.val (.int (10 : Int32)), .val (.int (1 : Int32))] [(.int (10 : Int32))]))
  exact Gl.ret X0 e0 (v := (some (.int (10 : Int32)))) (fun h => by rw [Bd.returns] at h; cases h) Bd.notSynchronized (fun fs hr => retOut X0 hx (w := (.int (10 : Int32))) Bd.returns rfl (Or.inl ⟨rfl, Or.inl rfl, _, rfl⟩) (hb hby d27_10) hr) ⟨N0, rfl, rfl⟩ (by decide) (by decide)
theorem d26_0 : decode jdk_38_method_6_code 0 = .ok (.aload_n 0, 1) := by decide +kernel
theorem d26_1 : decode jdk_38_method_6_code 1 = .ok (.getfield 9, 3) := by decide +kernel
theorem d26_4 : decode jdk_38_method_6_code 4 = .ok (.arraylength, 1) := by decide +kernel
theorem d26_5 : decode jdk_38_method_6_code 5 = .ok (.istore_n 2, 1) := by decide +kernel
theorem d26_6 : decode jdk_38_method_6_code 6 = .ok (.iload_n 2, 1) := by decide +kernel
theorem d26_7 : decode jdk_38_method_6_code 7 = .ok (.ifCond .gt 13, 3) := by decide +kernel
theorem d26_10 : decode jdk_38_method_6_code 10 = .ok (.aload_n 0, 1) := by decide +kernel
theorem d26_11 : decode jdk_38_method_6_code 11 = .ok (.getfield 9, 3) := by decide +kernel
theorem d26_14 : decode jdk_38_method_6_code 14 = .ok (.getstatic 39, 3) := by decide +kernel
theorem d26_17 : decode jdk_38_method_6_code 17 = .ok (.if_acmp .eq 28, 3) := by decide +kernel
theorem d26_45 : decode jdk_38_method_6_code 45 = .ok (.aload_n 0, 1) := by decide +kernel
theorem d26_46 : decode jdk_38_method_6_code 46 = .ok (.bipush 10, 2) := by decide +kernel
theorem d26_48 : decode jdk_38_method_6_code 48 = .ok (.iload_n 1, 1) := by decide +kernel
theorem d26_49 : decode jdk_38_method_6_code 49 = .ok (.invokestatic 79, 3) := by decide +kernel
theorem pd__II_I : parseMethodDescriptor "(II)I" = some ⟨[.int, .int], some .int⟩ := by decide +kernel
theorem d26_52 : decode jdk_38_method_6_code 52 = .ok (.anewarray 7, 3) := by decide +kernel
theorem d26_55 : decode jdk_38_method_6_code 55 = .ok (.dup_x1, 1) := by decide +kernel
theorem d26_56 : decode jdk_38_method_6_code 56 = .ok (.putfield 9, 3) := by decide +kernel
theorem d26_59 : decode jdk_38_method_6_code 59 = .ok (.areturn, 1) := by decide +kernel
theorem ef_growI (m : MethodId) (x0 : Addr) : entryFrame m #[(.ref x0), (.int (1 : Int32))] 4 = mkF m 0 #[.val (.ref x0), .val (.int (1 : Int32)), .unset, .unset] [] := by first | (simp [entryFrame, mkF, argsToLocals, Value.category]; done) | rfl
def QgrowI (Z : State) (a : Addr) (wD : Addr) (kD : ClassId) (mc : Int32) (h0 : Heap) (n0 : Nat) (v : Option Value) (h : Heap) (L : List Loc) : Prop := Fr n0 L ∧ (∃ (t : Addr) (k : ClassId), v = some (.ref t) ∧ Keep h0 h [a] ∧ h0.size ≤ t ∧ n0 ≤ t ∧ Fld Z h a "java/util/ArrayList" "elementData" "[Ljava/lang/Object;" (.ref t) ∧ Fld Z h a "java/util/ArrayList" "size" "I" (.int (0 : Int32)) ∧ Fld Z h a "java/util/AbstractList" "modCount" "I" (.int mc) ∧ Arv Z h t k (.object "java/lang/Object") (10 : Int32) [.null, .null, .null, .null, .null, .null, .null, .null, .null, .null] .null ∧ Ovr Z k "java/lang/Object")
set_option maxRecDepth 65536 in
set_option maxHeartbeats 40000000 in
theorem rmgrowI (l : Launch) (Z : State) (a0 : Array Value) (hw : ∀ d ∈ tables_1, d.before a0 Z = true) (ws : List Jvm.Cond) (a : Addr) (wD : Addr) (kD : ClassId) (mc : Int32) (h0 : Heap) (n0 : Nat) (Z0 : n0 ≤ h0.size) (O0 : Old Z n0 h0) (g_a : n0 ≤ a) (E_a : Exa Z h0 a "java/util/ArrayList") (F_a_modCount : Fld Z h0 a "java/util/AbstractList" "modCount" "I" (.int mc)) (F_a_elementData : Fld Z h0 a "java/util/ArrayList" "elementData" "[Ljava/lang/Object;" (.ref wD)) (F_a_size : Fld Z h0 a "java/util/ArrayList" "size" "I" (.int (0 : Int32))) (S_DEFAULTCAPACITY_EMPTY_ELEMENTDATA : Sta Z Z.heap "java/util/ArrayList" "DEFAULTCAPACITY_EMPTY_ELEMENTDATA" "[Ljava/lang/Object;" (.ref wD)) (V_wD : Arv Z Z.heap wD kD (.object "java/lang/Object") (0 : Int32) [] .null) :
    MetFree l (⟨"java/util/ArrayList", "grow", "(I)[Ljava/lang/Object;"⟩ : MethodName) (head1 (Jvm.Cond.code (⟨"java/util/ArrayList", "grow", "(I)[Ljava/lang/Object;"⟩ : MethodName) jdk_38_method_6_code 4 (some (.array (.object "java/lang/Object"))) :: ws) ({ frames := 1, cells := 1, slots := 10, locals := 14 } : Room)) (fun as0 U => as0 = #[(.ref a), (.int (1 : Int32))] ∧ Z.Warmed39 U.vm ∧ U.heap = h0) (fun _ _ _ _ _ => True) (fun _ U oc0 U' => ∃ v L, oc0 = .returned v ∧ QgrowI Z a wD kD mc h0 n0 v U'.heap L ∧ FrameEnd U oc0 U' L ({ frames := 1, cells := 1, slots := 10, locals := 14 } : Room).cells ({ frames := 1, cells := 1, slots := 10, locals := 14 } : Room).slots) := by
  refine MetFree.of_bodySF (plainFor_of_name pn_java_util_ArrayList) hisR ?_
  intro p e s m args below meth c s₁ Bd hml0 hP hK
  obtain ⟨rfl, hZ, hh⟩ := hP
  have hx := Bd.exec
  have hby := Bd.bytes
  have hml : c.maxLocals = 4 := hml0
  have hown : s.vm.findClass "java/util/ArrayList" = some m.cls := findClass_of_methodNamed Bd.named
  have hnm := (name_of_methodNamed Bd.named Bd.method).1
  have X0 : Stand p l e ({ frames := 1, cells := 1, slots := 10, locals := 14 } : Room) s m #[(.ref a), (.int (1 : Int32))] below meth c s₁ [] 0 0 := Stand.of_body Bd
  have e0 : s₁.heap = h0 := by rw [← hh, Bd.state]; rfl
  have N0 := Fr.nil n0
  show Gl p e below s (QgrowI Z a wD kD mc h0 n0) ({ frames := 1, cells := 1, slots := 10, locals := 14 } : Room).cells ({ frames := 1, cells := 1, slots := 10, locals := 14 } : Room).slots (s₁.setTop (entryFrame m #[(.ref a), (.int (1 : Int32))] 4))
  refine Gl.back (fun _ k => castTop (ef_growI m a) k) ?_
  show Gl _ _ _ _ _ _ _ (s₁.setTop (mkF m 0 #[.val (.ref a), .val (.int (1 : Int32)), .unset, .unset] []))
  refine Gl.back (fun _ k => XS.aloadN X0.here hx rfl (hb hby d26_0) rfl rfl k) ?_
  show Gl _ _ _ _ _ _ _ (s₁.setTop (mkF m 1 #[.val (.ref a), .val (.int (1 : Int32)), .unset, .unset] [(.ref a)]))
  obtain ⟨T69, X69, e69, st69⟩ := getF X0 hx hZ hown (host := "") (Or.inl (hw _ (List.mem_of_getElem? (i := 45) rfl))) Via.refl e0 F_a_elementData (g := (mkF m 1 #[.val (.ref a), .val (.int (1 : Int32)), .unset, .unset] [(.ref a)])) rfl rfl (hb hby d26_1)
  refine Gl.back (fun _ k => st69 _ k) ?_
  show Gl _ _ _ _ _ _ _ (T69.setTop (mkF m 4 #[.val (.ref a), .val (.int (1 : Int32)), .unset, .unset] [(.ref wD)]))
  obtain ⟨cl70, Ar70, -, Sz70, Nn70, -, -⟩ := id (V_wD.ext O0.2)
  refine Gl.back (fun _ k => X69.arraylength hx (by rw [e69]; exact Ar70.1) (State.isArrayOf_alike hZ.alike Ar70.2.1) (g := (mkF m 4 #[.val (.ref a), .val (.int (1 : Int32)), .unset, .unset] [(.ref wD)])) rfl rfl (hb hby d26_4) _ k) ?_
  rw [len_of Sz70 Nn70]
  show Gl _ _ _ _ _ _ _ (T69.setTop (mkF m 5 #[.val (.ref a), .val (.int (1 : Int32)), .unset, .unset] [(.int (0 : Int32))]))
  refine Gl.back (fun _ k => XS.istoreN X69.here hx rfl (hb hby d26_5) rfl (l' := #[.val (.ref a), .val (.int (1 : Int32)), .val (.int (0 : Int32)), .unset]) rfl k) ?_
  show Gl _ _ _ _ _ _ _ (T69.setTop (mkF m 6 #[.val (.ref a), .val (.int (1 : Int32)), .val (.int (0 : Int32)), .unset] []))
  refine Gl.back (fun _ k => XS.iloadN X69.here hx rfl (hb hby d26_6) rfl k) ?_
  show Gl _ _ _ _ _ _ _ (T69.setTop (mkF m 7 #[.val (.ref a), .val (.int (1 : Int32)), .val (.int (0 : Int32)), .unset] [(.int (0 : Int32))]))
  refine Gl.back (fun _ k => XS.ifNo X69.here hx rfl (hb hby d26_7) rfl ((if0 _ _).trans (flt (by decide : ¬ (0 : Int32) < (0 : Int32))).2.2.1) k) ?_
  show Gl _ _ _ _ _ _ _ (T69.setTop (mkF m 10 #[.val (.ref a), .val (.int (1 : Int32)), .val (.int (0 : Int32)), .unset] []))
  refine Gl.back (fun _ k => XS.aloadN X69.here hx rfl (hb hby d26_10) rfl rfl k) ?_
  show Gl _ _ _ _ _ _ _ (T69.setTop (mkF m 11 #[.val (.ref a), .val (.int (1 : Int32)), .val (.int (0 : Int32)), .unset] [(.ref a)]))
  obtain ⟨T71, X71, e71, st71⟩ := getF X69 hx hZ hown (host := "") (Or.inl (hw _ (List.mem_of_getElem? (i := 45) rfl))) Via.refl e69 F_a_elementData (g := (mkF m 11 #[.val (.ref a), .val (.int (1 : Int32)), .val (.int (0 : Int32)), .unset] [(.ref a)])) rfl rfl (hb hby d26_11)
  refine Gl.back (fun _ k => st71 _ k) ?_
  show Gl _ _ _ _ _ _ _ (T71.setTop (mkF m 14 #[.val (.ref a), .val (.int (1 : Int32)), .val (.int (0 : Int32)), .unset] [(.ref wD)]))
  obtain ⟨T72, X72, e72, st72⟩ := getS2 X71 hx hZ hown (host := "") (Or.inl (hw _ (List.mem_of_getElem? (i := 44) rfl))) Via.refl e71 (S_DEFAULTCAPACITY_EMPTY_ELEMENTDATA.ext O0.2) (g := (mkF m 14 #[.val (.ref a), .val (.int (1 : Int32)), .val (.int (0 : Int32)), .unset] [(.ref wD)])) rfl (hb hby d26_14)
  refine Gl.back (fun _ k => st72 _ k) ?_
  show Gl _ _ _ _ _ _ _ (T72.setTop (mkF m 17 #[.val (.ref a), .val (.int (1 : Int32)), .val (.int (0 : Int32)), .unset] [(.ref wD), (.ref wD)]))
  refine Gl.back (fun _ k => Jvm.RoadKit.acmp (g := (mkF m 17 #[.val (.ref a), .val (.int (1 : Int32)), .val (.int (0 : Int32)), .unset] [(.ref wD), (.ref wD)])) X72 hx rfl rfl rfl (pc0 := 17) (pc' := 45) (same := true) rfl (hb hby d26_17) rfl (decide_eq_true rfl) (by decide) (by decide) k) ?_
  show Gl _ _ _ _ _ _ _ (T72.setTop (mkF m 45 #[.val (.ref a), .val (.int (1 : Int32)), .val (.int (0 : Int32)), .unset] []))
  refine Gl.back (fun _ k => XS.aloadN X72.here hx rfl (hb hby d26_45) rfl rfl k) ?_
  show Gl _ _ _ _ _ _ _ (T72.setTop (mkF m 46 #[.val (.ref a), .val (.int (1 : Int32)), .val (.int (0 : Int32)), .unset] [(.ref a)]))
  refine Gl.back (fun _ k => XS.bipush X72.here hx rfl (hb hby d26_46) k) ?_
  show Gl _ _ _ _ _ _ _ (T72.setTop (mkF m 48 #[.val (.ref a), .val (.int (1 : Int32)), .val (.int (0 : Int32)), .unset] [(.int (10 : Int32)), (.ref a)]))
  refine Gl.back (fun _ k => XS.iloadN X72.here hx rfl (hb hby d26_48) rfl k) ?_
  show Gl _ _ _ _ _ _ _ (T72.setTop (mkF m 49 #[.val (.ref a), .val (.int (1 : Int32)), .val (.int (0 : Int32)), .unset] [(.int (1 : Int32)), (.int (10 : Int32)), (.ref a)]))
  obtain ⟨_, _, ⟨T73, L73, k73, n73⟩, -, X73, ⟨Lc73, hQ73, l73, y73, z73⟩, st73⟩ := Jvm.LawKit.callS X72 hx (y := (⟨"java/lang/Math", "max", "(II)I"⟩ : MethodName)) hown (mvT hZ (hw _ (List.mem_of_getElem? (i := 176) rfl))) (mvT hZ (hw _ (List.mem_of_getElem? (i := 177) rfl))) (mvT hZ (hw _ (List.mem_of_getElem? (i := 89) rfl))) (mvT hZ (hw _ (List.mem_of_getElem? (i := 178) rfl))) (by decide) (backOf (W := 1) (rmmaxI l Z a0 hw []   h0 n0 Z0 ) hZ (hw _ (List.mem_of_getElem? (i := 178) rfl)) (hw _ (List.mem_of_getElem? (i := 89) rfl)) (by decide) (by decide)) (g := (mkF m 49 #[.val (.ref a), .val (.int (1 : Int32)), .val (.int (0 : Int32)), .unset] [(.int (1 : Int32)), (.int (10 : Int32)), (.ref a)])) rfl (by rw [hml]; rfl) (argsL := [(.int (10 : Int32)), (.int (1 : Int32))]) (rest := [(.ref a)]) (lenOf pd__II_I rfl) rfl (by show 2 * 0 + _ ≤ _; exact Nat.le_of_eq rfl) (hb hby d26_49) (fun _ _ => ⟨rfl, e72, (by decide : 0 + 0 ≤ _), (by decide : 0 + 0 ≤ _)⟩)
  dsimp only [Pt.U, Pt.locs, Pt.cells, Pt.slots] at X73 l73 y73 z73 st73 hQ73
  subst l73 y73 z73
  obtain ⟨Nq73, rfl, eh73⟩ := hQ73
  have N73 := Fr.app N0 Nq73
  refine Gl.back (fun _ k => st73 _ k) ?_
  show Gl _ _ _ _ _ _ _ (T73.setTop (mkF m 52 #[.val (.ref a), .val (.int (1 : Int32)), .val (.int (0 : Int32)), .unset] [(.int (10 : Int32)), (.ref a)]))
  obtain ⟨T74, h74, k74, X74, e74, E74, A74, Ov74, st74⟩ := newR X73 hx hZ hown (hw _ (List.mem_of_getElem? (i := 179) rfl)) (hw _ (List.mem_of_getElem? (i := 180) rfl)) eh73 (g := (mkF m 52 #[.val (.ref a), .val (.int (1 : Int32)), .val (.int (0 : Int32)), .unset] [(.int (10 : Int32)), (.ref a)])) rfl (hb hby d26_52) rfl (by decide) (cap := 10) (by decide) (by decide) (by decide) (by decide)
  obtain ⟨b74, g74⟩ : ∃ z, z = h0.size := ⟨_, rfl⟩
  rw [← g74] at A74 st74
  have V74 : Arv Z h74 b74 k74 (.object "java/lang/Object") (10 : Int32) [.null, .null, .null, .null, .null, .null, .null, .null, .null, .null] .null := (Arv.new A74 (by decide)).pad (pad_rep [] .null 10)
  have ne_a_b74 : a ≠ b74 := Nat.ne_of_lt (Nat.lt_of_lt_of_le E_a.lt (Nat.le_of_eq g74.symm))
  have g_b74 : n0 ≤ b74 := Nat.le_trans Z0 (Nat.le_of_eq g74.symm)
  have sz_b74 : h0.size ≤ b74 := Nat.le_trans (Keep.refl h0 [a]).1 (Nat.le_of_eq g74.symm)
  have Z74 : n0 ≤ h74.size := Nat.le_trans Z0 E74.1
  have K74 := Keep.ext (Keep.refl h0 [a]) E74
  have O74 := Old.ext O0 E74
  refine Gl.back (fun _ k => st74 _ k) ?_
  show Gl _ _ _ _ _ _ _ (T74.setTop (mkF m 55 #[.val (.ref a), .val (.int (1 : Int32)), .val (.int (0 : Int32)), .unset] [(.ref b74), (.ref a)]))
  refine Gl.back (fun _ k => XS.dupX1 X74.here hx rfl (hb hby d26_55) rfl rfl rfl k) ?_
  show Gl _ _ _ _ _ _ _ (T74.setTop (mkF m 56 #[.val (.ref a), .val (.int (1 : Int32)), .val (.int (0 : Int32)), .unset] [(.ref b74), (.ref a), (.ref b74)]))
  have f75 := (E_a.ext E74)
  have f76 := (F_a_elementData.ext E74)
  obtain ⟨T77, h77, X77, e77, W77, st77⟩ := putF X74 hx hZ hown (host := "") (Or.inl (hw _ (List.mem_of_getElem? (i := 45) rfl))) Via.refl e74 f76 f75 (Or.inl (hw _ (List.mem_of_getElem? (i := 46) rfl))) (hw _ (List.mem_of_getElem? (i := 24) rfl)) (ty := (.array (.object "java/lang/Object"))) (by decide) rfl rfl (g := (mkF m 56 #[.val (.ref a), .val (.int (1 : Int32)), .val (.int (0 : Int32)), .unset] [(.ref b74), (.ref a), (.ref b74)])) rfl rfl (hb hby d26_56)
  have Fw77 := f76.same W77
  have K77 := Keep.wr K74 W77 (Or.inl (List.mem_of_getElem? (i := 0) rfl))
  have O77 := Old.wr O74 W77 g_a
  have Z77 : n0 ≤ h77.size := Nat.le_trans Z74 (Keep.of_wr W77).1
  have N77 := Fr.snoc X77 N73 g_a
  refine Gl.back (fun _ k => st77 _ k) ?_
  show Gl _ _ _ _ _ _ _ (T77.setTop (mkF m 59 #[.val (.ref a), .val (.int (1 : Int32)), .val (.int (0 : Int32)), .unset] [(.ref b74)]))
  have f78 := ((F_a_size.ext E74).other W77 (Or.inr (slot_ne (Or.inl (hw _ (List.mem_of_getElem? (i := 160) rfl))) (Or.inl (hw _ (List.mem_of_getElem? (i := 46) rfl))) (by decide) (t := .int) (t' := (.array (.object "java/lang/Object"))) (by decide) (by decide))))
  have f79 := ((F_a_modCount.ext E74).other W77 (Or.inr (slot_ne (Or.inl (hw _ (List.mem_of_getElem? (i := 43) rfl))) (Or.inl (hw _ (List.mem_of_getElem? (i := 46) rfl))) (by decide) (t := .int) (t' := (.array (.object "java/lang/Object"))) (by decide) (by decide))))
  have f80 := (V74.other W77 (Ne.symm ne_a_b74))
  exact Gl.ret X77 e77 (v := (some (.ref b74))) (fun h => by rw [Bd.returns] at h; cases h) Bd.notSynchronized (fun fs hr => retOut X77 hx (w := (.ref b74)) Bd.returns rfl (Or.inr (Or.inr (Or.inr (Or.inr ⟨rfl, rfl, rfl⟩)))) (hb hby d26_59) hr) ⟨N77, b74, k74, rfl, K77, sz_b74, g_b74, Fw77, f78, f79, f80, Ov74⟩ (by decide) (by decide)
theorem d25_0 : decode jdk_38_method_7_code 0 = .ok (.aload_n 0, 1) := by decide +kernel
theorem d25_1 : decode jdk_38_method_7_code 1 = .ok (.aload_n 0, 1) := by decide +kernel
theorem d25_2 : decode jdk_38_method_7_code 2 = .ok (.getfield 48, 3) := by decide +kernel
theorem d25_5 : decode jdk_38_method_7_code 5 = .ok (.iconst 1, 1) := by decide +kernel
theorem d25_6 : decode jdk_38_method_7_code 6 = .ok (.iadd, 1) := by decide +kernel
theorem d25_7 : decode jdk_38_method_7_code 7 = .ok (.invokevirtual 69, 3) := by decide +kernel
theorem pd__I__Ljava_lang_Object_ : parseMethodDescriptor "(I)[Ljava/lang/Object;" = some ⟨[.int], some (.array (.object "java/lang/Object"))⟩ := by decide +kernel
theorem d25_10 : decode jdk_38_method_7_code 10 = .ok (.areturn, 1) := by decide +kernel
theorem ef_grow0 (m : MethodId) (x0 : Addr) : entryFrame m #[(.ref x0)] 1 = mkF m 0 #[.val (.ref x0)] [] := by first | (simp [entryFrame, mkF, argsToLocals, Value.category]; done) | rfl
def Qgrow0 (Z : State) (a : Addr) (wD : Addr) (kD : ClassId) (mc : Int32) (h0 : Heap) (n0 : Nat) (v : Option Value) (h : Heap) (L : List Loc) : Prop := Fr n0 L ∧ (∃ (t : Addr) (k : ClassId), v = some (.ref t) ∧ Keep h0 h [a] ∧ h0.size ≤ t ∧ n0 ≤ t ∧ Fld Z h a "java/util/ArrayList" "elementData" "[Ljava/lang/Object;" (.ref t) ∧ Fld Z h a "java/util/ArrayList" "size" "I" (.int (0 : Int32)) ∧ Fld Z h a "java/util/AbstractList" "modCount" "I" (.int mc) ∧ Arv Z h t k (.object "java/lang/Object") (10 : Int32) [.null, .null, .null, .null, .null, .null, .null, .null, .null, .null] .null ∧ Ovr Z k "java/lang/Object")
set_option maxRecDepth 65536 in
set_option maxHeartbeats 40000000 in
theorem rmgrow0 (l : Launch) (Z : State) (a0 : Array Value) (hw : ∀ d ∈ tables_1, d.before a0 Z = true) (ws : List Jvm.Cond) (a : Addr) (wD : Addr) (kD : ClassId) (mc : Int32) (h0 : Heap) (n0 : Nat) (Z0 : n0 ≤ h0.size) (O0 : Old Z n0 h0) (g_a : n0 ≤ a) (E_a : Exa Z h0 a "java/util/ArrayList") (F_a_modCount : Fld Z h0 a "java/util/AbstractList" "modCount" "I" (.int mc)) (F_a_elementData : Fld Z h0 a "java/util/ArrayList" "elementData" "[Ljava/lang/Object;" (.ref wD)) (F_a_size : Fld Z h0 a "java/util/ArrayList" "size" "I" (.int (0 : Int32))) (S_DEFAULTCAPACITY_EMPTY_ELEMENTDATA : Sta Z Z.heap "java/util/ArrayList" "DEFAULTCAPACITY_EMPTY_ELEMENTDATA" "[Ljava/lang/Object;" (.ref wD)) (V_wD : Arv Z Z.heap wD kD (.object "java/lang/Object") (0 : Int32) [] .null) :
    MetFree l (⟨"java/util/ArrayList", "grow", "()[Ljava/lang/Object;"⟩ : MethodName) (head1 (Jvm.Cond.code (⟨"java/util/ArrayList", "grow", "()[Ljava/lang/Object;"⟩ : MethodName) jdk_38_method_7_code 1 (some (.array (.object "java/lang/Object"))) :: ws) ({ frames := 2, cells := 1, slots := 10, locals := 29 } : Room)) (fun as0 U => as0 = #[(.ref a)] ∧ Z.Warmed39 U.vm ∧ U.heap = h0) (fun _ _ _ _ _ => True) (fun _ U oc0 U' => ∃ v L, oc0 = .returned v ∧ Qgrow0 Z a wD kD mc h0 n0 v U'.heap L ∧ FrameEnd U oc0 U' L ({ frames := 2, cells := 1, slots := 10, locals := 29 } : Room).cells ({ frames := 2, cells := 1, slots := 10, locals := 29 } : Room).slots) := by
  refine MetFree.of_bodySF (plainFor_of_name pn_java_util_ArrayList) hisR ?_
  intro p e s m args below meth c s₁ Bd hml0 hP hK
  obtain ⟨rfl, hZ, hh⟩ := hP
  have hx := Bd.exec
  have hby := Bd.bytes
  have hml : c.maxLocals = 1 := hml0
  have hown : s.vm.findClass "java/util/ArrayList" = some m.cls := findClass_of_methodNamed Bd.named
  have hnm := (name_of_methodNamed Bd.named Bd.method).1
  have X0 : Stand p l e ({ frames := 2, cells := 1, slots := 10, locals := 29 } : Room) s m #[(.ref a)] below meth c s₁ [] 0 0 := Stand.of_body Bd
  have e0 : s₁.heap = h0 := by rw [← hh, Bd.state]; rfl
  have N0 := Fr.nil n0
  show Gl p e below s (Qgrow0 Z a wD kD mc h0 n0) ({ frames := 2, cells := 1, slots := 10, locals := 29 } : Room).cells ({ frames := 2, cells := 1, slots := 10, locals := 29 } : Room).slots (s₁.setTop (entryFrame m #[(.ref a)] 1))
  refine Gl.back (fun _ k => castTop (ef_grow0 m a) k) ?_
  show Gl _ _ _ _ _ _ _ (s₁.setTop (mkF m 0 #[.val (.ref a)] []))
  refine Gl.back (fun _ k => XS.aloadN X0.here hx rfl (hb hby d25_0) rfl rfl k) ?_
  show Gl _ _ _ _ _ _ _ (s₁.setTop (mkF m 1 #[.val (.ref a)] [(.ref a)]))
  refine Gl.back (fun _ k => XS.aloadN X0.here hx rfl (hb hby d25_1) rfl rfl k) ?_
  show Gl _ _ _ _ _ _ _ (s₁.setTop (mkF m 2 #[.val (.ref a)] [(.ref a), (.ref a)]))
  obtain ⟨T81, X81, e81, st81⟩ := getF X0 hx hZ hown (host := "") (Or.inl (hw _ (List.mem_of_getElem? (i := 159) rfl))) Via.refl e0 F_a_size (g := (mkF m 2 #[.val (.ref a)] [(.ref a), (.ref a)])) rfl rfl (hb hby d25_2)
  refine Gl.back (fun _ k => st81 _ k) ?_
  show Gl _ _ _ _ _ _ _ (T81.setTop (mkF m 5 #[.val (.ref a)] [(.int (0 : Int32)), (.ref a)]))
  refine Gl.back (fun _ k => XS.iconst X81.here hx rfl (hb hby d25_5) k) ?_
  show Gl _ _ _ _ _ _ _ (T81.setTop (mkF m 6 #[.val (.ref a)] [(.int (1 : Int32)), (.int (0 : Int32)), (.ref a)]))
  refine Gl.back (fun _ k => XS.iadd X81.here hx rfl (hb hby d25_6) rfl k) ?_
  show Gl _ _ _ _ _ _ _ (T81.setTop (mkF m 7 #[.val (.ref a)] [(.int (1 : Int32)), (.ref a)]))
  obtain ⟨cq82, q82, q82'⟩ := E_a.cell
  obtain ⟨_, _, ⟨T82, L82, k82, n82⟩, -, X82, ⟨Lc82, hQ82, l82, y82, z82⟩, st82⟩ := X81.privateBack hx (y := (⟨"java/util/ArrayList", "grow", "(I)[Ljava/lang/Object;"⟩ : MethodName)) hown (mvT hZ (hw _ (List.mem_of_getElem? (i := 171) rfl))) (mvT hZ (hw _ (List.mem_of_getElem? (i := 172) rfl))) (mvT hZ (hw _ (List.mem_of_getElem? (i := 174) rfl))) (Cond.privateMethod_at (mvP hZ (hw _ (List.mem_of_getElem? (i := 173) rfl)) (args := #[]))) (mvT hZ (hw _ (List.mem_of_getElem? (i := 175) rfl))) (by decide) (backOf (W := 0) (rmgrowI l Z a0 hw [] a wD kD mc h0 n0 Z0 O0 g_a E_a F_a_modCount F_a_elementData F_a_size S_DEFAULTCAPACITY_EMPTY_ELEMENTDATA V_wD) hZ (hw _ (List.mem_of_getElem? (i := 175) rfl)) (hw _ (List.mem_of_getElem? (i := 25) rfl)) (by decide) (by decide)) (g := (mkF m 7 #[.val (.ref a)] [(.int (1 : Int32)), (.ref a)])) rfl (by rw [hml]; rfl) (Steps.refl _) (a := a) (by rw [e81]; exact q82) q82' (argsL := [(.int (1 : Int32))]) (rest := []) (lenOf pd__I__Ljava_lang_Object_ rfl) rfl (by show 2 * 0 + _ ≤ _; exact Nat.le_of_eq rfl) (hb hby d25_7) (fun _ _ => ⟨rfl, e81, (by decide : 0 + 1 ≤ _), (by decide : 0 + 10 ≤ _)⟩)
  dsimp only [Pt.U, Pt.locs, Pt.cells, Pt.slots] at X82 l82 y82 z82 st82 hQ82
  subst l82 y82 z82
  obtain ⟨Nq82, t82, k082, rfl, Kq82, Sz82, Gz82, Fe82, Fs82, Fm82, V82, Ov82⟩ := hQ82
  have N82 := Fr.app N0 Nq82
  have Kc82 := Keep.trans (Keep.refl h0 [a]) Kq82 (allS (Or.inl (List.mem_of_getElem? (i := 0) rfl)) all0)
  have Zc82 : n0 ≤ T82.heap.size := Nat.le_trans Z0 Kq82.1
  have Oc82 := Old.keep O0 Kq82 (allS g_a all0)
  have ne_a_t82 : a ≠ t82 := Nat.ne_of_lt (Nat.lt_of_lt_of_le (E_a).lt Sz82)
  have sz_t82 : h0.size ≤ t82 := Nat.le_trans (Keep.refl h0 [a]).1 Sz82
  refine Gl.back (fun _ k => st82.trans k) ?_
  show Gl _ _ _ _ _ _ _ (T82.setTop (mkF m 10 #[.val (.ref a)] [(.ref t82)]))
  exact Gl.ret X82 rfl (v := (some (.ref t82))) (fun h => by rw [Bd.returns] at h; cases h) Bd.notSynchronized (fun fs hr => retOut X82 hx (w := (.ref t82)) Bd.returns rfl (Or.inr (Or.inr (Or.inr (Or.inr ⟨rfl, rfl, rfl⟩)))) (hb hby d25_10) hr) ⟨N82, t82, k082, rfl, Kc82, sz_t82, Gz82, Fe82, Fs82, Fm82, V82, Ov82⟩ (by decide) (by decide)
theorem d24_0 : decode jdk_38_method_24_code 0 = .ok (.iload_n 3, 1) := by decide +kernel
theorem d24_1 : decode jdk_38_method_24_code 1 = .ok (.aload_n 2, 1) := by decide +kernel
theorem d24_2 : decode jdk_38_method_24_code 2 = .ok (.arraylength, 1) := by decide +kernel
theorem d24_3 : decode jdk_38_method_24_code 3 = .ok (.if_icmp .ne 8, 3) := by decide +kernel
theorem d24_6 : decode jdk_38_method_24_code 6 = .ok (.aload_n 0, 1) := by decide +kernel
theorem d24_7 : decode jdk_38_method_24_code 7 = .ok (.invokevirtual 129, 3) := by decide +kernel
theorem pd____Ljava_lang_Object_ : parseMethodDescriptor "()[Ljava/lang/Object;" = some ⟨[], some (.array (.object "java/lang/Object"))⟩ := by decide +kernel
theorem d24_10 : decode jdk_38_method_24_code 10 = .ok (.astore_n 2, 1) := by decide +kernel
theorem d24_11 : decode jdk_38_method_24_code 11 = .ok (.aload_n 2, 1) := by decide +kernel
theorem d24_12 : decode jdk_38_method_24_code 12 = .ok (.iload_n 3, 1) := by decide +kernel
theorem d24_13 : decode jdk_38_method_24_code 13 = .ok (.aload_n 1, 1) := by decide +kernel
theorem d24_14 : decode jdk_38_method_24_code 14 = .ok (.aastore, 1) := by decide +kernel
theorem d24_15 : decode jdk_38_method_24_code 15 = .ok (.aload_n 0, 1) := by decide +kernel
theorem d24_16 : decode jdk_38_method_24_code 16 = .ok (.iload_n 3, 1) := by decide +kernel
theorem d24_17 : decode jdk_38_method_24_code 17 = .ok (.iconst 1, 1) := by decide +kernel
theorem d24_18 : decode jdk_38_method_24_code 18 = .ok (.iadd, 1) := by decide +kernel
theorem d24_19 : decode jdk_38_method_24_code 19 = .ok (.putfield 48, 3) := by decide +kernel
theorem d24_22 : decode jdk_38_method_24_code 22 = .ok (.return_, 1) := by decide +kernel
theorem ef_add30 (m : MethodId) (x0 : Addr) (x1 : Addr) (x2 : Addr) : entryFrame m #[(.ref x0), (.ref x1), (.ref x2), (.int (0 : Int32))] 4 = mkF m 0 #[.val (.ref x0), .val (.ref x1), .val (.ref x2), .val (.int (0 : Int32))] [] := by first | (simp [entryFrame, mkF, argsToLocals, Value.category]; done) | rfl
def Qadd30 (Z : State) (a : Addr) (b : Addr) (wD : Addr) (kD : ClassId) (mc : Int32) (h0 : Heap) (n0 : Nat) (v : Option Value) (h : Heap) (L : List Loc) : Prop := Fr n0 L ∧ (∃ (t : Addr) (k : ClassId), v = none ∧ Keep h0 h [a] ∧ h0.size ≤ t ∧ n0 ≤ t ∧ Fld Z h a "java/util/ArrayList" "elementData" "[Ljava/lang/Object;" (.ref t) ∧ Fld Z h a "java/util/ArrayList" "size" "I" (.int (1 : Int32)) ∧ Fld Z h a "java/util/AbstractList" "modCount" "I" (.int mc) ∧ Arv Z h t k (.object "java/lang/Object") (10 : Int32) [(.ref b), .null, .null, .null, .null, .null, .null, .null, .null, .null] .null ∧ Ovr Z k "java/lang/Object")
set_option maxRecDepth 65536 in
set_option maxHeartbeats 40000000 in
theorem rmadd30 (l : Launch) (Z : State) (a0 : Array Value) (hw : ∀ d ∈ tables_1, d.before a0 Z = true) (ws : List Jvm.Cond) (a : Addr) (b : Addr) (wD : Addr) (kD : ClassId) (mc : Int32) (h0 : Heap) (n0 : Nat) (Z0 : n0 ≤ h0.size) (O0 : Old Z n0 h0) (g_a : n0 ≤ a) (E_a : Exa Z h0 a "java/util/ArrayList") (F_a_modCount : Fld Z h0 a "java/util/AbstractList" "modCount" "I" (.int mc)) (F_a_elementData : Fld Z h0 a "java/util/ArrayList" "elementData" "[Ljava/lang/Object;" (.ref wD)) (F_a_size : Fld Z h0 a "java/util/ArrayList" "size" "I" (.int (0 : Int32))) (S_DEFAULTCAPACITY_EMPTY_ELEMENTDATA : Sta Z Z.heap "java/util/ArrayList" "DEFAULTCAPACITY_EMPTY_ELEMENTDATA" "[Ljava/lang/Object;" (.ref wD)) (V_wD : Arv Z Z.heap wD kD (.object "java/lang/Object") (0 : Int32) [] .null) (E_b : Exa Z h0 b "com/example/gavelwatch/gavelwatch/model/Bid") (hab : a ≠ b) :
    MetFree l (⟨"java/util/ArrayList", "add", "(Ljava/lang/Object;[Ljava/lang/Object;I)V"⟩ : MethodName) (head1 (Jvm.Cond.code (⟨"java/util/ArrayList", "add", "(Ljava/lang/Object;[Ljava/lang/Object;I)V"⟩ : MethodName) jdk_38_method_24_code 4 none :: ws) ({ frames := 3, cells := 1, slots := 10, locals := 41 } : Room)) (fun as0 U => as0 = #[(.ref a), (.ref b), (.ref wD), (.int (0 : Int32))] ∧ Z.Warmed39 U.vm ∧ U.heap = h0) (fun _ _ _ _ _ => True) (fun _ U oc0 U' => ∃ v L, oc0 = .returned v ∧ Qadd30 Z a b wD kD mc h0 n0 v U'.heap L ∧ FrameEnd U oc0 U' L ({ frames := 3, cells := 1, slots := 10, locals := 41 } : Room).cells ({ frames := 3, cells := 1, slots := 10, locals := 41 } : Room).slots) := by
  refine MetFree.of_bodySF (plainFor_of_name pn_java_util_ArrayList) hisR ?_
  intro p e s m args below meth c s₁ Bd hml0 hP hK
  obtain ⟨rfl, hZ, hh⟩ := hP
  have hx := Bd.exec
  have hby := Bd.bytes
  have hml : c.maxLocals = 4 := hml0
  have hown : s.vm.findClass "java/util/ArrayList" = some m.cls := findClass_of_methodNamed Bd.named
  have hnm := (name_of_methodNamed Bd.named Bd.method).1
  have X0 : Stand p l e ({ frames := 3, cells := 1, slots := 10, locals := 41 } : Room) s m #[(.ref a), (.ref b), (.ref wD), (.int (0 : Int32))] below meth c s₁ [] 0 0 := Stand.of_body Bd
  have e0 : s₁.heap = h0 := by rw [← hh, Bd.state]; rfl
  have N0 := Fr.nil n0
  show Gl p e below s (Qadd30 Z a b wD kD mc h0 n0) ({ frames := 3, cells := 1, slots := 10, locals := 41 } : Room).cells ({ frames := 3, cells := 1, slots := 10, locals := 41 } : Room).slots (s₁.setTop (entryFrame m #[(.ref a), (.ref b), (.ref wD), (.int (0 : Int32))] 4))
  refine Gl.back (fun _ k => castTop (ef_add30 m a b wD) k) ?_
  show Gl _ _ _ _ _ _ _ (s₁.setTop (mkF m 0 #[.val (.ref a), .val (.ref b), .val (.ref wD), .val (.int (0 : Int32))] []))
  refine Gl.back (fun _ k => XS.iloadN X0.here hx rfl (hb hby d24_0) rfl k) ?_
  show Gl _ _ _ _ _ _ _ (s₁.setTop (mkF m 1 #[.val (.ref a), .val (.ref b), .val (.ref wD), .val (.int (0 : Int32))] [(.int (0 : Int32))]))
  refine Gl.back (fun _ k => XS.aloadN X0.here hx rfl (hb hby d24_1) rfl rfl k) ?_
  show Gl _ _ _ _ _ _ _ (s₁.setTop (mkF m 2 #[.val (.ref a), .val (.ref b), .val (.ref wD), .val (.int (0 : Int32))] [(.ref wD), (.int (0 : Int32))]))
  obtain ⟨cl83, Ar83, -, Sz83, Nn83, -, -⟩ := id (V_wD.ext O0.2)
  refine Gl.back (fun _ k => X0.arraylength hx (by rw [e0]; exact Ar83.1) (State.isArrayOf_alike hZ.alike Ar83.2.1) (g := (mkF m 2 #[.val (.ref a), .val (.ref b), .val (.ref wD), .val (.int (0 : Int32))] [(.ref wD), (.int (0 : Int32))])) rfl rfl (hb hby d24_2) _ k) ?_
  rw [len_of Sz83 Nn83]
  show Gl _ _ _ _ _ _ _ (s₁.setTop (mkF m 3 #[.val (.ref a), .val (.ref b), .val (.ref wD), .val (.int (0 : Int32))] [(.int (0 : Int32)), (.int (0 : Int32))]))
  refine Gl.back (fun _ k => XS.icmpNo X0.here hx rfl (hb hby d24_3) rfl (teq (by decide : (0 : Int32) = (0 : Int32))).2 k) ?_
  show Gl _ _ _ _ _ _ _ (s₁.setTop (mkF m 6 #[.val (.ref a), .val (.ref b), .val (.ref wD), .val (.int (0 : Int32))] []))
  refine Gl.back (fun _ k => XS.aloadN X0.here hx rfl (hb hby d24_6) rfl rfl k) ?_
  show Gl _ _ _ _ _ _ _ (s₁.setTop (mkF m 7 #[.val (.ref a), .val (.ref b), .val (.ref wD), .val (.int (0 : Int32))] [(.ref a)]))
  obtain ⟨cq84, q84, q84'⟩ := E_a.cell
  obtain ⟨_, _, ⟨T84, L84, k84, n84⟩, -, X84, ⟨Lc84, hQ84, l84, y84, z84⟩, st84⟩ := X0.privateBack hx (y := (⟨"java/util/ArrayList", "grow", "()[Ljava/lang/Object;"⟩ : MethodName)) hown (mvT hZ (hw _ (List.mem_of_getElem? (i := 166) rfl))) (mvT hZ (hw _ (List.mem_of_getElem? (i := 167) rfl))) (mvT hZ (hw _ (List.mem_of_getElem? (i := 169) rfl))) (Cond.privateMethod_at (mvP hZ (hw _ (List.mem_of_getElem? (i := 168) rfl)) (args := #[]))) (mvT hZ (hw _ (List.mem_of_getElem? (i := 170) rfl))) (by decide) (backOf (W := 0) (rmgrow0 l Z a0 hw [] a wD kD mc h0 n0 Z0 O0 g_a E_a F_a_modCount F_a_elementData F_a_size S_DEFAULTCAPACITY_EMPTY_ELEMENTDATA V_wD) hZ (hw _ (List.mem_of_getElem? (i := 170) rfl)) (hw _ (List.mem_of_getElem? (i := 25) rfl)) (by decide) (by decide)) (g := (mkF m 7 #[.val (.ref a), .val (.ref b), .val (.ref wD), .val (.int (0 : Int32))] [(.ref a)])) rfl (by rw [hml]; rfl) (Steps.refl _) (a := a) (by rw [e0]; exact q84) q84' (argsL := []) (rest := []) (lenOf pd____Ljava_lang_Object_ rfl) rfl (by show 2 * 0 + _ ≤ _; exact Nat.le_of_eq rfl) (hb hby d24_7) (fun _ _ => ⟨rfl, e0, (by decide : 0 + 1 ≤ _), (by decide : 0 + 10 ≤ _)⟩)
  dsimp only [Pt.U, Pt.locs, Pt.cells, Pt.slots] at X84 l84 y84 z84 st84 hQ84
  subst l84 y84 z84
  obtain ⟨Nq84, t84, k084, rfl, Kq84, Sz84, Gz84, Fe84, Fs84, Fm84, V84, Ov84⟩ := hQ84
  have N84 := Fr.app N0 Nq84
  have Kc84 := Keep.trans (Keep.refl h0 [a]) Kq84 (allS (Or.inl (List.mem_of_getElem? (i := 0) rfl)) all0)
  have Zc84 : n0 ≤ T84.heap.size := Nat.le_trans Z0 Kq84.1
  have Oc84 := Old.keep O0 Kq84 (allS g_a all0)
  have ne_a_t84 : a ≠ t84 := Nat.ne_of_lt (Nat.lt_of_lt_of_le (E_a).lt Sz84)
  have ne_b_t84 : b ≠ t84 := Nat.ne_of_lt (Nat.lt_of_lt_of_le (E_b).lt Sz84)
  have sz_t84 : h0.size ≤ t84 := Nat.le_trans (Keep.refl h0 [a]).1 Sz84
  refine Gl.back (fun _ k => st84.trans k) ?_
  show Gl _ _ _ _ _ _ _ (T84.setTop (mkF m 10 #[.val (.ref a), .val (.ref b), .val (.ref wD), .val (.int (0 : Int32))] [(.ref t84)]))
  refine Gl.back (fun _ k => XS.astoreN X84.here hx rfl (hb hby d24_10) rfl rfl (l' := #[.val (.ref a), .val (.ref b), .val (.ref t84), .val (.int (0 : Int32))]) rfl k) ?_
  show Gl _ _ _ _ _ _ _ (T84.setTop (mkF m 11 #[.val (.ref a), .val (.ref b), .val (.ref t84), .val (.int (0 : Int32))] []))
  refine Gl.back (fun _ k => XS.aloadN X84.here hx rfl (hb hby d24_11) rfl rfl k) ?_
  show Gl _ _ _ _ _ _ _ (T84.setTop (mkF m 12 #[.val (.ref a), .val (.ref b), .val (.ref t84), .val (.int (0 : Int32))] [(.ref t84)]))
  refine Gl.back (fun _ k => XS.iloadN X84.here hx rfl (hb hby d24_12) rfl k) ?_
  show Gl _ _ _ _ _ _ _ (T84.setTop (mkF m 13 #[.val (.ref a), .val (.ref b), .val (.ref t84), .val (.int (0 : Int32))] [(.int (0 : Int32)), (.ref t84)]))
  refine Gl.back (fun _ k => XS.aloadN X84.here hx rfl (hb hby d24_13) rfl rfl k) ?_
  show Gl _ _ _ _ _ _ _ (T84.setTop (mkF m 14 #[.val (.ref a), .val (.ref b), .val (.ref t84), .val (.int (0 : Int32))] [(.ref b), (.int (0 : Int32)), (.ref t84)]))
  obtain ⟨cl85, Ar85, q85, Sz85, Nn85, Hs85, Gf85⟩ := id V84
  have hin85 : ¬ ((0 : Int32) < 0 ∨ cl85.slots.size ≤ ((0 : Int32)).toNatClampNeg) := inb_of Sz85 ⟨by decide, by decide⟩
  have f86 := (E_b.keep Kq84)
  obtain ⟨T87, h87, X87, e87, W87, st87⟩ := stR X84 hx hZ rfl Ar85 (j := (0 : Int32)) hin85 rfl (Sto.ofV Ar85 q85 Ov84 (Ins.of_exa f86 (hw _ (List.mem_of_getElem? (i := 181) rfl)))) (g := (mkF m 14 #[.val (.ref a), .val (.ref b), .val (.ref t84), .val (.int (0 : Int32))] [(.ref b), (.int (0 : Int32)), (.ref t84)])) rfl rfl (hb hby d24_14)
  have V87 := Arv.set Ar85 q85 Sz85 Nn85 Hs85 Gf85 rfl W87 0 rfl (Nat.le_of_ble_eq_true rfl)
  replace V87 : Arv Z h87 t84 k084 (.object "java/lang/Object") (10 : Int32) [(.ref b), .null, .null, .null, .null, .null, .null, .null, .null, .null] .null := V87
  have K87 := Keep.wr Kc84 W87 (Or.inr sz_t84)
  have O87 := Old.wr Oc84 W87 Gz84
  have Z87 : n0 ≤ h87.size := Nat.le_trans Zc84 (Keep.of_wr W87).1
  have N87 := Fr.snoc X87 N84 Gz84
  refine Gl.back (fun _ k => st87 _ k) ?_
  show Gl _ _ _ _ _ _ _ (T87.setTop (mkF m 15 #[.val (.ref a), .val (.ref b), .val (.ref t84), .val (.int (0 : Int32))] []))
  refine Gl.back (fun _ k => XS.aloadN X87.here hx rfl (hb hby d24_15) rfl rfl k) ?_
  show Gl _ _ _ _ _ _ _ (T87.setTop (mkF m 16 #[.val (.ref a), .val (.ref b), .val (.ref t84), .val (.int (0 : Int32))] [(.ref a)]))
  refine Gl.back (fun _ k => XS.iloadN X87.here hx rfl (hb hby d24_16) rfl k) ?_
  show Gl _ _ _ _ _ _ _ (T87.setTop (mkF m 17 #[.val (.ref a), .val (.ref b), .val (.ref t84), .val (.int (0 : Int32))] [(.int (0 : Int32)), (.ref a)]))
  refine Gl.back (fun _ k => XS.iconst X87.here hx rfl (hb hby d24_17) k) ?_
  show Gl _ _ _ _ _ _ _ (T87.setTop (mkF m 18 #[.val (.ref a), .val (.ref b), .val (.ref t84), .val (.int (0 : Int32))] [(.int (1 : Int32)), (.int (0 : Int32)), (.ref a)]))
  refine Gl.back (fun _ k => XS.iadd X87.here hx rfl (hb hby d24_18) rfl k) ?_
  show Gl _ _ _ _ _ _ _ (T87.setTop (mkF m 19 #[.val (.ref a), .val (.ref b), .val (.ref t84), .val (.int (0 : Int32))] [(.int (1 : Int32)), (.ref a)]))
  have f88 := ((E_a.keep Kq84).wr W87)
  have f89 := (Fs84.other W87 (Or.inl ne_a_t84))
  obtain ⟨T90, h90, X90, e90, W90, st90⟩ := putF X87 hx hZ hown (host := "") (Or.inl (hw _ (List.mem_of_getElem? (i := 159) rfl))) Via.refl e87 f89 f88 (Or.inl (hw _ (List.mem_of_getElem? (i := 160) rfl))) (hw _ (List.mem_of_getElem? (i := 24) rfl)) (ty := .int) (by decide) rfl rfl (g := (mkF m 19 #[.val (.ref a), .val (.ref b), .val (.ref t84), .val (.int (0 : Int32))] [(.int (1 : Int32)), (.ref a)])) rfl rfl (hb hby d24_19)
  have Fw90 := f89.same W90
  have K90 := Keep.wr K87 W90 (Or.inl (List.mem_of_getElem? (i := 0) rfl))
  have O90 := Old.wr O87 W90 g_a
  have Z90 : n0 ≤ h90.size := Nat.le_trans Z87 (Keep.of_wr W90).1
  have N90 := Fr.snoc X90 N87 g_a
  refine Gl.back (fun _ k => st90 _ k) ?_
  show Gl _ _ _ _ _ _ _ (T90.setTop (mkF m 22 #[.val (.ref a), .val (.ref b), .val (.ref t84), .val (.int (0 : Int32))] []))
  have f91 := ((Fe84.other W87 (Or.inl ne_a_t84)).other W90 (Or.inr (slot_ne (Or.inl (hw _ (List.mem_of_getElem? (i := 46) rfl))) (Or.inl (hw _ (List.mem_of_getElem? (i := 160) rfl))) (by decide) (t := (.array (.object "java/lang/Object"))) (t' := .int) (by decide) (by decide))))
  have f92 := ((Fm84.other W87 (Or.inl ne_a_t84)).other W90 (Or.inr (slot_ne (Or.inl (hw _ (List.mem_of_getElem? (i := 43) rfl))) (Or.inl (hw _ (List.mem_of_getElem? (i := 160) rfl))) (by decide) (t := .int) (t' := .int) (by decide) (by decide))))
  have f93 := (V87.other W90 (Ne.symm ne_a_t84))
  exact Gl.ret X90 e90 (v := none) (fun _ => rfl) Bd.notSynchronized (fun fs hr => X90.returnOut hx Bd.returns (hb hby d24_22) hr) ⟨N90, t84, k084, rfl, K90, sz_t84, Gz84, f91, Fw90, f92, f93, Ov84⟩ (by decide) (by decide)
theorem d23_0 : decode jdk_38_method_25_code 0 = .ok (.aload_n 0, 1) := by decide +kernel
theorem d23_1 : decode jdk_38_method_25_code 1 = .ok (.dup, 1) := by decide +kernel
theorem d23_2 : decode jdk_38_method_25_code 2 = .ok (.getfield 63, 3) := by decide +kernel
theorem d23_5 : decode jdk_38_method_25_code 5 = .ok (.iconst 1, 1) := by decide +kernel
theorem d23_6 : decode jdk_38_method_25_code 6 = .ok (.iadd, 1) := by decide +kernel
theorem d23_7 : decode jdk_38_method_25_code 7 = .ok (.putfield 63, 3) := by decide +kernel
theorem d23_10 : decode jdk_38_method_25_code 10 = .ok (.aload_n 0, 1) := by decide +kernel
theorem d23_11 : decode jdk_38_method_25_code 11 = .ok (.aload_n 1, 1) := by decide +kernel
theorem d23_12 : decode jdk_38_method_25_code 12 = .ok (.aload_n 0, 1) := by decide +kernel
theorem d23_13 : decode jdk_38_method_25_code 13 = .ok (.getfield 9, 3) := by decide +kernel
theorem d23_16 : decode jdk_38_method_25_code 16 = .ok (.aload_n 0, 1) := by decide +kernel
theorem d23_17 : decode jdk_38_method_25_code 17 = .ok (.getfield 48, 3) := by decide +kernel
theorem d23_20 : decode jdk_38_method_25_code 20 = .ok (.invokevirtual 131, 3) := by decide +kernel
theorem pd__Ljava_lang_Object__Ljava_lang_Object_I_V : parseMethodDescriptor "(Ljava/lang/Object;[Ljava/lang/Object;I)V" = some ⟨[(.object "java/lang/Object"), (.array (.object "java/lang/Object")), .int], none⟩ := by decide +kernel
theorem d23_23 : decode jdk_38_method_25_code 23 = .ok (.iconst 1, 1) := by decide +kernel
theorem d23_24 : decode jdk_38_method_25_code 24 = .ok (.ireturn, 1) := by decide +kernel
theorem ef_add0 (m : MethodId) (x0 : Addr) (x1 : Addr) : entryFrame m #[(.ref x0), (.ref x1)] 2 = mkF m 0 #[.val (.ref x0), .val (.ref x1)] [] := by first | (simp [entryFrame, mkF, argsToLocals, Value.category]; done) | rfl
def Qadd0 (Z : State) (a : Addr) (b : Addr) (wD : Addr) (kD : ClassId) (mc : Int32) (h0 : Heap) (n0 : Nat) (v : Option Value) (h : Heap) (L : List Loc) : Prop := Fr n0 L ∧ (∃ (t : Addr) (k : ClassId), v = some (.int 1) ∧ Keep h0 h [a] ∧ h0.size ≤ t ∧ n0 ≤ t ∧ Fld Z h a "java/util/ArrayList" "elementData" "[Ljava/lang/Object;" (.ref t) ∧ Fld Z h a "java/util/ArrayList" "size" "I" (.int (1 : Int32)) ∧ Fld Z h a "java/util/AbstractList" "modCount" "I" (.int (mc + (1 : Int32))) ∧ Arv Z h t k (.object "java/lang/Object") (10 : Int32) [(.ref b), .null, .null, .null, .null, .null, .null, .null, .null, .null] .null ∧ Ovr Z k "java/lang/Object")
set_option maxRecDepth 65536 in
set_option maxHeartbeats 40000000 in
theorem rmadd0 (l : Launch) (Z : State) (a0 : Array Value) (hw : ∀ d ∈ tables_1, d.before a0 Z = true) (ws : List Jvm.Cond) (a : Addr) (b : Addr) (wD : Addr) (kD : ClassId) (mc : Int32) (h0 : Heap) (n0 : Nat) (Z0 : n0 ≤ h0.size) (O0 : Old Z n0 h0) (g_a : n0 ≤ a) (E_a : Exa Z h0 a "java/util/ArrayList") (F_a_modCount : Fld Z h0 a "java/util/AbstractList" "modCount" "I" (.int mc)) (F_a_elementData : Fld Z h0 a "java/util/ArrayList" "elementData" "[Ljava/lang/Object;" (.ref wD)) (F_a_size : Fld Z h0 a "java/util/ArrayList" "size" "I" (.int (0 : Int32))) (S_DEFAULTCAPACITY_EMPTY_ELEMENTDATA : Sta Z Z.heap "java/util/ArrayList" "DEFAULTCAPACITY_EMPTY_ELEMENTDATA" "[Ljava/lang/Object;" (.ref wD)) (V_wD : Arv Z Z.heap wD kD (.object "java/lang/Object") (0 : Int32) [] .null) (E_b : Exa Z h0 b "com/example/gavelwatch/gavelwatch/model/Bid") (hab : a ≠ b) :
    MetFree l (⟨"java/util/ArrayList", "add", "(Ljava/lang/Object;)Z"⟩ : MethodName) (head1 (Jvm.Cond.code (⟨"java/util/ArrayList", "add", "(Ljava/lang/Object;)Z"⟩ : MethodName) jdk_38_method_25_code 2 (some .boolean) :: ws) ({ frames := 4, cells := 1, slots := 10, locals := 56 } : Room)) (fun as0 U => as0 = #[(.ref a), (.ref b)] ∧ Z.Warmed39 U.vm ∧ U.heap = h0) (fun _ _ _ _ _ => True) (fun _ U oc0 U' => ∃ v L, oc0 = .returned v ∧ Qadd0 Z a b wD kD mc h0 n0 v U'.heap L ∧ FrameEnd U oc0 U' L ({ frames := 4, cells := 1, slots := 10, locals := 56 } : Room).cells ({ frames := 4, cells := 1, slots := 10, locals := 56 } : Room).slots) := by
  refine MetFree.of_bodySF (plainFor_of_name pn_java_util_ArrayList) hisR ?_
  intro p e s m args below meth c s₁ Bd hml0 hP hK
  obtain ⟨rfl, hZ, hh⟩ := hP
  have hx := Bd.exec
  have hby := Bd.bytes
  have hml : c.maxLocals = 2 := hml0
  have hown : s.vm.findClass "java/util/ArrayList" = some m.cls := findClass_of_methodNamed Bd.named
  have hnm := (name_of_methodNamed Bd.named Bd.method).1
  have X0 : Stand p l e ({ frames := 4, cells := 1, slots := 10, locals := 56 } : Room) s m #[(.ref a), (.ref b)] below meth c s₁ [] 0 0 := Stand.of_body Bd
  have e0 : s₁.heap = h0 := by rw [← hh, Bd.state]; rfl
  have N0 := Fr.nil n0
  show Gl p e below s (Qadd0 Z a b wD kD mc h0 n0) ({ frames := 4, cells := 1, slots := 10, locals := 56 } : Room).cells ({ frames := 4, cells := 1, slots := 10, locals := 56 } : Room).slots (s₁.setTop (entryFrame m #[(.ref a), (.ref b)] 2))
  refine Gl.back (fun _ k => castTop (ef_add0 m a b) k) ?_
  show Gl _ _ _ _ _ _ _ (s₁.setTop (mkF m 0 #[.val (.ref a), .val (.ref b)] []))
  refine Gl.back (fun _ k => XS.aloadN X0.here hx rfl (hb hby d23_0) rfl rfl k) ?_
  show Gl _ _ _ _ _ _ _ (s₁.setTop (mkF m 1 #[.val (.ref a), .val (.ref b)] [(.ref a)]))
  refine Gl.back (fun _ k => XS.dup X0.here hx rfl (hb hby d23_1) rfl rfl k) ?_
  show Gl _ _ _ _ _ _ _ (s₁.setTop (mkF m 2 #[.val (.ref a), .val (.ref b)] [(.ref a), (.ref a)]))
  obtain ⟨T94, X94, e94, st94⟩ := getF X0 hx hZ hown (host := "") (Or.inl (hw _ (List.mem_of_getElem? (i := 157) rfl))) (Via.of (hw _ (List.mem_of_getElem? (i := 158) rfl))) e0 F_a_modCount (g := (mkF m 2 #[.val (.ref a), .val (.ref b)] [(.ref a), (.ref a)])) rfl rfl (hb hby d23_2)
  refine Gl.back (fun _ k => st94 _ k) ?_
  show Gl _ _ _ _ _ _ _ (T94.setTop (mkF m 5 #[.val (.ref a), .val (.ref b)] [(.int mc), (.ref a)]))
  refine Gl.back (fun _ k => XS.iconst X94.here hx rfl (hb hby d23_5) k) ?_
  show Gl _ _ _ _ _ _ _ (T94.setTop (mkF m 6 #[.val (.ref a), .val (.ref b)] [(.int (1 : Int32)), (.int mc), (.ref a)]))
  refine Gl.back (fun _ k => XS.iadd X94.here hx rfl (hb hby d23_6) rfl k) ?_
  show Gl _ _ _ _ _ _ _ (T94.setTop (mkF m 7 #[.val (.ref a), .val (.ref b)] [(.int (mc + (1 : Int32))), (.ref a)]))
  obtain ⟨T95, h95, X95, e95, W95, st95⟩ := putF X94 hx hZ hown (host := "") (Or.inl (hw _ (List.mem_of_getElem? (i := 157) rfl))) (Via.of (hw _ (List.mem_of_getElem? (i := 158) rfl))) e94 F_a_modCount E_a (Or.inl (hw _ (List.mem_of_getElem? (i := 43) rfl))) (hw _ (List.mem_of_getElem? (i := 24) rfl)) (ty := .int) (by decide) rfl rfl (g := (mkF m 7 #[.val (.ref a), .val (.ref b)] [(.int (mc + (1 : Int32))), (.ref a)])) rfl rfl (hb hby d23_7)
  have Fw95 := F_a_modCount.same W95
  have K95 := Keep.wr (Keep.refl h0 [a]) W95 (Or.inl (List.mem_of_getElem? (i := 0) rfl))
  have O95 := Old.wr O0 W95 g_a
  have Z95 : n0 ≤ h95.size := Nat.le_trans Z0 (Keep.of_wr W95).1
  have N95 := Fr.snoc X95 N0 g_a
  refine Gl.back (fun _ k => st95 _ k) ?_
  show Gl _ _ _ _ _ _ _ (T95.setTop (mkF m 10 #[.val (.ref a), .val (.ref b)] []))
  refine Gl.back (fun _ k => XS.aloadN X95.here hx rfl (hb hby d23_10) rfl rfl k) ?_
  show Gl _ _ _ _ _ _ _ (T95.setTop (mkF m 11 #[.val (.ref a), .val (.ref b)] [(.ref a)]))
  refine Gl.back (fun _ k => XS.aloadN X95.here hx rfl (hb hby d23_11) rfl rfl k) ?_
  show Gl _ _ _ _ _ _ _ (T95.setTop (mkF m 12 #[.val (.ref a), .val (.ref b)] [(.ref b), (.ref a)]))
  refine Gl.back (fun _ k => XS.aloadN X95.here hx rfl (hb hby d23_12) rfl rfl k) ?_
  show Gl _ _ _ _ _ _ _ (T95.setTop (mkF m 13 #[.val (.ref a), .val (.ref b)] [(.ref a), (.ref b), (.ref a)]))
  have f96 := (F_a_elementData.other W95 (Or.inr (slot_ne (Or.inl (hw _ (List.mem_of_getElem? (i := 46) rfl))) (Or.inl (hw _ (List.mem_of_getElem? (i := 43) rfl))) (by decide) (t := (.array (.object "java/lang/Object"))) (t' := .int) (by decide) (by decide))))
  obtain ⟨T97, X97, e97, st97⟩ := getF X95 hx hZ hown (host := "") (Or.inl (hw _ (List.mem_of_getElem? (i := 45) rfl))) Via.refl e95 f96 (g := (mkF m 13 #[.val (.ref a), .val (.ref b)] [(.ref a), (.ref b), (.ref a)])) rfl rfl (hb hby d23_13)
  refine Gl.back (fun _ k => st97 _ k) ?_
  show Gl _ _ _ _ _ _ _ (T97.setTop (mkF m 16 #[.val (.ref a), .val (.ref b)] [(.ref wD), (.ref b), (.ref a)]))
  refine Gl.back (fun _ k => XS.aloadN X97.here hx rfl (hb hby d23_16) rfl rfl k) ?_
  show Gl _ _ _ _ _ _ _ (T97.setTop (mkF m 17 #[.val (.ref a), .val (.ref b)] [(.ref a), (.ref wD), (.ref b), (.ref a)]))
  have f98 := (F_a_size.other W95 (Or.inr (slot_ne (Or.inl (hw _ (List.mem_of_getElem? (i := 160) rfl))) (Or.inl (hw _ (List.mem_of_getElem? (i := 43) rfl))) (by decide) (t := .int) (t' := .int) (by decide) (by decide))))
  obtain ⟨T99, X99, e99, st99⟩ := getF X97 hx hZ hown (host := "") (Or.inl (hw _ (List.mem_of_getElem? (i := 159) rfl))) Via.refl e97 f98 (g := (mkF m 17 #[.val (.ref a), .val (.ref b)] [(.ref a), (.ref wD), (.ref b), (.ref a)])) rfl rfl (hb hby d23_17)
  refine Gl.back (fun _ k => st99 _ k) ?_
  show Gl _ _ _ _ _ _ _ (T99.setTop (mkF m 20 #[.val (.ref a), .val (.ref b)] [(.int (0 : Int32)), (.ref wD), (.ref b), (.ref a)]))
  have f101 := (E_a.wr W95)
  have f102 := (E_b.wr W95)
  obtain ⟨cq100, q100, q100'⟩ := f101.cell
  obtain ⟨_, _, ⟨T100, L100, k100, n100⟩, -, X100, ⟨Lc100, hQ100, l100, y100, z100⟩, st100⟩ := X99.privateBack hx (y := (⟨"java/util/ArrayList", "add", "(Ljava/lang/Object;[Ljava/lang/Object;I)V"⟩ : MethodName)) hown (mvT hZ (hw _ (List.mem_of_getElem? (i := 161) rfl))) (mvT hZ (hw _ (List.mem_of_getElem? (i := 162) rfl))) (mvT hZ (hw _ (List.mem_of_getElem? (i := 164) rfl))) (Cond.privateMethod_at (mvP hZ (hw _ (List.mem_of_getElem? (i := 163) rfl)) (args := #[]))) (mvT hZ (hw _ (List.mem_of_getElem? (i := 165) rfl))) (by decide) (backOf (W := 0) (rmadd30 l Z a0 hw [] a b wD kD (mc + (1 : Int32)) h95 n0 Z95 O95 g_a f101 Fw95 f96 f98 S_DEFAULTCAPACITY_EMPTY_ELEMENTDATA V_wD f102 hab) hZ (hw _ (List.mem_of_getElem? (i := 165) rfl)) (hw _ (List.mem_of_getElem? (i := 25) rfl)) (by decide) (by decide)) (g := (mkF m 20 #[.val (.ref a), .val (.ref b)] [(.int (0 : Int32)), (.ref wD), (.ref b), (.ref a)])) rfl (by rw [hml]; rfl) (Steps.refl _) (a := a) (by rw [e99]; exact q100) q100' (argsL := [(.ref b), (.ref wD), (.int (0 : Int32))]) (rest := []) (lenOf pd__Ljava_lang_Object__Ljava_lang_Object_I_V rfl) rfl (by show 2 * 0 + _ ≤ _; exact Nat.le_of_eq rfl) (hb hby d23_20) (fun _ _ => ⟨rfl, e99, (by decide : 0 + 1 ≤ _), (by decide : 0 + 10 ≤ _)⟩)
  dsimp only [Pt.U, Pt.locs, Pt.cells, Pt.slots] at X100 l100 y100 z100 st100 hQ100
  subst l100 y100 z100
  obtain ⟨Nq100, t100, k0100, rfl, Kq100, Sz100, Gz100, Fe100, Fs100, Fm100, V100, Ov100⟩ := hQ100
  have N100 := Fr.app N95 Nq100
  have Kc100 := Keep.trans K95 Kq100 (allS (Or.inl (List.mem_of_getElem? (i := 0) rfl)) all0)
  have Zc100 : n0 ≤ T100.heap.size := Nat.le_trans Z95 Kq100.1
  have Oc100 := Old.keep O95 Kq100 (allS g_a all0)
  have ne_a_t100 : a ≠ t100 := Nat.ne_of_lt (Nat.lt_of_lt_of_le (f101).lt Sz100)
  have ne_b_t100 : b ≠ t100 := Nat.ne_of_lt (Nat.lt_of_lt_of_le (f102).lt Sz100)
  have sz_t100 : h0.size ≤ t100 := Nat.le_trans K95.1 Sz100
  refine Gl.back (fun _ k => st100.trans k) ?_
  show Gl _ _ _ _ _ _ _ (T100.setTop (mkF m 23 #[.val (.ref a), .val (.ref b)] []))
  refine Gl.back (fun _ k => XS.iconst X100.here hx rfl (hb hby d23_23) k) ?_
  show Gl _ _ _ _ _ _ _ (T100.setTop (mkF m 24 #[.val (.ref a), .val (.ref b)] [(.int (1 : Int32))]))
  exact Gl.ret X100 rfl (v := (some (.int (1 : Int32)))) (fun h => by rw [Bd.returns] at h; cases h) Bd.notSynchronized (fun fs hr => retN X100 hx (t := .boolean) (z := (1 : Int32)) Bd.returns (by simp) (hb hby d23_24) hr) ⟨N100, t100, k0100, rfl, Kc100, sz_t100, Gz100, Fe100, Fs100, Fm100, V100, Ov100⟩ (by decide) (by decide)
theorem ef_add31 (m : MethodId) (x0 : Addr) (x1 : Addr) (x2 : Addr) : entryFrame m #[(.ref x0), (.ref x1), (.ref x2), (.int (1 : Int32))] 4 = mkF m 0 #[.val (.ref x0), .val (.ref x1), .val (.ref x2), .val (.int (1 : Int32))] [] := by first | (simp [entryFrame, mkF, argsToLocals, Value.category]; done) | rfl
def Qadd31 (Z : State) (a : Addr) (b : Addr) (t c0 : Addr) (kt : ClassId) (mc : Int32) (h0 : Heap) (n0 : Nat) (v : Option Value) (h : Heap) (L : List Loc) : Prop := Fr n0 L ∧ (v = none ∧ Keep h0 h [a, t] ∧ Fld Z h a "java/util/ArrayList" "size" "I" (.int (2 : Int32)))
set_option maxRecDepth 65536 in
set_option maxHeartbeats 40000000 in
theorem rmadd31 (l : Launch) (Z : State) (a0 : Array Value) (hw : ∀ d ∈ tables_1, d.before a0 Z = true) (ws : List Jvm.Cond) (a : Addr) (b : Addr) (t c0 : Addr) (kt : ClassId) (mc : Int32) (h0 : Heap) (n0 : Nat) (Z0 : n0 ≤ h0.size) (g_a : n0 ≤ a) (E_a : Exa Z h0 a "java/util/ArrayList") (F_a_modCount : Fld Z h0 a "java/util/AbstractList" "modCount" "I" (.int mc)) (F_a_elementData : Fld Z h0 a "java/util/ArrayList" "elementData" "[Ljava/lang/Object;" (.ref t)) (F_a_size : Fld Z h0 a "java/util/ArrayList" "size" "I" (.int (1 : Int32))) (E_b : Exa Z h0 b "com/example/gavelwatch/gavelwatch/model/Bid") (g_t : n0 ≤ t) (V_t : Arv Z h0 t kt (.object "java/lang/Object") (10 : Int32) [(.ref c0), .null, .null, .null, .null, .null, .null, .null, .null, .null] .null) (Ov_t : Ovr Z kt "java/lang/Object") (hab : a ≠ b) (hat : a ≠ t) (hbt : b ≠ t) :
    MetFree l (⟨"java/util/ArrayList", "add", "(Ljava/lang/Object;[Ljava/lang/Object;I)V"⟩ : MethodName) (head1 (Jvm.Cond.code (⟨"java/util/ArrayList", "add", "(Ljava/lang/Object;[Ljava/lang/Object;I)V"⟩ : MethodName) jdk_38_method_24_code 4 none :: ws) ({ frames := 0, cells := 0, slots := 0, locals := 0 } : Room)) (fun as0 U => as0 = #[(.ref a), (.ref b), (.ref t), (.int (1 : Int32))] ∧ Z.Warmed39 U.vm ∧ U.heap = h0) (fun _ _ _ _ _ => True) (fun _ U oc0 U' => ∃ v L, oc0 = .returned v ∧ Qadd31 Z a b t c0 kt mc h0 n0 v U'.heap L ∧ FrameEnd U oc0 U' L ({ frames := 0, cells := 0, slots := 0, locals := 0 } : Room).cells ({ frames := 0, cells := 0, slots := 0, locals := 0 } : Room).slots) := by
  refine MetFree.of_bodySF (plainFor_of_name pn_java_util_ArrayList) hisR ?_
  intro p e s m args below meth c s₁ Bd hml0 hP hK
  obtain ⟨rfl, hZ, hh⟩ := hP
  have hx := Bd.exec
  have hby := Bd.bytes
  have hml : c.maxLocals = 4 := hml0
  have hown : s.vm.findClass "java/util/ArrayList" = some m.cls := findClass_of_methodNamed Bd.named
  have hnm := (name_of_methodNamed Bd.named Bd.method).1
  have X0 : Stand p l e ({ frames := 0, cells := 0, slots := 0, locals := 0 } : Room) s m #[(.ref a), (.ref b), (.ref t), (.int (1 : Int32))] below meth c s₁ [] 0 0 := Stand.of_body Bd
  have e0 : s₁.heap = h0 := by rw [← hh, Bd.state]; rfl
  have N0 := Fr.nil n0
  show Gl p e below s (Qadd31 Z a b t c0 kt mc h0 n0) ({ frames := 0, cells := 0, slots := 0, locals := 0 } : Room).cells ({ frames := 0, cells := 0, slots := 0, locals := 0 } : Room).slots (s₁.setTop (entryFrame m #[(.ref a), (.ref b), (.ref t), (.int (1 : Int32))] 4))
  refine Gl.back (fun _ k => castTop (ef_add31 m a b t) k) ?_
  show Gl _ _ _ _ _ _ _ (s₁.setTop (mkF m 0 #[.val (.ref a), .val (.ref b), .val (.ref t), .val (.int (1 : Int32))] []))
  refine Gl.back (fun _ k => XS.iloadN X0.here hx rfl (hb hby d24_0) rfl k) ?_
  show Gl _ _ _ _ _ _ _ (s₁.setTop (mkF m 1 #[.val (.ref a), .val (.ref b), .val (.ref t), .val (.int (1 : Int32))] [(.int (1 : Int32))]))
  refine Gl.back (fun _ k => XS.aloadN X0.here hx rfl (hb hby d24_1) rfl rfl k) ?_
  show Gl _ _ _ _ _ _ _ (s₁.setTop (mkF m 2 #[.val (.ref a), .val (.ref b), .val (.ref t), .val (.int (1 : Int32))] [(.ref t), (.int (1 : Int32))]))
  obtain ⟨cl103, Ar103, -, Sz103, Nn103, -, -⟩ := id V_t
  refine Gl.back (fun _ k => X0.arraylength hx (by rw [e0]; exact Ar103.1) (State.isArrayOf_alike hZ.alike Ar103.2.1) (g := (mkF m 2 #[.val (.ref a), .val (.ref b), .val (.ref t), .val (.int (1 : Int32))] [(.ref t), (.int (1 : Int32))])) rfl rfl (hb hby d24_2) _ k) ?_
  rw [len_of Sz103 Nn103]
  show Gl _ _ _ _ _ _ _ (s₁.setTop (mkF m 3 #[.val (.ref a), .val (.ref b), .val (.ref t), .val (.int (1 : Int32))] [(.int (10 : Int32)), (.int (1 : Int32))]))
  refine Gl.back (fun _ k => XS.icmpYes X0.here hx rfl (pc0 := 3) (pc' := 11) rfl (hb hby d24_3) rfl (feq (by decide : ¬ (1 : Int32) = (10 : Int32))).2 (by decide) (by decide) k) ?_
  show Gl _ _ _ _ _ _ _ (s₁.setTop (mkF m 11 #[.val (.ref a), .val (.ref b), .val (.ref t), .val (.int (1 : Int32))] []))
  refine Gl.back (fun _ k => XS.aloadN X0.here hx rfl (hb hby d24_11) rfl rfl k) ?_
  show Gl _ _ _ _ _ _ _ (s₁.setTop (mkF m 12 #[.val (.ref a), .val (.ref b), .val (.ref t), .val (.int (1 : Int32))] [(.ref t)]))
  refine Gl.back (fun _ k => XS.iloadN X0.here hx rfl (hb hby d24_12) rfl k) ?_
  show Gl _ _ _ _ _ _ _ (s₁.setTop (mkF m 13 #[.val (.ref a), .val (.ref b), .val (.ref t), .val (.int (1 : Int32))] [(.int (1 : Int32)), (.ref t)]))
  refine Gl.back (fun _ k => XS.aloadN X0.here hx rfl (hb hby d24_13) rfl rfl k) ?_
  show Gl _ _ _ _ _ _ _ (s₁.setTop (mkF m 14 #[.val (.ref a), .val (.ref b), .val (.ref t), .val (.int (1 : Int32))] [(.ref b), (.int (1 : Int32)), (.ref t)]))
  obtain ⟨cl104, Ar104, q104, Sz104, Nn104, Hs104, Gf104⟩ := id V_t
  have hin104 : ¬ ((1 : Int32) < 0 ∨ cl104.slots.size ≤ ((1 : Int32)).toNatClampNeg) := inb_of Sz104 ⟨by decide, by decide⟩
  obtain ⟨T105, h105, X105, e105, W105, st105⟩ := stR X0 hx hZ e0 Ar104 (j := (1 : Int32)) hin104 rfl (Sto.ofV Ar104 q104 Ov_t (Ins.of_exa E_b (hw _ (List.mem_of_getElem? (i := 181) rfl)))) (g := (mkF m 14 #[.val (.ref a), .val (.ref b), .val (.ref t), .val (.int (1 : Int32))] [(.ref b), (.int (1 : Int32)), (.ref t)])) rfl rfl (hb hby d24_14)
  have V105 := Arv.set Ar104 q104 Sz104 Nn104 Hs104 Gf104 rfl W105 1 rfl (Nat.le_of_ble_eq_true rfl)
  replace V105 : Arv Z h105 t kt (.object "java/lang/Object") (10 : Int32) [(.ref c0), (.ref b), .null, .null, .null, .null, .null, .null, .null, .null] .null := V105
  have K105 := Keep.wr (Keep.refl h0 [a, t]) W105 (Or.inl (List.mem_of_getElem? (i := 1) rfl))
  have Z105 : n0 ≤ h105.size := Nat.le_trans Z0 (Keep.of_wr W105).1
  have N105 := Fr.snoc X105 N0 g_t
  refine Gl.back (fun _ k => st105 _ k) ?_
  show Gl _ _ _ _ _ _ _ (T105.setTop (mkF m 15 #[.val (.ref a), .val (.ref b), .val (.ref t), .val (.int (1 : Int32))] []))
  refine Gl.back (fun _ k => XS.aloadN X105.here hx rfl (hb hby d24_15) rfl rfl k) ?_
  show Gl _ _ _ _ _ _ _ (T105.setTop (mkF m 16 #[.val (.ref a), .val (.ref b), .val (.ref t), .val (.int (1 : Int32))] [(.ref a)]))
  refine Gl.back (fun _ k => XS.iloadN X105.here hx rfl (hb hby d24_16) rfl k) ?_
  show Gl _ _ _ _ _ _ _ (T105.setTop (mkF m 17 #[.val (.ref a), .val (.ref b), .val (.ref t), .val (.int (1 : Int32))] [(.int (1 : Int32)), (.ref a)]))
  refine Gl.back (fun _ k => XS.iconst X105.here hx rfl (hb hby d24_17) k) ?_
  show Gl _ _ _ _ _ _ _ (T105.setTop (mkF m 18 #[.val (.ref a), .val (.ref b), .val (.ref t), .val (.int (1 : Int32))] [(.int (1 : Int32)), (.int (1 : Int32)), (.ref a)]))
  refine Gl.back (fun _ k => XS.iadd X105.here hx rfl (hb hby d24_18) rfl k) ?_
  show Gl _ _ _ _ _ _ _ (T105.setTop (mkF m 19 #[.val (.ref a), .val (.ref b), .val (.ref t), .val (.int (1 : Int32))] [(.int (2 : Int32)), (.ref a)]))
  have f106 := (E_a.wr W105)
  have f107 := (F_a_size.other W105 (Or.inl hat))
  obtain ⟨T108, h108, X108, e108, W108, st108⟩ := putF X105 hx hZ hown (host := "") (Or.inl (hw _ (List.mem_of_getElem? (i := 159) rfl))) Via.refl e105 f107 f106 (Or.inl (hw _ (List.mem_of_getElem? (i := 160) rfl))) (hw _ (List.mem_of_getElem? (i := 24) rfl)) (ty := .int) (by decide) rfl rfl (g := (mkF m 19 #[.val (.ref a), .val (.ref b), .val (.ref t), .val (.int (1 : Int32))] [(.int (2 : Int32)), (.ref a)])) rfl rfl (hb hby d24_19)
  have Fw108 := f107.same W108
  have K108 := Keep.wr K105 W108 (Or.inl (List.mem_of_getElem? (i := 0) rfl))
  have Z108 : n0 ≤ h108.size := Nat.le_trans Z105 (Keep.of_wr W108).1
  have N108 := Fr.snoc X108 N105 g_a
  refine Gl.back (fun _ k => st108 _ k) ?_
  show Gl _ _ _ _ _ _ _ (T108.setTop (mkF m 22 #[.val (.ref a), .val (.ref b), .val (.ref t), .val (.int (1 : Int32))] []))
  exact Gl.ret X108 e108 (v := none) (fun _ => rfl) Bd.notSynchronized (fun fs hr => X108.returnOut hx Bd.returns (hb hby d24_22) hr) ⟨N108, rfl, K108, Fw108⟩ (by decide) (by decide)
theorem ef_add1 (m : MethodId) (x0 : Addr) (x1 : Addr) : entryFrame m #[(.ref x0), (.ref x1)] 2 = mkF m 0 #[.val (.ref x0), .val (.ref x1)] [] := by first | (simp [entryFrame, mkF, argsToLocals, Value.category]; done) | rfl
def Qadd1 (Z : State) (a : Addr) (b : Addr) (t c0 : Addr) (kt : ClassId) (mc : Int32) (h0 : Heap) (n0 : Nat) (v : Option Value) (h : Heap) (L : List Loc) : Prop := Fr n0 L ∧ (v = some (.int 1) ∧ Keep h0 h [a, t] ∧ Fld Z h a "java/util/ArrayList" "size" "I" (.int (2 : Int32)))
set_option maxRecDepth 65536 in
set_option maxHeartbeats 40000000 in
theorem rmadd1 (l : Launch) (Z : State) (a0 : Array Value) (hw : ∀ d ∈ tables_1, d.before a0 Z = true) (ws : List Jvm.Cond) (a : Addr) (b : Addr) (t c0 : Addr) (kt : ClassId) (mc : Int32) (h0 : Heap) (n0 : Nat) (Z0 : n0 ≤ h0.size) (g_a : n0 ≤ a) (E_a : Exa Z h0 a "java/util/ArrayList") (F_a_modCount : Fld Z h0 a "java/util/AbstractList" "modCount" "I" (.int mc)) (F_a_elementData : Fld Z h0 a "java/util/ArrayList" "elementData" "[Ljava/lang/Object;" (.ref t)) (F_a_size : Fld Z h0 a "java/util/ArrayList" "size" "I" (.int (1 : Int32))) (E_b : Exa Z h0 b "com/example/gavelwatch/gavelwatch/model/Bid") (g_t : n0 ≤ t) (V_t : Arv Z h0 t kt (.object "java/lang/Object") (10 : Int32) [(.ref c0), .null, .null, .null, .null, .null, .null, .null, .null, .null] .null) (Ov_t : Ovr Z kt "java/lang/Object") (hab : a ≠ b) (hat : a ≠ t) (hbt : b ≠ t) :
    MetFree l (⟨"java/util/ArrayList", "add", "(Ljava/lang/Object;)Z"⟩ : MethodName) (head1 (Jvm.Cond.code (⟨"java/util/ArrayList", "add", "(Ljava/lang/Object;)Z"⟩ : MethodName) jdk_38_method_25_code 2 (some .boolean) :: ws) ({ frames := 1, cells := 0, slots := 0, locals := 15 } : Room)) (fun as0 U => as0 = #[(.ref a), (.ref b)] ∧ Z.Warmed39 U.vm ∧ U.heap = h0) (fun _ _ _ _ _ => True) (fun _ U oc0 U' => ∃ v L, oc0 = .returned v ∧ Qadd1 Z a b t c0 kt mc h0 n0 v U'.heap L ∧ FrameEnd U oc0 U' L ({ frames := 1, cells := 0, slots := 0, locals := 15 } : Room).cells ({ frames := 1, cells := 0, slots := 0, locals := 15 } : Room).slots) := by
  refine MetFree.of_bodySF (plainFor_of_name pn_java_util_ArrayList) hisR ?_
  intro p e s m args below meth c s₁ Bd hml0 hP hK
  obtain ⟨rfl, hZ, hh⟩ := hP
  have hx := Bd.exec
  have hby := Bd.bytes
  have hml : c.maxLocals = 2 := hml0
  have hown : s.vm.findClass "java/util/ArrayList" = some m.cls := findClass_of_methodNamed Bd.named
  have hnm := (name_of_methodNamed Bd.named Bd.method).1
  have X0 : Stand p l e ({ frames := 1, cells := 0, slots := 0, locals := 15 } : Room) s m #[(.ref a), (.ref b)] below meth c s₁ [] 0 0 := Stand.of_body Bd
  have e0 : s₁.heap = h0 := by rw [← hh, Bd.state]; rfl
  have N0 := Fr.nil n0
  show Gl p e below s (Qadd1 Z a b t c0 kt mc h0 n0) ({ frames := 1, cells := 0, slots := 0, locals := 15 } : Room).cells ({ frames := 1, cells := 0, slots := 0, locals := 15 } : Room).slots (s₁.setTop (entryFrame m #[(.ref a), (.ref b)] 2))
  refine Gl.back (fun _ k => castTop (ef_add1 m a b) k) ?_
  show Gl _ _ _ _ _ _ _ (s₁.setTop (mkF m 0 #[.val (.ref a), .val (.ref b)] []))
  refine Gl.back (fun _ k => XS.aloadN X0.here hx rfl (hb hby d23_0) rfl rfl k) ?_
  show Gl _ _ _ _ _ _ _ (s₁.setTop (mkF m 1 #[.val (.ref a), .val (.ref b)] [(.ref a)]))
  refine Gl.back (fun _ k => XS.dup X0.here hx rfl (hb hby d23_1) rfl rfl k) ?_
  show Gl _ _ _ _ _ _ _ (s₁.setTop (mkF m 2 #[.val (.ref a), .val (.ref b)] [(.ref a), (.ref a)]))
  obtain ⟨T109, X109, e109, st109⟩ := getF X0 hx hZ hown (host := "") (Or.inl (hw _ (List.mem_of_getElem? (i := 157) rfl))) (Via.of (hw _ (List.mem_of_getElem? (i := 158) rfl))) e0 F_a_modCount (g := (mkF m 2 #[.val (.ref a), .val (.ref b)] [(.ref a), (.ref a)])) rfl rfl (hb hby d23_2)
  refine Gl.back (fun _ k => st109 _ k) ?_
  show Gl _ _ _ _ _ _ _ (T109.setTop (mkF m 5 #[.val (.ref a), .val (.ref b)] [(.int mc), (.ref a)]))
  refine Gl.back (fun _ k => XS.iconst X109.here hx rfl (hb hby d23_5) k) ?_
  show Gl _ _ _ _ _ _ _ (T109.setTop (mkF m 6 #[.val (.ref a), .val (.ref b)] [(.int (1 : Int32)), (.int mc), (.ref a)]))
  refine Gl.back (fun _ k => XS.iadd X109.here hx rfl (hb hby d23_6) rfl k) ?_
  show Gl _ _ _ _ _ _ _ (T109.setTop (mkF m 7 #[.val (.ref a), .val (.ref b)] [(.int (mc + (1 : Int32))), (.ref a)]))
  obtain ⟨T110, h110, X110, e110, W110, st110⟩ := putF X109 hx hZ hown (host := "") (Or.inl (hw _ (List.mem_of_getElem? (i := 157) rfl))) (Via.of (hw _ (List.mem_of_getElem? (i := 158) rfl))) e109 F_a_modCount E_a (Or.inl (hw _ (List.mem_of_getElem? (i := 43) rfl))) (hw _ (List.mem_of_getElem? (i := 24) rfl)) (ty := .int) (by decide) rfl rfl (g := (mkF m 7 #[.val (.ref a), .val (.ref b)] [(.int (mc + (1 : Int32))), (.ref a)])) rfl rfl (hb hby d23_7)
  have Fw110 := F_a_modCount.same W110
  have K110 := Keep.wr (Keep.refl h0 [a, t]) W110 (Or.inl (List.mem_of_getElem? (i := 0) rfl))
  have Z110 : n0 ≤ h110.size := Nat.le_trans Z0 (Keep.of_wr W110).1
  have N110 := Fr.snoc X110 N0 g_a
  refine Gl.back (fun _ k => st110 _ k) ?_
  show Gl _ _ _ _ _ _ _ (T110.setTop (mkF m 10 #[.val (.ref a), .val (.ref b)] []))
  refine Gl.back (fun _ k => XS.aloadN X110.here hx rfl (hb hby d23_10) rfl rfl k) ?_
  show Gl _ _ _ _ _ _ _ (T110.setTop (mkF m 11 #[.val (.ref a), .val (.ref b)] [(.ref a)]))
  refine Gl.back (fun _ k => XS.aloadN X110.here hx rfl (hb hby d23_11) rfl rfl k) ?_
  show Gl _ _ _ _ _ _ _ (T110.setTop (mkF m 12 #[.val (.ref a), .val (.ref b)] [(.ref b), (.ref a)]))
  refine Gl.back (fun _ k => XS.aloadN X110.here hx rfl (hb hby d23_12) rfl rfl k) ?_
  show Gl _ _ _ _ _ _ _ (T110.setTop (mkF m 13 #[.val (.ref a), .val (.ref b)] [(.ref a), (.ref b), (.ref a)]))
  have f111 := (F_a_elementData.other W110 (Or.inr (slot_ne (Or.inl (hw _ (List.mem_of_getElem? (i := 46) rfl))) (Or.inl (hw _ (List.mem_of_getElem? (i := 43) rfl))) (by decide) (t := (.array (.object "java/lang/Object"))) (t' := .int) (by decide) (by decide))))
  obtain ⟨T112, X112, e112, st112⟩ := getF X110 hx hZ hown (host := "") (Or.inl (hw _ (List.mem_of_getElem? (i := 45) rfl))) Via.refl e110 f111 (g := (mkF m 13 #[.val (.ref a), .val (.ref b)] [(.ref a), (.ref b), (.ref a)])) rfl rfl (hb hby d23_13)
  refine Gl.back (fun _ k => st112 _ k) ?_
  show Gl _ _ _ _ _ _ _ (T112.setTop (mkF m 16 #[.val (.ref a), .val (.ref b)] [(.ref t), (.ref b), (.ref a)]))
  refine Gl.back (fun _ k => XS.aloadN X112.here hx rfl (hb hby d23_16) rfl rfl k) ?_
  show Gl _ _ _ _ _ _ _ (T112.setTop (mkF m 17 #[.val (.ref a), .val (.ref b)] [(.ref a), (.ref t), (.ref b), (.ref a)]))
  have f113 := (F_a_size.other W110 (Or.inr (slot_ne (Or.inl (hw _ (List.mem_of_getElem? (i := 160) rfl))) (Or.inl (hw _ (List.mem_of_getElem? (i := 43) rfl))) (by decide) (t := .int) (t' := .int) (by decide) (by decide))))
  obtain ⟨T114, X114, e114, st114⟩ := getF X112 hx hZ hown (host := "") (Or.inl (hw _ (List.mem_of_getElem? (i := 159) rfl))) Via.refl e112 f113 (g := (mkF m 17 #[.val (.ref a), .val (.ref b)] [(.ref a), (.ref t), (.ref b), (.ref a)])) rfl rfl (hb hby d23_17)
  refine Gl.back (fun _ k => st114 _ k) ?_
  show Gl _ _ _ _ _ _ _ (T114.setTop (mkF m 20 #[.val (.ref a), .val (.ref b)] [(.int (1 : Int32)), (.ref t), (.ref b), (.ref a)]))
  have f116 := (E_a.wr W110)
  have f117 := (E_b.wr W110)
  have f118 := (V_t.other W110 (Ne.symm hat))
  obtain ⟨cq115, q115, q115'⟩ := f116.cell
  obtain ⟨_, _, ⟨T115, L115, k115, n115⟩, -, X115, ⟨Lc115, hQ115, l115, y115, z115⟩, st115⟩ := X114.privateBack hx (y := (⟨"java/util/ArrayList", "add", "(Ljava/lang/Object;[Ljava/lang/Object;I)V"⟩ : MethodName)) hown (mvT hZ (hw _ (List.mem_of_getElem? (i := 161) rfl))) (mvT hZ (hw _ (List.mem_of_getElem? (i := 162) rfl))) (mvT hZ (hw _ (List.mem_of_getElem? (i := 164) rfl))) (Cond.privateMethod_at (mvP hZ (hw _ (List.mem_of_getElem? (i := 163) rfl)) (args := #[]))) (mvT hZ (hw _ (List.mem_of_getElem? (i := 165) rfl))) (by decide) (backOf (W := 0) (rmadd31 l Z a0 hw [] a b t c0 kt (mc + (1 : Int32)) h110 n0 Z110 g_a f116 Fw110 f111 f113 f117 g_t f118 Ov_t hab hat hbt) hZ (hw _ (List.mem_of_getElem? (i := 165) rfl)) (hw _ (List.mem_of_getElem? (i := 25) rfl)) (by decide) (by decide)) (g := (mkF m 20 #[.val (.ref a), .val (.ref b)] [(.int (1 : Int32)), (.ref t), (.ref b), (.ref a)])) rfl (by rw [hml]; rfl) (Steps.refl _) (a := a) (by rw [e114]; exact q115) q115' (argsL := [(.ref b), (.ref t), (.int (1 : Int32))]) (rest := []) (lenOf pd__Ljava_lang_Object__Ljava_lang_Object_I_V rfl) rfl (by show 2 * 0 + _ ≤ _; exact Nat.le_of_eq rfl) (hb hby d23_20) (fun _ _ => ⟨rfl, e114, (by decide : 0 + 0 ≤ _), (by decide : 0 + 0 ≤ _)⟩)
  dsimp only [Pt.U, Pt.locs, Pt.cells, Pt.slots] at X115 l115 y115 z115 st115 hQ115
  subst l115 y115 z115
  obtain ⟨Nq115, rfl, Kq115, Fs115⟩ := hQ115
  have N115 := Fr.app N110 Nq115
  have Kc115 := Keep.trans K110 Kq115 (allS (Or.inl (List.mem_of_getElem? (i := 0) rfl)) (allS (Or.inl (List.mem_of_getElem? (i := 1) rfl)) all0))
  have Zc115 : n0 ≤ T115.heap.size := Nat.le_trans Z110 Kq115.1
  refine Gl.back (fun _ k => st115.trans k) ?_
  show Gl _ _ _ _ _ _ _ (T115.setTop (mkF m 23 #[.val (.ref a), .val (.ref b)] []))
  refine Gl.back (fun _ k => XS.iconst X115.here hx rfl (hb hby d23_23) k) ?_
  show Gl _ _ _ _ _ _ _ (T115.setTop (mkF m 24 #[.val (.ref a), .val (.ref b)] [(.int (1 : Int32))]))
  exact Gl.ret X115 rfl (v := (some (.int (1 : Int32)))) (fun h => by rw [Bd.returns] at h; cases h) Bd.notSynchronized (fun fs hr => retN X115 hx (t := .boolean) (z := (1 : Int32)) Bd.returns (by simp) (hb hby d23_24) hr) ⟨N115, rfl, Kc115, Fs115⟩ (by decide) (by decide)
theorem d15_0 : decode prog_50_method_5_code 0 = .ok (.getstatic 43, 3) := by decide +kernel
theorem d15_3 : decode prog_50_method_5_code 3 = .ok (.lload_n 3, 1) := by decide +kernel
theorem d15_4 : decode prog_50_method_5_code 4 = .ok (.invokevirtual 49, 3) := by decide +kernel
theorem pd__J_J : parseMethodDescriptor "(J)J" = some ⟨[.long], some .long⟩ := by decide +kernel
theorem d15_7 : decode prog_50_method_5_code 7 = .ok (.lstore 5, 2) := by decide +kernel
theorem d15_9 : decode prog_50_method_5_code 9 = .ok (.aload_n 0, 1) := by decide +kernel
theorem d15_10 : decode prog_50_method_5_code 10 = .ok (.aload_n 2, 1) := by decide +kernel
theorem d15_11 : decode prog_50_method_5_code 11 = .ok (.invokevirtual 53, 3) := by decide +kernel
theorem pd__Lcom_example_gavelwatch_gavelwatch_model_Money__Z : parseMethodDescriptor "(Lcom/example/gavelwatch/gavelwatch/model/Money;)Z" = some ⟨[(.object "com/example/gavelwatch/gavelwatch/model/Money")], some .boolean⟩ := by decide +kernel
theorem d15_14 : decode prog_50_method_5_code 14 = .ok (.ifCond .ne 65, 3) := by decide +kernel
theorem d15_79 : decode prog_50_method_5_code 79 = .ok (.aload_n 0, 1) := by decide +kernel
theorem d15_80 : decode prog_50_method_5_code 80 = .ok (.new 29, 3) := by decide +kernel
theorem d15_83 : decode prog_50_method_5_code 83 = .ok (.dup, 1) := by decide +kernel
theorem d15_84 : decode prog_50_method_5_code 84 = .ok (.aload_n 1, 1) := by decide +kernel
theorem d15_85 : decode prog_50_method_5_code 85 = .ok (.aload_n 2, 1) := by decide +kernel
theorem d15_86 : decode prog_50_method_5_code 86 = .ok (.lload 5, 2) := by decide +kernel
theorem d15_88 : decode prog_50_method_5_code 88 = .ok (.invokespecial 83, 3) := by decide +kernel
theorem pd__Ljava_lang_String_Lcom_example_gavelwatch_gavelwatch_model_Money_J_V : parseMethodDescriptor "(Ljava/lang/String;Lcom/example/gavelwatch/gavelwatch/model/Money;J)V" = some ⟨[(.object "java/lang/String"), (.object "com/example/gavelwatch/gavelwatch/model/Money"), .long], none⟩ := by decide +kernel
theorem d15_91 : decode prog_50_method_5_code 91 = .ok (.putfield 20, 3) := by decide +kernel
theorem d15_94 : decode prog_50_method_5_code 94 = .ok (.aload_n 0, 1) := by decide +kernel
theorem d15_95 : decode prog_50_method_5_code 95 = .ok (.getfield 10, 3) := by decide +kernel
theorem d15_98 : decode prog_50_method_5_code 98 = .ok (.aload_n 0, 1) := by decide +kernel
theorem d15_99 : decode prog_50_method_5_code 99 = .ok (.getfield 20, 3) := by decide +kernel
theorem d15_102 : decode prog_50_method_5_code 102 = .ok (.invokeinterface 86 2, 5) := by decide +kernel
theorem pd__Ljava_lang_Object__Z : parseMethodDescriptor "(Ljava/lang/Object;)Z" = some ⟨[(.object "java/lang/Object")], some .boolean⟩ := by decide +kernel
theorem d15_107 : decode prog_50_method_5_code 107 = .ok (.pop, 1) := by decide +kernel
theorem d15_108 : decode prog_50_method_5_code 108 = .ok (.return_, 1) := by decide +kernel
theorem ef_place0 (m : MethodId) (x0 : Addr) (x1 : Addr) (x2 : Addr) (x3 : Int64) : entryFrame m #[(.ref x0), (.ref x1), (.ref x2), (.long x3)] 7 = mkF m 0 #[.val (.ref x0), .val (.ref x1), .val (.ref x2), .val (.long x3), .second, .unset, .unset] [] := by first | (simp [entryFrame, mkF, argsToLocals, Value.category]; done) | rfl
def Qplace0 (Z : State) (a : Addr) (b1 : Addr) (m1 : Addr) (t1 : Int64) (l1 o u wD : Addr) (kD : ClassId) (mc : Int32) (x y : Int64) (h0 : Heap) (n0 : Nat) (v : Option Value) (h : Heap) (L : List Loc) : Prop := Fr n0 L ∧ (v = none ∧ Keep h0 h [a, l1] ∧ ∃ (b t : Addr) (k : ClassId), h0.size ≤ b ∧ n0 ≤ b ∧ h0.size ≤ t ∧ n0 ≤ t ∧ b ≠ t ∧ Exa Z h b "com/example/gavelwatch/gavelwatch/model/Bid" ∧ Fld Z h a "com/example/gavelwatch/gavelwatch/sim/RunningAuction" "highest" "Lcom/example/gavelwatch/gavelwatch/model/Bid;" (.ref b) ∧ Fld Z h b "com/example/gavelwatch/gavelwatch/model/Bid" "amount" "Lcom/example/gavelwatch/gavelwatch/model/Money;" (.ref m1) ∧ Fld Z h a "com/example/gavelwatch/gavelwatch/sim/RunningAuction" "bids" "Ljava/util/List;" (.ref l1) ∧ Fld Z h l1 "java/util/ArrayList" "elementData" "[Ljava/lang/Object;" (.ref t) ∧ Fld Z h l1 "java/util/ArrayList" "size" "I" (.int (1 : Int32)) ∧ Fld Z h l1 "java/util/AbstractList" "modCount" "I" (.int (mc + (1 : Int32))) ∧ Arv Z h t k (.object "java/lang/Object") (10 : Int32) [(.ref b), .null, .null, .null, .null, .null, .null, .null, .null, .null] .null ∧ Ovr Z k "java/lang/Object" ∧ True)
set_option maxRecDepth 65536 in
set_option maxHeartbeats 40000000 in
theorem rmplace0 (l : Launch) (Z : State) (a0 : Array Value) (hw : ∀ d ∈ tables_1, d.before a0 Z = true) (ws : List Jvm.Cond) (a : Addr) (b1 : Addr) (m1 : Addr) (t1 : Int64) (l1 o u wD : Addr) (kD : ClassId) (mc : Int32) (x y : Int64) (h0 : Heap) (n0 : Nat) (Z0 : n0 ≤ h0.size) (O0 : Old Z n0 h0) (g_a : n0 ≤ a) (E_a : Exa Z h0 a "com/example/gavelwatch/gavelwatch/sim/RunningAuction") (F_a_highest : Fld Z h0 a "com/example/gavelwatch/gavelwatch/sim/RunningAuction" "highest" "Lcom/example/gavelwatch/gavelwatch/model/Bid;" .null) (F_a_bids : Fld Z h0 a "com/example/gavelwatch/gavelwatch/sim/RunningAuction" "bids" "Ljava/util/List;" (.ref l1)) (F_a_openingBid : Fld Z h0 a "com/example/gavelwatch/gavelwatch/sim/RunningAuction" "openingBid" "Lcom/example/gavelwatch/gavelwatch/model/Money;" (.ref o)) (E_o : Exa Z h0 o "com/example/gavelwatch/gavelwatch/model/Money") (F_o_cents : Fld Z h0 o "com/example/gavelwatch/gavelwatch/model/Money" "cents" "J" (.long y)) (E_m1 : Exa Z h0 m1 "com/example/gavelwatch/gavelwatch/model/Money") (F_m1_cents : Fld Z h0 m1 "com/example/gavelwatch/gavelwatch/model/Money" "cents" "J" (.long x)) (g_l1 : n0 ≤ l1) (E_l1 : Exa Z h0 l1 "java/util/ArrayList") (F_l1_modCount : Fld Z h0 l1 "java/util/AbstractList" "modCount" "I" (.int mc)) (F_l1_elementData : Fld Z h0 l1 "java/util/ArrayList" "elementData" "[Ljava/lang/Object;" (.ref wD)) (F_l1_size : Fld Z h0 l1 "java/util/ArrayList" "size" "I" (.int (0 : Int32))) (S_DEFAULTCAPACITY_EMPTY_ELEMENTDATA : Sta Z Z.heap "java/util/ArrayList" "DEFAULTCAPACITY_EMPTY_ELEMENTDATA" "[Ljava/lang/Object;" (.ref wD)) (V_wD : Arv Z Z.heap wD kD (.object "java/lang/Object") (0 : Int32) [] .null) (S_SECONDS : Sta Z Z.heap "java/util/concurrent/TimeUnit" "SECONDS" "Ljava/util/concurrent/TimeUnit;" (.ref u)) (E_u : Exa Z Z.heap u "java/util/concurrent/TimeUnit") (F_u_scale : Fld Z Z.heap u "java/util/concurrent/TimeUnit" "scale" "J" (.long (1000000000 : Int64))) (F_u_maxNanos : Fld Z Z.heap u "java/util/concurrent/TimeUnit" "maxNanos" "J" (.long (9223372036 : Int64))) (hge : ¬ x < y) (hal : a ≠ l1) (hao : a ≠ o) (ham : a ≠ m1) (hlo : l1 ≠ o) (hlm : l1 ≠ m1) (hn2 : ¬ t1 < (-(9223372036 : Int64))) :
    MetFree l (⟨"com/example/gavelwatch/gavelwatch/sim/RunningAuction", "place", "(Ljava/lang/String;Lcom/example/gavelwatch/gavelwatch/model/Money;J)V"⟩ : MethodName) (head1 (Jvm.Cond.code (⟨"com/example/gavelwatch/gavelwatch/sim/RunningAuction", "place", "(Ljava/lang/String;Lcom/example/gavelwatch/gavelwatch/model/Money;J)V"⟩ : MethodName) prog_50_method_5_code 7 none :: ws) ({ frames := 5, cells := 6, slots := 69, locals := 69 } : Room)) (fun as0 U => as0 = #[(.ref a), (.ref b1), (.ref m1), (.long t1)] ∧ Z.Warmed39 U.vm ∧ U.heap = h0) (fun _ _ _ _ _ => True) (fun _ U oc0 U' => ∃ v L, oc0 = .returned v ∧ Qplace0 Z a b1 m1 t1 l1 o u wD kD mc x y h0 n0 v U'.heap L ∧ ReturnedEndW U oc0 U' L ({ frames := 5, cells := 6, slots := 69, locals := 69 } : Room).cells ({ frames := 5, cells := 6, slots := 69, locals := 69 } : Room).slots) := by
  refine MetFree.of_bodySF (plainFor_of_name pn_com_example_gavelwatch_gavelwatch_sim_RunningAuction) hisR ?_
  intro p e s m args below meth c s₁ Bd hml0 hP hK
  obtain ⟨rfl, hZ, hh⟩ := hP
  have hx := Bd.exec
  have hby := Bd.bytes
  have hml : c.maxLocals = 7 := hml0
  have hown : s.vm.findClass "com/example/gavelwatch/gavelwatch/sim/RunningAuction" = some m.cls := findClass_of_methodNamed Bd.named
  have hnm := (name_of_methodNamed Bd.named Bd.method).1
  have X0 : Stand p l e ({ frames := 5, cells := 6, slots := 69, locals := 69 } : Room) (s.setVm s.vm) m #[(.ref a), (.ref b1), (.ref m1), (.long t1)] below meth c s₁ [] 0 0 := Stand.of_body Bd
  have e0 : s₁.heap = h0 := by rw [← hh, Bd.state]; rfl
  have N0 := Fr.nil n0
  have hZ0 : Z.Warmed39 (s.setVm s.vm).vm := hZ
  have hown0 : (s.setVm s.vm).vm.findClass "com/example/gavelwatch/gavelwatch/sim/RunningAuction" = some m.cls := hown
  have hS0 : s.Since s.vm 0 := (State.WarmedH.refl s).since 0
  have SK0 : 0 ≤ h0.size := Nat.zero_le _
  show GlW p e below s (Qplace0 Z a b1 m1 t1 l1 o u wD kD mc x y h0 n0) ({ frames := 5, cells := 6, slots := 69, locals := 69 } : Room).cells ({ frames := 5, cells := 6, slots := 69, locals := 69 } : Room).slots (s₁.setTop (entryFrame m #[(.ref a), (.ref b1), (.ref m1), (.long t1)] 7))
  refine GlW.back (fun _ k => castTop (ef_place0 m a b1 m1 t1) k) ?_
  show GlW _ _ _ _ _ _ _ (s₁.setTop (mkF m 0 #[.val (.ref a), .val (.ref b1), .val (.ref m1), .val (.long t1), .second, .unset, .unset] []))
  obtain ⟨T119, X119, e119, st119⟩ := getS2 X0 hx hZ0 hown0 (host := "") (Or.inl (hw _ (List.mem_of_getElem? (i := 96) rfl))) Via.refl e0 (S_SECONDS.ext O0.2) (g := (mkF m 0 #[.val (.ref a), .val (.ref b1), .val (.ref m1), .val (.long t1), .second, .unset, .unset] [])) rfl (hb hby d15_0)
  refine GlW.back (fun _ k => st119 _ k) ?_
  show GlW _ _ _ _ _ _ _ (T119.setTop (mkF m 3 #[.val (.ref a), .val (.ref b1), .val (.ref m1), .val (.long t1), .second, .unset, .unset] [(.ref u)]))
  refine GlW.back (fun _ k => XS.lloadN X119.here hx rfl (hb hby d15_3) rfl k) ?_
  show GlW _ _ _ _ _ _ _ (T119.setTop (mkF m 4 #[.val (.ref a), .val (.ref b1), .val (.ref m1), .val (.long t1), .second, .unset, .unset] [(.long t1), (.ref u)]))
  obtain ⟨cq120, kq120, q120a, q120b, q120c⟩ := isOf hZ0 e119 (E_u.ext O0.2)
  obtain ⟨_, _, ⟨T120, L120, k120, n120⟩, -, X120, ⟨Lc120, hQ120, l120, y120, z120⟩, st120⟩ := X119.virtualBack hx (y := (⟨"java/util/concurrent/TimeUnit", "toNanos", "(J)J"⟩ : MethodName)) (z := (⟨"java/util/concurrent/TimeUnit", "toNanos", "(J)J"⟩ : MethodName)) hown0 (mvT hZ0 (hw _ (List.mem_of_getElem? (i := 98) rfl))) (mvT hZ0 (hw _ (List.mem_of_getElem? (i := 99) rfl))) (notFace_of_selects (args := #[]) (mvT hZ0 (hw _ (List.mem_of_getElem? (i := 101) rfl)))) (mvT hZ0 (hw _ (List.mem_of_getElem? (i := 101) rfl))) (mvT hZ0 (hw _ (List.mem_of_getElem? (i := 100) rfl))) (by decide) (backOf (W := 0) (rmnano l Z a0 hw [] u t1  h0 n0 Z0 O0 E_u F_u_scale F_u_maxNanos hn2) hZ0 (hw _ (List.mem_of_getElem? (i := 102) rfl)) (hw _ (List.mem_of_getElem? (i := 97) rfl)) (by decide) (by decide)) q120a q120c (g := (mkF m 4 #[.val (.ref a), .val (.ref b1), .val (.ref m1), .val (.long t1), .second, .unset, .unset] [(.long t1), (.ref u)])) rfl (by rw [hml]; rfl) (Steps.refl _) (argsL := [(.long t1)]) (rest := []) (lenOf pd__J_J rfl) rfl (by show 2 * 0 + _ ≤ _; exact Nat.le_of_eq rfl) (hb hby d15_4) (fun _ _ => ⟨rfl, e119, (by decide : 0 + 0 ≤ _), (by decide : 0 + 0 ≤ _)⟩)
  dsimp only [Pt.U, Pt.locs, Pt.cells, Pt.slots] at X120 l120 y120 z120 st120 hQ120
  subst l120 y120 z120
  obtain ⟨Nq120, r120, rfl, eh120⟩ := hQ120
  have N120 := Fr.app N0 Nq120
  refine GlW.back (fun _ k => st120.trans k) ?_
  show GlW _ _ _ _ _ _ _ (T120.setTop (mkF m 7 #[.val (.ref a), .val (.ref b1), .val (.ref m1), .val (.long t1), .second, .unset, .unset] [(.long r120)]))
  refine GlW.back (fun _ k => XS.lstore X120.here hx rfl (hb hby d15_7) rfl (l' := #[.val (.ref a), .val (.ref b1), .val (.ref m1), .val (.long t1), .second, .val (.long r120), .second]) rfl k) ?_
  show GlW _ _ _ _ _ _ _ (T120.setTop (mkF m 9 #[.val (.ref a), .val (.ref b1), .val (.ref m1), .val (.long t1), .second, .val (.long r120), .second] []))
  refine GlW.back (fun _ k => XS.aloadN X120.here hx rfl (hb hby d15_9) rfl rfl k) ?_
  show GlW _ _ _ _ _ _ _ (T120.setTop (mkF m 10 #[.val (.ref a), .val (.ref b1), .val (.ref m1), .val (.long t1), .second, .val (.long r120), .second] [(.ref a)]))
  refine GlW.back (fun _ k => XS.aloadN X120.here hx rfl (hb hby d15_10) rfl rfl k) ?_
  show GlW _ _ _ _ _ _ _ (T120.setTop (mkF m 11 #[.val (.ref a), .val (.ref b1), .val (.ref m1), .val (.long t1), .second, .val (.long r120), .second] [(.ref m1), (.ref a)]))
  obtain ⟨cq121, kq121, q121a, q121b, q121c⟩ := isOf hZ0 eh120 E_a
  obtain ⟨_, _, ⟨T121, L121, k121, n121⟩, -, X121, ⟨Lc121, hQ121, l121, y121, z121⟩, st121⟩ := X120.virtualBack hx (y := (⟨"com/example/gavelwatch/gavelwatch/sim/RunningAuction", "accepts", "(Lcom/example/gavelwatch/gavelwatch/model/Money;)Z"⟩ : MethodName)) (z := (⟨"com/example/gavelwatch/gavelwatch/sim/RunningAuction", "accepts", "(Lcom/example/gavelwatch/gavelwatch/model/Money;)Z"⟩ : MethodName)) hown0 (mvT hZ0 (hw _ (List.mem_of_getElem? (i := 107) rfl))) (mvT hZ0 (hw _ (List.mem_of_getElem? (i := 108) rfl))) (notFace_of_selects (args := #[]) (mvT hZ0 (hw _ (List.mem_of_getElem? (i := 110) rfl)))) (mvT hZ0 (hw _ (List.mem_of_getElem? (i := 110) rfl))) (mvT hZ0 (hw _ (List.mem_of_getElem? (i := 109) rfl))) (by decide) (backOf (W := 0) (rmacc0 l Z a0 hw [] a m1 o x y h0 n0 Z0 E_a F_a_highest F_a_openingBid E_o F_o_cents E_m1 F_m1_cents hge) hZ0 (hw _ (List.mem_of_getElem? (i := 111) rfl)) (hw _ (List.mem_of_getElem? (i := 2) rfl)) (by decide) (by decide)) q121a q121c (g := (mkF m 11 #[.val (.ref a), .val (.ref b1), .val (.ref m1), .val (.long t1), .second, .val (.long r120), .second] [(.ref m1), (.ref a)])) rfl (by rw [hml]; rfl) (Steps.refl _) (argsL := [(.ref m1)]) (rest := []) (lenOf pd__Lcom_example_gavelwatch_gavelwatch_model_Money__Z rfl) rfl (by show 2 * 0 + _ ≤ _; exact Nat.le_of_eq rfl) (hb hby d15_11) (fun _ _ => ⟨rfl, eh120, (by decide : 0 + 0 ≤ _), (by decide : 0 + 0 ≤ _)⟩)
  dsimp only [Pt.U, Pt.locs, Pt.cells, Pt.slots] at X121 l121 y121 z121 st121 hQ121
  subst l121 y121 z121
  obtain ⟨Nq121, rfl, eh121⟩ := hQ121
  have N121 := Fr.app N120 Nq121
  refine GlW.back (fun _ k => st121.trans k) ?_
  show GlW _ _ _ _ _ _ _ (T121.setTop (mkF m 14 #[.val (.ref a), .val (.ref b1), .val (.ref m1), .val (.long t1), .second, .val (.long r120), .second] [(.int (1 : Int32))]))
  refine GlW.back (fun _ k => XS.ifYes X121.here hx rfl (pc0 := 14) (pc' := 79) rfl (hb hby d15_14) rfl ((if0 _ _).trans (feq (by decide : ¬ (1 : Int32) = (0 : Int32))).2) (by decide) (by decide) k) ?_
  show GlW _ _ _ _ _ _ _ (T121.setTop (mkF m 79 #[.val (.ref a), .val (.ref b1), .val (.ref m1), .val (.long t1), .second, .val (.long r120), .second] []))
  refine GlW.back (fun _ k => XS.aloadN X121.here hx rfl (hb hby d15_79) rfl rfl k) ?_
  show GlW _ _ _ _ _ _ _ (T121.setTop (mkF m 80 #[.val (.ref a), .val (.ref b1), .val (.ref m1), .val (.long t1), .second, .val (.long r120), .second] [(.ref a)]))
  obtain ⟨T122, h122, X122, e122, E122, A122, D122, -, st122⟩ := newO X121 hx hZ0 hown0 (hw _ (List.mem_of_getElem? (i := 127) rfl)) (hw _ (List.mem_of_getElem? (i := 128) rfl)) (hw _ (List.mem_of_getElem? (i := 129) rfl)) eh121 (g := (mkF m 80 #[.val (.ref a), .val (.ref b1), .val (.ref m1), .val (.long t1), .second, .val (.long r120), .second] [(.ref a)])) rfl (hb hby d15_80) (by decide) (by decide)
  obtain ⟨b122, g122⟩ : ∃ z, z = h0.size := ⟨_, rfl⟩
  rw [← g122] at A122 D122 st122
  have ne_a_b122 : a ≠ b122 := Nat.ne_of_lt (Nat.lt_of_lt_of_le E_a.lt (Nat.le_of_eq g122.symm))
  have ne_o_b122 : o ≠ b122 := Nat.ne_of_lt (Nat.lt_of_lt_of_le E_o.lt (Nat.le_of_eq g122.symm))
  have ne_m1_b122 : m1 ≠ b122 := Nat.ne_of_lt (Nat.lt_of_lt_of_le E_m1.lt (Nat.le_of_eq g122.symm))
  have ne_l1_b122 : l1 ≠ b122 := Nat.ne_of_lt (Nat.lt_of_lt_of_le E_l1.lt (Nat.le_of_eq g122.symm))
  have g_b122 : n0 ≤ b122 := Nat.le_trans Z0 (Nat.le_of_eq g122.symm)
  have sz_b122 : h0.size ≤ b122 := Nat.le_trans (Keep.refl h0 [a, l1]).1 (Nat.le_of_eq g122.symm)
  have Z122 : n0 ≤ h122.size := Nat.le_trans Z0 E122.1
  have K122 := Keep.ext (Keep.refl h0 [a, l1]) E122
  have O122 := Old.ext O0 E122
  have SK122 := Nat.le_trans SK0 E122.1
  have F122_bidder : Fld Z h122 b122 "com/example/gavelwatch/gavelwatch/model/Bid" "bidder" "Ljava/lang/String;" .null := D122 (Or.inr (hw _ (List.mem_of_getElem? (i := 143) rfl))) (ty := (.object "java/lang/String")) (by decide)
  have F122_amount : Fld Z h122 b122 "com/example/gavelwatch/gavelwatch/model/Bid" "amount" "Lcom/example/gavelwatch/gavelwatch/model/Money;" .null := D122 (Or.inr (hw _ (List.mem_of_getElem? (i := 145) rfl))) (ty := (.object "com/example/gavelwatch/gavelwatch/model/Money")) (by decide)
  have F122_time : Fld Z h122 b122 "com/example/gavelwatch/gavelwatch/model/Bid" "time" "J" (.long (0 : Int64)) := D122 (Or.inr (hw _ (List.mem_of_getElem? (i := 147) rfl))) (ty := .long) (by decide)
  refine GlW.back (fun _ k => st122 _ k) ?_
  show GlW _ _ _ _ _ _ _ (T122.setTop (mkF m 83 #[.val (.ref a), .val (.ref b1), .val (.ref m1), .val (.long t1), .second, .val (.long r120), .second] [(.ref b122), (.ref a)]))
  refine GlW.back (fun _ k => XS.dup X122.here hx rfl (hb hby d15_83) rfl rfl k) ?_
  show GlW _ _ _ _ _ _ _ (T122.setTop (mkF m 84 #[.val (.ref a), .val (.ref b1), .val (.ref m1), .val (.long t1), .second, .val (.long r120), .second] [(.ref b122), (.ref b122), (.ref a)]))
  refine GlW.back (fun _ k => XS.aloadN X122.here hx rfl (hb hby d15_84) rfl rfl k) ?_
  show GlW _ _ _ _ _ _ _ (T122.setTop (mkF m 85 #[.val (.ref a), .val (.ref b1), .val (.ref m1), .val (.long t1), .second, .val (.long r120), .second] [(.ref b1), (.ref b122), (.ref b122), (.ref a)]))
  refine GlW.back (fun _ k => XS.aloadN X122.here hx rfl (hb hby d15_85) rfl rfl k) ?_
  show GlW _ _ _ _ _ _ _ (T122.setTop (mkF m 86 #[.val (.ref a), .val (.ref b1), .val (.ref m1), .val (.long t1), .second, .val (.long r120), .second] [(.ref m1), (.ref b1), (.ref b122), (.ref b122), (.ref a)]))
  refine GlW.back (fun _ k => XS.lload X122.here hx rfl (hb hby d15_86) rfl k) ?_
  show GlW _ _ _ _ _ _ _ (T122.setTop (mkF m 88 #[.val (.ref a), .val (.ref b1), .val (.ref m1), .val (.long t1), .second, .val (.long r120), .second] [(.long r120), (.ref m1), (.ref b1), (.ref b122), (.ref b122), (.ref a)]))
  obtain ⟨_, _, ⟨T123, L123, k123, n123⟩, -, X123, hS2123, hg2123, ⟨Lc123, hQ123, l123, y123, z123⟩, st123⟩ := X122.specialBackS hx (y := (⟨"com/example/gavelwatch/gavelwatch/model/Bid", "<init>", "(Ljava/lang/String;Lcom/example/gavelwatch/gavelwatch/model/Money;J)V"⟩ : MethodName)) rfl hown0 (mvT hZ0 (hw _ (List.mem_of_getElem? (i := 130) rfl))) (mvT hZ0 (hw _ (List.mem_of_getElem? (i := 131) rfl))) (mvT hZ0 (hw _ (List.mem_of_getElem? (i := 132) rfl))) (by decide) (backOfS (W := 2) (rmbidi l Z a0 hw [] b122 b1 m1 r120  h122 n0 Z122 g_b122 A122 F122_bidder F122_amount F122_time) hZ0 (hw _ (List.mem_of_getElem? (i := 132) rfl)) (hw _ (List.mem_of_getElem? (i := 129) rfl)) (by decide) (by decide)) (g := (mkF m 88 #[.val (.ref a), .val (.ref b1), .val (.ref m1), .val (.long t1), .second, .val (.long r120), .second] [(.long r120), (.ref m1), (.ref b1), (.ref b122), (.ref b122), (.ref a)])) rfl (by rw [hml]; rfl) (Steps.refl _) (a := b122) (argsL := [(.ref b1), (.ref m1), (.long r120)]) (rest := [(.ref b122), (.ref a)]) (lenOf pd__Ljava_lang_String_Lcom_example_gavelwatch_gavelwatch_model_Money_J_V rfl) rfl (by show 2 * 0 + _ ≤ _; exact Nat.le_of_eq rfl) (hb hby d15_88) (fun _ _ => ⟨rfl, e122, (by decide : 1 + 4 ≤ _), (by decide : 3 + 56 ≤ _)⟩)
  dsimp only [Pt.U, Pt.locs, Pt.cells, Pt.slots] at X123 l123 y123 z123 st123 hQ123 hS2123 hg2123
  subst l123 y123 z123
  obtain ⟨X123, hS123, hZ123, hown123⟩ := rebS hS0 (by rw [e122]; exact SK122) X123 hS2123 hg2123 hZ0 hown0
  obtain ⟨Nq123, rfl, Kq123, Fa123⟩ := hQ123
  have N123 := Fr.app N121 Nq123
  have Kc123 := Keep.trans K122 Kq123 (allS (Or.inr sz_b122) all0)
  have Zc123 : n0 ≤ T123.heap.size := Nat.le_trans Z122 Kq123.1
  have Oc123 := Old.keep O122 Kq123 (allS g_b122 all0)
  refine GlW.back (fun _ k => st123.trans k) ?_
  show GlW _ _ _ _ _ _ _ (T123.setTop (mkF m 91 #[.val (.ref a), .val (.ref b1), .val (.ref m1), .val (.long t1), .second, .val (.long r120), .second] [(.ref b122), (.ref a)]))
  have f124 := ((E_a.ext E122).keep Kq123)
  have f125 := ((F_a_highest.ext E122).keep Kq123 (ninS ne_a_b122 nin0))
  obtain ⟨T126, h126, X126, e126, W126, st126⟩ := putF X123 hx hZ123 hown123 (host := "") (Or.inl (hw _ (List.mem_of_getElem? (i := 56) rfl))) Via.refl rfl f125 f124 (Or.inl (hw _ (List.mem_of_getElem? (i := 57) rfl))) (hw _ (List.mem_of_getElem? (i := 1) rfl)) (ty := (.object "com/example/gavelwatch/gavelwatch/model/Bid")) (by decide) rfl rfl (g := (mkF m 91 #[.val (.ref a), .val (.ref b1), .val (.ref m1), .val (.long t1), .second, .val (.long r120), .second] [(.ref b122), (.ref a)])) rfl rfl (hb hby d15_91)
  have Fw126 := f125.same W126
  have K126 := Keep.wr Kc123 W126 (Or.inl (List.mem_of_getElem? (i := 0) rfl))
  have O126 := Old.wr Oc123 W126 g_a
  have Z126 : n0 ≤ h126.size := Nat.le_trans Zc123 (Keep.of_wr W126).1
  have SK126 := Nat.le_trans (Nat.le_refl _) (Keep.of_wr W126).1
  have N126 := Fr.snoc X126 N123 g_a
  refine GlW.back (fun _ k => st126 _ k) ?_
  show GlW _ _ _ _ _ _ _ (T126.setTop (mkF m 94 #[.val (.ref a), .val (.ref b1), .val (.ref m1), .val (.long t1), .second, .val (.long r120), .second] []))
  refine GlW.back (fun _ k => XS.aloadN X126.here hx rfl (hb hby d15_94) rfl rfl k) ?_
  show GlW _ _ _ _ _ _ _ (T126.setTop (mkF m 95 #[.val (.ref a), .val (.ref b1), .val (.ref m1), .val (.long t1), .second, .val (.long r120), .second] [(.ref a)]))
  have f127 := (((F_a_bids.ext E122).keep Kq123 (ninS ne_a_b122 nin0)).other W126 (Or.inr (slot_ne (Or.inr (hw _ (List.mem_of_getElem? (i := 48) rfl))) (Or.inl (hw _ (List.mem_of_getElem? (i := 57) rfl))) (by decide) (t := (.object "java/util/List")) (t' := (.object "com/example/gavelwatch/gavelwatch/model/Bid")) (by decide) (by decide))))
  obtain ⟨T128, X128, e128, st128⟩ := getF X126 hx hZ123 hown123 (host := "") (Or.inl (hw _ (List.mem_of_getElem? (i := 47) rfl))) Via.refl e126 f127 (g := (mkF m 95 #[.val (.ref a), .val (.ref b1), .val (.ref m1), .val (.long t1), .second, .val (.long r120), .second] [(.ref a)])) rfl rfl (hb hby d15_95)
  refine GlW.back (fun _ k => st128 _ k) ?_
  show GlW _ _ _ _ _ _ _ (T128.setTop (mkF m 98 #[.val (.ref a), .val (.ref b1), .val (.ref m1), .val (.long t1), .second, .val (.long r120), .second] [(.ref l1)]))
  refine GlW.back (fun _ k => XS.aloadN X128.here hx rfl (hb hby d15_98) rfl rfl k) ?_
  show GlW _ _ _ _ _ _ _ (T128.setTop (mkF m 99 #[.val (.ref a), .val (.ref b1), .val (.ref m1), .val (.long t1), .second, .val (.long r120), .second] [(.ref a), (.ref l1)]))
  obtain ⟨T129, X129, e129, st129⟩ := getF X128 hx hZ123 hown123 (host := "") (Or.inl (hw _ (List.mem_of_getElem? (i := 56) rfl))) Via.refl e128 Fw126 (g := (mkF m 99 #[.val (.ref a), .val (.ref b1), .val (.ref m1), .val (.long t1), .second, .val (.long r120), .second] [(.ref a), (.ref l1)])) rfl rfl (hb hby d15_99)
  refine GlW.back (fun _ k => st129 _ k) ?_
  show GlW _ _ _ _ _ _ _ (T129.setTop (mkF m 102 #[.val (.ref a), .val (.ref b1), .val (.ref m1), .val (.long t1), .second, .val (.long r120), .second] [(.ref b122), (.ref l1)]))
  have f131 := (f124.wr W126)
  have f132 := (((E_o.ext E122).keep Kq123).wr W126)
  have f133 := (((E_m1.ext E122).keep Kq123).wr W126)
  have f134 := (((E_l1.ext E122).keep Kq123).wr W126)
  have f135 := ((A122.keep Kq123).wr W126)
  have f136 := (((F_l1_modCount.ext E122).keep Kq123 (ninS ne_l1_b122 nin0)).other W126 (Or.inl (Ne.symm hal)))
  have f137 := (((F_l1_elementData.ext E122).keep Kq123 (ninS ne_l1_b122 nin0)).other W126 (Or.inl (Ne.symm hal)))
  have f138 := (((F_l1_size.ext E122).keep Kq123 (ninS ne_l1_b122 nin0)).other W126 (Or.inl (Ne.symm hal)))
  obtain ⟨cq130, kq130, q130a, q130b, q130c⟩ := isOf hZ123 e129 f134
  obtain ⟨_, _, ⟨T130, L130, k130, n130⟩, -, X130, ⟨Lc130, hQ130, l130, y130, z130⟩, st130⟩ := X129.interfaceBack hx (xi := (⟨"java/util/List", "add", "(Ljava/lang/Object;)Z"⟩ : MethodName)) (y := (⟨"java/util/ArrayList", "add", "(Ljava/lang/Object;)Z"⟩ : MethodName)) hown123 (mvT hZ123 (hw _ (List.mem_of_getElem? (i := 148) rfl))) (mvT hZ123 (hw _ (List.mem_of_getElem? (i := 149) rfl))) (mvT hZ123 (hw _ (List.mem_of_getElem? (i := 150) rfl))) (mvT hZ123 (hw _ (List.mem_of_getElem? (i := 151) rfl))) (mvT hZ123 (hw _ (List.mem_of_getElem? (i := 152) rfl))) (mvT hZ123 (hw _ (List.mem_of_getElem? (i := 153) rfl))) (mvT hZ123 (hw _ (List.mem_of_getElem? (i := 154) rfl))) (mvT hZ123 (hw _ (List.mem_of_getElem? (i := 155) rfl))) (by decide) (backOf (W := 0) (rmadd0 l Z a0 hw [] l1 b122 wD kD mc h126 n0 Z126 O126 g_l1 f134 f136 f137 f138 S_DEFAULTCAPACITY_EMPTY_ELEMENTDATA V_wD f135 ne_l1_b122) hZ123 (hw _ (List.mem_of_getElem? (i := 156) rfl)) (hw _ (List.mem_of_getElem? (i := 25) rfl)) (by decide) (by decide)) q130a q130b q130c (g := (mkF m 102 #[.val (.ref a), .val (.ref b1), .val (.ref m1), .val (.long t1), .second, .val (.long r120), .second] [(.ref b122), (.ref l1)])) rfl (by rw [hml]; rfl) (Steps.refl _) (argsL := [(.ref b122)]) (rest := []) (lenOf pd__Ljava_lang_Object__Z rfl) rfl (by show 2 * 0 + _ ≤ _; exact Nat.le_of_eq rfl) (hb hby d15_102) (fun _ _ => ⟨rfl, e129, (by decide : 5 + 1 ≤ _), (by decide : 59 + 10 ≤ _)⟩)
  dsimp only [Pt.U, Pt.locs, Pt.cells, Pt.slots] at X130 l130 y130 z130 st130 hQ130
  subst l130 y130 z130
  obtain ⟨Nq130, t130, k0130, rfl, Kq130, Sz130, Gz130, Fe130, Fs130, Fm130, V130, Ov130⟩ := hQ130
  have N130 := Fr.app N126 Nq130
  have Kc130 := Keep.trans K126 Kq130 (allS (Or.inl (List.mem_of_getElem? (i := 1) rfl)) all0)
  have Zc130 : n0 ≤ T130.heap.size := Nat.le_trans Z126 Kq130.1
  have Oc130 := Old.keep O126 Kq130 (allS g_l1 all0)
  have SKc130 := Nat.le_trans SK126 Kq130.1
  have ne_a_t130 : a ≠ t130 := Nat.ne_of_lt (Nat.lt_of_lt_of_le (f131).lt Sz130)
  have ne_o_t130 : o ≠ t130 := Nat.ne_of_lt (Nat.lt_of_lt_of_le (f132).lt Sz130)
  have ne_m1_t130 : m1 ≠ t130 := Nat.ne_of_lt (Nat.lt_of_lt_of_le (f133).lt Sz130)
  have ne_l1_t130 : l1 ≠ t130 := Nat.ne_of_lt (Nat.lt_of_lt_of_le (f134).lt Sz130)
  have ne_b122_t130 : b122 ≠ t130 := Nat.ne_of_lt (Nat.lt_of_lt_of_le (f135).lt Sz130)
  have sz_t130 : h0.size ≤ t130 := Nat.le_trans K126.1 Sz130
  refine GlW.back (fun _ k => st130.trans k) ?_
  show GlW _ _ _ _ _ _ _ (T130.setTop (mkF m 107 #[.val (.ref a), .val (.ref b1), .val (.ref m1), .val (.long t1), .second, .val (.long r120), .second] [(.int (1 : Int32))]))
  refine GlW.back (fun _ k => XS.pop X130.here hx rfl (hb hby d15_107) rfl rfl k) ?_
  show GlW _ _ _ _ _ _ _ (T130.setTop (mkF m 108 #[.val (.ref a), .val (.ref b1), .val (.ref m1), .val (.long t1), .second, .val (.long r120), .second] []))
  have f139 := (f135.keep Kq130)
  have f140 := (Fw126.keep Kq130 (ninS hal nin0))
  have f141 := ((Fa123.other W126 (Or.inl (Ne.symm ne_a_b122))).keep Kq130 (ninS (Ne.symm ne_l1_b122) nin0))
  have f142 := (f127.keep Kq130 (ninS hal nin0))
  exact GlW.ret X130 rfl hS123 SKc130 (v := none) (fun _ => rfl) Bd.notSynchronized (fun fs hr => X130.returnOut hx Bd.returns (hb hby d15_108) hr) ⟨N130, rfl, Kc130, b122, t130, k0130, sz_b122, g_b122, sz_t130, Gz130, ne_b122_t130, f139, f140, f141, f142, Fe130, Fs130, Fm130, V130, (show Ovr Z _ _ from Ov130), trivial⟩ (by decide) (by decide)
theorem ef_place1 (m : MethodId) (x0 : Addr) (x1 : Addr) (x2 : Addr) (x3 : Int64) : entryFrame m #[(.ref x0), (.ref x1), (.ref x2), (.long x3)] 7 = mkF m 0 #[.val (.ref x0), .val (.ref x1), .val (.ref x2), .val (.long x3), .second, .unset, .unset] [] := by first | (simp [entryFrame, mkF, argsToLocals, Value.category]; done) | rfl
def Qplace1 (Z : State) (a : Addr) (b1 : Addr) (m1 : Addr) (t1 : Int64) (l1 o u c0 t : Addr) (kt : ClassId) (mc : Int32) (x y : Int64) (h0 : Heap) (n0 : Nat) (v : Option Value) (h : Heap) (L : List Loc) : Prop := Fr n0 L ∧ (v = none ∧ Keep h0 h [a, l1, t] ∧ ∃ (b : Addr), h0.size ≤ b ∧ n0 ≤ b ∧ Exa Z h b "com/example/gavelwatch/gavelwatch/model/Bid" ∧ Fld Z h a "com/example/gavelwatch/gavelwatch/sim/RunningAuction" "highest" "Lcom/example/gavelwatch/gavelwatch/model/Bid;" (.ref b) ∧ Fld Z h b "com/example/gavelwatch/gavelwatch/model/Bid" "amount" "Lcom/example/gavelwatch/gavelwatch/model/Money;" (.ref m1) ∧ Fld Z h a "com/example/gavelwatch/gavelwatch/sim/RunningAuction" "bids" "Ljava/util/List;" (.ref l1) ∧ Fld Z h l1 "java/util/ArrayList" "size" "I" (.int (2 : Int32)))
set_option maxRecDepth 65536 in
set_option maxHeartbeats 40000000 in
theorem rmplace1 (l : Launch) (Z : State) (a0 : Array Value) (hw : ∀ d ∈ tables_1, d.before a0 Z = true) (ws : List Jvm.Cond) (a : Addr) (b1 : Addr) (m1 : Addr) (t1 : Int64) (l1 o u c0 t : Addr) (kt : ClassId) (mc : Int32) (x y : Int64) (h0 : Heap) (n0 : Nat) (Z0 : n0 ≤ h0.size) (O0 : Old Z n0 h0) (g_a : n0 ≤ a) (E_a : Exa Z h0 a "com/example/gavelwatch/gavelwatch/sim/RunningAuction") (F_a_highest : Fld Z h0 a "com/example/gavelwatch/gavelwatch/sim/RunningAuction" "highest" "Lcom/example/gavelwatch/gavelwatch/model/Bid;" (.ref c0)) (F_a_bids : Fld Z h0 a "com/example/gavelwatch/gavelwatch/sim/RunningAuction" "bids" "Ljava/util/List;" (.ref l1)) (E_c0 : Exa Z h0 c0 "com/example/gavelwatch/gavelwatch/model/Bid") (F_c0_amount : Fld Z h0 c0 "com/example/gavelwatch/gavelwatch/model/Bid" "amount" "Lcom/example/gavelwatch/gavelwatch/model/Money;" (.ref o)) (E_o : Exa Z h0 o "com/example/gavelwatch/gavelwatch/model/Money") (F_o_cents : Fld Z h0 o "com/example/gavelwatch/gavelwatch/model/Money" "cents" "J" (.long y)) (E_m1 : Exa Z h0 m1 "com/example/gavelwatch/gavelwatch/model/Money") (F_m1_cents : Fld Z h0 m1 "com/example/gavelwatch/gavelwatch/model/Money" "cents" "J" (.long x)) (g_l1 : n0 ≤ l1) (E_l1 : Exa Z h0 l1 "java/util/ArrayList") (F_l1_modCount : Fld Z h0 l1 "java/util/AbstractList" "modCount" "I" (.int mc)) (F_l1_elementData : Fld Z h0 l1 "java/util/ArrayList" "elementData" "[Ljava/lang/Object;" (.ref t)) (F_l1_size : Fld Z h0 l1 "java/util/ArrayList" "size" "I" (.int (1 : Int32))) (g_t : n0 ≤ t) (V_t : Arv Z h0 t kt (.object "java/lang/Object") (10 : Int32) [(.ref c0), .null, .null, .null, .null, .null, .null, .null, .null, .null] .null) (S_SECONDS : Sta Z Z.heap "java/util/concurrent/TimeUnit" "SECONDS" "Ljava/util/concurrent/TimeUnit;" (.ref u)) (E_u : Exa Z Z.heap u "java/util/concurrent/TimeUnit") (F_u_scale : Fld Z Z.heap u "java/util/concurrent/TimeUnit" "scale" "J" (.long (1000000000 : Int64))) (F_u_maxNanos : Fld Z Z.heap u "java/util/concurrent/TimeUnit" "maxNanos" "J" (.long (9223372036 : Int64))) (Ov_t : Ovr Z kt "java/lang/Object") (hlt : y < x) (h_a_l1 : a ≠ l1) (h_a_c0 : a ≠ c0) (h_a_o : a ≠ o) (h_a_m1 : a ≠ m1) (h_a_t : a ≠ t) (h_l1_c0 : l1 ≠ c0) (h_l1_o : l1 ≠ o) (h_l1_m1 : l1 ≠ m1) (h_l1_t : l1 ≠ t) (hn2 : ¬ t1 < (-(9223372036 : Int64))) :
    MetFree l (⟨"com/example/gavelwatch/gavelwatch/sim/RunningAuction", "place", "(Ljava/lang/String;Lcom/example/gavelwatch/gavelwatch/model/Money;J)V"⟩ : MethodName) (head1 (Jvm.Cond.code (⟨"com/example/gavelwatch/gavelwatch/sim/RunningAuction", "place", "(Ljava/lang/String;Lcom/example/gavelwatch/gavelwatch/model/Money;J)V"⟩ : MethodName) prog_50_method_5_code 7 none :: ws) ({ frames := 3, cells := 5, slots := 59, locals := 42 } : Room)) (fun as0 U => as0 = #[(.ref a), (.ref b1), (.ref m1), (.long t1)] ∧ Z.Warmed39 U.vm ∧ U.heap = h0) (fun _ _ _ _ _ => True) (fun _ U oc0 U' => ∃ v L, oc0 = .returned v ∧ Qplace1 Z a b1 m1 t1 l1 o u c0 t kt mc x y h0 n0 v U'.heap L ∧ ReturnedEndW U oc0 U' L ({ frames := 3, cells := 5, slots := 59, locals := 42 } : Room).cells ({ frames := 3, cells := 5, slots := 59, locals := 42 } : Room).slots) := by
  refine MetFree.of_bodySF (plainFor_of_name pn_com_example_gavelwatch_gavelwatch_sim_RunningAuction) hisR ?_
  intro p e s m args below meth c s₁ Bd hml0 hP hK
  obtain ⟨rfl, hZ, hh⟩ := hP
  have hx := Bd.exec
  have hby := Bd.bytes
  have hml : c.maxLocals = 7 := hml0
  have hown : s.vm.findClass "com/example/gavelwatch/gavelwatch/sim/RunningAuction" = some m.cls := findClass_of_methodNamed Bd.named
  have hnm := (name_of_methodNamed Bd.named Bd.method).1
  have X0 : Stand p l e ({ frames := 3, cells := 5, slots := 59, locals := 42 } : Room) (s.setVm s.vm) m #[(.ref a), (.ref b1), (.ref m1), (.long t1)] below meth c s₁ [] 0 0 := Stand.of_body Bd
  have e0 : s₁.heap = h0 := by rw [← hh, Bd.state]; rfl
  have N0 := Fr.nil n0
  have hZ0 : Z.Warmed39 (s.setVm s.vm).vm := hZ
  have hown0 : (s.setVm s.vm).vm.findClass "com/example/gavelwatch/gavelwatch/sim/RunningAuction" = some m.cls := hown
  have hS0 : s.Since s.vm 0 := (State.WarmedH.refl s).since 0
  have SK0 : 0 ≤ h0.size := Nat.zero_le _
  show GlW p e below s (Qplace1 Z a b1 m1 t1 l1 o u c0 t kt mc x y h0 n0) ({ frames := 3, cells := 5, slots := 59, locals := 42 } : Room).cells ({ frames := 3, cells := 5, slots := 59, locals := 42 } : Room).slots (s₁.setTop (entryFrame m #[(.ref a), (.ref b1), (.ref m1), (.long t1)] 7))
  refine GlW.back (fun _ k => castTop (ef_place1 m a b1 m1 t1) k) ?_
  show GlW _ _ _ _ _ _ _ (s₁.setTop (mkF m 0 #[.val (.ref a), .val (.ref b1), .val (.ref m1), .val (.long t1), .second, .unset, .unset] []))
  obtain ⟨T143, X143, e143, st143⟩ := getS2 X0 hx hZ0 hown0 (host := "") (Or.inl (hw _ (List.mem_of_getElem? (i := 96) rfl))) Via.refl e0 (S_SECONDS.ext O0.2) (g := (mkF m 0 #[.val (.ref a), .val (.ref b1), .val (.ref m1), .val (.long t1), .second, .unset, .unset] [])) rfl (hb hby d15_0)
  refine GlW.back (fun _ k => st143 _ k) ?_
  show GlW _ _ _ _ _ _ _ (T143.setTop (mkF m 3 #[.val (.ref a), .val (.ref b1), .val (.ref m1), .val (.long t1), .second, .unset, .unset] [(.ref u)]))
  refine GlW.back (fun _ k => XS.lloadN X143.here hx rfl (hb hby d15_3) rfl k) ?_
  show GlW _ _ _ _ _ _ _ (T143.setTop (mkF m 4 #[.val (.ref a), .val (.ref b1), .val (.ref m1), .val (.long t1), .second, .unset, .unset] [(.long t1), (.ref u)]))
  obtain ⟨cq144, kq144, q144a, q144b, q144c⟩ := isOf hZ0 e143 (E_u.ext O0.2)
  obtain ⟨_, _, ⟨T144, L144, k144, n144⟩, -, X144, ⟨Lc144, hQ144, l144, y144, z144⟩, st144⟩ := X143.virtualBack hx (y := (⟨"java/util/concurrent/TimeUnit", "toNanos", "(J)J"⟩ : MethodName)) (z := (⟨"java/util/concurrent/TimeUnit", "toNanos", "(J)J"⟩ : MethodName)) hown0 (mvT hZ0 (hw _ (List.mem_of_getElem? (i := 98) rfl))) (mvT hZ0 (hw _ (List.mem_of_getElem? (i := 99) rfl))) (notFace_of_selects (args := #[]) (mvT hZ0 (hw _ (List.mem_of_getElem? (i := 101) rfl)))) (mvT hZ0 (hw _ (List.mem_of_getElem? (i := 101) rfl))) (mvT hZ0 (hw _ (List.mem_of_getElem? (i := 100) rfl))) (by decide) (backOf (W := 0) (rmnano l Z a0 hw [] u t1  h0 n0 Z0 O0 E_u F_u_scale F_u_maxNanos hn2) hZ0 (hw _ (List.mem_of_getElem? (i := 102) rfl)) (hw _ (List.mem_of_getElem? (i := 97) rfl)) (by decide) (by decide)) q144a q144c (g := (mkF m 4 #[.val (.ref a), .val (.ref b1), .val (.ref m1), .val (.long t1), .second, .unset, .unset] [(.long t1), (.ref u)])) rfl (by rw [hml]; rfl) (Steps.refl _) (argsL := [(.long t1)]) (rest := []) (lenOf pd__J_J rfl) rfl (by show 2 * 0 + _ ≤ _; exact Nat.le_of_eq rfl) (hb hby d15_4) (fun _ _ => ⟨rfl, e143, (by decide : 0 + 0 ≤ _), (by decide : 0 + 0 ≤ _)⟩)
  dsimp only [Pt.U, Pt.locs, Pt.cells, Pt.slots] at X144 l144 y144 z144 st144 hQ144
  subst l144 y144 z144
  obtain ⟨Nq144, r144, rfl, eh144⟩ := hQ144
  have N144 := Fr.app N0 Nq144
  refine GlW.back (fun _ k => st144.trans k) ?_
  show GlW _ _ _ _ _ _ _ (T144.setTop (mkF m 7 #[.val (.ref a), .val (.ref b1), .val (.ref m1), .val (.long t1), .second, .unset, .unset] [(.long r144)]))
  refine GlW.back (fun _ k => XS.lstore X144.here hx rfl (hb hby d15_7) rfl (l' := #[.val (.ref a), .val (.ref b1), .val (.ref m1), .val (.long t1), .second, .val (.long r144), .second]) rfl k) ?_
  show GlW _ _ _ _ _ _ _ (T144.setTop (mkF m 9 #[.val (.ref a), .val (.ref b1), .val (.ref m1), .val (.long t1), .second, .val (.long r144), .second] []))
  refine GlW.back (fun _ k => XS.aloadN X144.here hx rfl (hb hby d15_9) rfl rfl k) ?_
  show GlW _ _ _ _ _ _ _ (T144.setTop (mkF m 10 #[.val (.ref a), .val (.ref b1), .val (.ref m1), .val (.long t1), .second, .val (.long r144), .second] [(.ref a)]))
  refine GlW.back (fun _ k => XS.aloadN X144.here hx rfl (hb hby d15_10) rfl rfl k) ?_
  show GlW _ _ _ _ _ _ _ (T144.setTop (mkF m 11 #[.val (.ref a), .val (.ref b1), .val (.ref m1), .val (.long t1), .second, .val (.long r144), .second] [(.ref m1), (.ref a)]))
  obtain ⟨cq145, kq145, q145a, q145b, q145c⟩ := isOf hZ0 eh144 E_a
  obtain ⟨_, _, ⟨T145, L145, k145, n145⟩, -, X145, ⟨Lc145, hQ145, l145, y145, z145⟩, st145⟩ := X144.virtualBack hx (y := (⟨"com/example/gavelwatch/gavelwatch/sim/RunningAuction", "accepts", "(Lcom/example/gavelwatch/gavelwatch/model/Money;)Z"⟩ : MethodName)) (z := (⟨"com/example/gavelwatch/gavelwatch/sim/RunningAuction", "accepts", "(Lcom/example/gavelwatch/gavelwatch/model/Money;)Z"⟩ : MethodName)) hown0 (mvT hZ0 (hw _ (List.mem_of_getElem? (i := 107) rfl))) (mvT hZ0 (hw _ (List.mem_of_getElem? (i := 108) rfl))) (notFace_of_selects (args := #[]) (mvT hZ0 (hw _ (List.mem_of_getElem? (i := 110) rfl)))) (mvT hZ0 (hw _ (List.mem_of_getElem? (i := 110) rfl))) (mvT hZ0 (hw _ (List.mem_of_getElem? (i := 109) rfl))) (by decide) (backOf (W := 0) (rmacc1 l Z a0 hw [] a m1 c0 o x y h0 n0 Z0 E_a F_a_highest E_c0 F_c0_amount E_o F_o_cents E_m1 F_m1_cents hlt) hZ0 (hw _ (List.mem_of_getElem? (i := 111) rfl)) (hw _ (List.mem_of_getElem? (i := 2) rfl)) (by decide) (by decide)) q145a q145c (g := (mkF m 11 #[.val (.ref a), .val (.ref b1), .val (.ref m1), .val (.long t1), .second, .val (.long r144), .second] [(.ref m1), (.ref a)])) rfl (by rw [hml]; rfl) (Steps.refl _) (argsL := [(.ref m1)]) (rest := []) (lenOf pd__Lcom_example_gavelwatch_gavelwatch_model_Money__Z rfl) rfl (by show 2 * 0 + _ ≤ _; exact Nat.le_of_eq rfl) (hb hby d15_11) (fun _ _ => ⟨rfl, eh144, (by decide : 0 + 0 ≤ _), (by decide : 0 + 0 ≤ _)⟩)
  dsimp only [Pt.U, Pt.locs, Pt.cells, Pt.slots] at X145 l145 y145 z145 st145 hQ145
  subst l145 y145 z145
  obtain ⟨Nq145, rfl, eh145⟩ := hQ145
  have N145 := Fr.app N144 Nq145
  refine GlW.back (fun _ k => st145.trans k) ?_
  show GlW _ _ _ _ _ _ _ (T145.setTop (mkF m 14 #[.val (.ref a), .val (.ref b1), .val (.ref m1), .val (.long t1), .second, .val (.long r144), .second] [(.int (1 : Int32))]))
  refine GlW.back (fun _ k => XS.ifYes X145.here hx rfl (pc0 := 14) (pc' := 79) rfl (hb hby d15_14) rfl ((if0 _ _).trans (feq (by decide : ¬ (1 : Int32) = (0 : Int32))).2) (by decide) (by decide) k) ?_
  show GlW _ _ _ _ _ _ _ (T145.setTop (mkF m 79 #[.val (.ref a), .val (.ref b1), .val (.ref m1), .val (.long t1), .second, .val (.long r144), .second] []))
  refine GlW.back (fun _ k => XS.aloadN X145.here hx rfl (hb hby d15_79) rfl rfl k) ?_
  show GlW _ _ _ _ _ _ _ (T145.setTop (mkF m 80 #[.val (.ref a), .val (.ref b1), .val (.ref m1), .val (.long t1), .second, .val (.long r144), .second] [(.ref a)]))
  obtain ⟨T146, h146, X146, e146, E146, A146, D146, -, st146⟩ := newO X145 hx hZ0 hown0 (hw _ (List.mem_of_getElem? (i := 127) rfl)) (hw _ (List.mem_of_getElem? (i := 128) rfl)) (hw _ (List.mem_of_getElem? (i := 129) rfl)) eh145 (g := (mkF m 80 #[.val (.ref a), .val (.ref b1), .val (.ref m1), .val (.long t1), .second, .val (.long r144), .second] [(.ref a)])) rfl (hb hby d15_80) (by decide) (by decide)
  obtain ⟨b146, g146⟩ : ∃ z, z = h0.size := ⟨_, rfl⟩
  rw [← g146] at A146 D146 st146
  have ne_a_b146 : a ≠ b146 := Nat.ne_of_lt (Nat.lt_of_lt_of_le E_a.lt (Nat.le_of_eq g146.symm))
  have ne_c0_b146 : c0 ≠ b146 := Nat.ne_of_lt (Nat.lt_of_lt_of_le E_c0.lt (Nat.le_of_eq g146.symm))
  have ne_o_b146 : o ≠ b146 := Nat.ne_of_lt (Nat.lt_of_lt_of_le E_o.lt (Nat.le_of_eq g146.symm))
  have ne_m1_b146 : m1 ≠ b146 := Nat.ne_of_lt (Nat.lt_of_lt_of_le E_m1.lt (Nat.le_of_eq g146.symm))
  have ne_l1_b146 : l1 ≠ b146 := Nat.ne_of_lt (Nat.lt_of_lt_of_le E_l1.lt (Nat.le_of_eq g146.symm))
  have ne_t_b146 : t ≠ b146 := Nat.ne_of_lt (Nat.lt_of_lt_of_le V_t.lt (Nat.le_of_eq g146.symm))
  have g_b146 : n0 ≤ b146 := Nat.le_trans Z0 (Nat.le_of_eq g146.symm)
  have sz_b146 : h0.size ≤ b146 := Nat.le_trans (Keep.refl h0 [a, l1, t]).1 (Nat.le_of_eq g146.symm)
  have Z146 : n0 ≤ h146.size := Nat.le_trans Z0 E146.1
  have K146 := Keep.ext (Keep.refl h0 [a, l1, t]) E146
  have O146 := Old.ext O0 E146
  have SK146 := Nat.le_trans SK0 E146.1
  have F146_bidder : Fld Z h146 b146 "com/example/gavelwatch/gavelwatch/model/Bid" "bidder" "Ljava/lang/String;" .null := D146 (Or.inr (hw _ (List.mem_of_getElem? (i := 143) rfl))) (ty := (.object "java/lang/String")) (by decide)
  have F146_amount : Fld Z h146 b146 "com/example/gavelwatch/gavelwatch/model/Bid" "amount" "Lcom/example/gavelwatch/gavelwatch/model/Money;" .null := D146 (Or.inr (hw _ (List.mem_of_getElem? (i := 145) rfl))) (ty := (.object "com/example/gavelwatch/gavelwatch/model/Money")) (by decide)
  have F146_time : Fld Z h146 b146 "com/example/gavelwatch/gavelwatch/model/Bid" "time" "J" (.long (0 : Int64)) := D146 (Or.inr (hw _ (List.mem_of_getElem? (i := 147) rfl))) (ty := .long) (by decide)
  refine GlW.back (fun _ k => st146 _ k) ?_
  show GlW _ _ _ _ _ _ _ (T146.setTop (mkF m 83 #[.val (.ref a), .val (.ref b1), .val (.ref m1), .val (.long t1), .second, .val (.long r144), .second] [(.ref b146), (.ref a)]))
  refine GlW.back (fun _ k => XS.dup X146.here hx rfl (hb hby d15_83) rfl rfl k) ?_
  show GlW _ _ _ _ _ _ _ (T146.setTop (mkF m 84 #[.val (.ref a), .val (.ref b1), .val (.ref m1), .val (.long t1), .second, .val (.long r144), .second] [(.ref b146), (.ref b146), (.ref a)]))
  refine GlW.back (fun _ k => XS.aloadN X146.here hx rfl (hb hby d15_84) rfl rfl k) ?_
  show GlW _ _ _ _ _ _ _ (T146.setTop (mkF m 85 #[.val (.ref a), .val (.ref b1), .val (.ref m1), .val (.long t1), .second, .val (.long r144), .second] [(.ref b1), (.ref b146), (.ref b146), (.ref a)]))
  refine GlW.back (fun _ k => XS.aloadN X146.here hx rfl (hb hby d15_85) rfl rfl k) ?_
  show GlW _ _ _ _ _ _ _ (T146.setTop (mkF m 86 #[.val (.ref a), .val (.ref b1), .val (.ref m1), .val (.long t1), .second, .val (.long r144), .second] [(.ref m1), (.ref b1), (.ref b146), (.ref b146), (.ref a)]))
  refine GlW.back (fun _ k => XS.lload X146.here hx rfl (hb hby d15_86) rfl k) ?_
  show GlW _ _ _ _ _ _ _ (T146.setTop (mkF m 88 #[.val (.ref a), .val (.ref b1), .val (.ref m1), .val (.long t1), .second, .val (.long r144), .second] [(.long r144), (.ref m1), (.ref b1), (.ref b146), (.ref b146), (.ref a)]))
  obtain ⟨_, _, ⟨T147, L147, k147, n147⟩, -, X147, hS2147, hg2147, ⟨Lc147, hQ147, l147, y147, z147⟩, st147⟩ := X146.specialBackS hx (y := (⟨"com/example/gavelwatch/gavelwatch/model/Bid", "<init>", "(Ljava/lang/String;Lcom/example/gavelwatch/gavelwatch/model/Money;J)V"⟩ : MethodName)) rfl hown0 (mvT hZ0 (hw _ (List.mem_of_getElem? (i := 130) rfl))) (mvT hZ0 (hw _ (List.mem_of_getElem? (i := 131) rfl))) (mvT hZ0 (hw _ (List.mem_of_getElem? (i := 132) rfl))) (by decide) (backOfS (W := 2) (rmbidi l Z a0 hw [] b146 b1 m1 r144  h146 n0 Z146 g_b146 A146 F146_bidder F146_amount F146_time) hZ0 (hw _ (List.mem_of_getElem? (i := 132) rfl)) (hw _ (List.mem_of_getElem? (i := 129) rfl)) (by decide) (by decide)) (g := (mkF m 88 #[.val (.ref a), .val (.ref b1), .val (.ref m1), .val (.long t1), .second, .val (.long r144), .second] [(.long r144), (.ref m1), (.ref b1), (.ref b146), (.ref b146), (.ref a)])) rfl (by rw [hml]; rfl) (Steps.refl _) (a := b146) (argsL := [(.ref b1), (.ref m1), (.long r144)]) (rest := [(.ref b146), (.ref a)]) (lenOf pd__Ljava_lang_String_Lcom_example_gavelwatch_gavelwatch_model_Money_J_V rfl) rfl (by show 2 * 0 + _ ≤ _; exact Nat.le_of_eq rfl) (hb hby d15_88) (fun _ _ => ⟨rfl, e146, (by decide : 1 + 4 ≤ _), (by decide : 3 + 56 ≤ _)⟩)
  dsimp only [Pt.U, Pt.locs, Pt.cells, Pt.slots] at X147 l147 y147 z147 st147 hQ147 hS2147 hg2147
  subst l147 y147 z147
  obtain ⟨X147, hS147, hZ147, hown147⟩ := rebS hS0 (by rw [e146]; exact SK146) X147 hS2147 hg2147 hZ0 hown0
  obtain ⟨Nq147, rfl, Kq147, Fa147⟩ := hQ147
  have N147 := Fr.app N145 Nq147
  have Kc147 := Keep.trans K146 Kq147 (allS (Or.inr sz_b146) all0)
  have Zc147 : n0 ≤ T147.heap.size := Nat.le_trans Z146 Kq147.1
  have Oc147 := Old.keep O146 Kq147 (allS g_b146 all0)
  refine GlW.back (fun _ k => st147.trans k) ?_
  show GlW _ _ _ _ _ _ _ (T147.setTop (mkF m 91 #[.val (.ref a), .val (.ref b1), .val (.ref m1), .val (.long t1), .second, .val (.long r144), .second] [(.ref b146), (.ref a)]))
  have f148 := ((E_a.ext E146).keep Kq147)
  have f149 := ((F_a_highest.ext E146).keep Kq147 (ninS ne_a_b146 nin0))
  obtain ⟨T150, h150, X150, e150, W150, st150⟩ := putF X147 hx hZ147 hown147 (host := "") (Or.inl (hw _ (List.mem_of_getElem? (i := 56) rfl))) Via.refl rfl f149 f148 (Or.inl (hw _ (List.mem_of_getElem? (i := 57) rfl))) (hw _ (List.mem_of_getElem? (i := 1) rfl)) (ty := (.object "com/example/gavelwatch/gavelwatch/model/Bid")) (by decide) rfl rfl (g := (mkF m 91 #[.val (.ref a), .val (.ref b1), .val (.ref m1), .val (.long t1), .second, .val (.long r144), .second] [(.ref b146), (.ref a)])) rfl rfl (hb hby d15_91)
  have Fw150 := f149.same W150
  have K150 := Keep.wr Kc147 W150 (Or.inl (List.mem_of_getElem? (i := 0) rfl))
  have O150 := Old.wr Oc147 W150 g_a
  have Z150 : n0 ≤ h150.size := Nat.le_trans Zc147 (Keep.of_wr W150).1
  have SK150 := Nat.le_trans (Nat.le_refl _) (Keep.of_wr W150).1
  have N150 := Fr.snoc X150 N147 g_a
  refine GlW.back (fun _ k => st150 _ k) ?_
  show GlW _ _ _ _ _ _ _ (T150.setTop (mkF m 94 #[.val (.ref a), .val (.ref b1), .val (.ref m1), .val (.long t1), .second, .val (.long r144), .second] []))
  refine GlW.back (fun _ k => XS.aloadN X150.here hx rfl (hb hby d15_94) rfl rfl k) ?_
  show GlW _ _ _ _ _ _ _ (T150.setTop (mkF m 95 #[.val (.ref a), .val (.ref b1), .val (.ref m1), .val (.long t1), .second, .val (.long r144), .second] [(.ref a)]))
  have f151 := (((F_a_bids.ext E146).keep Kq147 (ninS ne_a_b146 nin0)).other W150 (Or.inr (slot_ne (Or.inr (hw _ (List.mem_of_getElem? (i := 48) rfl))) (Or.inl (hw _ (List.mem_of_getElem? (i := 57) rfl))) (by decide) (t := (.object "java/util/List")) (t' := (.object "com/example/gavelwatch/gavelwatch/model/Bid")) (by decide) (by decide))))
  obtain ⟨T152, X152, e152, st152⟩ := getF X150 hx hZ147 hown147 (host := "") (Or.inl (hw _ (List.mem_of_getElem? (i := 47) rfl))) Via.refl e150 f151 (g := (mkF m 95 #[.val (.ref a), .val (.ref b1), .val (.ref m1), .val (.long t1), .second, .val (.long r144), .second] [(.ref a)])) rfl rfl (hb hby d15_95)
  refine GlW.back (fun _ k => st152 _ k) ?_
  show GlW _ _ _ _ _ _ _ (T152.setTop (mkF m 98 #[.val (.ref a), .val (.ref b1), .val (.ref m1), .val (.long t1), .second, .val (.long r144), .second] [(.ref l1)]))
  refine GlW.back (fun _ k => XS.aloadN X152.here hx rfl (hb hby d15_98) rfl rfl k) ?_
  show GlW _ _ _ _ _ _ _ (T152.setTop (mkF m 99 #[.val (.ref a), .val (.ref b1), .val (.ref m1), .val (.long t1), .second, .val (.long r144), .second] [(.ref a), (.ref l1)]))
  obtain ⟨T153, X153, e153, st153⟩ := getF X152 hx hZ147 hown147 (host := "") (Or.inl (hw _ (List.mem_of_getElem? (i := 56) rfl))) Via.refl e152 Fw150 (g := (mkF m 99 #[.val (.ref a), .val (.ref b1), .val (.ref m1), .val (.long t1), .second, .val (.long r144), .second] [(.ref a), (.ref l1)])) rfl rfl (hb hby d15_99)
  refine GlW.back (fun _ k => st153 _ k) ?_
  show GlW _ _ _ _ _ _ _ (T153.setTop (mkF m 102 #[.val (.ref a), .val (.ref b1), .val (.ref m1), .val (.long t1), .second, .val (.long r144), .second] [(.ref b146), (.ref l1)]))
  have f155 := (((E_l1.ext E146).keep Kq147).wr W150)
  have f156 := (((F_l1_modCount.ext E146).keep Kq147 (ninS ne_l1_b146 nin0)).other W150 (Or.inl (Ne.symm h_a_l1)))
  have f157 := (((F_l1_elementData.ext E146).keep Kq147 (ninS ne_l1_b146 nin0)).other W150 (Or.inl (Ne.symm h_a_l1)))
  have f158 := (((F_l1_size.ext E146).keep Kq147 (ninS ne_l1_b146 nin0)).other W150 (Or.inl (Ne.symm h_a_l1)))
  have f159 := ((A146.keep Kq147).wr W150)
  have f160 := (((V_t.ext E146).keep Kq147 (ninS ne_t_b146 nin0)).other W150 (Ne.symm h_a_t))
  obtain ⟨cq154, kq154, q154a, q154b, q154c⟩ := isOf hZ147 e153 f155
  obtain ⟨_, _, ⟨T154, L154, k154, n154⟩, -, X154, ⟨Lc154, hQ154, l154, y154, z154⟩, st154⟩ := X153.interfaceBack hx (xi := (⟨"java/util/List", "add", "(Ljava/lang/Object;)Z"⟩ : MethodName)) (y := (⟨"java/util/ArrayList", "add", "(Ljava/lang/Object;)Z"⟩ : MethodName)) hown147 (mvT hZ147 (hw _ (List.mem_of_getElem? (i := 148) rfl))) (mvT hZ147 (hw _ (List.mem_of_getElem? (i := 149) rfl))) (mvT hZ147 (hw _ (List.mem_of_getElem? (i := 150) rfl))) (mvT hZ147 (hw _ (List.mem_of_getElem? (i := 151) rfl))) (mvT hZ147 (hw _ (List.mem_of_getElem? (i := 152) rfl))) (mvT hZ147 (hw _ (List.mem_of_getElem? (i := 153) rfl))) (mvT hZ147 (hw _ (List.mem_of_getElem? (i := 154) rfl))) (mvT hZ147 (hw _ (List.mem_of_getElem? (i := 155) rfl))) (by decide) (backOf (W := 0) (rmadd1 l Z a0 hw [] l1 b146 t c0 kt mc h150 n0 Z150 g_l1 f155 f156 f157 f158 f159 g_t f160 Ov_t ne_l1_b146 h_l1_t (Ne.symm ne_t_b146)) hZ147 (hw _ (List.mem_of_getElem? (i := 156) rfl)) (hw _ (List.mem_of_getElem? (i := 25) rfl)) (by decide) (by decide)) q154a q154b q154c (g := (mkF m 102 #[.val (.ref a), .val (.ref b1), .val (.ref m1), .val (.long t1), .second, .val (.long r144), .second] [(.ref b146), (.ref l1)])) rfl (by rw [hml]; rfl) (Steps.refl _) (argsL := [(.ref b146)]) (rest := []) (lenOf pd__Ljava_lang_Object__Z rfl) rfl (by show 2 * 0 + _ ≤ _; exact Nat.le_of_eq rfl) (hb hby d15_102) (fun _ _ => ⟨rfl, e153, (by decide : 5 + 0 ≤ _), (by decide : 59 + 0 ≤ _)⟩)
  dsimp only [Pt.U, Pt.locs, Pt.cells, Pt.slots] at X154 l154 y154 z154 st154 hQ154
  subst l154 y154 z154
  obtain ⟨Nq154, rfl, Kq154, Fs154⟩ := hQ154
  have N154 := Fr.app N150 Nq154
  have Kc154 := Keep.trans K150 Kq154 (allS (Or.inl (List.mem_of_getElem? (i := 1) rfl)) (allS (Or.inl (List.mem_of_getElem? (i := 2) rfl)) all0))
  have Zc154 : n0 ≤ T154.heap.size := Nat.le_trans Z150 Kq154.1
  have Oc154 := Old.keep O150 Kq154 (allS g_l1 (allS g_t all0))
  have SKc154 := Nat.le_trans SK150 Kq154.1
  refine GlW.back (fun _ k => st154.trans k) ?_
  show GlW _ _ _ _ _ _ _ (T154.setTop (mkF m 107 #[.val (.ref a), .val (.ref b1), .val (.ref m1), .val (.long t1), .second, .val (.long r144), .second] [(.int (1 : Int32))]))
  refine GlW.back (fun _ k => XS.pop X154.here hx rfl (hb hby d15_107) rfl rfl k) ?_
  show GlW _ _ _ _ _ _ _ (T154.setTop (mkF m 108 #[.val (.ref a), .val (.ref b1), .val (.ref m1), .val (.long t1), .second, .val (.long r144), .second] []))
  have f161 := (f159.keep Kq154)
  have f162 := (Fw150.keep Kq154 (ninS h_a_l1 (ninS h_a_t nin0)))
  have f163 := ((Fa147.other W150 (Or.inl (Ne.symm ne_a_b146))).keep Kq154 (ninS (Ne.symm ne_l1_b146) (ninS (Ne.symm ne_t_b146) nin0)))
  have f164 := (f151.keep Kq154 (ninS h_a_l1 (ninS h_a_t nin0)))
  exact GlW.ret X154 rfl hS147 SKc154 (v := none) (fun _ => rfl) Bd.notSynchronized (fun fs hr => X154.returnOut hx Bd.returns (hb hby d15_108) hr) ⟨N154, rfl, Kc154, b146, sz_b146, g_b146, f161, f162, f163, f164, Fs154⟩ (by decide) (by decide)
theorem d29_0 : decode prog_50_method_6_code 0 = .ok (.aload_n 0, 1) := by decide +kernel
theorem d29_1 : decode prog_50_method_6_code 1 = .ok (.getfield 10, 3) := by decide +kernel
theorem d29_4 : decode prog_50_method_6_code 4 = .ok (.areturn, 1) := by decide +kernel
theorem ef_bids (m : MethodId) (x0 : Addr) : entryFrame m #[(.ref x0)] 1 = mkF m 0 #[.val (.ref x0)] [] := by first | (simp [entryFrame, mkF, argsToLocals, Value.category]; done) | rfl
def Qbids (Z : State) (a : Addr) (l1 : Addr) (h0 : Heap) (n0 : Nat) (v : Option Value) (h : Heap) (L : List Loc) : Prop := Fr n0 L ∧ (v = some (.ref l1) ∧ h = h0)
set_option maxRecDepth 65536 in
set_option maxHeartbeats 40000000 in
theorem rmbids (l : Launch) (Z : State) (a0 : Array Value) (hw : ∀ d ∈ tables_1, d.before a0 Z = true) (ws : List Jvm.Cond) (a : Addr) (l1 : Addr) (h0 : Heap) (n0 : Nat) (Z0 : n0 ≤ h0.size) (F_a_bids : Fld Z h0 a "com/example/gavelwatch/gavelwatch/sim/RunningAuction" "bids" "Ljava/util/List;" (.ref l1)) :
    MetFree l (⟨"com/example/gavelwatch/gavelwatch/sim/RunningAuction", "bids", "()Ljava/util/List;"⟩ : MethodName) (head1 (Jvm.Cond.code (⟨"com/example/gavelwatch/gavelwatch/sim/RunningAuction", "bids", "()Ljava/util/List;"⟩ : MethodName) prog_50_method_6_code 1 (some (.object "java/util/List")) :: ws) ({ frames := 0, cells := 0, slots := 0, locals := 0 } : Room)) (fun as0 U => as0 = #[(.ref a)] ∧ Z.Warmed39 U.vm ∧ U.heap = h0) (fun _ _ _ _ _ => True) (fun _ U oc0 U' => ∃ v L, oc0 = .returned v ∧ Qbids Z a l1 h0 n0 v U'.heap L ∧ FrameEnd U oc0 U' L ({ frames := 0, cells := 0, slots := 0, locals := 0 } : Room).cells ({ frames := 0, cells := 0, slots := 0, locals := 0 } : Room).slots) := by
  refine MetFree.of_bodySF (plainFor_of_name pn_com_example_gavelwatch_gavelwatch_sim_RunningAuction) hisR ?_
  intro p e s m args below meth c s₁ Bd hml0 hP hK
  obtain ⟨rfl, hZ, hh⟩ := hP
  have hx := Bd.exec
  have hby := Bd.bytes
  have hml : c.maxLocals = 1 := hml0
  have hown : s.vm.findClass "com/example/gavelwatch/gavelwatch/sim/RunningAuction" = some m.cls := findClass_of_methodNamed Bd.named
  have hnm := (name_of_methodNamed Bd.named Bd.method).1
  have X0 : Stand p l e ({ frames := 0, cells := 0, slots := 0, locals := 0 } : Room) s m #[(.ref a)] below meth c s₁ [] 0 0 := Stand.of_body Bd
  have e0 : s₁.heap = h0 := by rw [← hh, Bd.state]; rfl
  have N0 := Fr.nil n0
  show Gl p e below s (Qbids Z a l1 h0 n0) ({ frames := 0, cells := 0, slots := 0, locals := 0 } : Room).cells ({ frames := 0, cells := 0, slots := 0, locals := 0 } : Room).slots (s₁.setTop (entryFrame m #[(.ref a)] 1))
  refine Gl.back (fun _ k => castTop (ef_bids m a) k) ?_
  show Gl _ _ _ _ _ _ _ (s₁.setTop (mkF m 0 #[.val (.ref a)] []))
  refine Gl.back (fun _ k => XS.aloadN X0.here hx rfl (hb hby d29_0) rfl rfl k) ?_
  show Gl _ _ _ _ _ _ _ (s₁.setTop (mkF m 1 #[.val (.ref a)] [(.ref a)]))
  obtain ⟨T165, X165, e165, st165⟩ := getF X0 hx hZ hown (host := "") (Or.inl (hw _ (List.mem_of_getElem? (i := 47) rfl))) Via.refl e0 F_a_bids (g := (mkF m 1 #[.val (.ref a)] [(.ref a)])) rfl rfl (hb hby d29_1)
  refine Gl.back (fun _ k => st165 _ k) ?_
  show Gl _ _ _ _ _ _ _ (T165.setTop (mkF m 4 #[.val (.ref a)] [(.ref l1)]))
  exact Gl.ret X165 e165 (v := (some (.ref l1))) (fun h => by rw [Bd.returns] at h; cases h) Bd.notSynchronized (fun fs hr => retOut X165 hx (w := (.ref l1)) Bd.returns rfl (Or.inr (Or.inr (Or.inr (Or.inr ⟨rfl, rfl, rfl⟩)))) (hb hby d29_4) hr) ⟨N0, rfl, rfl⟩ (by decide) (by decide)
theorem d30_0 : decode jdk_38_method_8_code 0 = .ok (.aload_n 0, 1) := by decide +kernel
theorem d30_1 : decode jdk_38_method_8_code 1 = .ok (.getfield 48, 3) := by decide +kernel
theorem d30_4 : decode jdk_38_method_8_code 4 = .ok (.ireturn, 1) := by decide +kernel
theorem ef_size (m : MethodId) (x0 : Addr) : entryFrame m #[(.ref x0)] 1 = mkF m 0 #[.val (.ref x0)] [] := by first | (simp [entryFrame, mkF, argsToLocals, Value.category]; done) | rfl
def Qsize (Z : State) (a : Addr) (z : Int32) (h0 : Heap) (n0 : Nat) (v : Option Value) (h : Heap) (L : List Loc) : Prop := Fr n0 L ∧ (v = some (.int z) ∧ h = h0)
set_option maxRecDepth 65536 in
set_option maxHeartbeats 40000000 in
theorem rmsize (l : Launch) (Z : State) (a0 : Array Value) (hw : ∀ d ∈ tables_1, d.before a0 Z = true) (ws : List Jvm.Cond) (a : Addr) (z : Int32) (h0 : Heap) (n0 : Nat) (Z0 : n0 ≤ h0.size) (F_a_size : Fld Z h0 a "java/util/ArrayList" "size" "I" (.int z)) :
    MetFree l (⟨"java/util/ArrayList", "size", "()I"⟩ : MethodName) (head1 (Jvm.Cond.code (⟨"java/util/ArrayList", "size", "()I"⟩ : MethodName) jdk_38_method_8_code 1 (some .int) :: ws) ({ frames := 0, cells := 0, slots := 0, locals := 0 } : Room)) (fun as0 U => as0 = #[(.ref a)] ∧ Z.Warmed39 U.vm ∧ U.heap = h0) (fun _ _ _ _ _ => True) (fun _ U oc0 U' => ∃ v L, oc0 = .returned v ∧ Qsize Z a z h0 n0 v U'.heap L ∧ FrameEnd U oc0 U' L ({ frames := 0, cells := 0, slots := 0, locals := 0 } : Room).cells ({ frames := 0, cells := 0, slots := 0, locals := 0 } : Room).slots) := by
  refine MetFree.of_bodySF (plainFor_of_name pn_java_util_ArrayList) hisR ?_
  intro p e s m args below meth c s₁ Bd hml0 hP hK
  obtain ⟨rfl, hZ, hh⟩ := hP
  have hx := Bd.exec
  have hby := Bd.bytes
  have hml : c.maxLocals = 1 := hml0
  have hown : s.vm.findClass "java/util/ArrayList" = some m.cls := findClass_of_methodNamed Bd.named
  have hnm := (name_of_methodNamed Bd.named Bd.method).1
  have X0 : Stand p l e ({ frames := 0, cells := 0, slots := 0, locals := 0 } : Room) s m #[(.ref a)] below meth c s₁ [] 0 0 := Stand.of_body Bd
  have e0 : s₁.heap = h0 := by rw [← hh, Bd.state]; rfl
  have N0 := Fr.nil n0
  show Gl p e below s (Qsize Z a z h0 n0) ({ frames := 0, cells := 0, slots := 0, locals := 0 } : Room).cells ({ frames := 0, cells := 0, slots := 0, locals := 0 } : Room).slots (s₁.setTop (entryFrame m #[(.ref a)] 1))
  refine Gl.back (fun _ k => castTop (ef_size m a) k) ?_
  show Gl _ _ _ _ _ _ _ (s₁.setTop (mkF m 0 #[.val (.ref a)] []))
  refine Gl.back (fun _ k => XS.aloadN X0.here hx rfl (hb hby d30_0) rfl rfl k) ?_
  show Gl _ _ _ _ _ _ _ (s₁.setTop (mkF m 1 #[.val (.ref a)] [(.ref a)]))
  obtain ⟨T166, X166, e166, st166⟩ := getF X0 hx hZ hown (host := "") (Or.inl (hw _ (List.mem_of_getElem? (i := 159) rfl))) Via.refl e0 F_a_size (g := (mkF m 1 #[.val (.ref a)] [(.ref a)])) rfl rfl (hb hby d30_1)
  refine Gl.back (fun _ k => st166 _ k) ?_
  show Gl _ _ _ _ _ _ _ (T166.setTop (mkF m 4 #[.val (.ref a)] [(.int z)]))
  exact Gl.ret X166 e166 (v := (some (.int z))) (fun h => by rw [Bd.returns] at h; cases h) Bd.notSynchronized (fun fs hr => retOut X166 hx (w := (.int z)) Bd.returns rfl (Or.inl ⟨rfl, Or.inl rfl, _, rfl⟩) (hb hby d30_4) hr) ⟨N0, rfl, rfl⟩ (by decide) (by decide)
theorem pd__J_V : parseMethodDescriptor "(J)V" = some ⟨[.long], none⟩ := by decide +kernel
theorem pd__Lcom_example_gavelwatch_gavelwatch_model_Money__V : parseMethodDescriptor "(Lcom/example/gavelwatch/gavelwatch/model/Money;)V" = some ⟨[(.object "com/example/gavelwatch/gavelwatch/model/Money")], none⟩ := by decide +kernel
theorem pd___C_V : parseMethodDescriptor "([C)V" = some ⟨[(.array .char)], none⟩ := by decide +kernel
theorem pd___Ljava_util_List_ : parseMethodDescriptor "()Ljava/util/List;" = some ⟨[], some (.object "java/util/List")⟩ := by decide +kernel
theorem pd___I : parseMethodDescriptor "()I" = some ⟨[], some .int⟩ := by decide +kernel
theorem pd__JJ_J : parseMethodDescriptor "(JJ)J" = some ⟨[.long, .long], some .long⟩ := by decide +kernel
theorem pn_com_example_gavelwatch_gavelwatch_sim_RunningAuctionHasBidsPinLaw : plainName "com/example/gavelwatch/gavelwatch/sim/RunningAuctionHasBidsPinLaw" = true := by first | (simp [plainName, overriddenIn]; done) | decide +kernel
theorem ef_0 (m : MethodId) (x0 : Int64) (x1 : Int64) (x2 : Int64) (x3 : Int32) (x4 : Int32) (x5 : Int64) : entryFrame m #[(.long x0), (.long x1), (.long x2), (.int x3), (.int x4), (.long x5)] maxLocals = mkF m 0 #[.val (.long x0), .second, .val (.long x1), .second, .val (.long x2), .second, .val (.int x3), .val (.int x4), .val (.long x5), .second, .unset, .unset, .unset, .unset, .unset, .unset, .unset, .unset, .unset, .unset, .unset] [] := by first | (simp [entryFrame, mkF, argsToLocals, Value.category, maxLocals]; done) | rfl
def Q0 (Z : State) (x0 : Int64) (x1 : Int64) (x2 : Int64) (x3 : Int32) (x4 : Int32) (x5 : Int64) (wD u : Addr) (kD : ClassId) (zc : Int32) (h0 : Heap) (n0 : Nat) (v : Option Value) (h : Heap) (L : List Loc) : Prop := Fr n0 L ∧ (v = some (.int 1))
set_option maxRecDepth 65536 in
set_option maxHeartbeats 40000000 in
theorem rm0 (l : Launch) (Z : State) (a0 : Array Value) (hw : ∀ d ∈ tables_1, d.before a0 Z = true) (ws : List Jvm.Cond) (x0 : Int64) (x1 : Int64) (x2 : Int64) (x3 : Int32) (x4 : Int32) (x5 : Int64) (wD u : Addr) (kD : ClassId) (zc : Int32) (h0 : Heap) (n0 : Nat) (Z0 : n0 ≤ h0.size) (O0 : Old Z n0 h0) (S_DEFAULTCAPACITY_EMPTY_ELEMENTDATA : Sta Z Z.heap "java/util/ArrayList" "DEFAULTCAPACITY_EMPTY_ELEMENTDATA" "[Ljava/lang/Object;" (.ref wD)) (V_wD : Arv Z Z.heap wD kD (.object "java/lang/Object") (0 : Int32) [] .null) (S_SECONDS : Sta Z Z.heap "java/util/concurrent/TimeUnit" "SECONDS" "Ljava/util/concurrent/TimeUnit;" (.ref u)) (E_u : Exa Z Z.heap u "java/util/concurrent/TimeUnit") (F_u_scale : Fld Z Z.heap u "java/util/concurrent/TimeUnit" "scale" "J" (.long (1000000000 : Int64))) (F_u_maxNanos : Fld Z Z.heap u "java/util/concurrent/TimeUnit" "maxNanos" "J" (.long (9223372036 : Int64))) (S_COMPACT_STRINGS : Sta Z Z.heap "java/lang/String" "COMPACT_STRINGS" "Z" (.int zc)) (P0 : ¬ zc = 0) :
    MetFree l x (head1 (Jvm.Cond.code x code maxLocals ret :: ws) room_1) (fun as0 U => as0 = #[(.long x0), (.long x1), (.long x2), (.int x3), (.int x4), (.long x5)] ∧ Z.Warmed39 U.vm ∧ U.heap = h0) (fun _ _ _ _ _ => True) (fun _ U oc0 U' => ∃ v L, oc0 = .returned v ∧ Q0 Z x0 x1 x2 x3 x4 x5 wD u kD zc h0 n0 v U'.heap L ∧ ReturnedEndW U oc0 U' L room_1.cells room_1.slots) := by
  refine MetFree.of_bodySF (plainFor_of_name pn_com_example_gavelwatch_gavelwatch_sim_RunningAuctionHasBidsPinLaw) hisR ?_
  intro p e s m args below meth c s₁ Bd hml0 hP hK
  obtain ⟨rfl, hZ, hh⟩ := hP
  have hx := Bd.exec
  have hby := Bd.bytes
  have hml : c.maxLocals = 21 := hml0
  have hown : s.vm.findClass "com/example/gavelwatch/gavelwatch/sim/RunningAuctionHasBidsPinLaw" = some m.cls := findClass_of_methodNamed Bd.named
  have hnm := (name_of_methodNamed Bd.named Bd.method).1
  have X0 : Stand p l e room_1 (s.setVm s.vm) m #[(.long x0), (.long x1), (.long x2), (.int x3), (.int x4), (.long x5)] below meth c s₁ [] 0 0 := Stand.of_body Bd
  have e0 : s₁.heap = h0 := by rw [← hh, Bd.state]; rfl
  have N0 := Fr.nil n0
  have hZ0 : Z.Warmed39 (s.setVm s.vm).vm := hZ
  have hown0 : (s.setVm s.vm).vm.findClass "com/example/gavelwatch/gavelwatch/sim/RunningAuctionHasBidsPinLaw" = some m.cls := hown
  have hS0 : s.Since s.vm 0 := (State.WarmedH.refl s).since 0
  have SK0 : 0 ≤ h0.size := Nat.zero_le _
  show GlW p e below s (Q0 Z x0 x1 x2 x3 x4 x5 wD u kD zc h0 n0) room_1.cells room_1.slots (s₁.setTop (entryFrame m #[(.long x0), (.long x1), (.long x2), (.int x3), (.int x4), (.long x5)] maxLocals))
  refine GlW.back (fun _ k => castTop (ef_0 m x0 x1 x2 x3 x4 x5) k) ?_
  show GlW _ _ _ _ _ _ _ (s₁.setTop (mkF m 0 #[.val (.long x0), .second, .val (.long x1), .second, .val (.long x2), .second, .val (.int x3), .val (.int x4), .val (.long x5), .second, .unset, .unset, .unset, .unset, .unset, .unset, .unset, .unset, .unset, .unset, .unset] []))
  obtain ⟨T167, h167, X167, e167, E167, A167, D167, -, st167⟩ := newO X0 hx hZ0 hown0 (hw _ (List.mem_of_getElem? (i := 0) rfl)) (hw _ (List.mem_of_getElem? (i := 1) rfl)) (hw _ (List.mem_of_getElem? (i := 2) rfl)) e0 (g := (mkF m 0 #[.val (.long x0), .second, .val (.long x1), .second, .val (.long x2), .second, .val (.int x3), .val (.int x4), .val (.long x5), .second, .unset, .unset, .unset, .unset, .unset, .unset, .unset, .unset, .unset, .unset, .unset] [])) rfl (hb hby at_0) (by decide) (by decide)
  obtain ⟨b167, g167⟩ : ∃ z, z = h0.size := ⟨_, rfl⟩
  rw [← g167] at A167 D167 st167
  have g_b167 : n0 ≤ b167 := Nat.le_trans Z0 (Nat.le_of_eq g167.symm)
  have sz_b167 : h0.size ≤ b167 := Nat.le_trans (Keep.refl h0 []).1 (Nat.le_of_eq g167.symm)
  have Z167 : n0 ≤ h167.size := Nat.le_trans Z0 E167.1
  have K167 := Keep.ext (Keep.refl h0 []) E167
  have O167 := Old.ext O0 E167
  have SK167 := Nat.le_trans SK0 E167.1
  have F167_bids : Fld Z h167 b167 "com/example/gavelwatch/gavelwatch/sim/RunningAuction" "bids" "Ljava/util/List;" .null := D167 (Or.inr (hw _ (List.mem_of_getElem? (i := 48) rfl))) (ty := (.object "java/util/List")) (by decide)
  have F167_openingBid : Fld Z h167 b167 "com/example/gavelwatch/gavelwatch/sim/RunningAuction" "openingBid" "Lcom/example/gavelwatch/gavelwatch/model/Money;" .null := D167 (Or.inr (hw _ (List.mem_of_getElem? (i := 50) rfl))) (ty := (.object "com/example/gavelwatch/gavelwatch/model/Money")) (by decide)
  have F167_highest : Fld Z h167 b167 "com/example/gavelwatch/gavelwatch/sim/RunningAuction" "highest" "Lcom/example/gavelwatch/gavelwatch/model/Bid;" .null := D167 (Or.inl (hw _ (List.mem_of_getElem? (i := 57) rfl))) (ty := (.object "com/example/gavelwatch/gavelwatch/model/Bid")) (by decide)
  refine GlW.back (fun _ k => st167 _ k) ?_
  show GlW _ _ _ _ _ _ _ (T167.setTop (mkF m 3 #[.val (.long x0), .second, .val (.long x1), .second, .val (.long x2), .second, .val (.int x3), .val (.int x4), .val (.long x5), .second, .unset, .unset, .unset, .unset, .unset, .unset, .unset, .unset, .unset, .unset, .unset] [(.ref b167)]))
  refine GlW.back (fun _ k => XS.dup X167.here hx rfl (hb hby at_3) rfl rfl k) ?_
  show GlW _ _ _ _ _ _ _ (T167.setTop (mkF m 4 #[.val (.long x0), .second, .val (.long x1), .second, .val (.long x2), .second, .val (.int x3), .val (.int x4), .val (.long x5), .second, .unset, .unset, .unset, .unset, .unset, .unset, .unset, .unset, .unset, .unset, .unset] [(.ref b167), (.ref b167)]))
  obtain ⟨T168, h168, X168, e168, E168, A168, D168, -, st168⟩ := newO X167 hx hZ0 hown0 (hw _ (List.mem_of_getElem? (i := 3) rfl)) (hw _ (List.mem_of_getElem? (i := 4) rfl)) (hw _ (List.mem_of_getElem? (i := 5) rfl)) e167 (g := (mkF m 4 #[.val (.long x0), .second, .val (.long x1), .second, .val (.long x2), .second, .val (.int x3), .val (.int x4), .val (.long x5), .second, .unset, .unset, .unset, .unset, .unset, .unset, .unset, .unset, .unset, .unset, .unset] [(.ref b167), (.ref b167)])) rfl (hb hby at_4) (by decide) (by decide)
  obtain ⟨b168, g168⟩ : ∃ z, z = h167.size := ⟨_, rfl⟩
  rw [← g168] at A168 D168 st168
  have ne_b167_b168 : b167 ≠ b168 := Nat.ne_of_lt (Nat.lt_of_lt_of_le A167.lt (Nat.le_of_eq g168.symm))
  have g_b168 : n0 ≤ b168 := Nat.le_trans Z167 (Nat.le_of_eq g168.symm)
  have sz_b168 : h0.size ≤ b168 := Nat.le_trans K167.1 (Nat.le_of_eq g168.symm)
  have Z168 : n0 ≤ h168.size := Nat.le_trans Z167 E168.1
  have K168 := Keep.ext K167 E168
  have O168 := Old.ext O167 E168
  have SK168 := Nat.le_trans SK167 E168.1
  have F168_cents : Fld Z h168 b168 "com/example/gavelwatch/gavelwatch/model/Money" "cents" "J" (.long (0 : Int64)) := D168 (Or.inr (hw _ (List.mem_of_getElem? (i := 18) rfl))) (ty := .long) (by decide)
  refine GlW.back (fun _ k => st168 _ k) ?_
  show GlW _ _ _ _ _ _ _ (T168.setTop (mkF m 7 #[.val (.long x0), .second, .val (.long x1), .second, .val (.long x2), .second, .val (.int x3), .val (.int x4), .val (.long x5), .second, .unset, .unset, .unset, .unset, .unset, .unset, .unset, .unset, .unset, .unset, .unset] [(.ref b168), (.ref b167), (.ref b167)]))
  refine GlW.back (fun _ k => XS.dup X168.here hx rfl (hb hby at_7) rfl rfl k) ?_
  show GlW _ _ _ _ _ _ _ (T168.setTop (mkF m 8 #[.val (.long x0), .second, .val (.long x1), .second, .val (.long x2), .second, .val (.int x3), .val (.int x4), .val (.long x5), .second, .unset, .unset, .unset, .unset, .unset, .unset, .unset, .unset, .unset, .unset, .unset] [(.ref b168), (.ref b168), (.ref b167), (.ref b167)]))
  refine GlW.back (fun _ k => XS.lloadN X168.here hx rfl (hb hby at_8) rfl k) ?_
  show GlW _ _ _ _ _ _ _ (T168.setTop (mkF m 9 #[.val (.long x0), .second, .val (.long x1), .second, .val (.long x2), .second, .val (.int x3), .val (.int x4), .val (.long x5), .second, .unset, .unset, .unset, .unset, .unset, .unset, .unset, .unset, .unset, .unset, .unset] [(.long x0), (.ref b168), (.ref b168), (.ref b167), (.ref b167)]))
  obtain ⟨_, _, ⟨T169, L169, k169, n169⟩, -, X169, ⟨Lc169, hQ169, l169, y169, z169⟩, st169⟩ := X168.specialBack hx (y := (⟨"com/example/gavelwatch/gavelwatch/model/Money", "<init>", "(J)V"⟩ : MethodName)) rfl hown0 (mvT hZ0 (hw _ (List.mem_of_getElem? (i := 6) rfl))) (mvT hZ0 (hw _ (List.mem_of_getElem? (i := 7) rfl))) (mvT hZ0 (hw _ (List.mem_of_getElem? (i := 8) rfl))) (by decide) (backOf (W := 3) (rmmoney l Z a0 hw [] b168 x0  h168 n0 Z168 g_b168 A168 F168_cents) hZ0 (hw _ (List.mem_of_getElem? (i := 8) rfl)) (hw _ (List.mem_of_getElem? (i := 5) rfl)) (by decide) (by decide)) (g := (mkF m 9 #[.val (.long x0), .second, .val (.long x1), .second, .val (.long x2), .second, .val (.int x3), .val (.int x4), .val (.long x5), .second, .unset, .unset, .unset, .unset, .unset, .unset, .unset, .unset, .unset, .unset, .unset] [(.long x0), (.ref b168), (.ref b168), (.ref b167), (.ref b167)])) rfl (by rw [hml]; rfl) (Steps.refl _) (a := b168) (argsL := [(.long x0)]) (rest := [(.ref b168), (.ref b167), (.ref b167)]) (lenOf pd__J_V rfl) rfl (by show 2 * 0 + _ ≤ _; exact Nat.le_of_eq rfl) (hb hby at_9) (fun _ _ => ⟨rfl, e168, (by decide : 2 + 0 ≤ _), (by decide : 4 + 0 ≤ _)⟩)
  dsimp only [Pt.U, Pt.locs, Pt.cells, Pt.slots] at X169 l169 y169 z169 st169 hQ169
  subst l169 y169 z169
  obtain ⟨Nq169, rfl, Kq169, Fc169⟩ := hQ169
  have N169 := Fr.app N0 Nq169
  have Kc169 := Keep.trans K168 Kq169 (allS (Or.inr sz_b168) all0)
  have Zc169 : n0 ≤ T169.heap.size := Nat.le_trans Z168 Kq169.1
  have Oc169 := Old.keep O168 Kq169 (allS g_b168 all0)
  have SKc169 := Nat.le_trans SK168 Kq169.1
  refine GlW.back (fun _ k => st169.trans k) ?_
  show GlW _ _ _ _ _ _ _ (T169.setTop (mkF m 12 #[.val (.long x0), .second, .val (.long x1), .second, .val (.long x2), .second, .val (.int x3), .val (.int x4), .val (.long x5), .second, .unset, .unset, .unset, .unset, .unset, .unset, .unset, .unset, .unset, .unset, .unset] [(.ref b168), (.ref b167), (.ref b167)]))
  have f171 := ((A167.ext E168).keep Kq169)
  have f172 := (A168.keep Kq169)
  have f173 := ((F167_bids.ext E168).keep Kq169 (ninS ne_b167_b168 nin0))
  have f174 := ((F167_openingBid.ext E168).keep Kq169 (ninS ne_b167_b168 nin0))
  have f175 := ((F167_highest.ext E168).keep Kq169 (ninS ne_b167_b168 nin0))
  obtain ⟨_, _, ⟨T170, L170, k170, n170⟩, -, X170, ⟨Lc170, hQ170, l170, y170, z170⟩, st170⟩ := X169.specialBack hx (y := (⟨"com/example/gavelwatch/gavelwatch/sim/RunningAuction", "<init>", "(Lcom/example/gavelwatch/gavelwatch/model/Money;)V"⟩ : MethodName)) rfl hown0 (mvT hZ0 (hw _ (List.mem_of_getElem? (i := 19) rfl))) (mvT hZ0 (hw _ (List.mem_of_getElem? (i := 20) rfl))) (mvT hZ0 (hw _ (List.mem_of_getElem? (i := 21) rfl))) (by decide) (backOf (W := 1) (rmrai l Z a0 hw [] b167 b168 wD T169.heap n0 Zc169 Oc169 g_b167 f171 f173 f174 f175 S_DEFAULTCAPACITY_EMPTY_ELEMENTDATA) hZ0 (hw _ (List.mem_of_getElem? (i := 21) rfl)) (hw _ (List.mem_of_getElem? (i := 2) rfl)) (by decide) (by decide)) (g := (mkF m 12 #[.val (.long x0), .second, .val (.long x1), .second, .val (.long x2), .second, .val (.int x3), .val (.int x4), .val (.long x5), .second, .unset, .unset, .unset, .unset, .unset, .unset, .unset, .unset, .unset, .unset, .unset] [(.ref b168), (.ref b167), (.ref b167)])) rfl (by rw [hml]; rfl) (Steps.refl _) (a := b167) (argsL := [(.ref b168)]) (rest := [(.ref b167)]) (lenOf pd__Lcom_example_gavelwatch_gavelwatch_model_Money__V rfl) rfl (by show 2 * 0 + _ ≤ _; exact Nat.le_of_eq rfl) (hb hby at_12) (fun _ _ => ⟨rfl, rfl, (by decide : 2 + 1 ≤ _), (by decide : 4 + 3 ≤ _)⟩)
  dsimp only [Pt.U, Pt.locs, Pt.cells, Pt.slots] at X170 l170 y170 z170 st170 hQ170
  subst l170 y170 z170
  obtain ⟨Nq170, rfl, Kq170, l170, Sl170, Gz170, El170, Fb170, Fo170, Fh170, Fm170, Fe170, Fs170⟩ := hQ170
  have N170 := Fr.app N169 Nq170
  have Kc170 := Keep.trans Kc169 Kq170 (allS (Or.inr sz_b167) all0)
  have Zc170 : n0 ≤ T170.heap.size := Nat.le_trans Zc169 Kq170.1
  have Oc170 := Old.keep Oc169 Kq170 (allS g_b167 all0)
  have SKc170 := Nat.le_trans SKc169 Kq170.1
  have ne_b167_l170 : b167 ≠ l170 := Nat.ne_of_lt (Nat.lt_of_lt_of_le (f171).lt Sl170)
  have ne_b168_l170 : b168 ≠ l170 := Nat.ne_of_lt (Nat.lt_of_lt_of_le (f172).lt Sl170)
  have sz_l170 : h0.size ≤ l170 := Nat.le_trans Kc169.1 Sl170
  refine GlW.back (fun _ k => st170.trans k) ?_
  show GlW _ _ _ _ _ _ _ (T170.setTop (mkF m 15 #[.val (.long x0), .second, .val (.long x1), .second, .val (.long x2), .second, .val (.int x3), .val (.int x4), .val (.long x5), .second, .unset, .unset, .unset, .unset, .unset, .unset, .unset, .unset, .unset, .unset, .unset] [(.ref b167)]))
  refine GlW.back (fun _ k => XS.astore X170.here hx rfl (hb hby at_15) rfl rfl (l' := #[.val (.long x0), .second, .val (.long x1), .second, .val (.long x2), .second, .val (.int x3), .val (.int x4), .val (.long x5), .second, .val (.ref b167), .unset, .unset, .unset, .unset, .unset, .unset, .unset, .unset, .unset, .unset]) rfl k) ?_
  show GlW _ _ _ _ _ _ _ (T170.setTop (mkF m 17 #[.val (.long x0), .second, .val (.long x1), .second, .val (.long x2), .second, .val (.int x3), .val (.int x4), .val (.long x5), .second, .val (.ref b167), .unset, .unset, .unset, .unset, .unset, .unset, .unset, .unset, .unset, .unset] []))
  refine GlW.back (fun _ k => XS.aload X170.here hx rfl (hb hby at_17) rfl rfl k) ?_
  show GlW _ _ _ _ _ _ _ (T170.setTop (mkF m 19 #[.val (.long x0), .second, .val (.long x1), .second, .val (.long x2), .second, .val (.int x3), .val (.int x4), .val (.long x5), .second, .val (.ref b167), .unset, .unset, .unset, .unset, .unset, .unset, .unset, .unset, .unset, .unset] [(.ref b167)]))
  have f177 := (f171.keep Kq170)
  obtain ⟨cq176, kq176, q176a, q176b, q176c⟩ := isOf hZ0 rfl f177
  obtain ⟨_, _, ⟨T176, L176, k176, n176⟩, -, X176, ⟨Lc176, hQ176, l176, y176, z176⟩, st176⟩ := X170.virtualBack hx (y := (⟨"com/example/gavelwatch/gavelwatch/sim/RunningAuction", "hasBids", "()Z"⟩ : MethodName)) (z := (⟨"com/example/gavelwatch/gavelwatch/sim/RunningAuction", "hasBids", "()Z"⟩ : MethodName)) hown0 (mvT hZ0 (hw _ (List.mem_of_getElem? (i := 51) rfl))) (mvT hZ0 (hw _ (List.mem_of_getElem? (i := 52) rfl))) (notFace_of_selects (args := #[]) (mvT hZ0 (hw _ (List.mem_of_getElem? (i := 54) rfl)))) (mvT hZ0 (hw _ (List.mem_of_getElem? (i := 54) rfl))) (mvT hZ0 (hw _ (List.mem_of_getElem? (i := 53) rfl))) (by decide) (backOf (W := 0) (rmhas0 l Z a0 hw [] b167  T170.heap n0 Zc170 Fh170) hZ0 (hw _ (List.mem_of_getElem? (i := 55) rfl)) (hw _ (List.mem_of_getElem? (i := 2) rfl)) (by decide) (by decide)) q176a q176c (g := (mkF m 19 #[.val (.long x0), .second, .val (.long x1), .second, .val (.long x2), .second, .val (.int x3), .val (.int x4), .val (.long x5), .second, .val (.ref b167), .unset, .unset, .unset, .unset, .unset, .unset, .unset, .unset, .unset, .unset] [(.ref b167)])) rfl (by rw [hml]; rfl) (Steps.refl _) (argsL := []) (rest := []) (lenOf pd___Z rfl) rfl (by show 2 * 0 + _ ≤ _; exact Nat.le_of_eq rfl) (hb hby at_19) (fun _ _ => ⟨rfl, rfl, (by decide : 3 + 0 ≤ _), (by decide : 7 + 0 ≤ _)⟩)
  dsimp only [Pt.U, Pt.locs, Pt.cells, Pt.slots] at X176 l176 y176 z176 st176 hQ176
  subst l176 y176 z176
  obtain ⟨Nq176, rfl, eh176⟩ := hQ176
  have N176 := Fr.app N170 Nq176
  refine GlW.back (fun _ k => st176.trans k) ?_
  show GlW _ _ _ _ _ _ _ (T176.setTop (mkF m 22 #[.val (.long x0), .second, .val (.long x1), .second, .val (.long x2), .second, .val (.int x3), .val (.int x4), .val (.long x5), .second, .val (.ref b167), .unset, .unset, .unset, .unset, .unset, .unset, .unset, .unset, .unset, .unset] [(.int (0 : Int32))]))
  refine GlW.back (fun _ k => XS.ifYes X176.here hx rfl (pc0 := 22) (pc' := 27) rfl (hb hby at_22) rfl ((if0 _ _).trans (teq (by decide : (0 : Int32) = (0 : Int32))).1) (by decide) (by decide) k) ?_
  show GlW _ _ _ _ _ _ _ (T176.setTop (mkF m 27 #[.val (.long x0), .second, .val (.long x1), .second, .val (.long x2), .second, .val (.int x3), .val (.int x4), .val (.long x5), .second, .val (.ref b167), .unset, .unset, .unset, .unset, .unset, .unset, .unset, .unset, .unset, .unset] []))
  refine GlW.back (fun _ k => XS.iload X176.here hx rfl (hb hby at_27) rfl k) ?_
  show GlW _ _ _ _ _ _ _ (T176.setTop (mkF m 29 #[.val (.long x0), .second, .val (.long x1), .second, .val (.long x2), .second, .val (.int x3), .val (.int x4), .val (.long x5), .second, .val (.ref b167), .unset, .unset, .unset, .unset, .unset, .unset, .unset, .unset, .unset, .unset] [(.int x3)]))
  refine GlW.back (fun _ k => XS.iconst X176.here hx rfl (hb hby at_29) k) ?_
  show GlW _ _ _ _ _ _ _ (T176.setTop (mkF m 30 #[.val (.long x0), .second, .val (.long x1), .second, .val (.long x2), .second, .val (.int x3), .val (.int x4), .val (.long x5), .second, .val (.ref b167), .unset, .unset, .unset, .unset, .unset, .unset, .unset, .unset, .unset, .unset] [(.int (3 : Int32)), (.int x3)]))
  refine GlW.back (fun _ k => XS.iand X176.here hx rfl (hb hby at_30) rfl k) ?_
  show GlW _ _ _ _ _ _ _ (T176.setTop (mkF m 31 #[.val (.long x0), .second, .val (.long x1), .second, .val (.long x2), .second, .val (.int x3), .val (.int x4), .val (.long x5), .second, .val (.ref b167), .unset, .unset, .unset, .unset, .unset, .unset, .unset, .unset, .unset, .unset] [(.int (x3 &&& (3 : Int32)))]))
  rcases own_and3 x3 with hk178 | hk178 | hk178 | hk178
  · rw [hk178]
    show GlW _ _ _ _ _ _ _ (T176.setTop (mkF m 31 #[.val (.long x0), .second, .val (.long x1), .second, .val (.long x2), .second, .val (.int x3), .val (.int x4), .val (.long x5), .second, .val (.ref b167), .unset, .unset, .unset, .unset, .unset, .unset, .unset, .unset, .unset, .unset] [(.int (0 : Int32))]))
    refine GlW.back (fun _ k => XS.istore X176.here hx rfl (hb hby at_31) rfl (l' := #[.val (.long x0), .second, .val (.long x1), .second, .val (.long x2), .second, .val (.int x3), .val (.int x4), .val (.long x5), .second, .val (.ref b167), .val (.int (0 : Int32)), .unset, .unset, .unset, .unset, .unset, .unset, .unset, .unset, .unset]) rfl k) ?_
    show GlW _ _ _ _ _ _ _ (T176.setTop (mkF m 33 #[.val (.long x0), .second, .val (.long x1), .second, .val (.long x2), .second, .val (.int x3), .val (.int x4), .val (.long x5), .second, .val (.ref b167), .val (.int (0 : Int32)), .unset, .unset, .unset, .unset, .unset, .unset, .unset, .unset, .unset] []))
    refine GlW.back (fun _ k => XS.iconst X176.here hx rfl (hb hby at_33) k) ?_
    show GlW _ _ _ _ _ _ _ (T176.setTop (mkF m 34 #[.val (.long x0), .second, .val (.long x1), .second, .val (.long x2), .second, .val (.int x3), .val (.int x4), .val (.long x5), .second, .val (.ref b167), .val (.int (0 : Int32)), .unset, .unset, .unset, .unset, .unset, .unset, .unset, .unset, .unset] [(.int (1 : Int32))]))
    obtain ⟨T179, h179, k179, X179, e179, E179, A179, st179⟩ := newP X176 hx hZ0 (hw _ (List.mem_of_getElem? (i := 58) rfl)) eh176 (g := (mkF m 34 #[.val (.long x0), .second, .val (.long x1), .second, .val (.long x2), .second, .val (.int x3), .val (.int x4), .val (.long x5), .second, .val (.ref b167), .val (.int (0 : Int32)), .unset, .unset, .unset, .unset, .unset, .unset, .unset, .unset, .unset] [(.int (1 : Int32))])) rfl (hb hby at_34) rfl (by decide) (cap := 1) (by decide) (by decide) (by decide) (by decide)
    obtain ⟨b179, g179⟩ : ∃ z, z = T170.heap.size := ⟨_, rfl⟩
    rw [← g179] at A179 st179
    have V179 : Arv Z h179 b179 k179 .char (1 : Int32) [(.int (0 : Int32))] (.int (0 : Int32)) := (Arv.new A179 (by decide)).pad (pad_rep [] (.int (0 : Int32)) 1)
    have ne_b167_b179 : b167 ≠ b179 := Nat.ne_of_lt (Nat.lt_of_lt_of_le f177.lt (Nat.le_of_eq g179.symm))
    have f180 := (f172.keep Kq170)
    have ne_b168_b179 : b168 ≠ b179 := Nat.ne_of_lt (Nat.lt_of_lt_of_le f180.lt (Nat.le_of_eq g179.symm))
    have ne_l170_b179 : l170 ≠ b179 := Nat.ne_of_lt (Nat.lt_of_lt_of_le El170.lt (Nat.le_of_eq g179.symm))
    have g_b179 : n0 ≤ b179 := Nat.le_trans Zc170 (Nat.le_of_eq g179.symm)
    have sz_b179 : h0.size ≤ b179 := Nat.le_trans Kc170.1 (Nat.le_of_eq g179.symm)
    have Z179 : n0 ≤ h179.size := Nat.le_trans Zc170 E179.1
    have K179 := Keep.ext Kc170 E179
    have O179 := Old.ext Oc170 E179
    have SK179 := Nat.le_trans SKc170 E179.1
    refine GlW.back (fun _ k => st179 _ k) ?_
    show GlW _ _ _ _ _ _ _ (T179.setTop (mkF m 36 #[.val (.long x0), .second, .val (.long x1), .second, .val (.long x2), .second, .val (.int x3), .val (.int x4), .val (.long x5), .second, .val (.ref b167), .val (.int (0 : Int32)), .unset, .unset, .unset, .unset, .unset, .unset, .unset, .unset, .unset] [(.ref b179)]))
    refine GlW.back (fun _ k => XS.dup X179.here hx rfl (hb hby at_36) rfl rfl k) ?_
    show GlW _ _ _ _ _ _ _ (T179.setTop (mkF m 37 #[.val (.long x0), .second, .val (.long x1), .second, .val (.long x2), .second, .val (.int x3), .val (.int x4), .val (.long x5), .second, .val (.ref b167), .val (.int (0 : Int32)), .unset, .unset, .unset, .unset, .unset, .unset, .unset, .unset, .unset] [(.ref b179), (.ref b179)]))
    refine GlW.back (fun _ k => XS.iconst X179.here hx rfl (hb hby at_37) k) ?_
    show GlW _ _ _ _ _ _ _ (T179.setTop (mkF m 38 #[.val (.long x0), .second, .val (.long x1), .second, .val (.long x2), .second, .val (.int x3), .val (.int x4), .val (.long x5), .second, .val (.ref b167), .val (.int (0 : Int32)), .unset, .unset, .unset, .unset, .unset, .unset, .unset, .unset, .unset] [(.int (0 : Int32)), (.ref b179), (.ref b179)]))
    refine GlW.back (fun _ k => XS.iload X179.here hx rfl (hb hby at_38) rfl k) ?_
    show GlW _ _ _ _ _ _ _ (T179.setTop (mkF m 40 #[.val (.long x0), .second, .val (.long x1), .second, .val (.long x2), .second, .val (.int x3), .val (.int x4), .val (.long x5), .second, .val (.ref b167), .val (.int (0 : Int32)), .unset, .unset, .unset, .unset, .unset, .unset, .unset, .unset, .unset] [(.int x4), (.int (0 : Int32)), (.ref b179), (.ref b179)]))
    refine GlW.back (fun _ k => XS.sipush X179.here hx rfl (hb hby at_40) k) ?_
    show GlW _ _ _ _ _ _ _ (T179.setTop (mkF m 43 #[.val (.long x0), .second, .val (.long x1), .second, .val (.long x2), .second, .val (.int x3), .val (.int x4), .val (.long x5), .second, .val (.ref b167), .val (.int (0 : Int32)), .unset, .unset, .unset, .unset, .unset, .unset, .unset, .unset, .unset] [(.int (255 : Int32)), (.int x4), (.int (0 : Int32)), (.ref b179), (.ref b179)]))
    refine GlW.back (fun _ k => XS.iand X179.here hx rfl (hb hby at_43) rfl k) ?_
    show GlW _ _ _ _ _ _ _ (T179.setTop (mkF m 44 #[.val (.long x0), .second, .val (.long x1), .second, .val (.long x2), .second, .val (.int x3), .val (.int x4), .val (.long x5), .second, .val (.ref b167), .val (.int (0 : Int32)), .unset, .unset, .unset, .unset, .unset, .unset, .unset, .unset, .unset] [(.int (x4 &&& (255 : Int32))), (.int (0 : Int32)), (.ref b179), (.ref b179)]))
    refine GlW.back (fun _ k => XS.i2c X179.here hx rfl (hb hby at_44) rfl k) ?_
    show GlW _ _ _ _ _ _ _ (T179.setTop (mkF m 45 #[.val (.long x0), .second, .val (.long x1), .second, .val (.long x2), .second, .val (.int x3), .val (.int x4), .val (.long x5), .second, .val (.ref b167), .val (.int (0 : Int32)), .unset, .unset, .unset, .unset, .unset, .unset, .unset, .unset, .unset] [(.int ((x4 &&& (255 : Int32)).toUInt32.toUInt16.toUInt32.toInt32)), (.int (0 : Int32)), (.ref b179), (.ref b179)]))
    obtain ⟨cl181, Ar181, q181, Sz181, Nn181, Hs181, Gf181⟩ := id V179
    have hin181 : ¬ ((0 : Int32) < 0 ∨ cl181.slots.size ≤ ((0 : Int32)).toNatClampNeg) := inb_of Sz181 ⟨by decide, by decide⟩
    obtain ⟨T182, h182, X182, e182, W182, st182⟩ := stC X179 hx hZ0 e179 Ar181 (j := (0 : Int32)) hin181 (g := (mkF m 45 #[.val (.long x0), .second, .val (.long x1), .second, .val (.long x2), .second, .val (.int x3), .val (.int x4), .val (.long x5), .second, .val (.ref b167), .val (.int (0 : Int32)), .unset, .unset, .unset, .unset, .unset, .unset, .unset, .unset, .unset] [(.int ((x4 &&& (255 : Int32)).toUInt32.toUInt16.toUInt32.toInt32)), (.int (0 : Int32)), (.ref b179), (.ref b179)])) rfl rfl (hb hby at_45)
    have V182 := Arv.set Ar181 q181 Sz181 Nn181 Hs181 Gf181 (fits_nar_char _) W182 0 rfl (Nat.le_of_ble_eq_true rfl)
    replace V182 : Arv Z h182 b179 k179 .char (1 : Int32) [(.int (nar .char ((x4 &&& (255 : Int32)).toUInt32.toUInt16.toUInt32.toInt32)))] (.int (0 : Int32)) := V182
    have K182 := Keep.wr K179 W182 (Or.inr sz_b179)
    have O182 := Old.wr O179 W182 g_b179
    have Z182 : n0 ≤ h182.size := Nat.le_trans Z179 (Keep.of_wr W182).1
    have SK182 := Nat.le_trans SK179 (Keep.of_wr W182).1
    have N182 := Fr.snoc X182 N176 g_b179
    refine GlW.back (fun _ k => st182 _ k) ?_
    show GlW _ _ _ _ _ _ _ (T182.setTop (mkF m 46 #[.val (.long x0), .second, .val (.long x1), .second, .val (.long x2), .second, .val (.int x3), .val (.int x4), .val (.long x5), .second, .val (.ref b167), .val (.int (0 : Int32)), .unset, .unset, .unset, .unset, .unset, .unset, .unset, .unset, .unset] [(.ref b179)]))
    refine GlW.back (fun _ k => XS.astore X182.here hx rfl (hb hby at_46) rfl rfl (l' := #[.val (.long x0), .second, .val (.long x1), .second, .val (.long x2), .second, .val (.int x3), .val (.int x4), .val (.long x5), .second, .val (.ref b167), .val (.int (0 : Int32)), .val (.ref b179), .unset, .unset, .unset, .unset, .unset, .unset, .unset, .unset]) rfl k) ?_
    show GlW _ _ _ _ _ _ _ (T182.setTop (mkF m 48 #[.val (.long x0), .second, .val (.long x1), .second, .val (.long x2), .second, .val (.int x3), .val (.int x4), .val (.long x5), .second, .val (.ref b167), .val (.int (0 : Int32)), .val (.ref b179), .unset, .unset, .unset, .unset, .unset, .unset, .unset, .unset] []))
    obtain ⟨T183, h183, X183, e183, E183, A183, D183, -, st183⟩ := newO X182 hx hZ0 hown0 (hw _ (List.mem_of_getElem? (i := 59) rfl)) (hw _ (List.mem_of_getElem? (i := 60) rfl)) (hw _ (List.mem_of_getElem? (i := 61) rfl)) e182 (g := (mkF m 48 #[.val (.long x0), .second, .val (.long x1), .second, .val (.long x2), .second, .val (.int x3), .val (.int x4), .val (.long x5), .second, .val (.ref b167), .val (.int (0 : Int32)), .val (.ref b179), .unset, .unset, .unset, .unset, .unset, .unset, .unset, .unset] [])) rfl (hb hby at_48) (by decide) (by decide)
    obtain ⟨b183, g183⟩ : ∃ z, z = h182.size := ⟨_, rfl⟩
    rw [← g183] at A183 D183 st183
    have f184 := ((f177.ext E179).wr W182)
    have ne_b167_b183 : b167 ≠ b183 := Nat.ne_of_lt (Nat.lt_of_lt_of_le f184.lt (Nat.le_of_eq g183.symm))
    have f185 := ((f180.ext E179).wr W182)
    have ne_b168_b183 : b168 ≠ b183 := Nat.ne_of_lt (Nat.lt_of_lt_of_le f185.lt (Nat.le_of_eq g183.symm))
    have f186 := ((El170.ext E179).wr W182)
    have ne_l170_b183 : l170 ≠ b183 := Nat.ne_of_lt (Nat.lt_of_lt_of_le f186.lt (Nat.le_of_eq g183.symm))
    have ne_b179_b183 : b179 ≠ b183 := Nat.ne_of_lt (Nat.lt_of_lt_of_le V182.lt (Nat.le_of_eq g183.symm))
    have g_b183 : n0 ≤ b183 := Nat.le_trans Z182 (Nat.le_of_eq g183.symm)
    have sz_b183 : h0.size ≤ b183 := Nat.le_trans K182.1 (Nat.le_of_eq g183.symm)
    have Z183 : n0 ≤ h183.size := Nat.le_trans Z182 E183.1
    have K183 := Keep.ext K182 E183
    have O183 := Old.ext O182 E183
    have SK183 := Nat.le_trans SK182 E183.1
    have F183_coder : Fld Z h183 b183 "java/lang/String" "coder" "B" (.int (0 : Int32)) := D183 (Or.inr (hw _ (List.mem_of_getElem? (i := 83) rfl))) (ty := .byte) (by decide)
    have F183_value : Fld Z h183 b183 "java/lang/String" "value" "[B" .null := D183 (Or.inr (hw _ (List.mem_of_getElem? (i := 85) rfl))) (ty := (.array .byte)) (by decide)
    refine GlW.back (fun _ k => st183 _ k) ?_
    show GlW _ _ _ _ _ _ _ (T183.setTop (mkF m 51 #[.val (.long x0), .second, .val (.long x1), .second, .val (.long x2), .second, .val (.int x3), .val (.int x4), .val (.long x5), .second, .val (.ref b167), .val (.int (0 : Int32)), .val (.ref b179), .unset, .unset, .unset, .unset, .unset, .unset, .unset, .unset] [(.ref b183)]))
    refine GlW.back (fun _ k => XS.dup X183.here hx rfl (hb hby at_51) rfl rfl k) ?_
    show GlW _ _ _ _ _ _ _ (T183.setTop (mkF m 52 #[.val (.long x0), .second, .val (.long x1), .second, .val (.long x2), .second, .val (.int x3), .val (.int x4), .val (.long x5), .second, .val (.ref b167), .val (.int (0 : Int32)), .val (.ref b179), .unset, .unset, .unset, .unset, .unset, .unset, .unset, .unset] [(.ref b183), (.ref b183)]))
    refine GlW.back (fun _ k => XS.aload X183.here hx rfl (hb hby at_52) rfl rfl k) ?_
    show GlW _ _ _ _ _ _ _ (T183.setTop (mkF m 54 #[.val (.long x0), .second, .val (.long x1), .second, .val (.long x2), .second, .val (.int x3), .val (.int x4), .val (.long x5), .second, .val (.ref b167), .val (.int (0 : Int32)), .val (.ref b179), .unset, .unset, .unset, .unset, .unset, .unset, .unset, .unset] [(.ref b179), (.ref b183), (.ref b183)]))
    have f187 := (f184.ext E183)
    have f188 := (f185.ext E183)
    have f189 := (f186.ext E183)
    have f190 := (V182.ext E183)
    have hws192 : ∀ d ∈ StrChars.Road.words, d.before a0 Z = true := fun d hd => hw d ((by decide +kernel : ∀ d ∈ StrChars.Road.words, d ∈ tables_1) d hd)
    have hlat192 : ∀ c ∈ [(nar .char ((x4 &&& (255 : Int32)).toUInt32.toUInt16.toUInt32.toInt32))], ¬ c < 0 ∧ ¬ (255 : Int32) < c := by
      intro c hc
      simp only [List.mem_cons, List.not_mem_nil, or_false] at hc
      subst hc
      exact (by rw [show (nar .char (((x4 &&& (255 : Int32))).toUInt32.toUInt16.toUInt32.toInt32)) = x4 &&& 255 from by simp only [nar, i2c_mask]]; exact own_and255 _)
    obtain ⟨_, _, ⟨T191, L191, k191, n191⟩, -, X191, ⟨Lc191, hQ191, l191, y191, z191⟩, st191⟩ := X183.specialBack hx (y := (⟨"java/lang/String", "<init>", "([C)V"⟩ : MethodName)) rfl hown0 (mvT hZ0 (hw _ (List.mem_of_getElem? (i := 62) rfl))) (mvT hZ0 (hw _ (List.mem_of_getElem? (i := 63) rfl))) (mvT hZ0 (hw _ (List.mem_of_getElem? (i := 64) rfl))) (by decide) (StrChars.Road.backV (W := 1) hZ0 hws192 (kI := 4) (hw _ (List.mem_of_getElem? (i := 60) rfl)) (cs := [(nar .char ((x4 &&& (255 : Int32)).toUInt32.toUInt16.toUInt32.toInt32))]) (bs := [((nar .char ((x4 &&& (255 : Int32)).toUInt32.toUInt16.toUInt32.toInt32))).toInt8.toInt32]) (n := 1) g_b183 Z183 A183 F183_value F183_coder f190 (S_COMPACT_STRINGS.ext O183.2) P0 rfl rfl (by decide) (by decide) hlat192 rfl (by decide) (by decide)) (g := (mkF m 54 #[.val (.long x0), .second, .val (.long x1), .second, .val (.long x2), .second, .val (.int x3), .val (.int x4), .val (.long x5), .second, .val (.ref b167), .val (.int (0 : Int32)), .val (.ref b179), .unset, .unset, .unset, .unset, .unset, .unset, .unset, .unset] [(.ref b179), (.ref b183), (.ref b183)])) rfl (by rw [hml]; rfl) (Steps.refl _) (a := b183) (argsL := [(.ref b179)]) (rest := [(.ref b183)]) (lenOf pd___C_V rfl) rfl (by show 2 * 0 + _ ≤ _; exact Nat.le_of_eq rfl) (hb hby at_54) (fun _ _ => ⟨rfl, e183, (by decide : 5 + 1 ≤ _), (by decide : 12 + 1 ≤ _)⟩)
    dsimp only [Pt.U, Pt.locs, Pt.cells, Pt.slots] at X191 l191 y191 z191 st191 hQ191
    subst l191 y191 z191
    obtain ⟨rfl, Nq191, Kq191, -, Fc191, t191, kb191, Gt191, St191, Nt191, Fv191, Vt191⟩ := hQ191
    have N191 := Fr.app N182 Nq191
    have Kc191 := Keep.trans K183 Kq191 (allS (Or.inr sz_b183) all0)
    have Zc191 : n0 ≤ T191.heap.size := Nat.le_trans Z183 Kq191.1
    have Oc191 := Old.keep O183 Kq191 (allS g_b183 all0)
    have SKc191 := Nat.le_trans SK183 Kq191.1
    have ne_b167_t191 : b167 ≠ t191 := Nat.ne_of_lt (Nat.lt_of_lt_of_le (f187).lt St191)
    have ne_b168_t191 : b168 ≠ t191 := Nat.ne_of_lt (Nat.lt_of_lt_of_le (f188).lt St191)
    have ne_l170_t191 : l170 ≠ t191 := Nat.ne_of_lt (Nat.lt_of_lt_of_le (f189).lt St191)
    have ne_b179_t191 : b179 ≠ t191 := Nat.ne_of_lt (Nat.lt_of_lt_of_le (f190).lt St191)
    have szt191 : h0.size ≤ t191 := Nat.le_trans K183.1 St191
    refine GlW.back (fun _ k => st191.trans k) ?_
    show GlW _ _ _ _ _ _ _ (T191.setTop (mkF m 57 #[.val (.long x0), .second, .val (.long x1), .second, .val (.long x2), .second, .val (.int x3), .val (.int x4), .val (.long x5), .second, .val (.ref b167), .val (.int (0 : Int32)), .val (.ref b179), .unset, .unset, .unset, .unset, .unset, .unset, .unset, .unset] [(.ref b183)]))
    refine GlW.back (fun _ k => XS.astore X191.here hx rfl (hb hby at_57) rfl rfl (l' := #[.val (.long x0), .second, .val (.long x1), .second, .val (.long x2), .second, .val (.int x3), .val (.int x4), .val (.long x5), .second, .val (.ref b167), .val (.int (0 : Int32)), .val (.ref b179), .val (.ref b183), .unset, .unset, .unset, .unset, .unset, .unset, .unset]) rfl k) ?_
    show GlW _ _ _ _ _ _ _ (T191.setTop (mkF m 59 #[.val (.long x0), .second, .val (.long x1), .second, .val (.long x2), .second, .val (.int x3), .val (.int x4), .val (.long x5), .second, .val (.ref b167), .val (.int (0 : Int32)), .val (.ref b179), .val (.ref b183), .unset, .unset, .unset, .unset, .unset, .unset, .unset] []))
    refine GlW.back (fun _ k => XS.lload X191.here hx rfl (hb hby at_59) rfl k) ?_
    show GlW _ _ _ _ _ _ _ (T191.setTop (mkF m 61 #[.val (.long x0), .second, .val (.long x1), .second, .val (.long x2), .second, .val (.int x3), .val (.int x4), .val (.long x5), .second, .val (.ref b167), .val (.int (0 : Int32)), .val (.ref b179), .val (.ref b183), .unset, .unset, .unset, .unset, .unset, .unset, .unset] [(.long x5)]))
    refine GlW.back (fun _ k => X191.ldc2Long hx hown0 (mvT hZ0 (hw _ (List.mem_of_getElem? (i := 86) rfl))) (g := (mkF m 61 #[.val (.long x0), .second, .val (.long x1), .second, .val (.long x2), .second, .val (.int x3), .val (.int x4), .val (.long x5), .second, .val (.ref b167), .val (.int (0 : Int32)), .val (.ref b179), .val (.ref b183), .unset, .unset, .unset, .unset, .unset, .unset, .unset] [(.long x5)])) rfl (hb hby at_61) _ k) ?_
    show GlW _ _ _ _ _ _ _ (T191.setTop (mkF m 64 #[.val (.long x0), .second, .val (.long x1), .second, .val (.long x2), .second, .val (.int x3), .val (.int x4), .val (.long x5), .second, .val (.ref b167), .val (.int (0 : Int32)), .val (.ref b179), .val (.ref b183), .unset, .unset, .unset, .unset, .unset, .unset, .unset] [(.long (9223372036854775807 : Int64)), (.long x5)]))
    refine GlW.back (fun _ k => XS.land X191.here hx rfl (hb hby at_64) rfl k) ?_
    show GlW _ _ _ _ _ _ _ (T191.setTop (mkF m 65 #[.val (.long x0), .second, .val (.long x1), .second, .val (.long x2), .second, .val (.int x3), .val (.int x4), .val (.long x5), .second, .val (.ref b167), .val (.int (0 : Int32)), .val (.ref b179), .val (.ref b183), .unset, .unset, .unset, .unset, .unset, .unset, .unset] [(.long (x5 &&& (9223372036854775807 : Int64)))]))
    refine GlW.back (fun _ k => XS.lstore X191.here hx rfl (hb hby at_65) rfl (l' := #[.val (.long x0), .second, .val (.long x1), .second, .val (.long x2), .second, .val (.int x3), .val (.int x4), .val (.long x5), .second, .val (.ref b167), .val (.int (0 : Int32)), .val (.ref b179), .val (.ref b183), .val (.long (x5 &&& (9223372036854775807 : Int64))), .second, .unset, .unset, .unset, .unset, .unset]) rfl k) ?_
    show GlW _ _ _ _ _ _ _ (T191.setTop (mkF m 67 #[.val (.long x0), .second, .val (.long x1), .second, .val (.long x2), .second, .val (.int x3), .val (.int x4), .val (.long x5), .second, .val (.ref b167), .val (.int (0 : Int32)), .val (.ref b179), .val (.ref b183), .val (.long (x5 &&& (9223372036854775807 : Int64))), .second, .unset, .unset, .unset, .unset, .unset] []))
    refine GlW.back (fun _ k => XS.iconst X191.here hx rfl (hb hby at_67) k) ?_
    show GlW _ _ _ _ _ _ _ (T191.setTop (mkF m 68 #[.val (.long x0), .second, .val (.long x1), .second, .val (.long x2), .second, .val (.int x3), .val (.int x4), .val (.long x5), .second, .val (.ref b167), .val (.int (0 : Int32)), .val (.ref b179), .val (.ref b183), .val (.long (x5 &&& (9223372036854775807 : Int64))), .second, .unset, .unset, .unset, .unset, .unset] [(.int (0 : Int32))]))
    refine GlW.back (fun _ k => XS.istore X191.here hx rfl (hb hby at_68) rfl (l' := #[.val (.long x0), .second, .val (.long x1), .second, .val (.long x2), .second, .val (.int x3), .val (.int x4), .val (.long x5), .second, .val (.ref b167), .val (.int (0 : Int32)), .val (.ref b179), .val (.ref b183), .val (.long (x5 &&& (9223372036854775807 : Int64))), .second, .val (.int (0 : Int32)), .unset, .unset, .unset, .unset]) rfl k) ?_
    show GlW _ _ _ _ _ _ _ (T191.setTop (mkF m 70 #[.val (.long x0), .second, .val (.long x1), .second, .val (.long x2), .second, .val (.int x3), .val (.int x4), .val (.long x5), .second, .val (.ref b167), .val (.int (0 : Int32)), .val (.ref b179), .val (.ref b183), .val (.long (x5 &&& (9223372036854775807 : Int64))), .second, .val (.int (0 : Int32)), .unset, .unset, .unset, .unset] []))
    refine GlW.back (fun _ k => XS.iload X191.here hx rfl (hb hby at_70) rfl k) ?_
    show GlW _ _ _ _ _ _ _ (T191.setTop (mkF m 72 #[.val (.long x0), .second, .val (.long x1), .second, .val (.long x2), .second, .val (.int x3), .val (.int x4), .val (.long x5), .second, .val (.ref b167), .val (.int (0 : Int32)), .val (.ref b179), .val (.ref b183), .val (.long (x5 &&& (9223372036854775807 : Int64))), .second, .val (.int (0 : Int32)), .unset, .unset, .unset, .unset] [(.int (0 : Int32))]))
    refine GlW.back (fun _ k => XS.iconst X191.here hx rfl (hb hby at_72) k) ?_
    show GlW _ _ _ _ _ _ _ (T191.setTop (mkF m 73 #[.val (.long x0), .second, .val (.long x1), .second, .val (.long x2), .second, .val (.int x3), .val (.int x4), .val (.long x5), .second, .val (.ref b167), .val (.int (0 : Int32)), .val (.ref b179), .val (.ref b183), .val (.long (x5 &&& (9223372036854775807 : Int64))), .second, .val (.int (0 : Int32)), .unset, .unset, .unset, .unset] [(.int (1 : Int32)), (.int (0 : Int32))]))
    refine GlW.back (fun _ k => XS.icmpYes X191.here hx rfl (pc0 := 73) (pc' := 161) rfl (hb hby at_73) rfl (tlt (by decide : (0 : Int32) < (1 : Int32))).1 (by decide) (by decide) k) ?_
    show GlW _ _ _ _ _ _ _ (T191.setTop (mkF m 161 #[.val (.long x0), .second, .val (.long x1), .second, .val (.long x2), .second, .val (.int x3), .val (.int x4), .val (.long x5), .second, .val (.ref b167), .val (.int (0 : Int32)), .val (.ref b179), .val (.ref b183), .val (.long (x5 &&& (9223372036854775807 : Int64))), .second, .val (.int (0 : Int32)), .unset, .unset, .unset, .unset] []))
    refine GlW.back (fun _ k => XS.aload X191.here hx rfl (hb hby at_161) rfl rfl k) ?_
    show GlW _ _ _ _ _ _ _ (T191.setTop (mkF m 163 #[.val (.long x0), .second, .val (.long x1), .second, .val (.long x2), .second, .val (.int x3), .val (.int x4), .val (.long x5), .second, .val (.ref b167), .val (.int (0 : Int32)), .val (.ref b179), .val (.ref b183), .val (.long (x5 &&& (9223372036854775807 : Int64))), .second, .val (.int (0 : Int32)), .unset, .unset, .unset, .unset] [(.ref b167)]))
    have f194 := ((((Fh170.ext E179).other W182 (Or.inl ne_b167_b179)).ext E183).keep Kq191 (ninS ne_b167_b183 nin0))
    have f195 := (f187.keep Kq191)
    obtain ⟨cq193, kq193, q193a, q193b, q193c⟩ := isOf hZ0 rfl f195
    obtain ⟨_, _, ⟨T193, L193, k193, n193⟩, -, X193, ⟨Lc193, hQ193, l193, y193, z193⟩, st193⟩ := X191.virtualBack hx (y := (⟨"com/example/gavelwatch/gavelwatch/sim/RunningAuction", "hasBids", "()Z"⟩ : MethodName)) (z := (⟨"com/example/gavelwatch/gavelwatch/sim/RunningAuction", "hasBids", "()Z"⟩ : MethodName)) hown0 (mvT hZ0 (hw _ (List.mem_of_getElem? (i := 51) rfl))) (mvT hZ0 (hw _ (List.mem_of_getElem? (i := 52) rfl))) (notFace_of_selects (args := #[]) (mvT hZ0 (hw _ (List.mem_of_getElem? (i := 54) rfl)))) (mvT hZ0 (hw _ (List.mem_of_getElem? (i := 54) rfl))) (mvT hZ0 (hw _ (List.mem_of_getElem? (i := 53) rfl))) (by decide) (backOf (W := 0) (rmhas0 l Z a0 hw [] b167  T191.heap n0 Zc191 f194) hZ0 (hw _ (List.mem_of_getElem? (i := 55) rfl)) (hw _ (List.mem_of_getElem? (i := 2) rfl)) (by decide) (by decide)) q193a q193c (g := (mkF m 163 #[.val (.long x0), .second, .val (.long x1), .second, .val (.long x2), .second, .val (.int x3), .val (.int x4), .val (.long x5), .second, .val (.ref b167), .val (.int (0 : Int32)), .val (.ref b179), .val (.ref b183), .val (.long (x5 &&& (9223372036854775807 : Int64))), .second, .val (.int (0 : Int32)), .unset, .unset, .unset, .unset] [(.ref b167)])) rfl (by rw [hml]; rfl) (Steps.refl _) (argsL := []) (rest := []) (lenOf pd___Z rfl) rfl (by show 2 * 0 + _ ≤ _; exact Nat.le_of_eq rfl) (hb hby at_163) (fun _ _ => ⟨rfl, rfl, (by decide : 6 + 0 ≤ _), (by decide : 13 + 0 ≤ _)⟩)
    dsimp only [Pt.U, Pt.locs, Pt.cells, Pt.slots] at X193 l193 y193 z193 st193 hQ193
    subst l193 y193 z193
    obtain ⟨Nq193, rfl, eh193⟩ := hQ193
    have N193 := Fr.app N191 Nq193
    refine GlW.back (fun _ k => st193.trans k) ?_
    show GlW _ _ _ _ _ _ _ (T193.setTop (mkF m 166 #[.val (.long x0), .second, .val (.long x1), .second, .val (.long x2), .second, .val (.int x3), .val (.int x4), .val (.long x5), .second, .val (.ref b167), .val (.int (0 : Int32)), .val (.ref b179), .val (.ref b183), .val (.long (x5 &&& (9223372036854775807 : Int64))), .second, .val (.int (0 : Int32)), .unset, .unset, .unset, .unset] [(.int (0 : Int32))]))
    refine GlW.back (fun _ k => XS.istore X193.here hx rfl (hb hby at_166) rfl (l' := #[.val (.long x0), .second, .val (.long x1), .second, .val (.long x2), .second, .val (.int x3), .val (.int x4), .val (.long x5), .second, .val (.ref b167), .val (.int (0 : Int32)), .val (.ref b179), .val (.ref b183), .val (.long (x5 &&& (9223372036854775807 : Int64))), .second, .val (.int (0 : Int32)), .val (.int (0 : Int32)), .unset, .unset, .unset]) rfl k) ?_
    show GlW _ _ _ _ _ _ _ (T193.setTop (mkF m 168 #[.val (.long x0), .second, .val (.long x1), .second, .val (.long x2), .second, .val (.int x3), .val (.int x4), .val (.long x5), .second, .val (.ref b167), .val (.int (0 : Int32)), .val (.ref b179), .val (.ref b183), .val (.long (x5 &&& (9223372036854775807 : Int64))), .second, .val (.int (0 : Int32)), .val (.int (0 : Int32)), .unset, .unset, .unset] []))
    refine GlW.back (fun _ k => XS.iload X193.here hx rfl (hb hby at_168) rfl k) ?_
    show GlW _ _ _ _ _ _ _ (T193.setTop (mkF m 170 #[.val (.long x0), .second, .val (.long x1), .second, .val (.long x2), .second, .val (.int x3), .val (.int x4), .val (.long x5), .second, .val (.ref b167), .val (.int (0 : Int32)), .val (.ref b179), .val (.ref b183), .val (.long (x5 &&& (9223372036854775807 : Int64))), .second, .val (.int (0 : Int32)), .val (.int (0 : Int32)), .unset, .unset, .unset] [(.int (0 : Int32))]))
    refine GlW.back (fun _ k => XS.iload X193.here hx rfl (hb hby at_170) rfl k) ?_
    show GlW _ _ _ _ _ _ _ (T193.setTop (mkF m 172 #[.val (.long x0), .second, .val (.long x1), .second, .val (.long x2), .second, .val (.int x3), .val (.int x4), .val (.long x5), .second, .val (.ref b167), .val (.int (0 : Int32)), .val (.ref b179), .val (.ref b183), .val (.long (x5 &&& (9223372036854775807 : Int64))), .second, .val (.int (0 : Int32)), .val (.int (0 : Int32)), .unset, .unset, .unset] [(.int (0 : Int32)), (.int (0 : Int32))]))
    refine GlW.back (fun _ k => XS.ifYes X193.here hx rfl (pc0 := 172) (pc' := 179) rfl (hb hby at_172) rfl ((if0 _ _).trans (flt (by decide : ¬ (0 : Int32) < (0 : Int32))).2.2.2) (by decide) (by decide) k) ?_
    show GlW _ _ _ _ _ _ _ (T193.setTop (mkF m 179 #[.val (.long x0), .second, .val (.long x1), .second, .val (.long x2), .second, .val (.int x3), .val (.int x4), .val (.long x5), .second, .val (.ref b167), .val (.int (0 : Int32)), .val (.ref b179), .val (.ref b183), .val (.long (x5 &&& (9223372036854775807 : Int64))), .second, .val (.int (0 : Int32)), .val (.int (0 : Int32)), .unset, .unset, .unset] [(.int (0 : Int32))]))
    refine GlW.back (fun _ k => XS.iconst X193.here hx rfl (hb hby at_179) k) ?_
    show GlW _ _ _ _ _ _ _ (T193.setTop (mkF m 180 #[.val (.long x0), .second, .val (.long x1), .second, .val (.long x2), .second, .val (.int x3), .val (.int x4), .val (.long x5), .second, .val (.ref b167), .val (.int (0 : Int32)), .val (.ref b179), .val (.ref b183), .val (.long (x5 &&& (9223372036854775807 : Int64))), .second, .val (.int (0 : Int32)), .val (.int (0 : Int32)), .unset, .unset, .unset] [(.int (0 : Int32)), (.int (0 : Int32))]))
    refine GlW.back (fun _ k => XS.icmpNo X193.here hx rfl (hb hby at_180) rfl (teq (by decide : (0 : Int32) = (0 : Int32))).2 k) ?_
    show GlW _ _ _ _ _ _ _ (T193.setTop (mkF m 183 #[.val (.long x0), .second, .val (.long x1), .second, .val (.long x2), .second, .val (.int x3), .val (.int x4), .val (.long x5), .second, .val (.ref b167), .val (.int (0 : Int32)), .val (.ref b179), .val (.ref b183), .val (.long (x5 &&& (9223372036854775807 : Int64))), .second, .val (.int (0 : Int32)), .val (.int (0 : Int32)), .unset, .unset, .unset] []))
    refine GlW.back (fun _ k => XS.iload X193.here hx rfl (hb hby at_183) rfl k) ?_
    show GlW _ _ _ _ _ _ _ (T193.setTop (mkF m 185 #[.val (.long x0), .second, .val (.long x1), .second, .val (.long x2), .second, .val (.int x3), .val (.int x4), .val (.long x5), .second, .val (.ref b167), .val (.int (0 : Int32)), .val (.ref b179), .val (.ref b183), .val (.long (x5 &&& (9223372036854775807 : Int64))), .second, .val (.int (0 : Int32)), .val (.int (0 : Int32)), .unset, .unset, .unset] [(.int (0 : Int32))]))
    refine GlW.back (fun _ k => XS.aload X193.here hx rfl (hb hby at_185) rfl rfl k) ?_
    show GlW _ _ _ _ _ _ _ (T193.setTop (mkF m 187 #[.val (.long x0), .second, .val (.long x1), .second, .val (.long x2), .second, .val (.int x3), .val (.int x4), .val (.long x5), .second, .val (.ref b167), .val (.int (0 : Int32)), .val (.ref b179), .val (.ref b183), .val (.long (x5 &&& (9223372036854775807 : Int64))), .second, .val (.int (0 : Int32)), .val (.int (0 : Int32)), .unset, .unset, .unset] [(.ref b167), (.int (0 : Int32))]))
    have f197 := ((((Fb170.ext E179).other W182 (Or.inl ne_b167_b179)).ext E183).keep Kq191 (ninS ne_b167_b183 nin0))
    obtain ⟨cq196, kq196, q196a, q196b, q196c⟩ := isOf hZ0 eh193 f195
    obtain ⟨_, _, ⟨T196, L196, k196, n196⟩, -, X196, ⟨Lc196, hQ196, l196, y196, z196⟩, st196⟩ := X193.virtualBack hx (y := (⟨"com/example/gavelwatch/gavelwatch/sim/RunningAuction", "bids", "()Ljava/util/List;"⟩ : MethodName)) (z := (⟨"com/example/gavelwatch/gavelwatch/sim/RunningAuction", "bids", "()Ljava/util/List;"⟩ : MethodName)) hown0 (mvT hZ0 (hw _ (List.mem_of_getElem? (i := 187) rfl))) (mvT hZ0 (hw _ (List.mem_of_getElem? (i := 188) rfl))) (notFace_of_selects (args := #[]) (mvT hZ0 (hw _ (List.mem_of_getElem? (i := 190) rfl)))) (mvT hZ0 (hw _ (List.mem_of_getElem? (i := 190) rfl))) (mvT hZ0 (hw _ (List.mem_of_getElem? (i := 189) rfl))) (by decide) (backOf (W := 1) (rmbids l Z a0 hw [] b167 l170 T191.heap n0 Zc191 f197) hZ0 (hw _ (List.mem_of_getElem? (i := 191) rfl)) (hw _ (List.mem_of_getElem? (i := 2) rfl)) (by decide) (by decide)) q196a q196c (g := (mkF m 187 #[.val (.long x0), .second, .val (.long x1), .second, .val (.long x2), .second, .val (.int x3), .val (.int x4), .val (.long x5), .second, .val (.ref b167), .val (.int (0 : Int32)), .val (.ref b179), .val (.ref b183), .val (.long (x5 &&& (9223372036854775807 : Int64))), .second, .val (.int (0 : Int32)), .val (.int (0 : Int32)), .unset, .unset, .unset] [(.ref b167), (.int (0 : Int32))])) rfl (by rw [hml]; rfl) (Steps.refl _) (argsL := []) (rest := [(.int (0 : Int32))]) (lenOf pd___Ljava_util_List_ rfl) rfl (by show 2 * 0 + _ ≤ _; exact Nat.le_of_eq rfl) (hb hby at_187) (fun _ _ => ⟨rfl, eh193, (by decide : 6 + 0 ≤ _), (by decide : 13 + 0 ≤ _)⟩)
    dsimp only [Pt.U, Pt.locs, Pt.cells, Pt.slots] at X196 l196 y196 z196 st196 hQ196
    subst l196 y196 z196
    obtain ⟨Nq196, rfl, eh196⟩ := hQ196
    have N196 := Fr.app N193 Nq196
    refine GlW.back (fun _ k => st196.trans k) ?_
    show GlW _ _ _ _ _ _ _ (T196.setTop (mkF m 190 #[.val (.long x0), .second, .val (.long x1), .second, .val (.long x2), .second, .val (.int x3), .val (.int x4), .val (.long x5), .second, .val (.ref b167), .val (.int (0 : Int32)), .val (.ref b179), .val (.ref b183), .val (.long (x5 &&& (9223372036854775807 : Int64))), .second, .val (.int (0 : Int32)), .val (.int (0 : Int32)), .unset, .unset, .unset] [(.ref l170), (.int (0 : Int32))]))
    have f199 := ((((Fs170.ext E179).other W182 (Or.inl ne_l170_b179)).ext E183).keep Kq191 (ninS ne_l170_b183 nin0))
    have f200 := (f189.keep Kq191)
    obtain ⟨cq198, kq198, q198a, q198b, q198c⟩ := isOf hZ0 eh196 f200
    obtain ⟨_, _, ⟨T198, L198, k198, n198⟩, -, X198, ⟨Lc198, hQ198, l198, y198, z198⟩, st198⟩ := X196.interfaceBack hx (xi := (⟨"java/util/List", "size", "()I"⟩ : MethodName)) (y := (⟨"java/util/ArrayList", "size", "()I"⟩ : MethodName)) hown0 (mvT hZ0 (hw _ (List.mem_of_getElem? (i := 192) rfl))) (mvT hZ0 (hw _ (List.mem_of_getElem? (i := 193) rfl))) (mvT hZ0 (hw _ (List.mem_of_getElem? (i := 194) rfl))) (mvT hZ0 (hw _ (List.mem_of_getElem? (i := 195) rfl))) (mvT hZ0 (hw _ (List.mem_of_getElem? (i := 196) rfl))) (mvT hZ0 (hw _ (List.mem_of_getElem? (i := 197) rfl))) (mvT hZ0 (hw _ (List.mem_of_getElem? (i := 198) rfl))) (mvT hZ0 (hw _ (List.mem_of_getElem? (i := 155) rfl))) (by decide) (backOf (W := 1) (rmsize l Z a0 hw [] l170 (0 : Int32) T191.heap n0 Zc191 f199) hZ0 (hw _ (List.mem_of_getElem? (i := 199) rfl)) (hw _ (List.mem_of_getElem? (i := 25) rfl)) (by decide) (by decide)) q198a q198b q198c (g := (mkF m 190 #[.val (.long x0), .second, .val (.long x1), .second, .val (.long x2), .second, .val (.int x3), .val (.int x4), .val (.long x5), .second, .val (.ref b167), .val (.int (0 : Int32)), .val (.ref b179), .val (.ref b183), .val (.long (x5 &&& (9223372036854775807 : Int64))), .second, .val (.int (0 : Int32)), .val (.int (0 : Int32)), .unset, .unset, .unset] [(.ref l170), (.int (0 : Int32))])) rfl (by rw [hml]; rfl) (Steps.refl _) (argsL := []) (rest := [(.int (0 : Int32))]) (lenOf pd___I rfl) rfl (by show 2 * 0 + _ ≤ _; exact Nat.le_of_eq rfl) (hb hby at_190) (fun _ _ => ⟨rfl, eh196, (by decide : 6 + 0 ≤ _), (by decide : 13 + 0 ≤ _)⟩)
    dsimp only [Pt.U, Pt.locs, Pt.cells, Pt.slots] at X198 l198 y198 z198 st198 hQ198
    subst l198 y198 z198
    obtain ⟨Nq198, rfl, eh198⟩ := hQ198
    have N198 := Fr.app N196 Nq198
    refine GlW.back (fun _ k => st198.trans k) ?_
    show GlW _ _ _ _ _ _ _ (T198.setTop (mkF m 195 #[.val (.long x0), .second, .val (.long x1), .second, .val (.long x2), .second, .val (.int x3), .val (.int x4), .val (.long x5), .second, .val (.ref b167), .val (.int (0 : Int32)), .val (.ref b179), .val (.ref b183), .val (.long (x5 &&& (9223372036854775807 : Int64))), .second, .val (.int (0 : Int32)), .val (.int (0 : Int32)), .unset, .unset, .unset] [(.int (0 : Int32)), (.int (0 : Int32))]))
    refine GlW.back (fun _ k => XS.ifYes X198.here hx rfl (pc0 := 195) (pc' := 202) rfl (hb hby at_195) rfl ((if0 _ _).trans (teq (by decide : (0 : Int32) = (0 : Int32))).1) (by decide) (by decide) k) ?_
    show GlW _ _ _ _ _ _ _ (T198.setTop (mkF m 202 #[.val (.long x0), .second, .val (.long x1), .second, .val (.long x2), .second, .val (.int x3), .val (.int x4), .val (.long x5), .second, .val (.ref b167), .val (.int (0 : Int32)), .val (.ref b179), .val (.ref b183), .val (.long (x5 &&& (9223372036854775807 : Int64))), .second, .val (.int (0 : Int32)), .val (.int (0 : Int32)), .unset, .unset, .unset] [(.int (0 : Int32))]))
    refine GlW.back (fun _ k => XS.iconst X198.here hx rfl (hb hby at_202) k) ?_
    show GlW _ _ _ _ _ _ _ (T198.setTop (mkF m 203 #[.val (.long x0), .second, .val (.long x1), .second, .val (.long x2), .second, .val (.int x3), .val (.int x4), .val (.long x5), .second, .val (.ref b167), .val (.int (0 : Int32)), .val (.ref b179), .val (.ref b183), .val (.long (x5 &&& (9223372036854775807 : Int64))), .second, .val (.int (0 : Int32)), .val (.int (0 : Int32)), .unset, .unset, .unset] [(.int (0 : Int32)), (.int (0 : Int32))]))
    refine GlW.back (fun _ k => XS.icmpNo X198.here hx rfl (hb hby at_203) rfl (teq (by decide : (0 : Int32) = (0 : Int32))).2 k) ?_
    show GlW _ _ _ _ _ _ _ (T198.setTop (mkF m 206 #[.val (.long x0), .second, .val (.long x1), .second, .val (.long x2), .second, .val (.int x3), .val (.int x4), .val (.long x5), .second, .val (.ref b167), .val (.int (0 : Int32)), .val (.ref b179), .val (.ref b183), .val (.long (x5 &&& (9223372036854775807 : Int64))), .second, .val (.int (0 : Int32)), .val (.int (0 : Int32)), .unset, .unset, .unset] []))
    refine GlW.back (fun _ k => XS.iconst X198.here hx rfl (hb hby at_206) k) ?_
    show GlW _ _ _ _ _ _ _ (T198.setTop (mkF m 207 #[.val (.long x0), .second, .val (.long x1), .second, .val (.long x2), .second, .val (.int x3), .val (.int x4), .val (.long x5), .second, .val (.ref b167), .val (.int (0 : Int32)), .val (.ref b179), .val (.ref b183), .val (.long (x5 &&& (9223372036854775807 : Int64))), .second, .val (.int (0 : Int32)), .val (.int (0 : Int32)), .unset, .unset, .unset] [(.int (1 : Int32))]))
    refine GlW.back (fun _ k => XS.goto X198.here hx rfl (pc0 := 207) (pc' := 211) rfl (hb hby at_207) (by decide) (by decide) k) ?_
    show GlW _ _ _ _ _ _ _ (T198.setTop (mkF m 211 #[.val (.long x0), .second, .val (.long x1), .second, .val (.long x2), .second, .val (.int x3), .val (.int x4), .val (.long x5), .second, .val (.ref b167), .val (.int (0 : Int32)), .val (.ref b179), .val (.ref b183), .val (.long (x5 &&& (9223372036854775807 : Int64))), .second, .val (.int (0 : Int32)), .val (.int (0 : Int32)), .unset, .unset, .unset] [(.int (1 : Int32))]))
    exact GlW.ret X198 eh198 hS0 SKc191 (v := (some (.int (1 : Int32)))) (fun h => by rw [Bd.returns] at h; cases h) Bd.notSynchronized (fun fs hr => retN X198 hx (t := .boolean) (z := (1 : Int32)) Bd.returns (by simp) (hb hby at_211) hr) ⟨N198, rfl⟩ (by decide) (by decide)
  · rw [hk178]
    show GlW _ _ _ _ _ _ _ (T176.setTop (mkF m 31 #[.val (.long x0), .second, .val (.long x1), .second, .val (.long x2), .second, .val (.int x3), .val (.int x4), .val (.long x5), .second, .val (.ref b167), .unset, .unset, .unset, .unset, .unset, .unset, .unset, .unset, .unset, .unset] [(.int (1 : Int32))]))
    refine GlW.back (fun _ k => XS.istore X176.here hx rfl (hb hby at_31) rfl (l' := #[.val (.long x0), .second, .val (.long x1), .second, .val (.long x2), .second, .val (.int x3), .val (.int x4), .val (.long x5), .second, .val (.ref b167), .val (.int (1 : Int32)), .unset, .unset, .unset, .unset, .unset, .unset, .unset, .unset, .unset]) rfl k) ?_
    show GlW _ _ _ _ _ _ _ (T176.setTop (mkF m 33 #[.val (.long x0), .second, .val (.long x1), .second, .val (.long x2), .second, .val (.int x3), .val (.int x4), .val (.long x5), .second, .val (.ref b167), .val (.int (1 : Int32)), .unset, .unset, .unset, .unset, .unset, .unset, .unset, .unset, .unset] []))
    refine GlW.back (fun _ k => XS.iconst X176.here hx rfl (hb hby at_33) k) ?_
    show GlW _ _ _ _ _ _ _ (T176.setTop (mkF m 34 #[.val (.long x0), .second, .val (.long x1), .second, .val (.long x2), .second, .val (.int x3), .val (.int x4), .val (.long x5), .second, .val (.ref b167), .val (.int (1 : Int32)), .unset, .unset, .unset, .unset, .unset, .unset, .unset, .unset, .unset] [(.int (1 : Int32))]))
    obtain ⟨T201, h201, k201, X201, e201, E201, A201, st201⟩ := newP X176 hx hZ0 (hw _ (List.mem_of_getElem? (i := 58) rfl)) eh176 (g := (mkF m 34 #[.val (.long x0), .second, .val (.long x1), .second, .val (.long x2), .second, .val (.int x3), .val (.int x4), .val (.long x5), .second, .val (.ref b167), .val (.int (1 : Int32)), .unset, .unset, .unset, .unset, .unset, .unset, .unset, .unset, .unset] [(.int (1 : Int32))])) rfl (hb hby at_34) rfl (by decide) (cap := 1) (by decide) (by decide) (by decide) (by decide)
    obtain ⟨b201, g201⟩ : ∃ z, z = T170.heap.size := ⟨_, rfl⟩
    rw [← g201] at A201 st201
    have V201 : Arv Z h201 b201 k201 .char (1 : Int32) [(.int (0 : Int32))] (.int (0 : Int32)) := (Arv.new A201 (by decide)).pad (pad_rep [] (.int (0 : Int32)) 1)
    have ne_b167_b201 : b167 ≠ b201 := Nat.ne_of_lt (Nat.lt_of_lt_of_le f177.lt (Nat.le_of_eq g201.symm))
    have f202 := (f172.keep Kq170)
    have ne_b168_b201 : b168 ≠ b201 := Nat.ne_of_lt (Nat.lt_of_lt_of_le f202.lt (Nat.le_of_eq g201.symm))
    have ne_l170_b201 : l170 ≠ b201 := Nat.ne_of_lt (Nat.lt_of_lt_of_le El170.lt (Nat.le_of_eq g201.symm))
    have g_b201 : n0 ≤ b201 := Nat.le_trans Zc170 (Nat.le_of_eq g201.symm)
    have sz_b201 : h0.size ≤ b201 := Nat.le_trans Kc170.1 (Nat.le_of_eq g201.symm)
    have Z201 : n0 ≤ h201.size := Nat.le_trans Zc170 E201.1
    have K201 := Keep.ext Kc170 E201
    have O201 := Old.ext Oc170 E201
    have SK201 := Nat.le_trans SKc170 E201.1
    refine GlW.back (fun _ k => st201 _ k) ?_
    show GlW _ _ _ _ _ _ _ (T201.setTop (mkF m 36 #[.val (.long x0), .second, .val (.long x1), .second, .val (.long x2), .second, .val (.int x3), .val (.int x4), .val (.long x5), .second, .val (.ref b167), .val (.int (1 : Int32)), .unset, .unset, .unset, .unset, .unset, .unset, .unset, .unset, .unset] [(.ref b201)]))
    refine GlW.back (fun _ k => XS.dup X201.here hx rfl (hb hby at_36) rfl rfl k) ?_
    show GlW _ _ _ _ _ _ _ (T201.setTop (mkF m 37 #[.val (.long x0), .second, .val (.long x1), .second, .val (.long x2), .second, .val (.int x3), .val (.int x4), .val (.long x5), .second, .val (.ref b167), .val (.int (1 : Int32)), .unset, .unset, .unset, .unset, .unset, .unset, .unset, .unset, .unset] [(.ref b201), (.ref b201)]))
    refine GlW.back (fun _ k => XS.iconst X201.here hx rfl (hb hby at_37) k) ?_
    show GlW _ _ _ _ _ _ _ (T201.setTop (mkF m 38 #[.val (.long x0), .second, .val (.long x1), .second, .val (.long x2), .second, .val (.int x3), .val (.int x4), .val (.long x5), .second, .val (.ref b167), .val (.int (1 : Int32)), .unset, .unset, .unset, .unset, .unset, .unset, .unset, .unset, .unset] [(.int (0 : Int32)), (.ref b201), (.ref b201)]))
    refine GlW.back (fun _ k => XS.iload X201.here hx rfl (hb hby at_38) rfl k) ?_
    show GlW _ _ _ _ _ _ _ (T201.setTop (mkF m 40 #[.val (.long x0), .second, .val (.long x1), .second, .val (.long x2), .second, .val (.int x3), .val (.int x4), .val (.long x5), .second, .val (.ref b167), .val (.int (1 : Int32)), .unset, .unset, .unset, .unset, .unset, .unset, .unset, .unset, .unset] [(.int x4), (.int (0 : Int32)), (.ref b201), (.ref b201)]))
    refine GlW.back (fun _ k => XS.sipush X201.here hx rfl (hb hby at_40) k) ?_
    show GlW _ _ _ _ _ _ _ (T201.setTop (mkF m 43 #[.val (.long x0), .second, .val (.long x1), .second, .val (.long x2), .second, .val (.int x3), .val (.int x4), .val (.long x5), .second, .val (.ref b167), .val (.int (1 : Int32)), .unset, .unset, .unset, .unset, .unset, .unset, .unset, .unset, .unset] [(.int (255 : Int32)), (.int x4), (.int (0 : Int32)), (.ref b201), (.ref b201)]))
    refine GlW.back (fun _ k => XS.iand X201.here hx rfl (hb hby at_43) rfl k) ?_
    show GlW _ _ _ _ _ _ _ (T201.setTop (mkF m 44 #[.val (.long x0), .second, .val (.long x1), .second, .val (.long x2), .second, .val (.int x3), .val (.int x4), .val (.long x5), .second, .val (.ref b167), .val (.int (1 : Int32)), .unset, .unset, .unset, .unset, .unset, .unset, .unset, .unset, .unset] [(.int (x4 &&& (255 : Int32))), (.int (0 : Int32)), (.ref b201), (.ref b201)]))
    refine GlW.back (fun _ k => XS.i2c X201.here hx rfl (hb hby at_44) rfl k) ?_
    show GlW _ _ _ _ _ _ _ (T201.setTop (mkF m 45 #[.val (.long x0), .second, .val (.long x1), .second, .val (.long x2), .second, .val (.int x3), .val (.int x4), .val (.long x5), .second, .val (.ref b167), .val (.int (1 : Int32)), .unset, .unset, .unset, .unset, .unset, .unset, .unset, .unset, .unset] [(.int ((x4 &&& (255 : Int32)).toUInt32.toUInt16.toUInt32.toInt32)), (.int (0 : Int32)), (.ref b201), (.ref b201)]))
    obtain ⟨cl203, Ar203, q203, Sz203, Nn203, Hs203, Gf203⟩ := id V201
    have hin203 : ¬ ((0 : Int32) < 0 ∨ cl203.slots.size ≤ ((0 : Int32)).toNatClampNeg) := inb_of Sz203 ⟨by decide, by decide⟩
    obtain ⟨T204, h204, X204, e204, W204, st204⟩ := stC X201 hx hZ0 e201 Ar203 (j := (0 : Int32)) hin203 (g := (mkF m 45 #[.val (.long x0), .second, .val (.long x1), .second, .val (.long x2), .second, .val (.int x3), .val (.int x4), .val (.long x5), .second, .val (.ref b167), .val (.int (1 : Int32)), .unset, .unset, .unset, .unset, .unset, .unset, .unset, .unset, .unset] [(.int ((x4 &&& (255 : Int32)).toUInt32.toUInt16.toUInt32.toInt32)), (.int (0 : Int32)), (.ref b201), (.ref b201)])) rfl rfl (hb hby at_45)
    have V204 := Arv.set Ar203 q203 Sz203 Nn203 Hs203 Gf203 (fits_nar_char _) W204 0 rfl (Nat.le_of_ble_eq_true rfl)
    replace V204 : Arv Z h204 b201 k201 .char (1 : Int32) [(.int (nar .char ((x4 &&& (255 : Int32)).toUInt32.toUInt16.toUInt32.toInt32)))] (.int (0 : Int32)) := V204
    have K204 := Keep.wr K201 W204 (Or.inr sz_b201)
    have O204 := Old.wr O201 W204 g_b201
    have Z204 : n0 ≤ h204.size := Nat.le_trans Z201 (Keep.of_wr W204).1
    have SK204 := Nat.le_trans SK201 (Keep.of_wr W204).1
    have N204 := Fr.snoc X204 N176 g_b201
    refine GlW.back (fun _ k => st204 _ k) ?_
    show GlW _ _ _ _ _ _ _ (T204.setTop (mkF m 46 #[.val (.long x0), .second, .val (.long x1), .second, .val (.long x2), .second, .val (.int x3), .val (.int x4), .val (.long x5), .second, .val (.ref b167), .val (.int (1 : Int32)), .unset, .unset, .unset, .unset, .unset, .unset, .unset, .unset, .unset] [(.ref b201)]))
    refine GlW.back (fun _ k => XS.astore X204.here hx rfl (hb hby at_46) rfl rfl (l' := #[.val (.long x0), .second, .val (.long x1), .second, .val (.long x2), .second, .val (.int x3), .val (.int x4), .val (.long x5), .second, .val (.ref b167), .val (.int (1 : Int32)), .val (.ref b201), .unset, .unset, .unset, .unset, .unset, .unset, .unset, .unset]) rfl k) ?_
    show GlW _ _ _ _ _ _ _ (T204.setTop (mkF m 48 #[.val (.long x0), .second, .val (.long x1), .second, .val (.long x2), .second, .val (.int x3), .val (.int x4), .val (.long x5), .second, .val (.ref b167), .val (.int (1 : Int32)), .val (.ref b201), .unset, .unset, .unset, .unset, .unset, .unset, .unset, .unset] []))
    obtain ⟨T205, h205, X205, e205, E205, A205, D205, -, st205⟩ := newO X204 hx hZ0 hown0 (hw _ (List.mem_of_getElem? (i := 59) rfl)) (hw _ (List.mem_of_getElem? (i := 60) rfl)) (hw _ (List.mem_of_getElem? (i := 61) rfl)) e204 (g := (mkF m 48 #[.val (.long x0), .second, .val (.long x1), .second, .val (.long x2), .second, .val (.int x3), .val (.int x4), .val (.long x5), .second, .val (.ref b167), .val (.int (1 : Int32)), .val (.ref b201), .unset, .unset, .unset, .unset, .unset, .unset, .unset, .unset] [])) rfl (hb hby at_48) (by decide) (by decide)
    obtain ⟨b205, g205⟩ : ∃ z, z = h204.size := ⟨_, rfl⟩
    rw [← g205] at A205 D205 st205
    have f206 := ((f177.ext E201).wr W204)
    have ne_b167_b205 : b167 ≠ b205 := Nat.ne_of_lt (Nat.lt_of_lt_of_le f206.lt (Nat.le_of_eq g205.symm))
    have f207 := ((f202.ext E201).wr W204)
    have ne_b168_b205 : b168 ≠ b205 := Nat.ne_of_lt (Nat.lt_of_lt_of_le f207.lt (Nat.le_of_eq g205.symm))
    have f208 := ((El170.ext E201).wr W204)
    have ne_l170_b205 : l170 ≠ b205 := Nat.ne_of_lt (Nat.lt_of_lt_of_le f208.lt (Nat.le_of_eq g205.symm))
    have ne_b201_b205 : b201 ≠ b205 := Nat.ne_of_lt (Nat.lt_of_lt_of_le V204.lt (Nat.le_of_eq g205.symm))
    have g_b205 : n0 ≤ b205 := Nat.le_trans Z204 (Nat.le_of_eq g205.symm)
    have sz_b205 : h0.size ≤ b205 := Nat.le_trans K204.1 (Nat.le_of_eq g205.symm)
    have Z205 : n0 ≤ h205.size := Nat.le_trans Z204 E205.1
    have K205 := Keep.ext K204 E205
    have O205 := Old.ext O204 E205
    have SK205 := Nat.le_trans SK204 E205.1
    have F205_coder : Fld Z h205 b205 "java/lang/String" "coder" "B" (.int (0 : Int32)) := D205 (Or.inr (hw _ (List.mem_of_getElem? (i := 83) rfl))) (ty := .byte) (by decide)
    have F205_value : Fld Z h205 b205 "java/lang/String" "value" "[B" .null := D205 (Or.inr (hw _ (List.mem_of_getElem? (i := 85) rfl))) (ty := (.array .byte)) (by decide)
    refine GlW.back (fun _ k => st205 _ k) ?_
    show GlW _ _ _ _ _ _ _ (T205.setTop (mkF m 51 #[.val (.long x0), .second, .val (.long x1), .second, .val (.long x2), .second, .val (.int x3), .val (.int x4), .val (.long x5), .second, .val (.ref b167), .val (.int (1 : Int32)), .val (.ref b201), .unset, .unset, .unset, .unset, .unset, .unset, .unset, .unset] [(.ref b205)]))
    refine GlW.back (fun _ k => XS.dup X205.here hx rfl (hb hby at_51) rfl rfl k) ?_
    show GlW _ _ _ _ _ _ _ (T205.setTop (mkF m 52 #[.val (.long x0), .second, .val (.long x1), .second, .val (.long x2), .second, .val (.int x3), .val (.int x4), .val (.long x5), .second, .val (.ref b167), .val (.int (1 : Int32)), .val (.ref b201), .unset, .unset, .unset, .unset, .unset, .unset, .unset, .unset] [(.ref b205), (.ref b205)]))
    refine GlW.back (fun _ k => XS.aload X205.here hx rfl (hb hby at_52) rfl rfl k) ?_
    show GlW _ _ _ _ _ _ _ (T205.setTop (mkF m 54 #[.val (.long x0), .second, .val (.long x1), .second, .val (.long x2), .second, .val (.int x3), .val (.int x4), .val (.long x5), .second, .val (.ref b167), .val (.int (1 : Int32)), .val (.ref b201), .unset, .unset, .unset, .unset, .unset, .unset, .unset, .unset] [(.ref b201), (.ref b205), (.ref b205)]))
    have f209 := (f206.ext E205)
    have f210 := (f207.ext E205)
    have f211 := (f208.ext E205)
    have f212 := (V204.ext E205)
    have hws214 : ∀ d ∈ StrChars.Road.words, d.before a0 Z = true := fun d hd => hw d ((by decide +kernel : ∀ d ∈ StrChars.Road.words, d ∈ tables_1) d hd)
    have hlat214 : ∀ c ∈ [(nar .char ((x4 &&& (255 : Int32)).toUInt32.toUInt16.toUInt32.toInt32))], ¬ c < 0 ∧ ¬ (255 : Int32) < c := by
      intro c hc
      simp only [List.mem_cons, List.not_mem_nil, or_false] at hc
      subst hc
      exact (by rw [show (nar .char (((x4 &&& (255 : Int32))).toUInt32.toUInt16.toUInt32.toInt32)) = x4 &&& 255 from by simp only [nar, i2c_mask]]; exact own_and255 _)
    obtain ⟨_, _, ⟨T213, L213, k213, n213⟩, -, X213, ⟨Lc213, hQ213, l213, y213, z213⟩, st213⟩ := X205.specialBack hx (y := (⟨"java/lang/String", "<init>", "([C)V"⟩ : MethodName)) rfl hown0 (mvT hZ0 (hw _ (List.mem_of_getElem? (i := 62) rfl))) (mvT hZ0 (hw _ (List.mem_of_getElem? (i := 63) rfl))) (mvT hZ0 (hw _ (List.mem_of_getElem? (i := 64) rfl))) (by decide) (StrChars.Road.backV (W := 1) hZ0 hws214 (kI := 4) (hw _ (List.mem_of_getElem? (i := 60) rfl)) (cs := [(nar .char ((x4 &&& (255 : Int32)).toUInt32.toUInt16.toUInt32.toInt32))]) (bs := [((nar .char ((x4 &&& (255 : Int32)).toUInt32.toUInt16.toUInt32.toInt32))).toInt8.toInt32]) (n := 1) g_b205 Z205 A205 F205_value F205_coder f212 (S_COMPACT_STRINGS.ext O205.2) P0 rfl rfl (by decide) (by decide) hlat214 rfl (by decide) (by decide)) (g := (mkF m 54 #[.val (.long x0), .second, .val (.long x1), .second, .val (.long x2), .second, .val (.int x3), .val (.int x4), .val (.long x5), .second, .val (.ref b167), .val (.int (1 : Int32)), .val (.ref b201), .unset, .unset, .unset, .unset, .unset, .unset, .unset, .unset] [(.ref b201), (.ref b205), (.ref b205)])) rfl (by rw [hml]; rfl) (Steps.refl _) (a := b205) (argsL := [(.ref b201)]) (rest := [(.ref b205)]) (lenOf pd___C_V rfl) rfl (by show 2 * 0 + _ ≤ _; exact Nat.le_of_eq rfl) (hb hby at_54) (fun _ _ => ⟨rfl, e205, (by decide : 5 + 1 ≤ _), (by decide : 12 + 1 ≤ _)⟩)
    dsimp only [Pt.U, Pt.locs, Pt.cells, Pt.slots] at X213 l213 y213 z213 st213 hQ213
    subst l213 y213 z213
    obtain ⟨rfl, Nq213, Kq213, -, Fc213, t213, kb213, Gt213, St213, Nt213, Fv213, Vt213⟩ := hQ213
    have N213 := Fr.app N204 Nq213
    have Kc213 := Keep.trans K205 Kq213 (allS (Or.inr sz_b205) all0)
    have Zc213 : n0 ≤ T213.heap.size := Nat.le_trans Z205 Kq213.1
    have Oc213 := Old.keep O205 Kq213 (allS g_b205 all0)
    have SKc213 := Nat.le_trans SK205 Kq213.1
    have ne_b167_t213 : b167 ≠ t213 := Nat.ne_of_lt (Nat.lt_of_lt_of_le (f209).lt St213)
    have ne_b168_t213 : b168 ≠ t213 := Nat.ne_of_lt (Nat.lt_of_lt_of_le (f210).lt St213)
    have ne_l170_t213 : l170 ≠ t213 := Nat.ne_of_lt (Nat.lt_of_lt_of_le (f211).lt St213)
    have ne_b201_t213 : b201 ≠ t213 := Nat.ne_of_lt (Nat.lt_of_lt_of_le (f212).lt St213)
    have szt213 : h0.size ≤ t213 := Nat.le_trans K205.1 St213
    refine GlW.back (fun _ k => st213.trans k) ?_
    show GlW _ _ _ _ _ _ _ (T213.setTop (mkF m 57 #[.val (.long x0), .second, .val (.long x1), .second, .val (.long x2), .second, .val (.int x3), .val (.int x4), .val (.long x5), .second, .val (.ref b167), .val (.int (1 : Int32)), .val (.ref b201), .unset, .unset, .unset, .unset, .unset, .unset, .unset, .unset] [(.ref b205)]))
    refine GlW.back (fun _ k => XS.astore X213.here hx rfl (hb hby at_57) rfl rfl (l' := #[.val (.long x0), .second, .val (.long x1), .second, .val (.long x2), .second, .val (.int x3), .val (.int x4), .val (.long x5), .second, .val (.ref b167), .val (.int (1 : Int32)), .val (.ref b201), .val (.ref b205), .unset, .unset, .unset, .unset, .unset, .unset, .unset]) rfl k) ?_
    show GlW _ _ _ _ _ _ _ (T213.setTop (mkF m 59 #[.val (.long x0), .second, .val (.long x1), .second, .val (.long x2), .second, .val (.int x3), .val (.int x4), .val (.long x5), .second, .val (.ref b167), .val (.int (1 : Int32)), .val (.ref b201), .val (.ref b205), .unset, .unset, .unset, .unset, .unset, .unset, .unset] []))
    refine GlW.back (fun _ k => XS.lload X213.here hx rfl (hb hby at_59) rfl k) ?_
    show GlW _ _ _ _ _ _ _ (T213.setTop (mkF m 61 #[.val (.long x0), .second, .val (.long x1), .second, .val (.long x2), .second, .val (.int x3), .val (.int x4), .val (.long x5), .second, .val (.ref b167), .val (.int (1 : Int32)), .val (.ref b201), .val (.ref b205), .unset, .unset, .unset, .unset, .unset, .unset, .unset] [(.long x5)]))
    refine GlW.back (fun _ k => X213.ldc2Long hx hown0 (mvT hZ0 (hw _ (List.mem_of_getElem? (i := 86) rfl))) (g := (mkF m 61 #[.val (.long x0), .second, .val (.long x1), .second, .val (.long x2), .second, .val (.int x3), .val (.int x4), .val (.long x5), .second, .val (.ref b167), .val (.int (1 : Int32)), .val (.ref b201), .val (.ref b205), .unset, .unset, .unset, .unset, .unset, .unset, .unset] [(.long x5)])) rfl (hb hby at_61) _ k) ?_
    show GlW _ _ _ _ _ _ _ (T213.setTop (mkF m 64 #[.val (.long x0), .second, .val (.long x1), .second, .val (.long x2), .second, .val (.int x3), .val (.int x4), .val (.long x5), .second, .val (.ref b167), .val (.int (1 : Int32)), .val (.ref b201), .val (.ref b205), .unset, .unset, .unset, .unset, .unset, .unset, .unset] [(.long (9223372036854775807 : Int64)), (.long x5)]))
    refine GlW.back (fun _ k => XS.land X213.here hx rfl (hb hby at_64) rfl k) ?_
    show GlW _ _ _ _ _ _ _ (T213.setTop (mkF m 65 #[.val (.long x0), .second, .val (.long x1), .second, .val (.long x2), .second, .val (.int x3), .val (.int x4), .val (.long x5), .second, .val (.ref b167), .val (.int (1 : Int32)), .val (.ref b201), .val (.ref b205), .unset, .unset, .unset, .unset, .unset, .unset, .unset] [(.long (x5 &&& (9223372036854775807 : Int64)))]))
    refine GlW.back (fun _ k => XS.lstore X213.here hx rfl (hb hby at_65) rfl (l' := #[.val (.long x0), .second, .val (.long x1), .second, .val (.long x2), .second, .val (.int x3), .val (.int x4), .val (.long x5), .second, .val (.ref b167), .val (.int (1 : Int32)), .val (.ref b201), .val (.ref b205), .val (.long (x5 &&& (9223372036854775807 : Int64))), .second, .unset, .unset, .unset, .unset, .unset]) rfl k) ?_
    show GlW _ _ _ _ _ _ _ (T213.setTop (mkF m 67 #[.val (.long x0), .second, .val (.long x1), .second, .val (.long x2), .second, .val (.int x3), .val (.int x4), .val (.long x5), .second, .val (.ref b167), .val (.int (1 : Int32)), .val (.ref b201), .val (.ref b205), .val (.long (x5 &&& (9223372036854775807 : Int64))), .second, .unset, .unset, .unset, .unset, .unset] []))
    refine GlW.back (fun _ k => XS.iconst X213.here hx rfl (hb hby at_67) k) ?_
    show GlW _ _ _ _ _ _ _ (T213.setTop (mkF m 68 #[.val (.long x0), .second, .val (.long x1), .second, .val (.long x2), .second, .val (.int x3), .val (.int x4), .val (.long x5), .second, .val (.ref b167), .val (.int (1 : Int32)), .val (.ref b201), .val (.ref b205), .val (.long (x5 &&& (9223372036854775807 : Int64))), .second, .unset, .unset, .unset, .unset, .unset] [(.int (0 : Int32))]))
    refine GlW.back (fun _ k => XS.istore X213.here hx rfl (hb hby at_68) rfl (l' := #[.val (.long x0), .second, .val (.long x1), .second, .val (.long x2), .second, .val (.int x3), .val (.int x4), .val (.long x5), .second, .val (.ref b167), .val (.int (1 : Int32)), .val (.ref b201), .val (.ref b205), .val (.long (x5 &&& (9223372036854775807 : Int64))), .second, .val (.int (0 : Int32)), .unset, .unset, .unset, .unset]) rfl k) ?_
    show GlW _ _ _ _ _ _ _ (T213.setTop (mkF m 70 #[.val (.long x0), .second, .val (.long x1), .second, .val (.long x2), .second, .val (.int x3), .val (.int x4), .val (.long x5), .second, .val (.ref b167), .val (.int (1 : Int32)), .val (.ref b201), .val (.ref b205), .val (.long (x5 &&& (9223372036854775807 : Int64))), .second, .val (.int (0 : Int32)), .unset, .unset, .unset, .unset] []))
    refine GlW.back (fun _ k => XS.iload X213.here hx rfl (hb hby at_70) rfl k) ?_
    show GlW _ _ _ _ _ _ _ (T213.setTop (mkF m 72 #[.val (.long x0), .second, .val (.long x1), .second, .val (.long x2), .second, .val (.int x3), .val (.int x4), .val (.long x5), .second, .val (.ref b167), .val (.int (1 : Int32)), .val (.ref b201), .val (.ref b205), .val (.long (x5 &&& (9223372036854775807 : Int64))), .second, .val (.int (0 : Int32)), .unset, .unset, .unset, .unset] [(.int (1 : Int32))]))
    refine GlW.back (fun _ k => XS.iconst X213.here hx rfl (hb hby at_72) k) ?_
    show GlW _ _ _ _ _ _ _ (T213.setTop (mkF m 73 #[.val (.long x0), .second, .val (.long x1), .second, .val (.long x2), .second, .val (.int x3), .val (.int x4), .val (.long x5), .second, .val (.ref b167), .val (.int (1 : Int32)), .val (.ref b201), .val (.ref b205), .val (.long (x5 &&& (9223372036854775807 : Int64))), .second, .val (.int (0 : Int32)), .unset, .unset, .unset, .unset] [(.int (1 : Int32)), (.int (1 : Int32))]))
    refine GlW.back (fun _ k => XS.icmpNo X213.here hx rfl (hb hby at_73) rfl (flt (by decide : ¬ (1 : Int32) < (1 : Int32))).1 k) ?_
    show GlW _ _ _ _ _ _ _ (T213.setTop (mkF m 76 #[.val (.long x0), .second, .val (.long x1), .second, .val (.long x2), .second, .val (.int x3), .val (.int x4), .val (.long x5), .second, .val (.ref b167), .val (.int (1 : Int32)), .val (.ref b201), .val (.ref b205), .val (.long (x5 &&& (9223372036854775807 : Int64))), .second, .val (.int (0 : Int32)), .unset, .unset, .unset, .unset] []))
    refine GlW.back (fun _ k => XS.lloadN X213.here hx rfl (hb hby at_76) rfl k) ?_
    show GlW _ _ _ _ _ _ _ (T213.setTop (mkF m 77 #[.val (.long x0), .second, .val (.long x1), .second, .val (.long x2), .second, .val (.int x3), .val (.int x4), .val (.long x5), .second, .val (.ref b167), .val (.int (1 : Int32)), .val (.ref b201), .val (.ref b205), .val (.long (x5 &&& (9223372036854775807 : Int64))), .second, .val (.int (0 : Int32)), .unset, .unset, .unset, .unset] [(.long x0)]))
    refine GlW.back (fun _ k => XS.lloadN X213.here hx rfl (hb hby at_77) rfl k) ?_
    show GlW _ _ _ _ _ _ _ (T213.setTop (mkF m 78 #[.val (.long x0), .second, .val (.long x1), .second, .val (.long x2), .second, .val (.int x3), .val (.int x4), .val (.long x5), .second, .val (.ref b167), .val (.int (1 : Int32)), .val (.ref b201), .val (.ref b205), .val (.long (x5 &&& (9223372036854775807 : Int64))), .second, .val (.int (0 : Int32)), .unset, .unset, .unset, .unset] [(.long x1), (.long x0)]))
    obtain ⟨_, _, ⟨T215, L215, k215, n215⟩, -, X215, ⟨Lc215, hQ215, l215, y215, z215⟩, st215⟩ := Jvm.LawKit.callS X213 hx (y := (⟨"java/lang/Math", "max", "(JJ)J"⟩ : MethodName)) hown0 (mvT hZ0 (hw _ (List.mem_of_getElem? (i := 87) rfl))) (mvT hZ0 (hw _ (List.mem_of_getElem? (i := 88) rfl))) (mvT hZ0 (hw _ (List.mem_of_getElem? (i := 89) rfl))) (mvT hZ0 (hw _ (List.mem_of_getElem? (i := 90) rfl))) (by decide) (backOf (W := 0) (rmmaxJ l Z a0 hw [] x0 x1  T213.heap n0 Zc213 ) hZ0 (hw _ (List.mem_of_getElem? (i := 90) rfl)) (hw _ (List.mem_of_getElem? (i := 89) rfl)) (by decide) (by decide)) (g := (mkF m 78 #[.val (.long x0), .second, .val (.long x1), .second, .val (.long x2), .second, .val (.int x3), .val (.int x4), .val (.long x5), .second, .val (.ref b167), .val (.int (1 : Int32)), .val (.ref b201), .val (.ref b205), .val (.long (x5 &&& (9223372036854775807 : Int64))), .second, .val (.int (0 : Int32)), .unset, .unset, .unset, .unset] [(.long x1), (.long x0)])) rfl (by rw [hml]; rfl) (argsL := [(.long x0), (.long x1)]) (rest := []) (lenOf pd__JJ_J rfl) rfl (by show 2 * 0 + _ ≤ _; exact Nat.le_of_eq rfl) (hb hby at_78) (fun _ _ => ⟨rfl, rfl, (by decide : 6 + 0 ≤ _), (by decide : 13 + 0 ≤ _)⟩)
    dsimp only [Pt.U, Pt.locs, Pt.cells, Pt.slots] at X215 l215 y215 z215 st215 hQ215
    subst l215 y215 z215
    obtain ⟨Nq215, r215, rfl, hge215, hgf215, eh215⟩ := hQ215
    have N215 := Fr.app N213 Nq215
    refine GlW.back (fun _ k => st215 _ k) ?_
    show GlW _ _ _ _ _ _ _ (T215.setTop (mkF m 81 #[.val (.long x0), .second, .val (.long x1), .second, .val (.long x2), .second, .val (.int x3), .val (.int x4), .val (.long x5), .second, .val (.ref b167), .val (.int (1 : Int32)), .val (.ref b201), .val (.ref b205), .val (.long (x5 &&& (9223372036854775807 : Int64))), .second, .val (.int (0 : Int32)), .unset, .unset, .unset, .unset] [(.long r215)]))
    refine GlW.back (fun _ k => XS.lstore X215.here hx rfl (hb hby at_81) rfl (l' := #[.val (.long x0), .second, .val (.long x1), .second, .val (.long x2), .second, .val (.int x3), .val (.int x4), .val (.long x5), .second, .val (.ref b167), .val (.int (1 : Int32)), .val (.ref b201), .val (.ref b205), .val (.long (x5 &&& (9223372036854775807 : Int64))), .second, .val (.int (0 : Int32)), .val (.long r215), .second, .unset, .unset]) rfl k) ?_
    show GlW _ _ _ _ _ _ _ (T215.setTop (mkF m 83 #[.val (.long x0), .second, .val (.long x1), .second, .val (.long x2), .second, .val (.int x3), .val (.int x4), .val (.long x5), .second, .val (.ref b167), .val (.int (1 : Int32)), .val (.ref b201), .val (.ref b205), .val (.long (x5 &&& (9223372036854775807 : Int64))), .second, .val (.int (0 : Int32)), .val (.long r215), .second, .unset, .unset] []))
    refine GlW.back (fun _ k => XS.aload X215.here hx rfl (hb hby at_83) rfl rfl k) ?_
    show GlW _ _ _ _ _ _ _ (T215.setTop (mkF m 85 #[.val (.long x0), .second, .val (.long x1), .second, .val (.long x2), .second, .val (.int x3), .val (.int x4), .val (.long x5), .second, .val (.ref b167), .val (.int (1 : Int32)), .val (.ref b201), .val (.ref b205), .val (.long (x5 &&& (9223372036854775807 : Int64))), .second, .val (.int (0 : Int32)), .val (.long r215), .second, .unset, .unset] [(.ref b167)]))
    refine GlW.back (fun _ k => XS.aload X215.here hx rfl (hb hby at_85) rfl rfl k) ?_
    show GlW _ _ _ _ _ _ _ (T215.setTop (mkF m 87 #[.val (.long x0), .second, .val (.long x1), .second, .val (.long x2), .second, .val (.int x3), .val (.int x4), .val (.long x5), .second, .val (.ref b167), .val (.int (1 : Int32)), .val (.ref b201), .val (.ref b205), .val (.long (x5 &&& (9223372036854775807 : Int64))), .second, .val (.int (0 : Int32)), .val (.long r215), .second, .unset, .unset] [(.ref b205), (.ref b167)]))
    obtain ⟨T216, h216, X216, e216, E216, A216, D216, -, st216⟩ := newO X215 hx hZ0 hown0 (hw _ (List.mem_of_getElem? (i := 3) rfl)) (hw _ (List.mem_of_getElem? (i := 4) rfl)) (hw _ (List.mem_of_getElem? (i := 5) rfl)) eh215 (g := (mkF m 87 #[.val (.long x0), .second, .val (.long x1), .second, .val (.long x2), .second, .val (.int x3), .val (.int x4), .val (.long x5), .second, .val (.ref b167), .val (.int (1 : Int32)), .val (.ref b201), .val (.ref b205), .val (.long (x5 &&& (9223372036854775807 : Int64))), .second, .val (.int (0 : Int32)), .val (.long r215), .second, .unset, .unset] [(.ref b205), (.ref b167)])) rfl (hb hby at_87) (by decide) (by decide)
    obtain ⟨b216, g216⟩ : ∃ z, z = T213.heap.size := ⟨_, rfl⟩
    rw [← g216] at A216 D216 st216
    have f217 := (f209.keep Kq213)
    have ne_b167_b216 : b167 ≠ b216 := Nat.ne_of_lt (Nat.lt_of_lt_of_le f217.lt (Nat.le_of_eq g216.symm))
    have f218 := (f210.keep Kq213)
    have ne_b168_b216 : b168 ≠ b216 := Nat.ne_of_lt (Nat.lt_of_lt_of_le f218.lt (Nat.le_of_eq g216.symm))
    have f219 := (f211.keep Kq213)
    have ne_l170_b216 : l170 ≠ b216 := Nat.ne_of_lt (Nat.lt_of_lt_of_le f219.lt (Nat.le_of_eq g216.symm))
    have f220 := (f212.keep Kq213 (ninS ne_b201_b205 nin0))
    have ne_b201_b216 : b201 ≠ b216 := Nat.ne_of_lt (Nat.lt_of_lt_of_le f220.lt (Nat.le_of_eq g216.symm))
    have f221 := (A205.keep Kq213)
    have ne_b205_b216 : b205 ≠ b216 := Nat.ne_of_lt (Nat.lt_of_lt_of_le f221.lt (Nat.le_of_eq g216.symm))
    have ne_t213_b216 : t213 ≠ b216 := Nat.ne_of_lt (Nat.lt_of_lt_of_le Vt213.lt (Nat.le_of_eq g216.symm))
    have g_b216 : n0 ≤ b216 := Nat.le_trans Zc213 (Nat.le_of_eq g216.symm)
    have sz_b216 : h0.size ≤ b216 := Nat.le_trans Kc213.1 (Nat.le_of_eq g216.symm)
    have Z216 : n0 ≤ h216.size := Nat.le_trans Zc213 E216.1
    have K216 := Keep.ext Kc213 E216
    have O216 := Old.ext Oc213 E216
    have SK216 := Nat.le_trans SKc213 E216.1
    have F216_cents : Fld Z h216 b216 "com/example/gavelwatch/gavelwatch/model/Money" "cents" "J" (.long (0 : Int64)) := D216 (Or.inr (hw _ (List.mem_of_getElem? (i := 18) rfl))) (ty := .long) (by decide)
    refine GlW.back (fun _ k => st216 _ k) ?_
    show GlW _ _ _ _ _ _ _ (T216.setTop (mkF m 90 #[.val (.long x0), .second, .val (.long x1), .second, .val (.long x2), .second, .val (.int x3), .val (.int x4), .val (.long x5), .second, .val (.ref b167), .val (.int (1 : Int32)), .val (.ref b201), .val (.ref b205), .val (.long (x5 &&& (9223372036854775807 : Int64))), .second, .val (.int (0 : Int32)), .val (.long r215), .second, .unset, .unset] [(.ref b216), (.ref b205), (.ref b167)]))
    refine GlW.back (fun _ k => XS.dup X216.here hx rfl (hb hby at_90) rfl rfl k) ?_
    show GlW _ _ _ _ _ _ _ (T216.setTop (mkF m 91 #[.val (.long x0), .second, .val (.long x1), .second, .val (.long x2), .second, .val (.int x3), .val (.int x4), .val (.long x5), .second, .val (.ref b167), .val (.int (1 : Int32)), .val (.ref b201), .val (.ref b205), .val (.long (x5 &&& (9223372036854775807 : Int64))), .second, .val (.int (0 : Int32)), .val (.long r215), .second, .unset, .unset] [(.ref b216), (.ref b216), (.ref b205), (.ref b167)]))
    refine GlW.back (fun _ k => XS.lload X216.here hx rfl (hb hby at_91) rfl k) ?_
    show GlW _ _ _ _ _ _ _ (T216.setTop (mkF m 93 #[.val (.long x0), .second, .val (.long x1), .second, .val (.long x2), .second, .val (.int x3), .val (.int x4), .val (.long x5), .second, .val (.ref b167), .val (.int (1 : Int32)), .val (.ref b201), .val (.ref b205), .val (.long (x5 &&& (9223372036854775807 : Int64))), .second, .val (.int (0 : Int32)), .val (.long r215), .second, .unset, .unset] [(.long r215), (.ref b216), (.ref b216), (.ref b205), (.ref b167)]))
    obtain ⟨_, _, ⟨T222, L222, k222, n222⟩, -, X222, ⟨Lc222, hQ222, l222, y222, z222⟩, st222⟩ := X216.specialBack hx (y := (⟨"com/example/gavelwatch/gavelwatch/model/Money", "<init>", "(J)V"⟩ : MethodName)) rfl hown0 (mvT hZ0 (hw _ (List.mem_of_getElem? (i := 6) rfl))) (mvT hZ0 (hw _ (List.mem_of_getElem? (i := 7) rfl))) (mvT hZ0 (hw _ (List.mem_of_getElem? (i := 8) rfl))) (by decide) (backOf (W := 3) (rmmoney l Z a0 hw [] b216 r215  h216 n0 Z216 g_b216 A216 F216_cents) hZ0 (hw _ (List.mem_of_getElem? (i := 8) rfl)) (hw _ (List.mem_of_getElem? (i := 5) rfl)) (by decide) (by decide)) (g := (mkF m 93 #[.val (.long x0), .second, .val (.long x1), .second, .val (.long x2), .second, .val (.int x3), .val (.int x4), .val (.long x5), .second, .val (.ref b167), .val (.int (1 : Int32)), .val (.ref b201), .val (.ref b205), .val (.long (x5 &&& (9223372036854775807 : Int64))), .second, .val (.int (0 : Int32)), .val (.long r215), .second, .unset, .unset] [(.long r215), (.ref b216), (.ref b216), (.ref b205), (.ref b167)])) rfl (by rw [hml]; rfl) (Steps.refl _) (a := b216) (argsL := [(.long r215)]) (rest := [(.ref b216), (.ref b205), (.ref b167)]) (lenOf pd__J_V rfl) rfl (by show 2 * 0 + _ ≤ _; exact Nat.le_of_eq rfl) (hb hby at_93) (fun _ _ => ⟨rfl, e216, (by decide : 7 + 0 ≤ _), (by decide : 14 + 0 ≤ _)⟩)
    dsimp only [Pt.U, Pt.locs, Pt.cells, Pt.slots] at X222 l222 y222 z222 st222 hQ222
    subst l222 y222 z222
    obtain ⟨Nq222, rfl, Kq222, Fc222⟩ := hQ222
    have N222 := Fr.app N215 Nq222
    have Kc222 := Keep.trans K216 Kq222 (allS (Or.inr sz_b216) all0)
    have Zc222 : n0 ≤ T222.heap.size := Nat.le_trans Z216 Kq222.1
    have Oc222 := Old.keep O216 Kq222 (allS g_b216 all0)
    have SKc222 := Nat.le_trans SK216 Kq222.1
    refine GlW.back (fun _ k => st222.trans k) ?_
    show GlW _ _ _ _ _ _ _ (T222.setTop (mkF m 96 #[.val (.long x0), .second, .val (.long x1), .second, .val (.long x2), .second, .val (.int x3), .val (.int x4), .val (.long x5), .second, .val (.ref b167), .val (.int (1 : Int32)), .val (.ref b201), .val (.ref b205), .val (.long (x5 &&& (9223372036854775807 : Int64))), .second, .val (.int (0 : Int32)), .val (.long r215), .second, .unset, .unset] [(.ref b216), (.ref b205), (.ref b167)]))
    refine GlW.back (fun _ k => XS.lload X222.here hx rfl (hb hby at_96) rfl k) ?_
    show GlW _ _ _ _ _ _ _ (T222.setTop (mkF m 98 #[.val (.long x0), .second, .val (.long x1), .second, .val (.long x2), .second, .val (.int x3), .val (.int x4), .val (.long x5), .second, .val (.ref b167), .val (.int (1 : Int32)), .val (.ref b201), .val (.ref b205), .val (.long (x5 &&& (9223372036854775807 : Int64))), .second, .val (.int (0 : Int32)), .val (.long r215), .second, .unset, .unset] [(.long (x5 &&& (9223372036854775807 : Int64))), (.ref b216), (.ref b205), (.ref b167)]))
    have f224 := ((f217.ext E216).keep Kq222)
    have f225 := ((f218.ext E216).keep Kq222)
    have f226 := ((f219.ext E216).keep Kq222)
    have f227 := ((f220.ext E216).keep Kq222 (ninS ne_b201_b216 nin0))
    have f228 := ((f221.ext E216).keep Kq222)
    have f229 := ((Vt213.ext E216).keep Kq222 (ninS ne_t213_b216 nin0))
    have f230 := (A216.keep Kq222)
    have f231 := ((((((Fh170.ext E201).other W204 (Or.inl ne_b167_b201)).ext E205).keep Kq213 (ninS ne_b167_b205 nin0)).ext E216).keep Kq222 (ninS ne_b167_b216 nin0))
    have f232 := ((((((Fb170.ext E201).other W204 (Or.inl ne_b167_b201)).ext E205).keep Kq213 (ninS ne_b167_b205 nin0)).ext E216).keep Kq222 (ninS ne_b167_b216 nin0))
    have f233 := ((((((Fo170.ext E201).other W204 (Or.inl ne_b167_b201)).ext E205).keep Kq213 (ninS ne_b167_b205 nin0)).ext E216).keep Kq222 (ninS ne_b167_b216 nin0))
    have f234 := (((((((Fc169.keep Kq170 (ninS (Ne.symm ne_b167_b168) nin0)).ext E201).other W204 (Or.inl ne_b168_b201)).ext E205).keep Kq213 (ninS ne_b168_b205 nin0)).ext E216).keep Kq222 (ninS ne_b168_b216 nin0))
    have f235 := ((((((Fm170.ext E201).other W204 (Or.inl ne_l170_b201)).ext E205).keep Kq213 (ninS ne_l170_b205 nin0)).ext E216).keep Kq222 (ninS ne_l170_b216 nin0))
    have f236 := ((((((Fe170.ext E201).other W204 (Or.inl ne_l170_b201)).ext E205).keep Kq213 (ninS ne_l170_b205 nin0)).ext E216).keep Kq222 (ninS ne_l170_b216 nin0))
    have f237 := ((((((Fs170.ext E201).other W204 (Or.inl ne_l170_b201)).ext E205).keep Kq213 (ninS ne_l170_b205 nin0)).ext E216).keep Kq222 (ninS ne_l170_b216 nin0))
    obtain ⟨cq223, kq223, q223a, q223b, q223c⟩ := isOf hZ0 rfl f224
    obtain ⟨_, _, ⟨T223, L223, k223, n223⟩, -, X223, hS2223, hg2223, ⟨Lc223, hQ223, l223, y223, z223⟩, st223⟩ := X222.virtualBackS hx (y := (⟨"com/example/gavelwatch/gavelwatch/sim/RunningAuction", "place", "(Ljava/lang/String;Lcom/example/gavelwatch/gavelwatch/model/Money;J)V"⟩ : MethodName)) (z := (⟨"com/example/gavelwatch/gavelwatch/sim/RunningAuction", "place", "(Ljava/lang/String;Lcom/example/gavelwatch/gavelwatch/model/Money;J)V"⟩ : MethodName)) hown0 (mvT hZ0 (hw _ (List.mem_of_getElem? (i := 91) rfl))) (mvT hZ0 (hw _ (List.mem_of_getElem? (i := 92) rfl))) (notFace_of_selects (args := #[]) (mvT hZ0 (hw _ (List.mem_of_getElem? (i := 94) rfl)))) (mvT hZ0 (hw _ (List.mem_of_getElem? (i := 94) rfl))) (mvT hZ0 (hw _ (List.mem_of_getElem? (i := 93) rfl))) (by decide) (backOfS (W := 0) (rmplace0 l Z a0 hw [] b167 b205 b216 (x5 &&& (9223372036854775807 : Int64)) l170 b168 u wD kD (0 : Int32) r215 x0 T222.heap n0 Zc222 Oc222 g_b167 f224 f231 f232 f233 f225 f234 f230 Fc222 Gz170 f226 f235 f236 f237 S_DEFAULTCAPACITY_EMPTY_ELEMENTDATA V_wD S_SECONDS E_u F_u_scale F_u_maxNanos hge215 ne_b167_l170 ne_b167_b168 ne_b167_b216 (Ne.symm ne_b168_l170) ne_l170_b216 (own_nn x5)) hZ0 (hw _ (List.mem_of_getElem? (i := 95) rfl)) (hw _ (List.mem_of_getElem? (i := 2) rfl)) (by decide) (by decide)) q223a q223c (g := (mkF m 98 #[.val (.long x0), .second, .val (.long x1), .second, .val (.long x2), .second, .val (.int x3), .val (.int x4), .val (.long x5), .second, .val (.ref b167), .val (.int (1 : Int32)), .val (.ref b201), .val (.ref b205), .val (.long (x5 &&& (9223372036854775807 : Int64))), .second, .val (.int (0 : Int32)), .val (.long r215), .second, .unset, .unset] [(.long (x5 &&& (9223372036854775807 : Int64))), (.ref b216), (.ref b205), (.ref b167)])) rfl (by rw [hml]; rfl) (Steps.refl _) (argsL := [(.ref b205), (.ref b216), (.long (x5 &&& (9223372036854775807 : Int64)))]) (rest := []) (lenOf pd__Ljava_lang_String_Lcom_example_gavelwatch_gavelwatch_model_Money_J_V rfl) rfl (by show 2 * 0 + _ ≤ _; exact Nat.le_of_eq rfl) (hb hby at_98) (fun _ _ => ⟨rfl, rfl, (by decide : 7 + 6 ≤ _), (by decide : 14 + 69 ≤ _)⟩)
    dsimp only [Pt.U, Pt.locs, Pt.cells, Pt.slots] at X223 l223 y223 z223 st223 hQ223 hS2223 hg2223
    subst l223 y223 z223
    obtain ⟨X223, hS223, hZ223, hown223⟩ := rebS hS0 (SKc222) X223 hS2223 hg2223 hZ0 hown0
    obtain ⟨Nq223, rfl, Kq223, c223, t223, k0223, Sc223, Gc223, Sz223, Gz223, Nct223, Ec223, Fh223, Fa223, Fb223, Fe223, Fs223, Fm223, V223, Ov223, -⟩ := hQ223
    have N223 := Fr.app N222 Nq223
    have Kc223 := Keep.trans Kc222 Kq223 (allS (Or.inr sz_b167) (allS (Or.inr sz_l170) all0))
    have Zc223 : n0 ≤ T223.heap.size := Nat.le_trans Zc222 Kq223.1
    have Oc223 := Old.keep Oc222 Kq223 (allS g_b167 (allS Gz170 all0))
    have ne_b167_c223 : b167 ≠ c223 := Nat.ne_of_lt (Nat.lt_of_lt_of_le (f224).lt Sc223)
    have ne_b168_c223 : b168 ≠ c223 := Nat.ne_of_lt (Nat.lt_of_lt_of_le (f225).lt Sc223)
    have ne_l170_c223 : l170 ≠ c223 := Nat.ne_of_lt (Nat.lt_of_lt_of_le (f226).lt Sc223)
    have ne_b201_c223 : b201 ≠ c223 := Nat.ne_of_lt (Nat.lt_of_lt_of_le (f227).lt Sc223)
    have ne_b205_c223 : b205 ≠ c223 := Nat.ne_of_lt (Nat.lt_of_lt_of_le (f228).lt Sc223)
    have ne_t213_c223 : t213 ≠ c223 := Nat.ne_of_lt (Nat.lt_of_lt_of_le (f229).lt Sc223)
    have ne_b216_c223 : b216 ≠ c223 := Nat.ne_of_lt (Nat.lt_of_lt_of_le (f230).lt Sc223)
    have sz_c223 : h0.size ≤ c223 := Nat.le_trans Kc222.1 Sc223
    have ne_b167_t223 : b167 ≠ t223 := Nat.ne_of_lt (Nat.lt_of_lt_of_le (f224).lt Sz223)
    have ne_b168_t223 : b168 ≠ t223 := Nat.ne_of_lt (Nat.lt_of_lt_of_le (f225).lt Sz223)
    have ne_l170_t223 : l170 ≠ t223 := Nat.ne_of_lt (Nat.lt_of_lt_of_le (f226).lt Sz223)
    have ne_b201_t223 : b201 ≠ t223 := Nat.ne_of_lt (Nat.lt_of_lt_of_le (f227).lt Sz223)
    have ne_b205_t223 : b205 ≠ t223 := Nat.ne_of_lt (Nat.lt_of_lt_of_le (f228).lt Sz223)
    have ne_t213_t223 : t213 ≠ t223 := Nat.ne_of_lt (Nat.lt_of_lt_of_le (f229).lt Sz223)
    have ne_b216_t223 : b216 ≠ t223 := Nat.ne_of_lt (Nat.lt_of_lt_of_le (f230).lt Sz223)
    have sz_t223 : h0.size ≤ t223 := Nat.le_trans Kc222.1 Sz223
    refine GlW.back (fun _ k => st223.trans k) ?_
    show GlW _ _ _ _ _ _ _ (T223.setTop (mkF m 101 #[.val (.long x0), .second, .val (.long x1), .second, .val (.long x2), .second, .val (.int x3), .val (.int x4), .val (.long x5), .second, .val (.ref b167), .val (.int (1 : Int32)), .val (.ref b201), .val (.ref b205), .val (.long (x5 &&& (9223372036854775807 : Int64))), .second, .val (.int (0 : Int32)), .val (.long r215), .second, .unset, .unset] []))
    refine GlW.back (fun _ k => XS.iconst X223.here hx rfl (hb hby at_101) k) ?_
    show GlW _ _ _ _ _ _ _ (T223.setTop (mkF m 102 #[.val (.long x0), .second, .val (.long x1), .second, .val (.long x2), .second, .val (.int x3), .val (.int x4), .val (.long x5), .second, .val (.ref b167), .val (.int (1 : Int32)), .val (.ref b201), .val (.ref b205), .val (.long (x5 &&& (9223372036854775807 : Int64))), .second, .val (.int (0 : Int32)), .val (.long r215), .second, .unset, .unset] [(.int (1 : Int32))]))
    refine GlW.back (fun _ k => XS.istore X223.here hx rfl (hb hby at_102) rfl (l' := #[.val (.long x0), .second, .val (.long x1), .second, .val (.long x2), .second, .val (.int x3), .val (.int x4), .val (.long x5), .second, .val (.ref b167), .val (.int (1 : Int32)), .val (.ref b201), .val (.ref b205), .val (.long (x5 &&& (9223372036854775807 : Int64))), .second, .val (.int (1 : Int32)), .val (.long r215), .second, .unset, .unset]) rfl k) ?_
    show GlW _ _ _ _ _ _ _ (T223.setTop (mkF m 104 #[.val (.long x0), .second, .val (.long x1), .second, .val (.long x2), .second, .val (.int x3), .val (.int x4), .val (.long x5), .second, .val (.ref b167), .val (.int (1 : Int32)), .val (.ref b201), .val (.ref b205), .val (.long (x5 &&& (9223372036854775807 : Int64))), .second, .val (.int (1 : Int32)), .val (.long r215), .second, .unset, .unset] []))
    refine GlW.back (fun _ k => XS.aload X223.here hx rfl (hb hby at_104) rfl rfl k) ?_
    show GlW _ _ _ _ _ _ _ (T223.setTop (mkF m 106 #[.val (.long x0), .second, .val (.long x1), .second, .val (.long x2), .second, .val (.int x3), .val (.int x4), .val (.long x5), .second, .val (.ref b167), .val (.int (1 : Int32)), .val (.ref b201), .val (.ref b205), .val (.long (x5 &&& (9223372036854775807 : Int64))), .second, .val (.int (1 : Int32)), .val (.long r215), .second, .unset, .unset] [(.ref b167)]))
    have f239 := (f224.keep Kq223)
    obtain ⟨cq238, kq238, q238a, q238b, q238c⟩ := isOf hZ223 rfl f239
    obtain ⟨_, _, ⟨T238, L238, k238, n238⟩, -, X238, ⟨Lc238, hQ238, l238, y238, z238⟩, st238⟩ := X223.virtualBack hx (y := (⟨"com/example/gavelwatch/gavelwatch/sim/RunningAuction", "hasBids", "()Z"⟩ : MethodName)) (z := (⟨"com/example/gavelwatch/gavelwatch/sim/RunningAuction", "hasBids", "()Z"⟩ : MethodName)) hown223 (mvT hZ223 (hw _ (List.mem_of_getElem? (i := 51) rfl))) (mvT hZ223 (hw _ (List.mem_of_getElem? (i := 52) rfl))) (notFace_of_selects (args := #[]) (mvT hZ223 (hw _ (List.mem_of_getElem? (i := 54) rfl)))) (mvT hZ223 (hw _ (List.mem_of_getElem? (i := 54) rfl))) (mvT hZ223 (hw _ (List.mem_of_getElem? (i := 53) rfl))) (by decide) (backOf (W := 0) (rmhas1 l Z a0 hw [] b167 c223 T223.heap n0 Zc223 Fh223) hZ223 (hw _ (List.mem_of_getElem? (i := 55) rfl)) (hw _ (List.mem_of_getElem? (i := 2) rfl)) (by decide) (by decide)) q238a q238c (g := (mkF m 106 #[.val (.long x0), .second, .val (.long x1), .second, .val (.long x2), .second, .val (.int x3), .val (.int x4), .val (.long x5), .second, .val (.ref b167), .val (.int (1 : Int32)), .val (.ref b201), .val (.ref b205), .val (.long (x5 &&& (9223372036854775807 : Int64))), .second, .val (.int (1 : Int32)), .val (.long r215), .second, .unset, .unset] [(.ref b167)])) rfl (by rw [hml]; rfl) (Steps.refl _) (argsL := []) (rest := []) (lenOf pd___Z rfl) rfl (by show 2 * 0 + _ ≤ _; exact Nat.le_of_eq rfl) (hb hby at_106) (fun _ _ => ⟨rfl, rfl, (by decide : 13 + 0 ≤ _), (by decide : 83 + 0 ≤ _)⟩)
    dsimp only [Pt.U, Pt.locs, Pt.cells, Pt.slots] at X238 l238 y238 z238 st238 hQ238
    subst l238 y238 z238
    obtain ⟨Nq238, rfl, eh238⟩ := hQ238
    have N238 := Fr.app N223 Nq238
    refine GlW.back (fun _ k => st238.trans k) ?_
    show GlW _ _ _ _ _ _ _ (T238.setTop (mkF m 109 #[.val (.long x0), .second, .val (.long x1), .second, .val (.long x2), .second, .val (.int x3), .val (.int x4), .val (.long x5), .second, .val (.ref b167), .val (.int (1 : Int32)), .val (.ref b201), .val (.ref b205), .val (.long (x5 &&& (9223372036854775807 : Int64))), .second, .val (.int (1 : Int32)), .val (.long r215), .second, .unset, .unset] [(.int (1 : Int32))]))
    refine GlW.back (fun _ k => XS.ifYes X238.here hx rfl (pc0 := 109) (pc' := 114) rfl (hb hby at_109) rfl ((if0 _ _).trans (feq (by decide : ¬ (1 : Int32) = (0 : Int32))).2) (by decide) (by decide) k) ?_
    show GlW _ _ _ _ _ _ _ (T238.setTop (mkF m 114 #[.val (.long x0), .second, .val (.long x1), .second, .val (.long x2), .second, .val (.int x3), .val (.int x4), .val (.long x5), .second, .val (.ref b167), .val (.int (1 : Int32)), .val (.ref b201), .val (.ref b205), .val (.long (x5 &&& (9223372036854775807 : Int64))), .second, .val (.int (1 : Int32)), .val (.long r215), .second, .unset, .unset] []))
    refine GlW.back (fun _ k => XS.iload X238.here hx rfl (hb hby at_114) rfl k) ?_
    show GlW _ _ _ _ _ _ _ (T238.setTop (mkF m 116 #[.val (.long x0), .second, .val (.long x1), .second, .val (.long x2), .second, .val (.int x3), .val (.int x4), .val (.long x5), .second, .val (.ref b167), .val (.int (1 : Int32)), .val (.ref b201), .val (.ref b205), .val (.long (x5 &&& (9223372036854775807 : Int64))), .second, .val (.int (1 : Int32)), .val (.long r215), .second, .unset, .unset] [(.int (1 : Int32))]))
    refine GlW.back (fun _ k => XS.iconst X238.here hx rfl (hb hby at_116) k) ?_
    show GlW _ _ _ _ _ _ _ (T238.setTop (mkF m 117 #[.val (.long x0), .second, .val (.long x1), .second, .val (.long x2), .second, .val (.int x3), .val (.int x4), .val (.long x5), .second, .val (.ref b167), .val (.int (1 : Int32)), .val (.ref b201), .val (.ref b205), .val (.long (x5 &&& (9223372036854775807 : Int64))), .second, .val (.int (1 : Int32)), .val (.long r215), .second, .unset, .unset] [(.int (2 : Int32)), (.int (1 : Int32))]))
    refine GlW.back (fun _ k => XS.icmpYes X238.here hx rfl (pc0 := 117) (pc' := 161) rfl (hb hby at_117) rfl (tlt (by decide : (1 : Int32) < (2 : Int32))).1 (by decide) (by decide) k) ?_
    show GlW _ _ _ _ _ _ _ (T238.setTop (mkF m 161 #[.val (.long x0), .second, .val (.long x1), .second, .val (.long x2), .second, .val (.int x3), .val (.int x4), .val (.long x5), .second, .val (.ref b167), .val (.int (1 : Int32)), .val (.ref b201), .val (.ref b205), .val (.long (x5 &&& (9223372036854775807 : Int64))), .second, .val (.int (1 : Int32)), .val (.long r215), .second, .unset, .unset] []))
    refine GlW.back (fun _ k => XS.aload X238.here hx rfl (hb hby at_161) rfl rfl k) ?_
    show GlW _ _ _ _ _ _ _ (T238.setTop (mkF m 163 #[.val (.long x0), .second, .val (.long x1), .second, .val (.long x2), .second, .val (.int x3), .val (.int x4), .val (.long x5), .second, .val (.ref b167), .val (.int (1 : Int32)), .val (.ref b201), .val (.ref b205), .val (.long (x5 &&& (9223372036854775807 : Int64))), .second, .val (.int (1 : Int32)), .val (.long r215), .second, .unset, .unset] [(.ref b167)]))
    obtain ⟨cq240, kq240, q240a, q240b, q240c⟩ := isOf hZ223 eh238 f239
    obtain ⟨_, _, ⟨T240, L240, k240, n240⟩, -, X240, ⟨Lc240, hQ240, l240, y240, z240⟩, st240⟩ := X238.virtualBack hx (y := (⟨"com/example/gavelwatch/gavelwatch/sim/RunningAuction", "hasBids", "()Z"⟩ : MethodName)) (z := (⟨"com/example/gavelwatch/gavelwatch/sim/RunningAuction", "hasBids", "()Z"⟩ : MethodName)) hown223 (mvT hZ223 (hw _ (List.mem_of_getElem? (i := 51) rfl))) (mvT hZ223 (hw _ (List.mem_of_getElem? (i := 52) rfl))) (notFace_of_selects (args := #[]) (mvT hZ223 (hw _ (List.mem_of_getElem? (i := 54) rfl)))) (mvT hZ223 (hw _ (List.mem_of_getElem? (i := 54) rfl))) (mvT hZ223 (hw _ (List.mem_of_getElem? (i := 53) rfl))) (by decide) (backOf (W := 0) (rmhas1 l Z a0 hw [] b167 c223 T223.heap n0 Zc223 Fh223) hZ223 (hw _ (List.mem_of_getElem? (i := 55) rfl)) (hw _ (List.mem_of_getElem? (i := 2) rfl)) (by decide) (by decide)) q240a q240c (g := (mkF m 163 #[.val (.long x0), .second, .val (.long x1), .second, .val (.long x2), .second, .val (.int x3), .val (.int x4), .val (.long x5), .second, .val (.ref b167), .val (.int (1 : Int32)), .val (.ref b201), .val (.ref b205), .val (.long (x5 &&& (9223372036854775807 : Int64))), .second, .val (.int (1 : Int32)), .val (.long r215), .second, .unset, .unset] [(.ref b167)])) rfl (by rw [hml]; rfl) (Steps.refl _) (argsL := []) (rest := []) (lenOf pd___Z rfl) rfl (by show 2 * 0 + _ ≤ _; exact Nat.le_of_eq rfl) (hb hby at_163) (fun _ _ => ⟨rfl, eh238, (by decide : 13 + 0 ≤ _), (by decide : 83 + 0 ≤ _)⟩)
    dsimp only [Pt.U, Pt.locs, Pt.cells, Pt.slots] at X240 l240 y240 z240 st240 hQ240
    subst l240 y240 z240
    obtain ⟨Nq240, rfl, eh240⟩ := hQ240
    have N240 := Fr.app N238 Nq240
    refine GlW.back (fun _ k => st240.trans k) ?_
    show GlW _ _ _ _ _ _ _ (T240.setTop (mkF m 166 #[.val (.long x0), .second, .val (.long x1), .second, .val (.long x2), .second, .val (.int x3), .val (.int x4), .val (.long x5), .second, .val (.ref b167), .val (.int (1 : Int32)), .val (.ref b201), .val (.ref b205), .val (.long (x5 &&& (9223372036854775807 : Int64))), .second, .val (.int (1 : Int32)), .val (.long r215), .second, .unset, .unset] [(.int (1 : Int32))]))
    refine GlW.back (fun _ k => XS.istore X240.here hx rfl (hb hby at_166) rfl (l' := #[.val (.long x0), .second, .val (.long x1), .second, .val (.long x2), .second, .val (.int x3), .val (.int x4), .val (.long x5), .second, .val (.ref b167), .val (.int (1 : Int32)), .val (.ref b201), .val (.ref b205), .val (.long (x5 &&& (9223372036854775807 : Int64))), .second, .val (.int (1 : Int32)), .val (.int (1 : Int32)), .unset, .unset, .unset]) rfl k) ?_
    show GlW _ _ _ _ _ _ _ (T240.setTop (mkF m 168 #[.val (.long x0), .second, .val (.long x1), .second, .val (.long x2), .second, .val (.int x3), .val (.int x4), .val (.long x5), .second, .val (.ref b167), .val (.int (1 : Int32)), .val (.ref b201), .val (.ref b205), .val (.long (x5 &&& (9223372036854775807 : Int64))), .second, .val (.int (1 : Int32)), .val (.int (1 : Int32)), .unset, .unset, .unset] []))
    refine GlW.back (fun _ k => XS.iload X240.here hx rfl (hb hby at_168) rfl k) ?_
    show GlW _ _ _ _ _ _ _ (T240.setTop (mkF m 170 #[.val (.long x0), .second, .val (.long x1), .second, .val (.long x2), .second, .val (.int x3), .val (.int x4), .val (.long x5), .second, .val (.ref b167), .val (.int (1 : Int32)), .val (.ref b201), .val (.ref b205), .val (.long (x5 &&& (9223372036854775807 : Int64))), .second, .val (.int (1 : Int32)), .val (.int (1 : Int32)), .unset, .unset, .unset] [(.int (1 : Int32))]))
    refine GlW.back (fun _ k => XS.iload X240.here hx rfl (hb hby at_170) rfl k) ?_
    show GlW _ _ _ _ _ _ _ (T240.setTop (mkF m 172 #[.val (.long x0), .second, .val (.long x1), .second, .val (.long x2), .second, .val (.int x3), .val (.int x4), .val (.long x5), .second, .val (.ref b167), .val (.int (1 : Int32)), .val (.ref b201), .val (.ref b205), .val (.long (x5 &&& (9223372036854775807 : Int64))), .second, .val (.int (1 : Int32)), .val (.int (1 : Int32)), .unset, .unset, .unset] [(.int (1 : Int32)), (.int (1 : Int32))]))
    refine GlW.back (fun _ k => XS.ifNo X240.here hx rfl (hb hby at_172) rfl ((if0 _ _).trans (tlt (by decide : (0 : Int32) < (1 : Int32))).2.2.2) k) ?_
    show GlW _ _ _ _ _ _ _ (T240.setTop (mkF m 175 #[.val (.long x0), .second, .val (.long x1), .second, .val (.long x2), .second, .val (.int x3), .val (.int x4), .val (.long x5), .second, .val (.ref b167), .val (.int (1 : Int32)), .val (.ref b201), .val (.ref b205), .val (.long (x5 &&& (9223372036854775807 : Int64))), .second, .val (.int (1 : Int32)), .val (.int (1 : Int32)), .unset, .unset, .unset] [(.int (1 : Int32))]))
    refine GlW.back (fun _ k => XS.iconst X240.here hx rfl (hb hby at_175) k) ?_
    show GlW _ _ _ _ _ _ _ (T240.setTop (mkF m 176 #[.val (.long x0), .second, .val (.long x1), .second, .val (.long x2), .second, .val (.int x3), .val (.int x4), .val (.long x5), .second, .val (.ref b167), .val (.int (1 : Int32)), .val (.ref b201), .val (.ref b205), .val (.long (x5 &&& (9223372036854775807 : Int64))), .second, .val (.int (1 : Int32)), .val (.int (1 : Int32)), .unset, .unset, .unset] [(.int (1 : Int32)), (.int (1 : Int32))]))
    refine GlW.back (fun _ k => XS.goto X240.here hx rfl (pc0 := 176) (pc' := 180) rfl (hb hby at_176) (by decide) (by decide) k) ?_
    show GlW _ _ _ _ _ _ _ (T240.setTop (mkF m 180 #[.val (.long x0), .second, .val (.long x1), .second, .val (.long x2), .second, .val (.int x3), .val (.int x4), .val (.long x5), .second, .val (.ref b167), .val (.int (1 : Int32)), .val (.ref b201), .val (.ref b205), .val (.long (x5 &&& (9223372036854775807 : Int64))), .second, .val (.int (1 : Int32)), .val (.int (1 : Int32)), .unset, .unset, .unset] [(.int (1 : Int32)), (.int (1 : Int32))]))
    refine GlW.back (fun _ k => XS.icmpNo X240.here hx rfl (hb hby at_180) rfl (teq (by decide : (1 : Int32) = (1 : Int32))).2 k) ?_
    show GlW _ _ _ _ _ _ _ (T240.setTop (mkF m 183 #[.val (.long x0), .second, .val (.long x1), .second, .val (.long x2), .second, .val (.int x3), .val (.int x4), .val (.long x5), .second, .val (.ref b167), .val (.int (1 : Int32)), .val (.ref b201), .val (.ref b205), .val (.long (x5 &&& (9223372036854775807 : Int64))), .second, .val (.int (1 : Int32)), .val (.int (1 : Int32)), .unset, .unset, .unset] []))
    refine GlW.back (fun _ k => XS.iload X240.here hx rfl (hb hby at_183) rfl k) ?_
    show GlW _ _ _ _ _ _ _ (T240.setTop (mkF m 185 #[.val (.long x0), .second, .val (.long x1), .second, .val (.long x2), .second, .val (.int x3), .val (.int x4), .val (.long x5), .second, .val (.ref b167), .val (.int (1 : Int32)), .val (.ref b201), .val (.ref b205), .val (.long (x5 &&& (9223372036854775807 : Int64))), .second, .val (.int (1 : Int32)), .val (.int (1 : Int32)), .unset, .unset, .unset] [(.int (1 : Int32))]))
    refine GlW.back (fun _ k => XS.aload X240.here hx rfl (hb hby at_185) rfl rfl k) ?_
    show GlW _ _ _ _ _ _ _ (T240.setTop (mkF m 187 #[.val (.long x0), .second, .val (.long x1), .second, .val (.long x2), .second, .val (.int x3), .val (.int x4), .val (.long x5), .second, .val (.ref b167), .val (.int (1 : Int32)), .val (.ref b201), .val (.ref b205), .val (.long (x5 &&& (9223372036854775807 : Int64))), .second, .val (.int (1 : Int32)), .val (.int (1 : Int32)), .unset, .unset, .unset] [(.ref b167), (.int (1 : Int32))]))
    obtain ⟨cq241, kq241, q241a, q241b, q241c⟩ := isOf hZ223 eh240 f239
    obtain ⟨_, _, ⟨T241, L241, k241, n241⟩, -, X241, ⟨Lc241, hQ241, l241, y241, z241⟩, st241⟩ := X240.virtualBack hx (y := (⟨"com/example/gavelwatch/gavelwatch/sim/RunningAuction", "bids", "()Ljava/util/List;"⟩ : MethodName)) (z := (⟨"com/example/gavelwatch/gavelwatch/sim/RunningAuction", "bids", "()Ljava/util/List;"⟩ : MethodName)) hown223 (mvT hZ223 (hw _ (List.mem_of_getElem? (i := 187) rfl))) (mvT hZ223 (hw _ (List.mem_of_getElem? (i := 188) rfl))) (notFace_of_selects (args := #[]) (mvT hZ223 (hw _ (List.mem_of_getElem? (i := 190) rfl)))) (mvT hZ223 (hw _ (List.mem_of_getElem? (i := 190) rfl))) (mvT hZ223 (hw _ (List.mem_of_getElem? (i := 189) rfl))) (by decide) (backOf (W := 1) (rmbids l Z a0 hw [] b167 l170 T223.heap n0 Zc223 Fb223) hZ223 (hw _ (List.mem_of_getElem? (i := 191) rfl)) (hw _ (List.mem_of_getElem? (i := 2) rfl)) (by decide) (by decide)) q241a q241c (g := (mkF m 187 #[.val (.long x0), .second, .val (.long x1), .second, .val (.long x2), .second, .val (.int x3), .val (.int x4), .val (.long x5), .second, .val (.ref b167), .val (.int (1 : Int32)), .val (.ref b201), .val (.ref b205), .val (.long (x5 &&& (9223372036854775807 : Int64))), .second, .val (.int (1 : Int32)), .val (.int (1 : Int32)), .unset, .unset, .unset] [(.ref b167), (.int (1 : Int32))])) rfl (by rw [hml]; rfl) (Steps.refl _) (argsL := []) (rest := [(.int (1 : Int32))]) (lenOf pd___Ljava_util_List_ rfl) rfl (by show 2 * 0 + _ ≤ _; exact Nat.le_of_eq rfl) (hb hby at_187) (fun _ _ => ⟨rfl, eh240, (by decide : 13 + 0 ≤ _), (by decide : 83 + 0 ≤ _)⟩)
    dsimp only [Pt.U, Pt.locs, Pt.cells, Pt.slots] at X241 l241 y241 z241 st241 hQ241
    subst l241 y241 z241
    obtain ⟨Nq241, rfl, eh241⟩ := hQ241
    have N241 := Fr.app N240 Nq241
    refine GlW.back (fun _ k => st241.trans k) ?_
    show GlW _ _ _ _ _ _ _ (T241.setTop (mkF m 190 #[.val (.long x0), .second, .val (.long x1), .second, .val (.long x2), .second, .val (.int x3), .val (.int x4), .val (.long x5), .second, .val (.ref b167), .val (.int (1 : Int32)), .val (.ref b201), .val (.ref b205), .val (.long (x5 &&& (9223372036854775807 : Int64))), .second, .val (.int (1 : Int32)), .val (.int (1 : Int32)), .unset, .unset, .unset] [(.ref l170), (.int (1 : Int32))]))
    have f243 := (f226.keep Kq223)
    obtain ⟨cq242, kq242, q242a, q242b, q242c⟩ := isOf hZ223 eh241 f243
    obtain ⟨_, _, ⟨T242, L242, k242, n242⟩, -, X242, ⟨Lc242, hQ242, l242, y242, z242⟩, st242⟩ := X241.interfaceBack hx (xi := (⟨"java/util/List", "size", "()I"⟩ : MethodName)) (y := (⟨"java/util/ArrayList", "size", "()I"⟩ : MethodName)) hown223 (mvT hZ223 (hw _ (List.mem_of_getElem? (i := 192) rfl))) (mvT hZ223 (hw _ (List.mem_of_getElem? (i := 193) rfl))) (mvT hZ223 (hw _ (List.mem_of_getElem? (i := 194) rfl))) (mvT hZ223 (hw _ (List.mem_of_getElem? (i := 195) rfl))) (mvT hZ223 (hw _ (List.mem_of_getElem? (i := 196) rfl))) (mvT hZ223 (hw _ (List.mem_of_getElem? (i := 197) rfl))) (mvT hZ223 (hw _ (List.mem_of_getElem? (i := 198) rfl))) (mvT hZ223 (hw _ (List.mem_of_getElem? (i := 155) rfl))) (by decide) (backOf (W := 1) (rmsize l Z a0 hw [] l170 (1 : Int32) T223.heap n0 Zc223 Fs223) hZ223 (hw _ (List.mem_of_getElem? (i := 199) rfl)) (hw _ (List.mem_of_getElem? (i := 25) rfl)) (by decide) (by decide)) q242a q242b q242c (g := (mkF m 190 #[.val (.long x0), .second, .val (.long x1), .second, .val (.long x2), .second, .val (.int x3), .val (.int x4), .val (.long x5), .second, .val (.ref b167), .val (.int (1 : Int32)), .val (.ref b201), .val (.ref b205), .val (.long (x5 &&& (9223372036854775807 : Int64))), .second, .val (.int (1 : Int32)), .val (.int (1 : Int32)), .unset, .unset, .unset] [(.ref l170), (.int (1 : Int32))])) rfl (by rw [hml]; rfl) (Steps.refl _) (argsL := []) (rest := [(.int (1 : Int32))]) (lenOf pd___I rfl) rfl (by show 2 * 0 + _ ≤ _; exact Nat.le_of_eq rfl) (hb hby at_190) (fun _ _ => ⟨rfl, eh241, (by decide : 13 + 0 ≤ _), (by decide : 83 + 0 ≤ _)⟩)
    dsimp only [Pt.U, Pt.locs, Pt.cells, Pt.slots] at X242 l242 y242 z242 st242 hQ242
    subst l242 y242 z242
    obtain ⟨Nq242, rfl, eh242⟩ := hQ242
    have N242 := Fr.app N241 Nq242
    refine GlW.back (fun _ k => st242.trans k) ?_
    show GlW _ _ _ _ _ _ _ (T242.setTop (mkF m 195 #[.val (.long x0), .second, .val (.long x1), .second, .val (.long x2), .second, .val (.int x3), .val (.int x4), .val (.long x5), .second, .val (.ref b167), .val (.int (1 : Int32)), .val (.ref b201), .val (.ref b205), .val (.long (x5 &&& (9223372036854775807 : Int64))), .second, .val (.int (1 : Int32)), .val (.int (1 : Int32)), .unset, .unset, .unset] [(.int (1 : Int32)), (.int (1 : Int32))]))
    refine GlW.back (fun _ k => XS.ifNo X242.here hx rfl (hb hby at_195) rfl ((if0 _ _).trans (feq (by decide : ¬ (1 : Int32) = (0 : Int32))).1) k) ?_
    show GlW _ _ _ _ _ _ _ (T242.setTop (mkF m 198 #[.val (.long x0), .second, .val (.long x1), .second, .val (.long x2), .second, .val (.int x3), .val (.int x4), .val (.long x5), .second, .val (.ref b167), .val (.int (1 : Int32)), .val (.ref b201), .val (.ref b205), .val (.long (x5 &&& (9223372036854775807 : Int64))), .second, .val (.int (1 : Int32)), .val (.int (1 : Int32)), .unset, .unset, .unset] [(.int (1 : Int32))]))
    refine GlW.back (fun _ k => XS.iconst X242.here hx rfl (hb hby at_198) k) ?_
    show GlW _ _ _ _ _ _ _ (T242.setTop (mkF m 199 #[.val (.long x0), .second, .val (.long x1), .second, .val (.long x2), .second, .val (.int x3), .val (.int x4), .val (.long x5), .second, .val (.ref b167), .val (.int (1 : Int32)), .val (.ref b201), .val (.ref b205), .val (.long (x5 &&& (9223372036854775807 : Int64))), .second, .val (.int (1 : Int32)), .val (.int (1 : Int32)), .unset, .unset, .unset] [(.int (1 : Int32)), (.int (1 : Int32))]))
    refine GlW.back (fun _ k => XS.goto X242.here hx rfl (pc0 := 199) (pc' := 203) rfl (hb hby at_199) (by decide) (by decide) k) ?_
    show GlW _ _ _ _ _ _ _ (T242.setTop (mkF m 203 #[.val (.long x0), .second, .val (.long x1), .second, .val (.long x2), .second, .val (.int x3), .val (.int x4), .val (.long x5), .second, .val (.ref b167), .val (.int (1 : Int32)), .val (.ref b201), .val (.ref b205), .val (.long (x5 &&& (9223372036854775807 : Int64))), .second, .val (.int (1 : Int32)), .val (.int (1 : Int32)), .unset, .unset, .unset] [(.int (1 : Int32)), (.int (1 : Int32))]))
    refine GlW.back (fun _ k => XS.icmpNo X242.here hx rfl (hb hby at_203) rfl (teq (by decide : (1 : Int32) = (1 : Int32))).2 k) ?_
    show GlW _ _ _ _ _ _ _ (T242.setTop (mkF m 206 #[.val (.long x0), .second, .val (.long x1), .second, .val (.long x2), .second, .val (.int x3), .val (.int x4), .val (.long x5), .second, .val (.ref b167), .val (.int (1 : Int32)), .val (.ref b201), .val (.ref b205), .val (.long (x5 &&& (9223372036854775807 : Int64))), .second, .val (.int (1 : Int32)), .val (.int (1 : Int32)), .unset, .unset, .unset] []))
    refine GlW.back (fun _ k => XS.iconst X242.here hx rfl (hb hby at_206) k) ?_
    show GlW _ _ _ _ _ _ _ (T242.setTop (mkF m 207 #[.val (.long x0), .second, .val (.long x1), .second, .val (.long x2), .second, .val (.int x3), .val (.int x4), .val (.long x5), .second, .val (.ref b167), .val (.int (1 : Int32)), .val (.ref b201), .val (.ref b205), .val (.long (x5 &&& (9223372036854775807 : Int64))), .second, .val (.int (1 : Int32)), .val (.int (1 : Int32)), .unset, .unset, .unset] [(.int (1 : Int32))]))
    refine GlW.back (fun _ k => XS.goto X242.here hx rfl (pc0 := 207) (pc' := 211) rfl (hb hby at_207) (by decide) (by decide) k) ?_
    show GlW _ _ _ _ _ _ _ (T242.setTop (mkF m 211 #[.val (.long x0), .second, .val (.long x1), .second, .val (.long x2), .second, .val (.int x3), .val (.int x4), .val (.long x5), .second, .val (.ref b167), .val (.int (1 : Int32)), .val (.ref b201), .val (.ref b205), .val (.long (x5 &&& (9223372036854775807 : Int64))), .second, .val (.int (1 : Int32)), .val (.int (1 : Int32)), .unset, .unset, .unset] [(.int (1 : Int32))]))
    exact GlW.ret X242 eh242 hS223 (Nat.le_refl _) (v := (some (.int (1 : Int32)))) (fun h => by rw [Bd.returns] at h; cases h) Bd.notSynchronized (fun fs hr => retN X242 hx (t := .boolean) (z := (1 : Int32)) Bd.returns (by simp) (hb hby at_211) hr) ⟨N242, rfl⟩ (by decide) (by decide)
  · rw [hk178]
    show GlW _ _ _ _ _ _ _ (T176.setTop (mkF m 31 #[.val (.long x0), .second, .val (.long x1), .second, .val (.long x2), .second, .val (.int x3), .val (.int x4), .val (.long x5), .second, .val (.ref b167), .unset, .unset, .unset, .unset, .unset, .unset, .unset, .unset, .unset, .unset] [(.int (2 : Int32))]))
    refine GlW.back (fun _ k => XS.istore X176.here hx rfl (hb hby at_31) rfl (l' := #[.val (.long x0), .second, .val (.long x1), .second, .val (.long x2), .second, .val (.int x3), .val (.int x4), .val (.long x5), .second, .val (.ref b167), .val (.int (2 : Int32)), .unset, .unset, .unset, .unset, .unset, .unset, .unset, .unset, .unset]) rfl k) ?_
    show GlW _ _ _ _ _ _ _ (T176.setTop (mkF m 33 #[.val (.long x0), .second, .val (.long x1), .second, .val (.long x2), .second, .val (.int x3), .val (.int x4), .val (.long x5), .second, .val (.ref b167), .val (.int (2 : Int32)), .unset, .unset, .unset, .unset, .unset, .unset, .unset, .unset, .unset] []))
    refine GlW.back (fun _ k => XS.iconst X176.here hx rfl (hb hby at_33) k) ?_
    show GlW _ _ _ _ _ _ _ (T176.setTop (mkF m 34 #[.val (.long x0), .second, .val (.long x1), .second, .val (.long x2), .second, .val (.int x3), .val (.int x4), .val (.long x5), .second, .val (.ref b167), .val (.int (2 : Int32)), .unset, .unset, .unset, .unset, .unset, .unset, .unset, .unset, .unset] [(.int (1 : Int32))]))
    obtain ⟨T244, h244, k244, X244, e244, E244, A244, st244⟩ := newP X176 hx hZ0 (hw _ (List.mem_of_getElem? (i := 58) rfl)) eh176 (g := (mkF m 34 #[.val (.long x0), .second, .val (.long x1), .second, .val (.long x2), .second, .val (.int x3), .val (.int x4), .val (.long x5), .second, .val (.ref b167), .val (.int (2 : Int32)), .unset, .unset, .unset, .unset, .unset, .unset, .unset, .unset, .unset] [(.int (1 : Int32))])) rfl (hb hby at_34) rfl (by decide) (cap := 1) (by decide) (by decide) (by decide) (by decide)
    obtain ⟨b244, g244⟩ : ∃ z, z = T170.heap.size := ⟨_, rfl⟩
    rw [← g244] at A244 st244
    have V244 : Arv Z h244 b244 k244 .char (1 : Int32) [(.int (0 : Int32))] (.int (0 : Int32)) := (Arv.new A244 (by decide)).pad (pad_rep [] (.int (0 : Int32)) 1)
    have ne_b167_b244 : b167 ≠ b244 := Nat.ne_of_lt (Nat.lt_of_lt_of_le f177.lt (Nat.le_of_eq g244.symm))
    have f245 := (f172.keep Kq170)
    have ne_b168_b244 : b168 ≠ b244 := Nat.ne_of_lt (Nat.lt_of_lt_of_le f245.lt (Nat.le_of_eq g244.symm))
    have ne_l170_b244 : l170 ≠ b244 := Nat.ne_of_lt (Nat.lt_of_lt_of_le El170.lt (Nat.le_of_eq g244.symm))
    have g_b244 : n0 ≤ b244 := Nat.le_trans Zc170 (Nat.le_of_eq g244.symm)
    have sz_b244 : h0.size ≤ b244 := Nat.le_trans Kc170.1 (Nat.le_of_eq g244.symm)
    have Z244 : n0 ≤ h244.size := Nat.le_trans Zc170 E244.1
    have K244 := Keep.ext Kc170 E244
    have O244 := Old.ext Oc170 E244
    have SK244 := Nat.le_trans SKc170 E244.1
    refine GlW.back (fun _ k => st244 _ k) ?_
    show GlW _ _ _ _ _ _ _ (T244.setTop (mkF m 36 #[.val (.long x0), .second, .val (.long x1), .second, .val (.long x2), .second, .val (.int x3), .val (.int x4), .val (.long x5), .second, .val (.ref b167), .val (.int (2 : Int32)), .unset, .unset, .unset, .unset, .unset, .unset, .unset, .unset, .unset] [(.ref b244)]))
    refine GlW.back (fun _ k => XS.dup X244.here hx rfl (hb hby at_36) rfl rfl k) ?_
    show GlW _ _ _ _ _ _ _ (T244.setTop (mkF m 37 #[.val (.long x0), .second, .val (.long x1), .second, .val (.long x2), .second, .val (.int x3), .val (.int x4), .val (.long x5), .second, .val (.ref b167), .val (.int (2 : Int32)), .unset, .unset, .unset, .unset, .unset, .unset, .unset, .unset, .unset] [(.ref b244), (.ref b244)]))
    refine GlW.back (fun _ k => XS.iconst X244.here hx rfl (hb hby at_37) k) ?_
    show GlW _ _ _ _ _ _ _ (T244.setTop (mkF m 38 #[.val (.long x0), .second, .val (.long x1), .second, .val (.long x2), .second, .val (.int x3), .val (.int x4), .val (.long x5), .second, .val (.ref b167), .val (.int (2 : Int32)), .unset, .unset, .unset, .unset, .unset, .unset, .unset, .unset, .unset] [(.int (0 : Int32)), (.ref b244), (.ref b244)]))
    refine GlW.back (fun _ k => XS.iload X244.here hx rfl (hb hby at_38) rfl k) ?_
    show GlW _ _ _ _ _ _ _ (T244.setTop (mkF m 40 #[.val (.long x0), .second, .val (.long x1), .second, .val (.long x2), .second, .val (.int x3), .val (.int x4), .val (.long x5), .second, .val (.ref b167), .val (.int (2 : Int32)), .unset, .unset, .unset, .unset, .unset, .unset, .unset, .unset, .unset] [(.int x4), (.int (0 : Int32)), (.ref b244), (.ref b244)]))
    refine GlW.back (fun _ k => XS.sipush X244.here hx rfl (hb hby at_40) k) ?_
    show GlW _ _ _ _ _ _ _ (T244.setTop (mkF m 43 #[.val (.long x0), .second, .val (.long x1), .second, .val (.long x2), .second, .val (.int x3), .val (.int x4), .val (.long x5), .second, .val (.ref b167), .val (.int (2 : Int32)), .unset, .unset, .unset, .unset, .unset, .unset, .unset, .unset, .unset] [(.int (255 : Int32)), (.int x4), (.int (0 : Int32)), (.ref b244), (.ref b244)]))
    refine GlW.back (fun _ k => XS.iand X244.here hx rfl (hb hby at_43) rfl k) ?_
    show GlW _ _ _ _ _ _ _ (T244.setTop (mkF m 44 #[.val (.long x0), .second, .val (.long x1), .second, .val (.long x2), .second, .val (.int x3), .val (.int x4), .val (.long x5), .second, .val (.ref b167), .val (.int (2 : Int32)), .unset, .unset, .unset, .unset, .unset, .unset, .unset, .unset, .unset] [(.int (x4 &&& (255 : Int32))), (.int (0 : Int32)), (.ref b244), (.ref b244)]))
    refine GlW.back (fun _ k => XS.i2c X244.here hx rfl (hb hby at_44) rfl k) ?_
    show GlW _ _ _ _ _ _ _ (T244.setTop (mkF m 45 #[.val (.long x0), .second, .val (.long x1), .second, .val (.long x2), .second, .val (.int x3), .val (.int x4), .val (.long x5), .second, .val (.ref b167), .val (.int (2 : Int32)), .unset, .unset, .unset, .unset, .unset, .unset, .unset, .unset, .unset] [(.int ((x4 &&& (255 : Int32)).toUInt32.toUInt16.toUInt32.toInt32)), (.int (0 : Int32)), (.ref b244), (.ref b244)]))
    obtain ⟨cl246, Ar246, q246, Sz246, Nn246, Hs246, Gf246⟩ := id V244
    have hin246 : ¬ ((0 : Int32) < 0 ∨ cl246.slots.size ≤ ((0 : Int32)).toNatClampNeg) := inb_of Sz246 ⟨by decide, by decide⟩
    obtain ⟨T247, h247, X247, e247, W247, st247⟩ := stC X244 hx hZ0 e244 Ar246 (j := (0 : Int32)) hin246 (g := (mkF m 45 #[.val (.long x0), .second, .val (.long x1), .second, .val (.long x2), .second, .val (.int x3), .val (.int x4), .val (.long x5), .second, .val (.ref b167), .val (.int (2 : Int32)), .unset, .unset, .unset, .unset, .unset, .unset, .unset, .unset, .unset] [(.int ((x4 &&& (255 : Int32)).toUInt32.toUInt16.toUInt32.toInt32)), (.int (0 : Int32)), (.ref b244), (.ref b244)])) rfl rfl (hb hby at_45)
    have V247 := Arv.set Ar246 q246 Sz246 Nn246 Hs246 Gf246 (fits_nar_char _) W247 0 rfl (Nat.le_of_ble_eq_true rfl)
    replace V247 : Arv Z h247 b244 k244 .char (1 : Int32) [(.int (nar .char ((x4 &&& (255 : Int32)).toUInt32.toUInt16.toUInt32.toInt32)))] (.int (0 : Int32)) := V247
    have K247 := Keep.wr K244 W247 (Or.inr sz_b244)
    have O247 := Old.wr O244 W247 g_b244
    have Z247 : n0 ≤ h247.size := Nat.le_trans Z244 (Keep.of_wr W247).1
    have SK247 := Nat.le_trans SK244 (Keep.of_wr W247).1
    have N247 := Fr.snoc X247 N176 g_b244
    refine GlW.back (fun _ k => st247 _ k) ?_
    show GlW _ _ _ _ _ _ _ (T247.setTop (mkF m 46 #[.val (.long x0), .second, .val (.long x1), .second, .val (.long x2), .second, .val (.int x3), .val (.int x4), .val (.long x5), .second, .val (.ref b167), .val (.int (2 : Int32)), .unset, .unset, .unset, .unset, .unset, .unset, .unset, .unset, .unset] [(.ref b244)]))
    refine GlW.back (fun _ k => XS.astore X247.here hx rfl (hb hby at_46) rfl rfl (l' := #[.val (.long x0), .second, .val (.long x1), .second, .val (.long x2), .second, .val (.int x3), .val (.int x4), .val (.long x5), .second, .val (.ref b167), .val (.int (2 : Int32)), .val (.ref b244), .unset, .unset, .unset, .unset, .unset, .unset, .unset, .unset]) rfl k) ?_
    show GlW _ _ _ _ _ _ _ (T247.setTop (mkF m 48 #[.val (.long x0), .second, .val (.long x1), .second, .val (.long x2), .second, .val (.int x3), .val (.int x4), .val (.long x5), .second, .val (.ref b167), .val (.int (2 : Int32)), .val (.ref b244), .unset, .unset, .unset, .unset, .unset, .unset, .unset, .unset] []))
    obtain ⟨T248, h248, X248, e248, E248, A248, D248, -, st248⟩ := newO X247 hx hZ0 hown0 (hw _ (List.mem_of_getElem? (i := 59) rfl)) (hw _ (List.mem_of_getElem? (i := 60) rfl)) (hw _ (List.mem_of_getElem? (i := 61) rfl)) e247 (g := (mkF m 48 #[.val (.long x0), .second, .val (.long x1), .second, .val (.long x2), .second, .val (.int x3), .val (.int x4), .val (.long x5), .second, .val (.ref b167), .val (.int (2 : Int32)), .val (.ref b244), .unset, .unset, .unset, .unset, .unset, .unset, .unset, .unset] [])) rfl (hb hby at_48) (by decide) (by decide)
    obtain ⟨b248, g248⟩ : ∃ z, z = h247.size := ⟨_, rfl⟩
    rw [← g248] at A248 D248 st248
    have f249 := ((f177.ext E244).wr W247)
    have ne_b167_b248 : b167 ≠ b248 := Nat.ne_of_lt (Nat.lt_of_lt_of_le f249.lt (Nat.le_of_eq g248.symm))
    have f250 := ((f245.ext E244).wr W247)
    have ne_b168_b248 : b168 ≠ b248 := Nat.ne_of_lt (Nat.lt_of_lt_of_le f250.lt (Nat.le_of_eq g248.symm))
    have f251 := ((El170.ext E244).wr W247)
    have ne_l170_b248 : l170 ≠ b248 := Nat.ne_of_lt (Nat.lt_of_lt_of_le f251.lt (Nat.le_of_eq g248.symm))
    have ne_b244_b248 : b244 ≠ b248 := Nat.ne_of_lt (Nat.lt_of_lt_of_le V247.lt (Nat.le_of_eq g248.symm))
    have g_b248 : n0 ≤ b248 := Nat.le_trans Z247 (Nat.le_of_eq g248.symm)
    have sz_b248 : h0.size ≤ b248 := Nat.le_trans K247.1 (Nat.le_of_eq g248.symm)
    have Z248 : n0 ≤ h248.size := Nat.le_trans Z247 E248.1
    have K248 := Keep.ext K247 E248
    have O248 := Old.ext O247 E248
    have SK248 := Nat.le_trans SK247 E248.1
    have F248_coder : Fld Z h248 b248 "java/lang/String" "coder" "B" (.int (0 : Int32)) := D248 (Or.inr (hw _ (List.mem_of_getElem? (i := 83) rfl))) (ty := .byte) (by decide)
    have F248_value : Fld Z h248 b248 "java/lang/String" "value" "[B" .null := D248 (Or.inr (hw _ (List.mem_of_getElem? (i := 85) rfl))) (ty := (.array .byte)) (by decide)
    refine GlW.back (fun _ k => st248 _ k) ?_
    show GlW _ _ _ _ _ _ _ (T248.setTop (mkF m 51 #[.val (.long x0), .second, .val (.long x1), .second, .val (.long x2), .second, .val (.int x3), .val (.int x4), .val (.long x5), .second, .val (.ref b167), .val (.int (2 : Int32)), .val (.ref b244), .unset, .unset, .unset, .unset, .unset, .unset, .unset, .unset] [(.ref b248)]))
    refine GlW.back (fun _ k => XS.dup X248.here hx rfl (hb hby at_51) rfl rfl k) ?_
    show GlW _ _ _ _ _ _ _ (T248.setTop (mkF m 52 #[.val (.long x0), .second, .val (.long x1), .second, .val (.long x2), .second, .val (.int x3), .val (.int x4), .val (.long x5), .second, .val (.ref b167), .val (.int (2 : Int32)), .val (.ref b244), .unset, .unset, .unset, .unset, .unset, .unset, .unset, .unset] [(.ref b248), (.ref b248)]))
    refine GlW.back (fun _ k => XS.aload X248.here hx rfl (hb hby at_52) rfl rfl k) ?_
    show GlW _ _ _ _ _ _ _ (T248.setTop (mkF m 54 #[.val (.long x0), .second, .val (.long x1), .second, .val (.long x2), .second, .val (.int x3), .val (.int x4), .val (.long x5), .second, .val (.ref b167), .val (.int (2 : Int32)), .val (.ref b244), .unset, .unset, .unset, .unset, .unset, .unset, .unset, .unset] [(.ref b244), (.ref b248), (.ref b248)]))
    have f252 := (f249.ext E248)
    have f253 := (f250.ext E248)
    have f254 := (f251.ext E248)
    have f255 := (V247.ext E248)
    have hws257 : ∀ d ∈ StrChars.Road.words, d.before a0 Z = true := fun d hd => hw d ((by decide +kernel : ∀ d ∈ StrChars.Road.words, d ∈ tables_1) d hd)
    have hlat257 : ∀ c ∈ [(nar .char ((x4 &&& (255 : Int32)).toUInt32.toUInt16.toUInt32.toInt32))], ¬ c < 0 ∧ ¬ (255 : Int32) < c := by
      intro c hc
      simp only [List.mem_cons, List.not_mem_nil, or_false] at hc
      subst hc
      exact (by rw [show (nar .char (((x4 &&& (255 : Int32))).toUInt32.toUInt16.toUInt32.toInt32)) = x4 &&& 255 from by simp only [nar, i2c_mask]]; exact own_and255 _)
    obtain ⟨_, _, ⟨T256, L256, k256, n256⟩, -, X256, ⟨Lc256, hQ256, l256, y256, z256⟩, st256⟩ := X248.specialBack hx (y := (⟨"java/lang/String", "<init>", "([C)V"⟩ : MethodName)) rfl hown0 (mvT hZ0 (hw _ (List.mem_of_getElem? (i := 62) rfl))) (mvT hZ0 (hw _ (List.mem_of_getElem? (i := 63) rfl))) (mvT hZ0 (hw _ (List.mem_of_getElem? (i := 64) rfl))) (by decide) (StrChars.Road.backV (W := 1) hZ0 hws257 (kI := 4) (hw _ (List.mem_of_getElem? (i := 60) rfl)) (cs := [(nar .char ((x4 &&& (255 : Int32)).toUInt32.toUInt16.toUInt32.toInt32))]) (bs := [((nar .char ((x4 &&& (255 : Int32)).toUInt32.toUInt16.toUInt32.toInt32))).toInt8.toInt32]) (n := 1) g_b248 Z248 A248 F248_value F248_coder f255 (S_COMPACT_STRINGS.ext O248.2) P0 rfl rfl (by decide) (by decide) hlat257 rfl (by decide) (by decide)) (g := (mkF m 54 #[.val (.long x0), .second, .val (.long x1), .second, .val (.long x2), .second, .val (.int x3), .val (.int x4), .val (.long x5), .second, .val (.ref b167), .val (.int (2 : Int32)), .val (.ref b244), .unset, .unset, .unset, .unset, .unset, .unset, .unset, .unset] [(.ref b244), (.ref b248), (.ref b248)])) rfl (by rw [hml]; rfl) (Steps.refl _) (a := b248) (argsL := [(.ref b244)]) (rest := [(.ref b248)]) (lenOf pd___C_V rfl) rfl (by show 2 * 0 + _ ≤ _; exact Nat.le_of_eq rfl) (hb hby at_54) (fun _ _ => ⟨rfl, e248, (by decide : 5 + 1 ≤ _), (by decide : 12 + 1 ≤ _)⟩)
    dsimp only [Pt.U, Pt.locs, Pt.cells, Pt.slots] at X256 l256 y256 z256 st256 hQ256
    subst l256 y256 z256
    obtain ⟨rfl, Nq256, Kq256, -, Fc256, t256, kb256, Gt256, St256, Nt256, Fv256, Vt256⟩ := hQ256
    have N256 := Fr.app N247 Nq256
    have Kc256 := Keep.trans K248 Kq256 (allS (Or.inr sz_b248) all0)
    have Zc256 : n0 ≤ T256.heap.size := Nat.le_trans Z248 Kq256.1
    have Oc256 := Old.keep O248 Kq256 (allS g_b248 all0)
    have SKc256 := Nat.le_trans SK248 Kq256.1
    have ne_b167_t256 : b167 ≠ t256 := Nat.ne_of_lt (Nat.lt_of_lt_of_le (f252).lt St256)
    have ne_b168_t256 : b168 ≠ t256 := Nat.ne_of_lt (Nat.lt_of_lt_of_le (f253).lt St256)
    have ne_l170_t256 : l170 ≠ t256 := Nat.ne_of_lt (Nat.lt_of_lt_of_le (f254).lt St256)
    have ne_b244_t256 : b244 ≠ t256 := Nat.ne_of_lt (Nat.lt_of_lt_of_le (f255).lt St256)
    have szt256 : h0.size ≤ t256 := Nat.le_trans K248.1 St256
    refine GlW.back (fun _ k => st256.trans k) ?_
    show GlW _ _ _ _ _ _ _ (T256.setTop (mkF m 57 #[.val (.long x0), .second, .val (.long x1), .second, .val (.long x2), .second, .val (.int x3), .val (.int x4), .val (.long x5), .second, .val (.ref b167), .val (.int (2 : Int32)), .val (.ref b244), .unset, .unset, .unset, .unset, .unset, .unset, .unset, .unset] [(.ref b248)]))
    refine GlW.back (fun _ k => XS.astore X256.here hx rfl (hb hby at_57) rfl rfl (l' := #[.val (.long x0), .second, .val (.long x1), .second, .val (.long x2), .second, .val (.int x3), .val (.int x4), .val (.long x5), .second, .val (.ref b167), .val (.int (2 : Int32)), .val (.ref b244), .val (.ref b248), .unset, .unset, .unset, .unset, .unset, .unset, .unset]) rfl k) ?_
    show GlW _ _ _ _ _ _ _ (T256.setTop (mkF m 59 #[.val (.long x0), .second, .val (.long x1), .second, .val (.long x2), .second, .val (.int x3), .val (.int x4), .val (.long x5), .second, .val (.ref b167), .val (.int (2 : Int32)), .val (.ref b244), .val (.ref b248), .unset, .unset, .unset, .unset, .unset, .unset, .unset] []))
    refine GlW.back (fun _ k => XS.lload X256.here hx rfl (hb hby at_59) rfl k) ?_
    show GlW _ _ _ _ _ _ _ (T256.setTop (mkF m 61 #[.val (.long x0), .second, .val (.long x1), .second, .val (.long x2), .second, .val (.int x3), .val (.int x4), .val (.long x5), .second, .val (.ref b167), .val (.int (2 : Int32)), .val (.ref b244), .val (.ref b248), .unset, .unset, .unset, .unset, .unset, .unset, .unset] [(.long x5)]))
    refine GlW.back (fun _ k => X256.ldc2Long hx hown0 (mvT hZ0 (hw _ (List.mem_of_getElem? (i := 86) rfl))) (g := (mkF m 61 #[.val (.long x0), .second, .val (.long x1), .second, .val (.long x2), .second, .val (.int x3), .val (.int x4), .val (.long x5), .second, .val (.ref b167), .val (.int (2 : Int32)), .val (.ref b244), .val (.ref b248), .unset, .unset, .unset, .unset, .unset, .unset, .unset] [(.long x5)])) rfl (hb hby at_61) _ k) ?_
    show GlW _ _ _ _ _ _ _ (T256.setTop (mkF m 64 #[.val (.long x0), .second, .val (.long x1), .second, .val (.long x2), .second, .val (.int x3), .val (.int x4), .val (.long x5), .second, .val (.ref b167), .val (.int (2 : Int32)), .val (.ref b244), .val (.ref b248), .unset, .unset, .unset, .unset, .unset, .unset, .unset] [(.long (9223372036854775807 : Int64)), (.long x5)]))
    refine GlW.back (fun _ k => XS.land X256.here hx rfl (hb hby at_64) rfl k) ?_
    show GlW _ _ _ _ _ _ _ (T256.setTop (mkF m 65 #[.val (.long x0), .second, .val (.long x1), .second, .val (.long x2), .second, .val (.int x3), .val (.int x4), .val (.long x5), .second, .val (.ref b167), .val (.int (2 : Int32)), .val (.ref b244), .val (.ref b248), .unset, .unset, .unset, .unset, .unset, .unset, .unset] [(.long (x5 &&& (9223372036854775807 : Int64)))]))
    refine GlW.back (fun _ k => XS.lstore X256.here hx rfl (hb hby at_65) rfl (l' := #[.val (.long x0), .second, .val (.long x1), .second, .val (.long x2), .second, .val (.int x3), .val (.int x4), .val (.long x5), .second, .val (.ref b167), .val (.int (2 : Int32)), .val (.ref b244), .val (.ref b248), .val (.long (x5 &&& (9223372036854775807 : Int64))), .second, .unset, .unset, .unset, .unset, .unset]) rfl k) ?_
    show GlW _ _ _ _ _ _ _ (T256.setTop (mkF m 67 #[.val (.long x0), .second, .val (.long x1), .second, .val (.long x2), .second, .val (.int x3), .val (.int x4), .val (.long x5), .second, .val (.ref b167), .val (.int (2 : Int32)), .val (.ref b244), .val (.ref b248), .val (.long (x5 &&& (9223372036854775807 : Int64))), .second, .unset, .unset, .unset, .unset, .unset] []))
    refine GlW.back (fun _ k => XS.iconst X256.here hx rfl (hb hby at_67) k) ?_
    show GlW _ _ _ _ _ _ _ (T256.setTop (mkF m 68 #[.val (.long x0), .second, .val (.long x1), .second, .val (.long x2), .second, .val (.int x3), .val (.int x4), .val (.long x5), .second, .val (.ref b167), .val (.int (2 : Int32)), .val (.ref b244), .val (.ref b248), .val (.long (x5 &&& (9223372036854775807 : Int64))), .second, .unset, .unset, .unset, .unset, .unset] [(.int (0 : Int32))]))
    refine GlW.back (fun _ k => XS.istore X256.here hx rfl (hb hby at_68) rfl (l' := #[.val (.long x0), .second, .val (.long x1), .second, .val (.long x2), .second, .val (.int x3), .val (.int x4), .val (.long x5), .second, .val (.ref b167), .val (.int (2 : Int32)), .val (.ref b244), .val (.ref b248), .val (.long (x5 &&& (9223372036854775807 : Int64))), .second, .val (.int (0 : Int32)), .unset, .unset, .unset, .unset]) rfl k) ?_
    show GlW _ _ _ _ _ _ _ (T256.setTop (mkF m 70 #[.val (.long x0), .second, .val (.long x1), .second, .val (.long x2), .second, .val (.int x3), .val (.int x4), .val (.long x5), .second, .val (.ref b167), .val (.int (2 : Int32)), .val (.ref b244), .val (.ref b248), .val (.long (x5 &&& (9223372036854775807 : Int64))), .second, .val (.int (0 : Int32)), .unset, .unset, .unset, .unset] []))
    refine GlW.back (fun _ k => XS.iload X256.here hx rfl (hb hby at_70) rfl k) ?_
    show GlW _ _ _ _ _ _ _ (T256.setTop (mkF m 72 #[.val (.long x0), .second, .val (.long x1), .second, .val (.long x2), .second, .val (.int x3), .val (.int x4), .val (.long x5), .second, .val (.ref b167), .val (.int (2 : Int32)), .val (.ref b244), .val (.ref b248), .val (.long (x5 &&& (9223372036854775807 : Int64))), .second, .val (.int (0 : Int32)), .unset, .unset, .unset, .unset] [(.int (2 : Int32))]))
    refine GlW.back (fun _ k => XS.iconst X256.here hx rfl (hb hby at_72) k) ?_
    show GlW _ _ _ _ _ _ _ (T256.setTop (mkF m 73 #[.val (.long x0), .second, .val (.long x1), .second, .val (.long x2), .second, .val (.int x3), .val (.int x4), .val (.long x5), .second, .val (.ref b167), .val (.int (2 : Int32)), .val (.ref b244), .val (.ref b248), .val (.long (x5 &&& (9223372036854775807 : Int64))), .second, .val (.int (0 : Int32)), .unset, .unset, .unset, .unset] [(.int (1 : Int32)), (.int (2 : Int32))]))
    refine GlW.back (fun _ k => XS.icmpNo X256.here hx rfl (hb hby at_73) rfl (flt (by decide : ¬ (2 : Int32) < (1 : Int32))).1 k) ?_
    show GlW _ _ _ _ _ _ _ (T256.setTop (mkF m 76 #[.val (.long x0), .second, .val (.long x1), .second, .val (.long x2), .second, .val (.int x3), .val (.int x4), .val (.long x5), .second, .val (.ref b167), .val (.int (2 : Int32)), .val (.ref b244), .val (.ref b248), .val (.long (x5 &&& (9223372036854775807 : Int64))), .second, .val (.int (0 : Int32)), .unset, .unset, .unset, .unset] []))
    refine GlW.back (fun _ k => XS.lloadN X256.here hx rfl (hb hby at_76) rfl k) ?_
    show GlW _ _ _ _ _ _ _ (T256.setTop (mkF m 77 #[.val (.long x0), .second, .val (.long x1), .second, .val (.long x2), .second, .val (.int x3), .val (.int x4), .val (.long x5), .second, .val (.ref b167), .val (.int (2 : Int32)), .val (.ref b244), .val (.ref b248), .val (.long (x5 &&& (9223372036854775807 : Int64))), .second, .val (.int (0 : Int32)), .unset, .unset, .unset, .unset] [(.long x0)]))
    refine GlW.back (fun _ k => XS.lloadN X256.here hx rfl (hb hby at_77) rfl k) ?_
    show GlW _ _ _ _ _ _ _ (T256.setTop (mkF m 78 #[.val (.long x0), .second, .val (.long x1), .second, .val (.long x2), .second, .val (.int x3), .val (.int x4), .val (.long x5), .second, .val (.ref b167), .val (.int (2 : Int32)), .val (.ref b244), .val (.ref b248), .val (.long (x5 &&& (9223372036854775807 : Int64))), .second, .val (.int (0 : Int32)), .unset, .unset, .unset, .unset] [(.long x1), (.long x0)]))
    obtain ⟨_, _, ⟨T258, L258, k258, n258⟩, -, X258, ⟨Lc258, hQ258, l258, y258, z258⟩, st258⟩ := Jvm.LawKit.callS X256 hx (y := (⟨"java/lang/Math", "max", "(JJ)J"⟩ : MethodName)) hown0 (mvT hZ0 (hw _ (List.mem_of_getElem? (i := 87) rfl))) (mvT hZ0 (hw _ (List.mem_of_getElem? (i := 88) rfl))) (mvT hZ0 (hw _ (List.mem_of_getElem? (i := 89) rfl))) (mvT hZ0 (hw _ (List.mem_of_getElem? (i := 90) rfl))) (by decide) (backOf (W := 0) (rmmaxJ l Z a0 hw [] x0 x1  T256.heap n0 Zc256 ) hZ0 (hw _ (List.mem_of_getElem? (i := 90) rfl)) (hw _ (List.mem_of_getElem? (i := 89) rfl)) (by decide) (by decide)) (g := (mkF m 78 #[.val (.long x0), .second, .val (.long x1), .second, .val (.long x2), .second, .val (.int x3), .val (.int x4), .val (.long x5), .second, .val (.ref b167), .val (.int (2 : Int32)), .val (.ref b244), .val (.ref b248), .val (.long (x5 &&& (9223372036854775807 : Int64))), .second, .val (.int (0 : Int32)), .unset, .unset, .unset, .unset] [(.long x1), (.long x0)])) rfl (by rw [hml]; rfl) (argsL := [(.long x0), (.long x1)]) (rest := []) (lenOf pd__JJ_J rfl) rfl (by show 2 * 0 + _ ≤ _; exact Nat.le_of_eq rfl) (hb hby at_78) (fun _ _ => ⟨rfl, rfl, (by decide : 6 + 0 ≤ _), (by decide : 13 + 0 ≤ _)⟩)
    dsimp only [Pt.U, Pt.locs, Pt.cells, Pt.slots] at X258 l258 y258 z258 st258 hQ258
    subst l258 y258 z258
    obtain ⟨Nq258, r258, rfl, hge258, hgf258, eh258⟩ := hQ258
    have N258 := Fr.app N256 Nq258
    refine GlW.back (fun _ k => st258 _ k) ?_
    show GlW _ _ _ _ _ _ _ (T258.setTop (mkF m 81 #[.val (.long x0), .second, .val (.long x1), .second, .val (.long x2), .second, .val (.int x3), .val (.int x4), .val (.long x5), .second, .val (.ref b167), .val (.int (2 : Int32)), .val (.ref b244), .val (.ref b248), .val (.long (x5 &&& (9223372036854775807 : Int64))), .second, .val (.int (0 : Int32)), .unset, .unset, .unset, .unset] [(.long r258)]))
    refine GlW.back (fun _ k => XS.lstore X258.here hx rfl (hb hby at_81) rfl (l' := #[.val (.long x0), .second, .val (.long x1), .second, .val (.long x2), .second, .val (.int x3), .val (.int x4), .val (.long x5), .second, .val (.ref b167), .val (.int (2 : Int32)), .val (.ref b244), .val (.ref b248), .val (.long (x5 &&& (9223372036854775807 : Int64))), .second, .val (.int (0 : Int32)), .val (.long r258), .second, .unset, .unset]) rfl k) ?_
    show GlW _ _ _ _ _ _ _ (T258.setTop (mkF m 83 #[.val (.long x0), .second, .val (.long x1), .second, .val (.long x2), .second, .val (.int x3), .val (.int x4), .val (.long x5), .second, .val (.ref b167), .val (.int (2 : Int32)), .val (.ref b244), .val (.ref b248), .val (.long (x5 &&& (9223372036854775807 : Int64))), .second, .val (.int (0 : Int32)), .val (.long r258), .second, .unset, .unset] []))
    refine GlW.back (fun _ k => XS.aload X258.here hx rfl (hb hby at_83) rfl rfl k) ?_
    show GlW _ _ _ _ _ _ _ (T258.setTop (mkF m 85 #[.val (.long x0), .second, .val (.long x1), .second, .val (.long x2), .second, .val (.int x3), .val (.int x4), .val (.long x5), .second, .val (.ref b167), .val (.int (2 : Int32)), .val (.ref b244), .val (.ref b248), .val (.long (x5 &&& (9223372036854775807 : Int64))), .second, .val (.int (0 : Int32)), .val (.long r258), .second, .unset, .unset] [(.ref b167)]))
    refine GlW.back (fun _ k => XS.aload X258.here hx rfl (hb hby at_85) rfl rfl k) ?_
    show GlW _ _ _ _ _ _ _ (T258.setTop (mkF m 87 #[.val (.long x0), .second, .val (.long x1), .second, .val (.long x2), .second, .val (.int x3), .val (.int x4), .val (.long x5), .second, .val (.ref b167), .val (.int (2 : Int32)), .val (.ref b244), .val (.ref b248), .val (.long (x5 &&& (9223372036854775807 : Int64))), .second, .val (.int (0 : Int32)), .val (.long r258), .second, .unset, .unset] [(.ref b248), (.ref b167)]))
    obtain ⟨T259, h259, X259, e259, E259, A259, D259, -, st259⟩ := newO X258 hx hZ0 hown0 (hw _ (List.mem_of_getElem? (i := 3) rfl)) (hw _ (List.mem_of_getElem? (i := 4) rfl)) (hw _ (List.mem_of_getElem? (i := 5) rfl)) eh258 (g := (mkF m 87 #[.val (.long x0), .second, .val (.long x1), .second, .val (.long x2), .second, .val (.int x3), .val (.int x4), .val (.long x5), .second, .val (.ref b167), .val (.int (2 : Int32)), .val (.ref b244), .val (.ref b248), .val (.long (x5 &&& (9223372036854775807 : Int64))), .second, .val (.int (0 : Int32)), .val (.long r258), .second, .unset, .unset] [(.ref b248), (.ref b167)])) rfl (hb hby at_87) (by decide) (by decide)
    obtain ⟨b259, g259⟩ : ∃ z, z = T256.heap.size := ⟨_, rfl⟩
    rw [← g259] at A259 D259 st259
    have f260 := (f252.keep Kq256)
    have ne_b167_b259 : b167 ≠ b259 := Nat.ne_of_lt (Nat.lt_of_lt_of_le f260.lt (Nat.le_of_eq g259.symm))
    have f261 := (f253.keep Kq256)
    have ne_b168_b259 : b168 ≠ b259 := Nat.ne_of_lt (Nat.lt_of_lt_of_le f261.lt (Nat.le_of_eq g259.symm))
    have f262 := (f254.keep Kq256)
    have ne_l170_b259 : l170 ≠ b259 := Nat.ne_of_lt (Nat.lt_of_lt_of_le f262.lt (Nat.le_of_eq g259.symm))
    have f263 := (f255.keep Kq256 (ninS ne_b244_b248 nin0))
    have ne_b244_b259 : b244 ≠ b259 := Nat.ne_of_lt (Nat.lt_of_lt_of_le f263.lt (Nat.le_of_eq g259.symm))
    have f264 := (A248.keep Kq256)
    have ne_b248_b259 : b248 ≠ b259 := Nat.ne_of_lt (Nat.lt_of_lt_of_le f264.lt (Nat.le_of_eq g259.symm))
    have ne_t256_b259 : t256 ≠ b259 := Nat.ne_of_lt (Nat.lt_of_lt_of_le Vt256.lt (Nat.le_of_eq g259.symm))
    have g_b259 : n0 ≤ b259 := Nat.le_trans Zc256 (Nat.le_of_eq g259.symm)
    have sz_b259 : h0.size ≤ b259 := Nat.le_trans Kc256.1 (Nat.le_of_eq g259.symm)
    have Z259 : n0 ≤ h259.size := Nat.le_trans Zc256 E259.1
    have K259 := Keep.ext Kc256 E259
    have O259 := Old.ext Oc256 E259
    have SK259 := Nat.le_trans SKc256 E259.1
    have F259_cents : Fld Z h259 b259 "com/example/gavelwatch/gavelwatch/model/Money" "cents" "J" (.long (0 : Int64)) := D259 (Or.inr (hw _ (List.mem_of_getElem? (i := 18) rfl))) (ty := .long) (by decide)
    refine GlW.back (fun _ k => st259 _ k) ?_
    show GlW _ _ _ _ _ _ _ (T259.setTop (mkF m 90 #[.val (.long x0), .second, .val (.long x1), .second, .val (.long x2), .second, .val (.int x3), .val (.int x4), .val (.long x5), .second, .val (.ref b167), .val (.int (2 : Int32)), .val (.ref b244), .val (.ref b248), .val (.long (x5 &&& (9223372036854775807 : Int64))), .second, .val (.int (0 : Int32)), .val (.long r258), .second, .unset, .unset] [(.ref b259), (.ref b248), (.ref b167)]))
    refine GlW.back (fun _ k => XS.dup X259.here hx rfl (hb hby at_90) rfl rfl k) ?_
    show GlW _ _ _ _ _ _ _ (T259.setTop (mkF m 91 #[.val (.long x0), .second, .val (.long x1), .second, .val (.long x2), .second, .val (.int x3), .val (.int x4), .val (.long x5), .second, .val (.ref b167), .val (.int (2 : Int32)), .val (.ref b244), .val (.ref b248), .val (.long (x5 &&& (9223372036854775807 : Int64))), .second, .val (.int (0 : Int32)), .val (.long r258), .second, .unset, .unset] [(.ref b259), (.ref b259), (.ref b248), (.ref b167)]))
    refine GlW.back (fun _ k => XS.lload X259.here hx rfl (hb hby at_91) rfl k) ?_
    show GlW _ _ _ _ _ _ _ (T259.setTop (mkF m 93 #[.val (.long x0), .second, .val (.long x1), .second, .val (.long x2), .second, .val (.int x3), .val (.int x4), .val (.long x5), .second, .val (.ref b167), .val (.int (2 : Int32)), .val (.ref b244), .val (.ref b248), .val (.long (x5 &&& (9223372036854775807 : Int64))), .second, .val (.int (0 : Int32)), .val (.long r258), .second, .unset, .unset] [(.long r258), (.ref b259), (.ref b259), (.ref b248), (.ref b167)]))
    obtain ⟨_, _, ⟨T265, L265, k265, n265⟩, -, X265, ⟨Lc265, hQ265, l265, y265, z265⟩, st265⟩ := X259.specialBack hx (y := (⟨"com/example/gavelwatch/gavelwatch/model/Money", "<init>", "(J)V"⟩ : MethodName)) rfl hown0 (mvT hZ0 (hw _ (List.mem_of_getElem? (i := 6) rfl))) (mvT hZ0 (hw _ (List.mem_of_getElem? (i := 7) rfl))) (mvT hZ0 (hw _ (List.mem_of_getElem? (i := 8) rfl))) (by decide) (backOf (W := 3) (rmmoney l Z a0 hw [] b259 r258  h259 n0 Z259 g_b259 A259 F259_cents) hZ0 (hw _ (List.mem_of_getElem? (i := 8) rfl)) (hw _ (List.mem_of_getElem? (i := 5) rfl)) (by decide) (by decide)) (g := (mkF m 93 #[.val (.long x0), .second, .val (.long x1), .second, .val (.long x2), .second, .val (.int x3), .val (.int x4), .val (.long x5), .second, .val (.ref b167), .val (.int (2 : Int32)), .val (.ref b244), .val (.ref b248), .val (.long (x5 &&& (9223372036854775807 : Int64))), .second, .val (.int (0 : Int32)), .val (.long r258), .second, .unset, .unset] [(.long r258), (.ref b259), (.ref b259), (.ref b248), (.ref b167)])) rfl (by rw [hml]; rfl) (Steps.refl _) (a := b259) (argsL := [(.long r258)]) (rest := [(.ref b259), (.ref b248), (.ref b167)]) (lenOf pd__J_V rfl) rfl (by show 2 * 0 + _ ≤ _; exact Nat.le_of_eq rfl) (hb hby at_93) (fun _ _ => ⟨rfl, e259, (by decide : 7 + 0 ≤ _), (by decide : 14 + 0 ≤ _)⟩)
    dsimp only [Pt.U, Pt.locs, Pt.cells, Pt.slots] at X265 l265 y265 z265 st265 hQ265
    subst l265 y265 z265
    obtain ⟨Nq265, rfl, Kq265, Fc265⟩ := hQ265
    have N265 := Fr.app N258 Nq265
    have Kc265 := Keep.trans K259 Kq265 (allS (Or.inr sz_b259) all0)
    have Zc265 : n0 ≤ T265.heap.size := Nat.le_trans Z259 Kq265.1
    have Oc265 := Old.keep O259 Kq265 (allS g_b259 all0)
    have SKc265 := Nat.le_trans SK259 Kq265.1
    refine GlW.back (fun _ k => st265.trans k) ?_
    show GlW _ _ _ _ _ _ _ (T265.setTop (mkF m 96 #[.val (.long x0), .second, .val (.long x1), .second, .val (.long x2), .second, .val (.int x3), .val (.int x4), .val (.long x5), .second, .val (.ref b167), .val (.int (2 : Int32)), .val (.ref b244), .val (.ref b248), .val (.long (x5 &&& (9223372036854775807 : Int64))), .second, .val (.int (0 : Int32)), .val (.long r258), .second, .unset, .unset] [(.ref b259), (.ref b248), (.ref b167)]))
    refine GlW.back (fun _ k => XS.lload X265.here hx rfl (hb hby at_96) rfl k) ?_
    show GlW _ _ _ _ _ _ _ (T265.setTop (mkF m 98 #[.val (.long x0), .second, .val (.long x1), .second, .val (.long x2), .second, .val (.int x3), .val (.int x4), .val (.long x5), .second, .val (.ref b167), .val (.int (2 : Int32)), .val (.ref b244), .val (.ref b248), .val (.long (x5 &&& (9223372036854775807 : Int64))), .second, .val (.int (0 : Int32)), .val (.long r258), .second, .unset, .unset] [(.long (x5 &&& (9223372036854775807 : Int64))), (.ref b259), (.ref b248), (.ref b167)]))
    have f267 := ((f260.ext E259).keep Kq265)
    have f268 := ((f261.ext E259).keep Kq265)
    have f269 := ((f262.ext E259).keep Kq265)
    have f270 := ((f263.ext E259).keep Kq265 (ninS ne_b244_b259 nin0))
    have f271 := ((f264.ext E259).keep Kq265)
    have f272 := ((Vt256.ext E259).keep Kq265 (ninS ne_t256_b259 nin0))
    have f273 := (A259.keep Kq265)
    have f274 := ((((((Fh170.ext E244).other W247 (Or.inl ne_b167_b244)).ext E248).keep Kq256 (ninS ne_b167_b248 nin0)).ext E259).keep Kq265 (ninS ne_b167_b259 nin0))
    have f275 := ((((((Fb170.ext E244).other W247 (Or.inl ne_b167_b244)).ext E248).keep Kq256 (ninS ne_b167_b248 nin0)).ext E259).keep Kq265 (ninS ne_b167_b259 nin0))
    have f276 := ((((((Fo170.ext E244).other W247 (Or.inl ne_b167_b244)).ext E248).keep Kq256 (ninS ne_b167_b248 nin0)).ext E259).keep Kq265 (ninS ne_b167_b259 nin0))
    have f277 := (((((((Fc169.keep Kq170 (ninS (Ne.symm ne_b167_b168) nin0)).ext E244).other W247 (Or.inl ne_b168_b244)).ext E248).keep Kq256 (ninS ne_b168_b248 nin0)).ext E259).keep Kq265 (ninS ne_b168_b259 nin0))
    have f278 := ((((((Fm170.ext E244).other W247 (Or.inl ne_l170_b244)).ext E248).keep Kq256 (ninS ne_l170_b248 nin0)).ext E259).keep Kq265 (ninS ne_l170_b259 nin0))
    have f279 := ((((((Fe170.ext E244).other W247 (Or.inl ne_l170_b244)).ext E248).keep Kq256 (ninS ne_l170_b248 nin0)).ext E259).keep Kq265 (ninS ne_l170_b259 nin0))
    have f280 := ((((((Fs170.ext E244).other W247 (Or.inl ne_l170_b244)).ext E248).keep Kq256 (ninS ne_l170_b248 nin0)).ext E259).keep Kq265 (ninS ne_l170_b259 nin0))
    obtain ⟨cq266, kq266, q266a, q266b, q266c⟩ := isOf hZ0 rfl f267
    obtain ⟨_, _, ⟨T266, L266, k266, n266⟩, -, X266, hS2266, hg2266, ⟨Lc266, hQ266, l266, y266, z266⟩, st266⟩ := X265.virtualBackS hx (y := (⟨"com/example/gavelwatch/gavelwatch/sim/RunningAuction", "place", "(Ljava/lang/String;Lcom/example/gavelwatch/gavelwatch/model/Money;J)V"⟩ : MethodName)) (z := (⟨"com/example/gavelwatch/gavelwatch/sim/RunningAuction", "place", "(Ljava/lang/String;Lcom/example/gavelwatch/gavelwatch/model/Money;J)V"⟩ : MethodName)) hown0 (mvT hZ0 (hw _ (List.mem_of_getElem? (i := 91) rfl))) (mvT hZ0 (hw _ (List.mem_of_getElem? (i := 92) rfl))) (notFace_of_selects (args := #[]) (mvT hZ0 (hw _ (List.mem_of_getElem? (i := 94) rfl)))) (mvT hZ0 (hw _ (List.mem_of_getElem? (i := 94) rfl))) (mvT hZ0 (hw _ (List.mem_of_getElem? (i := 93) rfl))) (by decide) (backOfS (W := 0) (rmplace0 l Z a0 hw [] b167 b248 b259 (x5 &&& (9223372036854775807 : Int64)) l170 b168 u wD kD (0 : Int32) r258 x0 T265.heap n0 Zc265 Oc265 g_b167 f267 f274 f275 f276 f268 f277 f273 Fc265 Gz170 f269 f278 f279 f280 S_DEFAULTCAPACITY_EMPTY_ELEMENTDATA V_wD S_SECONDS E_u F_u_scale F_u_maxNanos hge258 ne_b167_l170 ne_b167_b168 ne_b167_b259 (Ne.symm ne_b168_l170) ne_l170_b259 (own_nn x5)) hZ0 (hw _ (List.mem_of_getElem? (i := 95) rfl)) (hw _ (List.mem_of_getElem? (i := 2) rfl)) (by decide) (by decide)) q266a q266c (g := (mkF m 98 #[.val (.long x0), .second, .val (.long x1), .second, .val (.long x2), .second, .val (.int x3), .val (.int x4), .val (.long x5), .second, .val (.ref b167), .val (.int (2 : Int32)), .val (.ref b244), .val (.ref b248), .val (.long (x5 &&& (9223372036854775807 : Int64))), .second, .val (.int (0 : Int32)), .val (.long r258), .second, .unset, .unset] [(.long (x5 &&& (9223372036854775807 : Int64))), (.ref b259), (.ref b248), (.ref b167)])) rfl (by rw [hml]; rfl) (Steps.refl _) (argsL := [(.ref b248), (.ref b259), (.long (x5 &&& (9223372036854775807 : Int64)))]) (rest := []) (lenOf pd__Ljava_lang_String_Lcom_example_gavelwatch_gavelwatch_model_Money_J_V rfl) rfl (by show 2 * 0 + _ ≤ _; exact Nat.le_of_eq rfl) (hb hby at_98) (fun _ _ => ⟨rfl, rfl, (by decide : 7 + 6 ≤ _), (by decide : 14 + 69 ≤ _)⟩)
    dsimp only [Pt.U, Pt.locs, Pt.cells, Pt.slots] at X266 l266 y266 z266 st266 hQ266 hS2266 hg2266
    subst l266 y266 z266
    obtain ⟨X266, hS266, hZ266, hown266⟩ := rebS hS0 (SKc265) X266 hS2266 hg2266 hZ0 hown0
    obtain ⟨Nq266, rfl, Kq266, c266, t266, k0266, Sc266, Gc266, Sz266, Gz266, Nct266, Ec266, Fh266, Fa266, Fb266, Fe266, Fs266, Fm266, V266, Ov266, -⟩ := hQ266
    have N266 := Fr.app N265 Nq266
    have Kc266 := Keep.trans Kc265 Kq266 (allS (Or.inr sz_b167) (allS (Or.inr sz_l170) all0))
    have Zc266 : n0 ≤ T266.heap.size := Nat.le_trans Zc265 Kq266.1
    have Oc266 := Old.keep Oc265 Kq266 (allS g_b167 (allS Gz170 all0))
    have ne_b167_c266 : b167 ≠ c266 := Nat.ne_of_lt (Nat.lt_of_lt_of_le (f267).lt Sc266)
    have ne_b168_c266 : b168 ≠ c266 := Nat.ne_of_lt (Nat.lt_of_lt_of_le (f268).lt Sc266)
    have ne_l170_c266 : l170 ≠ c266 := Nat.ne_of_lt (Nat.lt_of_lt_of_le (f269).lt Sc266)
    have ne_b244_c266 : b244 ≠ c266 := Nat.ne_of_lt (Nat.lt_of_lt_of_le (f270).lt Sc266)
    have ne_b248_c266 : b248 ≠ c266 := Nat.ne_of_lt (Nat.lt_of_lt_of_le (f271).lt Sc266)
    have ne_t256_c266 : t256 ≠ c266 := Nat.ne_of_lt (Nat.lt_of_lt_of_le (f272).lt Sc266)
    have ne_b259_c266 : b259 ≠ c266 := Nat.ne_of_lt (Nat.lt_of_lt_of_le (f273).lt Sc266)
    have sz_c266 : h0.size ≤ c266 := Nat.le_trans Kc265.1 Sc266
    have ne_b167_t266 : b167 ≠ t266 := Nat.ne_of_lt (Nat.lt_of_lt_of_le (f267).lt Sz266)
    have ne_b168_t266 : b168 ≠ t266 := Nat.ne_of_lt (Nat.lt_of_lt_of_le (f268).lt Sz266)
    have ne_l170_t266 : l170 ≠ t266 := Nat.ne_of_lt (Nat.lt_of_lt_of_le (f269).lt Sz266)
    have ne_b244_t266 : b244 ≠ t266 := Nat.ne_of_lt (Nat.lt_of_lt_of_le (f270).lt Sz266)
    have ne_b248_t266 : b248 ≠ t266 := Nat.ne_of_lt (Nat.lt_of_lt_of_le (f271).lt Sz266)
    have ne_t256_t266 : t256 ≠ t266 := Nat.ne_of_lt (Nat.lt_of_lt_of_le (f272).lt Sz266)
    have ne_b259_t266 : b259 ≠ t266 := Nat.ne_of_lt (Nat.lt_of_lt_of_le (f273).lt Sz266)
    have sz_t266 : h0.size ≤ t266 := Nat.le_trans Kc265.1 Sz266
    refine GlW.back (fun _ k => st266.trans k) ?_
    show GlW _ _ _ _ _ _ _ (T266.setTop (mkF m 101 #[.val (.long x0), .second, .val (.long x1), .second, .val (.long x2), .second, .val (.int x3), .val (.int x4), .val (.long x5), .second, .val (.ref b167), .val (.int (2 : Int32)), .val (.ref b244), .val (.ref b248), .val (.long (x5 &&& (9223372036854775807 : Int64))), .second, .val (.int (0 : Int32)), .val (.long r258), .second, .unset, .unset] []))
    refine GlW.back (fun _ k => XS.iconst X266.here hx rfl (hb hby at_101) k) ?_
    show GlW _ _ _ _ _ _ _ (T266.setTop (mkF m 102 #[.val (.long x0), .second, .val (.long x1), .second, .val (.long x2), .second, .val (.int x3), .val (.int x4), .val (.long x5), .second, .val (.ref b167), .val (.int (2 : Int32)), .val (.ref b244), .val (.ref b248), .val (.long (x5 &&& (9223372036854775807 : Int64))), .second, .val (.int (0 : Int32)), .val (.long r258), .second, .unset, .unset] [(.int (1 : Int32))]))
    refine GlW.back (fun _ k => XS.istore X266.here hx rfl (hb hby at_102) rfl (l' := #[.val (.long x0), .second, .val (.long x1), .second, .val (.long x2), .second, .val (.int x3), .val (.int x4), .val (.long x5), .second, .val (.ref b167), .val (.int (2 : Int32)), .val (.ref b244), .val (.ref b248), .val (.long (x5 &&& (9223372036854775807 : Int64))), .second, .val (.int (1 : Int32)), .val (.long r258), .second, .unset, .unset]) rfl k) ?_
    show GlW _ _ _ _ _ _ _ (T266.setTop (mkF m 104 #[.val (.long x0), .second, .val (.long x1), .second, .val (.long x2), .second, .val (.int x3), .val (.int x4), .val (.long x5), .second, .val (.ref b167), .val (.int (2 : Int32)), .val (.ref b244), .val (.ref b248), .val (.long (x5 &&& (9223372036854775807 : Int64))), .second, .val (.int (1 : Int32)), .val (.long r258), .second, .unset, .unset] []))
    refine GlW.back (fun _ k => XS.aload X266.here hx rfl (hb hby at_104) rfl rfl k) ?_
    show GlW _ _ _ _ _ _ _ (T266.setTop (mkF m 106 #[.val (.long x0), .second, .val (.long x1), .second, .val (.long x2), .second, .val (.int x3), .val (.int x4), .val (.long x5), .second, .val (.ref b167), .val (.int (2 : Int32)), .val (.ref b244), .val (.ref b248), .val (.long (x5 &&& (9223372036854775807 : Int64))), .second, .val (.int (1 : Int32)), .val (.long r258), .second, .unset, .unset] [(.ref b167)]))
    have f282 := (f267.keep Kq266)
    obtain ⟨cq281, kq281, q281a, q281b, q281c⟩ := isOf hZ266 rfl f282
    obtain ⟨_, _, ⟨T281, L281, k281, n281⟩, -, X281, ⟨Lc281, hQ281, l281, y281, z281⟩, st281⟩ := X266.virtualBack hx (y := (⟨"com/example/gavelwatch/gavelwatch/sim/RunningAuction", "hasBids", "()Z"⟩ : MethodName)) (z := (⟨"com/example/gavelwatch/gavelwatch/sim/RunningAuction", "hasBids", "()Z"⟩ : MethodName)) hown266 (mvT hZ266 (hw _ (List.mem_of_getElem? (i := 51) rfl))) (mvT hZ266 (hw _ (List.mem_of_getElem? (i := 52) rfl))) (notFace_of_selects (args := #[]) (mvT hZ266 (hw _ (List.mem_of_getElem? (i := 54) rfl)))) (mvT hZ266 (hw _ (List.mem_of_getElem? (i := 54) rfl))) (mvT hZ266 (hw _ (List.mem_of_getElem? (i := 53) rfl))) (by decide) (backOf (W := 0) (rmhas1 l Z a0 hw [] b167 c266 T266.heap n0 Zc266 Fh266) hZ266 (hw _ (List.mem_of_getElem? (i := 55) rfl)) (hw _ (List.mem_of_getElem? (i := 2) rfl)) (by decide) (by decide)) q281a q281c (g := (mkF m 106 #[.val (.long x0), .second, .val (.long x1), .second, .val (.long x2), .second, .val (.int x3), .val (.int x4), .val (.long x5), .second, .val (.ref b167), .val (.int (2 : Int32)), .val (.ref b244), .val (.ref b248), .val (.long (x5 &&& (9223372036854775807 : Int64))), .second, .val (.int (1 : Int32)), .val (.long r258), .second, .unset, .unset] [(.ref b167)])) rfl (by rw [hml]; rfl) (Steps.refl _) (argsL := []) (rest := []) (lenOf pd___Z rfl) rfl (by show 2 * 0 + _ ≤ _; exact Nat.le_of_eq rfl) (hb hby at_106) (fun _ _ => ⟨rfl, rfl, (by decide : 13 + 0 ≤ _), (by decide : 83 + 0 ≤ _)⟩)
    dsimp only [Pt.U, Pt.locs, Pt.cells, Pt.slots] at X281 l281 y281 z281 st281 hQ281
    subst l281 y281 z281
    obtain ⟨Nq281, rfl, eh281⟩ := hQ281
    have N281 := Fr.app N266 Nq281
    refine GlW.back (fun _ k => st281.trans k) ?_
    show GlW _ _ _ _ _ _ _ (T281.setTop (mkF m 109 #[.val (.long x0), .second, .val (.long x1), .second, .val (.long x2), .second, .val (.int x3), .val (.int x4), .val (.long x5), .second, .val (.ref b167), .val (.int (2 : Int32)), .val (.ref b244), .val (.ref b248), .val (.long (x5 &&& (9223372036854775807 : Int64))), .second, .val (.int (1 : Int32)), .val (.long r258), .second, .unset, .unset] [(.int (1 : Int32))]))
    refine GlW.back (fun _ k => XS.ifYes X281.here hx rfl (pc0 := 109) (pc' := 114) rfl (hb hby at_109) rfl ((if0 _ _).trans (feq (by decide : ¬ (1 : Int32) = (0 : Int32))).2) (by decide) (by decide) k) ?_
    show GlW _ _ _ _ _ _ _ (T281.setTop (mkF m 114 #[.val (.long x0), .second, .val (.long x1), .second, .val (.long x2), .second, .val (.int x3), .val (.int x4), .val (.long x5), .second, .val (.ref b167), .val (.int (2 : Int32)), .val (.ref b244), .val (.ref b248), .val (.long (x5 &&& (9223372036854775807 : Int64))), .second, .val (.int (1 : Int32)), .val (.long r258), .second, .unset, .unset] []))
    refine GlW.back (fun _ k => XS.iload X281.here hx rfl (hb hby at_114) rfl k) ?_
    show GlW _ _ _ _ _ _ _ (T281.setTop (mkF m 116 #[.val (.long x0), .second, .val (.long x1), .second, .val (.long x2), .second, .val (.int x3), .val (.int x4), .val (.long x5), .second, .val (.ref b167), .val (.int (2 : Int32)), .val (.ref b244), .val (.ref b248), .val (.long (x5 &&& (9223372036854775807 : Int64))), .second, .val (.int (1 : Int32)), .val (.long r258), .second, .unset, .unset] [(.int (2 : Int32))]))
    refine GlW.back (fun _ k => XS.iconst X281.here hx rfl (hb hby at_116) k) ?_
    show GlW _ _ _ _ _ _ _ (T281.setTop (mkF m 117 #[.val (.long x0), .second, .val (.long x1), .second, .val (.long x2), .second, .val (.int x3), .val (.int x4), .val (.long x5), .second, .val (.ref b167), .val (.int (2 : Int32)), .val (.ref b244), .val (.ref b248), .val (.long (x5 &&& (9223372036854775807 : Int64))), .second, .val (.int (1 : Int32)), .val (.long r258), .second, .unset, .unset] [(.int (2 : Int32)), (.int (2 : Int32))]))
    refine GlW.back (fun _ k => XS.icmpNo X281.here hx rfl (hb hby at_117) rfl (flt (by decide : ¬ (2 : Int32) < (2 : Int32))).1 k) ?_
    show GlW _ _ _ _ _ _ _ (T281.setTop (mkF m 120 #[.val (.long x0), .second, .val (.long x1), .second, .val (.long x2), .second, .val (.int x3), .val (.int x4), .val (.long x5), .second, .val (.ref b167), .val (.int (2 : Int32)), .val (.ref b244), .val (.ref b248), .val (.long (x5 &&& (9223372036854775807 : Int64))), .second, .val (.int (1 : Int32)), .val (.long r258), .second, .unset, .unset] []))
    refine GlW.back (fun _ k => XS.lload X281.here hx rfl (hb hby at_120) rfl k) ?_
    show GlW _ _ _ _ _ _ _ (T281.setTop (mkF m 122 #[.val (.long x0), .second, .val (.long x1), .second, .val (.long x2), .second, .val (.int x3), .val (.int x4), .val (.long x5), .second, .val (.ref b167), .val (.int (2 : Int32)), .val (.ref b244), .val (.ref b248), .val (.long (x5 &&& (9223372036854775807 : Int64))), .second, .val (.int (1 : Int32)), .val (.long r258), .second, .unset, .unset] [(.long r258)]))
    refine GlW.back (fun _ k => X281.ldc2Long hx hown266 (mvT hZ266 (hw _ (List.mem_of_getElem? (i := 86) rfl))) (g := (mkF m 122 #[.val (.long x0), .second, .val (.long x1), .second, .val (.long x2), .second, .val (.int x3), .val (.int x4), .val (.long x5), .second, .val (.ref b167), .val (.int (2 : Int32)), .val (.ref b244), .val (.ref b248), .val (.long (x5 &&& (9223372036854775807 : Int64))), .second, .val (.int (1 : Int32)), .val (.long r258), .second, .unset, .unset] [(.long r258)])) rfl (hb hby at_122) _ k) ?_
    show GlW _ _ _ _ _ _ _ (T281.setTop (mkF m 125 #[.val (.long x0), .second, .val (.long x1), .second, .val (.long x2), .second, .val (.int x3), .val (.int x4), .val (.long x5), .second, .val (.ref b167), .val (.int (2 : Int32)), .val (.ref b244), .val (.ref b248), .val (.long (x5 &&& (9223372036854775807 : Int64))), .second, .val (.int (1 : Int32)), .val (.long r258), .second, .unset, .unset] [(.long (9223372036854775807 : Int64)), (.long r258)]))
    refine GlW.back (fun _ k => XS.lcmp X281.here hx rfl (hb hby at_125) rfl k) ?_
    show GlW _ _ _ _ _ _ _ (T281.setTop (mkF m 126 #[.val (.long x0), .second, .val (.long x1), .second, .val (.long x2), .second, .val (.int x3), .val (.int x4), .val (.long x5), .second, .val (.ref b167), .val (.int (2 : Int32)), .val (.ref b244), .val (.ref b248), .val (.long (x5 &&& (9223372036854775807 : Int64))), .second, .val (.int (1 : Int32)), .val (.long r258), .second, .unset, .unset] [(.int (lcmpW r258 (9223372036854775807 : Int64)))]))
    by_cases hc126_283 : r258 = (9223372036854775807 : Int64)
    · refine GlW.back (fun _ k => XS.ifYes X281.here hx rfl (pc0 := 126) (pc' := 161) rfl (hb hby at_126) rfl ((if0 _ _).trans (teq (own_lcE hc126_283)).1) (by decide) (by decide) k) ?_
      show GlW _ _ _ _ _ _ _ (T281.setTop (mkF m 161 #[.val (.long x0), .second, .val (.long x1), .second, .val (.long x2), .second, .val (.int x3), .val (.int x4), .val (.long x5), .second, .val (.ref b167), .val (.int (2 : Int32)), .val (.ref b244), .val (.ref b248), .val (.long (x5 &&& (9223372036854775807 : Int64))), .second, .val (.int (1 : Int32)), .val (.long r258), .second, .unset, .unset] []))
      refine GlW.back (fun _ k => XS.aload X281.here hx rfl (hb hby at_161) rfl rfl k) ?_
      show GlW _ _ _ _ _ _ _ (T281.setTop (mkF m 163 #[.val (.long x0), .second, .val (.long x1), .second, .val (.long x2), .second, .val (.int x3), .val (.int x4), .val (.long x5), .second, .val (.ref b167), .val (.int (2 : Int32)), .val (.ref b244), .val (.ref b248), .val (.long (x5 &&& (9223372036854775807 : Int64))), .second, .val (.int (1 : Int32)), .val (.long r258), .second, .unset, .unset] [(.ref b167)]))
      obtain ⟨cq284, kq284, q284a, q284b, q284c⟩ := isOf hZ266 eh281 f282
      obtain ⟨_, _, ⟨T284, L284, k284, n284⟩, -, X284, ⟨Lc284, hQ284, l284, y284, z284⟩, st284⟩ := X281.virtualBack hx (y := (⟨"com/example/gavelwatch/gavelwatch/sim/RunningAuction", "hasBids", "()Z"⟩ : MethodName)) (z := (⟨"com/example/gavelwatch/gavelwatch/sim/RunningAuction", "hasBids", "()Z"⟩ : MethodName)) hown266 (mvT hZ266 (hw _ (List.mem_of_getElem? (i := 51) rfl))) (mvT hZ266 (hw _ (List.mem_of_getElem? (i := 52) rfl))) (notFace_of_selects (args := #[]) (mvT hZ266 (hw _ (List.mem_of_getElem? (i := 54) rfl)))) (mvT hZ266 (hw _ (List.mem_of_getElem? (i := 54) rfl))) (mvT hZ266 (hw _ (List.mem_of_getElem? (i := 53) rfl))) (by decide) (backOf (W := 0) (rmhas1 l Z a0 hw [] b167 c266 T266.heap n0 Zc266 Fh266) hZ266 (hw _ (List.mem_of_getElem? (i := 55) rfl)) (hw _ (List.mem_of_getElem? (i := 2) rfl)) (by decide) (by decide)) q284a q284c (g := (mkF m 163 #[.val (.long x0), .second, .val (.long x1), .second, .val (.long x2), .second, .val (.int x3), .val (.int x4), .val (.long x5), .second, .val (.ref b167), .val (.int (2 : Int32)), .val (.ref b244), .val (.ref b248), .val (.long (x5 &&& (9223372036854775807 : Int64))), .second, .val (.int (1 : Int32)), .val (.long r258), .second, .unset, .unset] [(.ref b167)])) rfl (by rw [hml]; rfl) (Steps.refl _) (argsL := []) (rest := []) (lenOf pd___Z rfl) rfl (by show 2 * 0 + _ ≤ _; exact Nat.le_of_eq rfl) (hb hby at_163) (fun _ _ => ⟨rfl, eh281, (by decide : 13 + 0 ≤ _), (by decide : 83 + 0 ≤ _)⟩)
      dsimp only [Pt.U, Pt.locs, Pt.cells, Pt.slots] at X284 l284 y284 z284 st284 hQ284
      subst l284 y284 z284
      obtain ⟨Nq284, rfl, eh284⟩ := hQ284
      have N284 := Fr.app N281 Nq284
      refine GlW.back (fun _ k => st284.trans k) ?_
      show GlW _ _ _ _ _ _ _ (T284.setTop (mkF m 166 #[.val (.long x0), .second, .val (.long x1), .second, .val (.long x2), .second, .val (.int x3), .val (.int x4), .val (.long x5), .second, .val (.ref b167), .val (.int (2 : Int32)), .val (.ref b244), .val (.ref b248), .val (.long (x5 &&& (9223372036854775807 : Int64))), .second, .val (.int (1 : Int32)), .val (.long r258), .second, .unset, .unset] [(.int (1 : Int32))]))
      refine GlW.back (fun _ k => XS.istore X284.here hx rfl (hb hby at_166) rfl (l' := #[.val (.long x0), .second, .val (.long x1), .second, .val (.long x2), .second, .val (.int x3), .val (.int x4), .val (.long x5), .second, .val (.ref b167), .val (.int (2 : Int32)), .val (.ref b244), .val (.ref b248), .val (.long (x5 &&& (9223372036854775807 : Int64))), .second, .val (.int (1 : Int32)), .val (.int (1 : Int32)), .unset, .unset, .unset]) rfl k) ?_
      show GlW _ _ _ _ _ _ _ (T284.setTop (mkF m 168 #[.val (.long x0), .second, .val (.long x1), .second, .val (.long x2), .second, .val (.int x3), .val (.int x4), .val (.long x5), .second, .val (.ref b167), .val (.int (2 : Int32)), .val (.ref b244), .val (.ref b248), .val (.long (x5 &&& (9223372036854775807 : Int64))), .second, .val (.int (1 : Int32)), .val (.int (1 : Int32)), .unset, .unset, .unset] []))
      refine GlW.back (fun _ k => XS.iload X284.here hx rfl (hb hby at_168) rfl k) ?_
      show GlW _ _ _ _ _ _ _ (T284.setTop (mkF m 170 #[.val (.long x0), .second, .val (.long x1), .second, .val (.long x2), .second, .val (.int x3), .val (.int x4), .val (.long x5), .second, .val (.ref b167), .val (.int (2 : Int32)), .val (.ref b244), .val (.ref b248), .val (.long (x5 &&& (9223372036854775807 : Int64))), .second, .val (.int (1 : Int32)), .val (.int (1 : Int32)), .unset, .unset, .unset] [(.int (1 : Int32))]))
      refine GlW.back (fun _ k => XS.iload X284.here hx rfl (hb hby at_170) rfl k) ?_
      show GlW _ _ _ _ _ _ _ (T284.setTop (mkF m 172 #[.val (.long x0), .second, .val (.long x1), .second, .val (.long x2), .second, .val (.int x3), .val (.int x4), .val (.long x5), .second, .val (.ref b167), .val (.int (2 : Int32)), .val (.ref b244), .val (.ref b248), .val (.long (x5 &&& (9223372036854775807 : Int64))), .second, .val (.int (1 : Int32)), .val (.int (1 : Int32)), .unset, .unset, .unset] [(.int (1 : Int32)), (.int (1 : Int32))]))
      refine GlW.back (fun _ k => XS.ifNo X284.here hx rfl (hb hby at_172) rfl ((if0 _ _).trans (tlt (by decide : (0 : Int32) < (1 : Int32))).2.2.2) k) ?_
      show GlW _ _ _ _ _ _ _ (T284.setTop (mkF m 175 #[.val (.long x0), .second, .val (.long x1), .second, .val (.long x2), .second, .val (.int x3), .val (.int x4), .val (.long x5), .second, .val (.ref b167), .val (.int (2 : Int32)), .val (.ref b244), .val (.ref b248), .val (.long (x5 &&& (9223372036854775807 : Int64))), .second, .val (.int (1 : Int32)), .val (.int (1 : Int32)), .unset, .unset, .unset] [(.int (1 : Int32))]))
      refine GlW.back (fun _ k => XS.iconst X284.here hx rfl (hb hby at_175) k) ?_
      show GlW _ _ _ _ _ _ _ (T284.setTop (mkF m 176 #[.val (.long x0), .second, .val (.long x1), .second, .val (.long x2), .second, .val (.int x3), .val (.int x4), .val (.long x5), .second, .val (.ref b167), .val (.int (2 : Int32)), .val (.ref b244), .val (.ref b248), .val (.long (x5 &&& (9223372036854775807 : Int64))), .second, .val (.int (1 : Int32)), .val (.int (1 : Int32)), .unset, .unset, .unset] [(.int (1 : Int32)), (.int (1 : Int32))]))
      refine GlW.back (fun _ k => XS.goto X284.here hx rfl (pc0 := 176) (pc' := 180) rfl (hb hby at_176) (by decide) (by decide) k) ?_
      show GlW _ _ _ _ _ _ _ (T284.setTop (mkF m 180 #[.val (.long x0), .second, .val (.long x1), .second, .val (.long x2), .second, .val (.int x3), .val (.int x4), .val (.long x5), .second, .val (.ref b167), .val (.int (2 : Int32)), .val (.ref b244), .val (.ref b248), .val (.long (x5 &&& (9223372036854775807 : Int64))), .second, .val (.int (1 : Int32)), .val (.int (1 : Int32)), .unset, .unset, .unset] [(.int (1 : Int32)), (.int (1 : Int32))]))
      refine GlW.back (fun _ k => XS.icmpNo X284.here hx rfl (hb hby at_180) rfl (teq (by decide : (1 : Int32) = (1 : Int32))).2 k) ?_
      show GlW _ _ _ _ _ _ _ (T284.setTop (mkF m 183 #[.val (.long x0), .second, .val (.long x1), .second, .val (.long x2), .second, .val (.int x3), .val (.int x4), .val (.long x5), .second, .val (.ref b167), .val (.int (2 : Int32)), .val (.ref b244), .val (.ref b248), .val (.long (x5 &&& (9223372036854775807 : Int64))), .second, .val (.int (1 : Int32)), .val (.int (1 : Int32)), .unset, .unset, .unset] []))
      refine GlW.back (fun _ k => XS.iload X284.here hx rfl (hb hby at_183) rfl k) ?_
      show GlW _ _ _ _ _ _ _ (T284.setTop (mkF m 185 #[.val (.long x0), .second, .val (.long x1), .second, .val (.long x2), .second, .val (.int x3), .val (.int x4), .val (.long x5), .second, .val (.ref b167), .val (.int (2 : Int32)), .val (.ref b244), .val (.ref b248), .val (.long (x5 &&& (9223372036854775807 : Int64))), .second, .val (.int (1 : Int32)), .val (.int (1 : Int32)), .unset, .unset, .unset] [(.int (1 : Int32))]))
      refine GlW.back (fun _ k => XS.aload X284.here hx rfl (hb hby at_185) rfl rfl k) ?_
      show GlW _ _ _ _ _ _ _ (T284.setTop (mkF m 187 #[.val (.long x0), .second, .val (.long x1), .second, .val (.long x2), .second, .val (.int x3), .val (.int x4), .val (.long x5), .second, .val (.ref b167), .val (.int (2 : Int32)), .val (.ref b244), .val (.ref b248), .val (.long (x5 &&& (9223372036854775807 : Int64))), .second, .val (.int (1 : Int32)), .val (.int (1 : Int32)), .unset, .unset, .unset] [(.ref b167), (.int (1 : Int32))]))
      obtain ⟨cq285, kq285, q285a, q285b, q285c⟩ := isOf hZ266 eh284 f282
      obtain ⟨_, _, ⟨T285, L285, k285, n285⟩, -, X285, ⟨Lc285, hQ285, l285, y285, z285⟩, st285⟩ := X284.virtualBack hx (y := (⟨"com/example/gavelwatch/gavelwatch/sim/RunningAuction", "bids", "()Ljava/util/List;"⟩ : MethodName)) (z := (⟨"com/example/gavelwatch/gavelwatch/sim/RunningAuction", "bids", "()Ljava/util/List;"⟩ : MethodName)) hown266 (mvT hZ266 (hw _ (List.mem_of_getElem? (i := 187) rfl))) (mvT hZ266 (hw _ (List.mem_of_getElem? (i := 188) rfl))) (notFace_of_selects (args := #[]) (mvT hZ266 (hw _ (List.mem_of_getElem? (i := 190) rfl)))) (mvT hZ266 (hw _ (List.mem_of_getElem? (i := 190) rfl))) (mvT hZ266 (hw _ (List.mem_of_getElem? (i := 189) rfl))) (by decide) (backOf (W := 1) (rmbids l Z a0 hw [] b167 l170 T266.heap n0 Zc266 Fb266) hZ266 (hw _ (List.mem_of_getElem? (i := 191) rfl)) (hw _ (List.mem_of_getElem? (i := 2) rfl)) (by decide) (by decide)) q285a q285c (g := (mkF m 187 #[.val (.long x0), .second, .val (.long x1), .second, .val (.long x2), .second, .val (.int x3), .val (.int x4), .val (.long x5), .second, .val (.ref b167), .val (.int (2 : Int32)), .val (.ref b244), .val (.ref b248), .val (.long (x5 &&& (9223372036854775807 : Int64))), .second, .val (.int (1 : Int32)), .val (.int (1 : Int32)), .unset, .unset, .unset] [(.ref b167), (.int (1 : Int32))])) rfl (by rw [hml]; rfl) (Steps.refl _) (argsL := []) (rest := [(.int (1 : Int32))]) (lenOf pd___Ljava_util_List_ rfl) rfl (by show 2 * 0 + _ ≤ _; exact Nat.le_of_eq rfl) (hb hby at_187) (fun _ _ => ⟨rfl, eh284, (by decide : 13 + 0 ≤ _), (by decide : 83 + 0 ≤ _)⟩)
      dsimp only [Pt.U, Pt.locs, Pt.cells, Pt.slots] at X285 l285 y285 z285 st285 hQ285
      subst l285 y285 z285
      obtain ⟨Nq285, rfl, eh285⟩ := hQ285
      have N285 := Fr.app N284 Nq285
      refine GlW.back (fun _ k => st285.trans k) ?_
      show GlW _ _ _ _ _ _ _ (T285.setTop (mkF m 190 #[.val (.long x0), .second, .val (.long x1), .second, .val (.long x2), .second, .val (.int x3), .val (.int x4), .val (.long x5), .second, .val (.ref b167), .val (.int (2 : Int32)), .val (.ref b244), .val (.ref b248), .val (.long (x5 &&& (9223372036854775807 : Int64))), .second, .val (.int (1 : Int32)), .val (.int (1 : Int32)), .unset, .unset, .unset] [(.ref l170), (.int (1 : Int32))]))
      have f287 := (f269.keep Kq266)
      obtain ⟨cq286, kq286, q286a, q286b, q286c⟩ := isOf hZ266 eh285 f287
      obtain ⟨_, _, ⟨T286, L286, k286, n286⟩, -, X286, ⟨Lc286, hQ286, l286, y286, z286⟩, st286⟩ := X285.interfaceBack hx (xi := (⟨"java/util/List", "size", "()I"⟩ : MethodName)) (y := (⟨"java/util/ArrayList", "size", "()I"⟩ : MethodName)) hown266 (mvT hZ266 (hw _ (List.mem_of_getElem? (i := 192) rfl))) (mvT hZ266 (hw _ (List.mem_of_getElem? (i := 193) rfl))) (mvT hZ266 (hw _ (List.mem_of_getElem? (i := 194) rfl))) (mvT hZ266 (hw _ (List.mem_of_getElem? (i := 195) rfl))) (mvT hZ266 (hw _ (List.mem_of_getElem? (i := 196) rfl))) (mvT hZ266 (hw _ (List.mem_of_getElem? (i := 197) rfl))) (mvT hZ266 (hw _ (List.mem_of_getElem? (i := 198) rfl))) (mvT hZ266 (hw _ (List.mem_of_getElem? (i := 155) rfl))) (by decide) (backOf (W := 1) (rmsize l Z a0 hw [] l170 (1 : Int32) T266.heap n0 Zc266 Fs266) hZ266 (hw _ (List.mem_of_getElem? (i := 199) rfl)) (hw _ (List.mem_of_getElem? (i := 25) rfl)) (by decide) (by decide)) q286a q286b q286c (g := (mkF m 190 #[.val (.long x0), .second, .val (.long x1), .second, .val (.long x2), .second, .val (.int x3), .val (.int x4), .val (.long x5), .second, .val (.ref b167), .val (.int (2 : Int32)), .val (.ref b244), .val (.ref b248), .val (.long (x5 &&& (9223372036854775807 : Int64))), .second, .val (.int (1 : Int32)), .val (.int (1 : Int32)), .unset, .unset, .unset] [(.ref l170), (.int (1 : Int32))])) rfl (by rw [hml]; rfl) (Steps.refl _) (argsL := []) (rest := [(.int (1 : Int32))]) (lenOf pd___I rfl) rfl (by show 2 * 0 + _ ≤ _; exact Nat.le_of_eq rfl) (hb hby at_190) (fun _ _ => ⟨rfl, eh285, (by decide : 13 + 0 ≤ _), (by decide : 83 + 0 ≤ _)⟩)
      dsimp only [Pt.U, Pt.locs, Pt.cells, Pt.slots] at X286 l286 y286 z286 st286 hQ286
      subst l286 y286 z286
      obtain ⟨Nq286, rfl, eh286⟩ := hQ286
      have N286 := Fr.app N285 Nq286
      refine GlW.back (fun _ k => st286.trans k) ?_
      show GlW _ _ _ _ _ _ _ (T286.setTop (mkF m 195 #[.val (.long x0), .second, .val (.long x1), .second, .val (.long x2), .second, .val (.int x3), .val (.int x4), .val (.long x5), .second, .val (.ref b167), .val (.int (2 : Int32)), .val (.ref b244), .val (.ref b248), .val (.long (x5 &&& (9223372036854775807 : Int64))), .second, .val (.int (1 : Int32)), .val (.int (1 : Int32)), .unset, .unset, .unset] [(.int (1 : Int32)), (.int (1 : Int32))]))
      refine GlW.back (fun _ k => XS.ifNo X286.here hx rfl (hb hby at_195) rfl ((if0 _ _).trans (feq (by decide : ¬ (1 : Int32) = (0 : Int32))).1) k) ?_
      show GlW _ _ _ _ _ _ _ (T286.setTop (mkF m 198 #[.val (.long x0), .second, .val (.long x1), .second, .val (.long x2), .second, .val (.int x3), .val (.int x4), .val (.long x5), .second, .val (.ref b167), .val (.int (2 : Int32)), .val (.ref b244), .val (.ref b248), .val (.long (x5 &&& (9223372036854775807 : Int64))), .second, .val (.int (1 : Int32)), .val (.int (1 : Int32)), .unset, .unset, .unset] [(.int (1 : Int32))]))
      refine GlW.back (fun _ k => XS.iconst X286.here hx rfl (hb hby at_198) k) ?_
      show GlW _ _ _ _ _ _ _ (T286.setTop (mkF m 199 #[.val (.long x0), .second, .val (.long x1), .second, .val (.long x2), .second, .val (.int x3), .val (.int x4), .val (.long x5), .second, .val (.ref b167), .val (.int (2 : Int32)), .val (.ref b244), .val (.ref b248), .val (.long (x5 &&& (9223372036854775807 : Int64))), .second, .val (.int (1 : Int32)), .val (.int (1 : Int32)), .unset, .unset, .unset] [(.int (1 : Int32)), (.int (1 : Int32))]))
      refine GlW.back (fun _ k => XS.goto X286.here hx rfl (pc0 := 199) (pc' := 203) rfl (hb hby at_199) (by decide) (by decide) k) ?_
      show GlW _ _ _ _ _ _ _ (T286.setTop (mkF m 203 #[.val (.long x0), .second, .val (.long x1), .second, .val (.long x2), .second, .val (.int x3), .val (.int x4), .val (.long x5), .second, .val (.ref b167), .val (.int (2 : Int32)), .val (.ref b244), .val (.ref b248), .val (.long (x5 &&& (9223372036854775807 : Int64))), .second, .val (.int (1 : Int32)), .val (.int (1 : Int32)), .unset, .unset, .unset] [(.int (1 : Int32)), (.int (1 : Int32))]))
      refine GlW.back (fun _ k => XS.icmpNo X286.here hx rfl (hb hby at_203) rfl (teq (by decide : (1 : Int32) = (1 : Int32))).2 k) ?_
      show GlW _ _ _ _ _ _ _ (T286.setTop (mkF m 206 #[.val (.long x0), .second, .val (.long x1), .second, .val (.long x2), .second, .val (.int x3), .val (.int x4), .val (.long x5), .second, .val (.ref b167), .val (.int (2 : Int32)), .val (.ref b244), .val (.ref b248), .val (.long (x5 &&& (9223372036854775807 : Int64))), .second, .val (.int (1 : Int32)), .val (.int (1 : Int32)), .unset, .unset, .unset] []))
      refine GlW.back (fun _ k => XS.iconst X286.here hx rfl (hb hby at_206) k) ?_
      show GlW _ _ _ _ _ _ _ (T286.setTop (mkF m 207 #[.val (.long x0), .second, .val (.long x1), .second, .val (.long x2), .second, .val (.int x3), .val (.int x4), .val (.long x5), .second, .val (.ref b167), .val (.int (2 : Int32)), .val (.ref b244), .val (.ref b248), .val (.long (x5 &&& (9223372036854775807 : Int64))), .second, .val (.int (1 : Int32)), .val (.int (1 : Int32)), .unset, .unset, .unset] [(.int (1 : Int32))]))
      refine GlW.back (fun _ k => XS.goto X286.here hx rfl (pc0 := 207) (pc' := 211) rfl (hb hby at_207) (by decide) (by decide) k) ?_
      show GlW _ _ _ _ _ _ _ (T286.setTop (mkF m 211 #[.val (.long x0), .second, .val (.long x1), .second, .val (.long x2), .second, .val (.int x3), .val (.int x4), .val (.long x5), .second, .val (.ref b167), .val (.int (2 : Int32)), .val (.ref b244), .val (.ref b248), .val (.long (x5 &&& (9223372036854775807 : Int64))), .second, .val (.int (1 : Int32)), .val (.int (1 : Int32)), .unset, .unset, .unset] [(.int (1 : Int32))]))
      exact GlW.ret X286 eh286 hS266 (Nat.le_refl _) (v := (some (.int (1 : Int32)))) (fun h => by rw [Bd.returns] at h; cases h) Bd.notSynchronized (fun fs hr => retN X286 hx (t := .boolean) (z := (1 : Int32)) Bd.returns (by simp) (hb hby at_211) hr) ⟨N286, rfl⟩ (by decide) (by decide)
    · refine GlW.back (fun _ k => XS.ifNo X281.here hx rfl (hb hby at_126) rfl ((if0 _ _).trans (feq (own_lcEn hc126_283)).1) k) ?_
      show GlW _ _ _ _ _ _ _ (T281.setTop (mkF m 129 #[.val (.long x0), .second, .val (.long x1), .second, .val (.long x2), .second, .val (.int x3), .val (.int x4), .val (.long x5), .second, .val (.ref b167), .val (.int (2 : Int32)), .val (.ref b244), .val (.ref b248), .val (.long (x5 &&& (9223372036854775807 : Int64))), .second, .val (.int (1 : Int32)), .val (.long r258), .second, .unset, .unset] []))
      refine GlW.back (fun _ k => XS.lload X281.here hx rfl (hb hby at_129) rfl k) ?_
      show GlW _ _ _ _ _ _ _ (T281.setTop (mkF m 131 #[.val (.long x0), .second, .val (.long x1), .second, .val (.long x2), .second, .val (.int x3), .val (.int x4), .val (.long x5), .second, .val (.ref b167), .val (.int (2 : Int32)), .val (.ref b244), .val (.ref b248), .val (.long (x5 &&& (9223372036854775807 : Int64))), .second, .val (.int (1 : Int32)), .val (.long r258), .second, .unset, .unset] [(.long r258)]))
      refine GlW.back (fun _ k => XS.lconst X281.here hx rfl (hb hby at_131) k) ?_
      show GlW _ _ _ _ _ _ _ (T281.setTop (mkF m 132 #[.val (.long x0), .second, .val (.long x1), .second, .val (.long x2), .second, .val (.int x3), .val (.int x4), .val (.long x5), .second, .val (.ref b167), .val (.int (2 : Int32)), .val (.ref b244), .val (.ref b248), .val (.long (x5 &&& (9223372036854775807 : Int64))), .second, .val (.int (1 : Int32)), .val (.long r258), .second, .unset, .unset] [(.long (1 : Int64)), (.long r258)]))
      refine GlW.back (fun _ k => XS.ladd X281.here hx rfl (hb hby at_132) rfl k) ?_
      show GlW _ _ _ _ _ _ _ (T281.setTop (mkF m 133 #[.val (.long x0), .second, .val (.long x1), .second, .val (.long x2), .second, .val (.int x3), .val (.int x4), .val (.long x5), .second, .val (.ref b167), .val (.int (2 : Int32)), .val (.ref b244), .val (.ref b248), .val (.long (x5 &&& (9223372036854775807 : Int64))), .second, .val (.int (1 : Int32)), .val (.long r258), .second, .unset, .unset] [(.long (r258 + (1 : Int64)))]))
      refine GlW.back (fun _ k => XS.lload X281.here hx rfl (hb hby at_133) rfl k) ?_
      show GlW _ _ _ _ _ _ _ (T281.setTop (mkF m 135 #[.val (.long x0), .second, .val (.long x1), .second, .val (.long x2), .second, .val (.int x3), .val (.int x4), .val (.long x5), .second, .val (.ref b167), .val (.int (2 : Int32)), .val (.ref b244), .val (.ref b248), .val (.long (x5 &&& (9223372036854775807 : Int64))), .second, .val (.int (1 : Int32)), .val (.long r258), .second, .unset, .unset] [(.long x2), (.long (r258 + (1 : Int64)))]))
      obtain ⟨_, _, ⟨T288, L288, k288, n288⟩, -, X288, ⟨Lc288, hQ288, l288, y288, z288⟩, st288⟩ := Jvm.LawKit.callS X281 hx (y := (⟨"java/lang/Math", "max", "(JJ)J"⟩ : MethodName)) hown266 (mvT hZ266 (hw _ (List.mem_of_getElem? (i := 87) rfl))) (mvT hZ266 (hw _ (List.mem_of_getElem? (i := 88) rfl))) (mvT hZ266 (hw _ (List.mem_of_getElem? (i := 89) rfl))) (mvT hZ266 (hw _ (List.mem_of_getElem? (i := 90) rfl))) (by decide) (backOf (W := 0) (rmmaxJ l Z a0 hw [] (r258 + (1 : Int64)) x2  T266.heap n0 Zc266 ) hZ266 (hw _ (List.mem_of_getElem? (i := 90) rfl)) (hw _ (List.mem_of_getElem? (i := 89) rfl)) (by decide) (by decide)) (g := (mkF m 135 #[.val (.long x0), .second, .val (.long x1), .second, .val (.long x2), .second, .val (.int x3), .val (.int x4), .val (.long x5), .second, .val (.ref b167), .val (.int (2 : Int32)), .val (.ref b244), .val (.ref b248), .val (.long (x5 &&& (9223372036854775807 : Int64))), .second, .val (.int (1 : Int32)), .val (.long r258), .second, .unset, .unset] [(.long x2), (.long (r258 + (1 : Int64)))])) rfl (by rw [hml]; rfl) (argsL := [(.long (r258 + (1 : Int64))), (.long x2)]) (rest := []) (lenOf pd__JJ_J rfl) rfl (by show 2 * 0 + _ ≤ _; exact Nat.le_of_eq rfl) (hb hby at_135) (fun _ _ => ⟨rfl, eh281, (by decide : 13 + 0 ≤ _), (by decide : 83 + 0 ≤ _)⟩)
      dsimp only [Pt.U, Pt.locs, Pt.cells, Pt.slots] at X288 l288 y288 z288 st288 hQ288
      subst l288 y288 z288
      obtain ⟨Nq288, r288, rfl, hge288, hgf288, eh288⟩ := hQ288
      have N288 := Fr.app N281 Nq288
      refine GlW.back (fun _ k => st288 _ k) ?_
      show GlW _ _ _ _ _ _ _ (T288.setTop (mkF m 138 #[.val (.long x0), .second, .val (.long x1), .second, .val (.long x2), .second, .val (.int x3), .val (.int x4), .val (.long x5), .second, .val (.ref b167), .val (.int (2 : Int32)), .val (.ref b244), .val (.ref b248), .val (.long (x5 &&& (9223372036854775807 : Int64))), .second, .val (.int (1 : Int32)), .val (.long r258), .second, .unset, .unset] [(.long r288)]))
      refine GlW.back (fun _ k => XS.lstore X288.here hx rfl (hb hby at_138) rfl (l' := #[.val (.long x0), .second, .val (.long x1), .second, .val (.long x2), .second, .val (.int x3), .val (.int x4), .val (.long x5), .second, .val (.ref b167), .val (.int (2 : Int32)), .val (.ref b244), .val (.ref b248), .val (.long (x5 &&& (9223372036854775807 : Int64))), .second, .val (.int (1 : Int32)), .val (.long r258), .second, .val (.long r288), .second]) rfl k) ?_
      show GlW _ _ _ _ _ _ _ (T288.setTop (mkF m 140 #[.val (.long x0), .second, .val (.long x1), .second, .val (.long x2), .second, .val (.int x3), .val (.int x4), .val (.long x5), .second, .val (.ref b167), .val (.int (2 : Int32)), .val (.ref b244), .val (.ref b248), .val (.long (x5 &&& (9223372036854775807 : Int64))), .second, .val (.int (1 : Int32)), .val (.long r258), .second, .val (.long r288), .second] []))
      refine GlW.back (fun _ k => XS.aload X288.here hx rfl (hb hby at_140) rfl rfl k) ?_
      show GlW _ _ _ _ _ _ _ (T288.setTop (mkF m 142 #[.val (.long x0), .second, .val (.long x1), .second, .val (.long x2), .second, .val (.int x3), .val (.int x4), .val (.long x5), .second, .val (.ref b167), .val (.int (2 : Int32)), .val (.ref b244), .val (.ref b248), .val (.long (x5 &&& (9223372036854775807 : Int64))), .second, .val (.int (1 : Int32)), .val (.long r258), .second, .val (.long r288), .second] [(.ref b167)]))
      refine GlW.back (fun _ k => XS.aload X288.here hx rfl (hb hby at_142) rfl rfl k) ?_
      show GlW _ _ _ _ _ _ _ (T288.setTop (mkF m 144 #[.val (.long x0), .second, .val (.long x1), .second, .val (.long x2), .second, .val (.int x3), .val (.int x4), .val (.long x5), .second, .val (.ref b167), .val (.int (2 : Int32)), .val (.ref b244), .val (.ref b248), .val (.long (x5 &&& (9223372036854775807 : Int64))), .second, .val (.int (1 : Int32)), .val (.long r258), .second, .val (.long r288), .second] [(.ref b248), (.ref b167)]))
      obtain ⟨T289, h289, X289, e289, E289, A289, D289, -, st289⟩ := newO X288 hx hZ266 hown266 (hw _ (List.mem_of_getElem? (i := 3) rfl)) (hw _ (List.mem_of_getElem? (i := 4) rfl)) (hw _ (List.mem_of_getElem? (i := 5) rfl)) eh288 (g := (mkF m 144 #[.val (.long x0), .second, .val (.long x1), .second, .val (.long x2), .second, .val (.int x3), .val (.int x4), .val (.long x5), .second, .val (.ref b167), .val (.int (2 : Int32)), .val (.ref b244), .val (.ref b248), .val (.long (x5 &&& (9223372036854775807 : Int64))), .second, .val (.int (1 : Int32)), .val (.long r258), .second, .val (.long r288), .second] [(.ref b248), (.ref b167)])) rfl (hb hby at_144) (by decide) (by decide)
      obtain ⟨b289, g289⟩ : ∃ z, z = T266.heap.size := ⟨_, rfl⟩
      rw [← g289] at A289 D289 st289
      have ne_b167_b289 : b167 ≠ b289 := Nat.ne_of_lt (Nat.lt_of_lt_of_le f282.lt (Nat.le_of_eq g289.symm))
      have f290 := (f268.keep Kq266)
      have ne_b168_b289 : b168 ≠ b289 := Nat.ne_of_lt (Nat.lt_of_lt_of_le f290.lt (Nat.le_of_eq g289.symm))
      have f291 := (f269.keep Kq266)
      have ne_l170_b289 : l170 ≠ b289 := Nat.ne_of_lt (Nat.lt_of_lt_of_le f291.lt (Nat.le_of_eq g289.symm))
      have f292 := (f270.keep Kq266 (ninS (Ne.symm ne_b167_b244) (ninS (Ne.symm ne_l170_b244) nin0)))
      have ne_b244_b289 : b244 ≠ b289 := Nat.ne_of_lt (Nat.lt_of_lt_of_le f292.lt (Nat.le_of_eq g289.symm))
      have f293 := (f271.keep Kq266)
      have ne_b248_b289 : b248 ≠ b289 := Nat.ne_of_lt (Nat.lt_of_lt_of_le f293.lt (Nat.le_of_eq g289.symm))
      have f294 := (f272.keep Kq266 (ninS (Ne.symm ne_b167_t256) (ninS (Ne.symm ne_l170_t256) nin0)))
      have ne_t256_b289 : t256 ≠ b289 := Nat.ne_of_lt (Nat.lt_of_lt_of_le f294.lt (Nat.le_of_eq g289.symm))
      have f295 := (f273.keep Kq266)
      have ne_b259_b289 : b259 ≠ b289 := Nat.ne_of_lt (Nat.lt_of_lt_of_le f295.lt (Nat.le_of_eq g289.symm))
      have ne_c266_b289 : c266 ≠ b289 := Nat.ne_of_lt (Nat.lt_of_lt_of_le Ec266.lt (Nat.le_of_eq g289.symm))
      have ne_t266_b289 : t266 ≠ b289 := Nat.ne_of_lt (Nat.lt_of_lt_of_le V266.lt (Nat.le_of_eq g289.symm))
      have g_b289 : n0 ≤ b289 := Nat.le_trans Zc266 (Nat.le_of_eq g289.symm)
      have sz_b289 : h0.size ≤ b289 := Nat.le_trans Kc266.1 (Nat.le_of_eq g289.symm)
      have Z289 : n0 ≤ h289.size := Nat.le_trans Zc266 E289.1
      have K289 := Keep.ext Kc266 E289
      have O289 := Old.ext Oc266 E289
      have SK289 := Nat.le_trans (Nat.le_refl _) E289.1
      have F289_cents : Fld Z h289 b289 "com/example/gavelwatch/gavelwatch/model/Money" "cents" "J" (.long (0 : Int64)) := D289 (Or.inr (hw _ (List.mem_of_getElem? (i := 18) rfl))) (ty := .long) (by decide)
      refine GlW.back (fun _ k => st289 _ k) ?_
      show GlW _ _ _ _ _ _ _ (T289.setTop (mkF m 147 #[.val (.long x0), .second, .val (.long x1), .second, .val (.long x2), .second, .val (.int x3), .val (.int x4), .val (.long x5), .second, .val (.ref b167), .val (.int (2 : Int32)), .val (.ref b244), .val (.ref b248), .val (.long (x5 &&& (9223372036854775807 : Int64))), .second, .val (.int (1 : Int32)), .val (.long r258), .second, .val (.long r288), .second] [(.ref b289), (.ref b248), (.ref b167)]))
      refine GlW.back (fun _ k => XS.dup X289.here hx rfl (hb hby at_147) rfl rfl k) ?_
      show GlW _ _ _ _ _ _ _ (T289.setTop (mkF m 148 #[.val (.long x0), .second, .val (.long x1), .second, .val (.long x2), .second, .val (.int x3), .val (.int x4), .val (.long x5), .second, .val (.ref b167), .val (.int (2 : Int32)), .val (.ref b244), .val (.ref b248), .val (.long (x5 &&& (9223372036854775807 : Int64))), .second, .val (.int (1 : Int32)), .val (.long r258), .second, .val (.long r288), .second] [(.ref b289), (.ref b289), (.ref b248), (.ref b167)]))
      refine GlW.back (fun _ k => XS.lload X289.here hx rfl (hb hby at_148) rfl k) ?_
      show GlW _ _ _ _ _ _ _ (T289.setTop (mkF m 150 #[.val (.long x0), .second, .val (.long x1), .second, .val (.long x2), .second, .val (.int x3), .val (.int x4), .val (.long x5), .second, .val (.ref b167), .val (.int (2 : Int32)), .val (.ref b244), .val (.ref b248), .val (.long (x5 &&& (9223372036854775807 : Int64))), .second, .val (.int (1 : Int32)), .val (.long r258), .second, .val (.long r288), .second] [(.long r288), (.ref b289), (.ref b289), (.ref b248), (.ref b167)]))
      obtain ⟨_, _, ⟨T296, L296, k296, n296⟩, -, X296, ⟨Lc296, hQ296, l296, y296, z296⟩, st296⟩ := X289.specialBack hx (y := (⟨"com/example/gavelwatch/gavelwatch/model/Money", "<init>", "(J)V"⟩ : MethodName)) rfl hown266 (mvT hZ266 (hw _ (List.mem_of_getElem? (i := 6) rfl))) (mvT hZ266 (hw _ (List.mem_of_getElem? (i := 7) rfl))) (mvT hZ266 (hw _ (List.mem_of_getElem? (i := 8) rfl))) (by decide) (backOf (W := 3) (rmmoney l Z a0 hw [] b289 r288  h289 n0 Z289 g_b289 A289 F289_cents) hZ266 (hw _ (List.mem_of_getElem? (i := 8) rfl)) (hw _ (List.mem_of_getElem? (i := 5) rfl)) (by decide) (by decide)) (g := (mkF m 150 #[.val (.long x0), .second, .val (.long x1), .second, .val (.long x2), .second, .val (.int x3), .val (.int x4), .val (.long x5), .second, .val (.ref b167), .val (.int (2 : Int32)), .val (.ref b244), .val (.ref b248), .val (.long (x5 &&& (9223372036854775807 : Int64))), .second, .val (.int (1 : Int32)), .val (.long r258), .second, .val (.long r288), .second] [(.long r288), (.ref b289), (.ref b289), (.ref b248), (.ref b167)])) rfl (by rw [hml]; rfl) (Steps.refl _) (a := b289) (argsL := [(.long r288)]) (rest := [(.ref b289), (.ref b248), (.ref b167)]) (lenOf pd__J_V rfl) rfl (by show 2 * 0 + _ ≤ _; exact Nat.le_of_eq rfl) (hb hby at_150) (fun _ _ => ⟨rfl, e289, (by decide : 14 + 0 ≤ _), (by decide : 84 + 0 ≤ _)⟩)
      dsimp only [Pt.U, Pt.locs, Pt.cells, Pt.slots] at X296 l296 y296 z296 st296 hQ296
      subst l296 y296 z296
      obtain ⟨Nq296, rfl, Kq296, Fc296⟩ := hQ296
      have N296 := Fr.app N288 Nq296
      have Kc296 := Keep.trans K289 Kq296 (allS (Or.inr sz_b289) all0)
      have Zc296 : n0 ≤ T296.heap.size := Nat.le_trans Z289 Kq296.1
      have Oc296 := Old.keep O289 Kq296 (allS g_b289 all0)
      have SKc296 := Nat.le_trans SK289 Kq296.1
      refine GlW.back (fun _ k => st296.trans k) ?_
      show GlW _ _ _ _ _ _ _ (T296.setTop (mkF m 153 #[.val (.long x0), .second, .val (.long x1), .second, .val (.long x2), .second, .val (.int x3), .val (.int x4), .val (.long x5), .second, .val (.ref b167), .val (.int (2 : Int32)), .val (.ref b244), .val (.ref b248), .val (.long (x5 &&& (9223372036854775807 : Int64))), .second, .val (.int (1 : Int32)), .val (.long r258), .second, .val (.long r288), .second] [(.ref b289), (.ref b248), (.ref b167)]))
      refine GlW.back (fun _ k => XS.lload X296.here hx rfl (hb hby at_153) rfl k) ?_
      show GlW _ _ _ _ _ _ _ (T296.setTop (mkF m 155 #[.val (.long x0), .second, .val (.long x1), .second, .val (.long x2), .second, .val (.int x3), .val (.int x4), .val (.long x5), .second, .val (.ref b167), .val (.int (2 : Int32)), .val (.ref b244), .val (.ref b248), .val (.long (x5 &&& (9223372036854775807 : Int64))), .second, .val (.int (1 : Int32)), .val (.long r258), .second, .val (.long r288), .second] [(.long (x5 &&& (9223372036854775807 : Int64))), (.ref b289), (.ref b248), (.ref b167)]))
      have f298 := ((f282.ext E289).keep Kq296)
      have f299 := ((f290.ext E289).keep Kq296)
      have f300 := ((f291.ext E289).keep Kq296)
      have f301 := ((f292.ext E289).keep Kq296 (ninS ne_b244_b289 nin0))
      have f302 := ((f293.ext E289).keep Kq296)
      have f303 := ((f294.ext E289).keep Kq296 (ninS ne_t256_b289 nin0))
      have f304 := ((f295.ext E289).keep Kq296)
      have f305 := ((Ec266.ext E289).keep Kq296)
      have f306 := ((V266.ext E289).keep Kq296 (ninS ne_t266_b289 nin0))
      have f307 := (A289.keep Kq296)
      have f308 := ((Fh266.ext E289).keep Kq296 (ninS ne_b167_b289 nin0))
      have f309 := ((Fb266.ext E289).keep Kq296 (ninS ne_b167_b289 nin0))
      have f310 := ((Fa266.ext E289).keep Kq296 (ninS ne_c266_b289 nin0))
      have f311 := (((Fc265.keep Kq266 (ninS (Ne.symm ne_b167_b259) (ninS (Ne.symm ne_l170_b259) nin0))).ext E289).keep Kq296 (ninS ne_b259_b289 nin0))
      have f312 := ((Fm266.ext E289).keep Kq296 (ninS ne_l170_b289 nin0))
      have f313 := ((Fe266.ext E289).keep Kq296 (ninS ne_l170_b289 nin0))
      have f314 := ((Fs266.ext E289).keep Kq296 (ninS ne_l170_b289 nin0))
      obtain ⟨cq297, kq297, q297a, q297b, q297c⟩ := isOf hZ266 rfl f298
      obtain ⟨_, _, ⟨T297, L297, k297, n297⟩, -, X297, hS2297, hg2297, ⟨Lc297, hQ297, l297, y297, z297⟩, st297⟩ := X296.virtualBackS hx (y := (⟨"com/example/gavelwatch/gavelwatch/sim/RunningAuction", "place", "(Ljava/lang/String;Lcom/example/gavelwatch/gavelwatch/model/Money;J)V"⟩ : MethodName)) (z := (⟨"com/example/gavelwatch/gavelwatch/sim/RunningAuction", "place", "(Ljava/lang/String;Lcom/example/gavelwatch/gavelwatch/model/Money;J)V"⟩ : MethodName)) hown266 (mvT hZ266 (hw _ (List.mem_of_getElem? (i := 91) rfl))) (mvT hZ266 (hw _ (List.mem_of_getElem? (i := 92) rfl))) (notFace_of_selects (args := #[]) (mvT hZ266 (hw _ (List.mem_of_getElem? (i := 94) rfl)))) (mvT hZ266 (hw _ (List.mem_of_getElem? (i := 94) rfl))) (mvT hZ266 (hw _ (List.mem_of_getElem? (i := 93) rfl))) (by decide) (backOfS (W := 0) (rmplace1 l Z a0 hw [] b167 b248 b289 (x5 &&& (9223372036854775807 : Int64)) l170 b259 u c266 t266 k0266 ((0 : Int32) + (1 : Int32)) r288 r258 T296.heap n0 Zc296 Oc296 g_b167 f298 f308 f309 f305 f310 f304 f311 f307 Fc296 Gz170 f300 f312 f313 f314 Gz266 f306 S_SECONDS E_u F_u_scale F_u_maxNanos Ov266 (own_next hc126_283 hge288) ne_b167_l170 ne_b167_c266 ne_b167_b259 ne_b167_b289 ne_b167_t266 ne_l170_c266 ne_l170_b259 ne_l170_b289 ne_l170_t266 (own_nn x5)) hZ266 (hw _ (List.mem_of_getElem? (i := 95) rfl)) (hw _ (List.mem_of_getElem? (i := 2) rfl)) (by decide) (by decide)) q297a q297c (g := (mkF m 155 #[.val (.long x0), .second, .val (.long x1), .second, .val (.long x2), .second, .val (.int x3), .val (.int x4), .val (.long x5), .second, .val (.ref b167), .val (.int (2 : Int32)), .val (.ref b244), .val (.ref b248), .val (.long (x5 &&& (9223372036854775807 : Int64))), .second, .val (.int (1 : Int32)), .val (.long r258), .second, .val (.long r288), .second] [(.long (x5 &&& (9223372036854775807 : Int64))), (.ref b289), (.ref b248), (.ref b167)])) rfl (by rw [hml]; rfl) (Steps.refl _) (argsL := [(.ref b248), (.ref b289), (.long (x5 &&& (9223372036854775807 : Int64)))]) (rest := []) (lenOf pd__Ljava_lang_String_Lcom_example_gavelwatch_gavelwatch_model_Money_J_V rfl) rfl (by show 2 * 0 + _ ≤ _; exact Nat.le_of_eq rfl) (hb hby at_155) (fun _ _ => ⟨rfl, rfl, (by decide : 14 + 5 ≤ _), (by decide : 84 + 59 ≤ _)⟩)
      dsimp only [Pt.U, Pt.locs, Pt.cells, Pt.slots] at X297 l297 y297 z297 st297 hQ297 hS2297 hg2297
      subst l297 y297 z297
      obtain ⟨X297, hS297, hZ297, hown297⟩ := rebS hS266 (SKc296) X297 hS2297 hg2297 hZ266 hown266
      obtain ⟨Nq297, rfl, Kq297, c297, Sc297, Gc297, Ec297, Fh297, Fa297, Fb297, Fs297⟩ := hQ297
      have N297 := Fr.app N296 Nq297
      have Kc297 := Keep.trans Kc296 Kq297 (allS (Or.inr sz_b167) (allS (Or.inr sz_l170) (allS (Or.inr sz_t266) all0)))
      have Zc297 : n0 ≤ T297.heap.size := Nat.le_trans Zc296 Kq297.1
      have Oc297 := Old.keep Oc296 Kq297 (allS g_b167 (allS Gz170 (allS Gz266 all0)))
      have ne_b167_c297 : b167 ≠ c297 := Nat.ne_of_lt (Nat.lt_of_lt_of_le (f298).lt Sc297)
      have ne_b168_c297 : b168 ≠ c297 := Nat.ne_of_lt (Nat.lt_of_lt_of_le (f299).lt Sc297)
      have ne_l170_c297 : l170 ≠ c297 := Nat.ne_of_lt (Nat.lt_of_lt_of_le (f300).lt Sc297)
      have ne_b244_c297 : b244 ≠ c297 := Nat.ne_of_lt (Nat.lt_of_lt_of_le (f301).lt Sc297)
      have ne_b248_c297 : b248 ≠ c297 := Nat.ne_of_lt (Nat.lt_of_lt_of_le (f302).lt Sc297)
      have ne_t256_c297 : t256 ≠ c297 := Nat.ne_of_lt (Nat.lt_of_lt_of_le (f303).lt Sc297)
      have ne_b259_c297 : b259 ≠ c297 := Nat.ne_of_lt (Nat.lt_of_lt_of_le (f304).lt Sc297)
      have ne_c266_c297 : c266 ≠ c297 := Nat.ne_of_lt (Nat.lt_of_lt_of_le (f305).lt Sc297)
      have ne_b289_c297 : b289 ≠ c297 := Nat.ne_of_lt (Nat.lt_of_lt_of_le (f307).lt Sc297)
      have sz_c297 : h0.size ≤ c297 := Nat.le_trans Kc296.1 Sc297
      refine GlW.back (fun _ k => st297.trans k) ?_
      show GlW _ _ _ _ _ _ _ (T297.setTop (mkF m 158 #[.val (.long x0), .second, .val (.long x1), .second, .val (.long x2), .second, .val (.int x3), .val (.int x4), .val (.long x5), .second, .val (.ref b167), .val (.int (2 : Int32)), .val (.ref b244), .val (.ref b248), .val (.long (x5 &&& (9223372036854775807 : Int64))), .second, .val (.int (1 : Int32)), .val (.long r258), .second, .val (.long r288), .second] []))
      refine GlW.back (fun _ k => XS.iconst X297.here hx rfl (hb hby at_158) k) ?_
      show GlW _ _ _ _ _ _ _ (T297.setTop (mkF m 159 #[.val (.long x0), .second, .val (.long x1), .second, .val (.long x2), .second, .val (.int x3), .val (.int x4), .val (.long x5), .second, .val (.ref b167), .val (.int (2 : Int32)), .val (.ref b244), .val (.ref b248), .val (.long (x5 &&& (9223372036854775807 : Int64))), .second, .val (.int (1 : Int32)), .val (.long r258), .second, .val (.long r288), .second] [(.int (2 : Int32))]))
      refine GlW.back (fun _ k => XS.istore X297.here hx rfl (hb hby at_159) rfl (l' := #[.val (.long x0), .second, .val (.long x1), .second, .val (.long x2), .second, .val (.int x3), .val (.int x4), .val (.long x5), .second, .val (.ref b167), .val (.int (2 : Int32)), .val (.ref b244), .val (.ref b248), .val (.long (x5 &&& (9223372036854775807 : Int64))), .second, .val (.int (2 : Int32)), .val (.long r258), .second, .val (.long r288), .second]) rfl k) ?_
      show GlW _ _ _ _ _ _ _ (T297.setTop (mkF m 161 #[.val (.long x0), .second, .val (.long x1), .second, .val (.long x2), .second, .val (.int x3), .val (.int x4), .val (.long x5), .second, .val (.ref b167), .val (.int (2 : Int32)), .val (.ref b244), .val (.ref b248), .val (.long (x5 &&& (9223372036854775807 : Int64))), .second, .val (.int (2 : Int32)), .val (.long r258), .second, .val (.long r288), .second] []))
      refine GlW.back (fun _ k => XS.aload X297.here hx rfl (hb hby at_161) rfl rfl k) ?_
      show GlW _ _ _ _ _ _ _ (T297.setTop (mkF m 163 #[.val (.long x0), .second, .val (.long x1), .second, .val (.long x2), .second, .val (.int x3), .val (.int x4), .val (.long x5), .second, .val (.ref b167), .val (.int (2 : Int32)), .val (.ref b244), .val (.ref b248), .val (.long (x5 &&& (9223372036854775807 : Int64))), .second, .val (.int (2 : Int32)), .val (.long r258), .second, .val (.long r288), .second] [(.ref b167)]))
      have f316 := (f298.keep Kq297)
      obtain ⟨cq315, kq315, q315a, q315b, q315c⟩ := isOf hZ297 rfl f316
      obtain ⟨_, _, ⟨T315, L315, k315, n315⟩, -, X315, ⟨Lc315, hQ315, l315, y315, z315⟩, st315⟩ := X297.virtualBack hx (y := (⟨"com/example/gavelwatch/gavelwatch/sim/RunningAuction", "hasBids", "()Z"⟩ : MethodName)) (z := (⟨"com/example/gavelwatch/gavelwatch/sim/RunningAuction", "hasBids", "()Z"⟩ : MethodName)) hown297 (mvT hZ297 (hw _ (List.mem_of_getElem? (i := 51) rfl))) (mvT hZ297 (hw _ (List.mem_of_getElem? (i := 52) rfl))) (notFace_of_selects (args := #[]) (mvT hZ297 (hw _ (List.mem_of_getElem? (i := 54) rfl)))) (mvT hZ297 (hw _ (List.mem_of_getElem? (i := 54) rfl))) (mvT hZ297 (hw _ (List.mem_of_getElem? (i := 53) rfl))) (by decide) (backOf (W := 0) (rmhas1 l Z a0 hw [] b167 c297 T297.heap n0 Zc297 Fh297) hZ297 (hw _ (List.mem_of_getElem? (i := 55) rfl)) (hw _ (List.mem_of_getElem? (i := 2) rfl)) (by decide) (by decide)) q315a q315c (g := (mkF m 163 #[.val (.long x0), .second, .val (.long x1), .second, .val (.long x2), .second, .val (.int x3), .val (.int x4), .val (.long x5), .second, .val (.ref b167), .val (.int (2 : Int32)), .val (.ref b244), .val (.ref b248), .val (.long (x5 &&& (9223372036854775807 : Int64))), .second, .val (.int (2 : Int32)), .val (.long r258), .second, .val (.long r288), .second] [(.ref b167)])) rfl (by rw [hml]; rfl) (Steps.refl _) (argsL := []) (rest := []) (lenOf pd___Z rfl) rfl (by show 2 * 0 + _ ≤ _; exact Nat.le_of_eq rfl) (hb hby at_163) (fun _ _ => ⟨rfl, rfl, (by decide : 19 + 0 ≤ _), (by decide : 143 + 0 ≤ _)⟩)
      dsimp only [Pt.U, Pt.locs, Pt.cells, Pt.slots] at X315 l315 y315 z315 st315 hQ315
      subst l315 y315 z315
      obtain ⟨Nq315, rfl, eh315⟩ := hQ315
      have N315 := Fr.app N297 Nq315
      refine GlW.back (fun _ k => st315.trans k) ?_
      show GlW _ _ _ _ _ _ _ (T315.setTop (mkF m 166 #[.val (.long x0), .second, .val (.long x1), .second, .val (.long x2), .second, .val (.int x3), .val (.int x4), .val (.long x5), .second, .val (.ref b167), .val (.int (2 : Int32)), .val (.ref b244), .val (.ref b248), .val (.long (x5 &&& (9223372036854775807 : Int64))), .second, .val (.int (2 : Int32)), .val (.long r258), .second, .val (.long r288), .second] [(.int (1 : Int32))]))
      refine GlW.back (fun _ k => XS.istore X315.here hx rfl (hb hby at_166) rfl (l' := #[.val (.long x0), .second, .val (.long x1), .second, .val (.long x2), .second, .val (.int x3), .val (.int x4), .val (.long x5), .second, .val (.ref b167), .val (.int (2 : Int32)), .val (.ref b244), .val (.ref b248), .val (.long (x5 &&& (9223372036854775807 : Int64))), .second, .val (.int (2 : Int32)), .val (.int (1 : Int32)), .unset, .val (.long r288), .second]) rfl k) ?_
      show GlW _ _ _ _ _ _ _ (T315.setTop (mkF m 168 #[.val (.long x0), .second, .val (.long x1), .second, .val (.long x2), .second, .val (.int x3), .val (.int x4), .val (.long x5), .second, .val (.ref b167), .val (.int (2 : Int32)), .val (.ref b244), .val (.ref b248), .val (.long (x5 &&& (9223372036854775807 : Int64))), .second, .val (.int (2 : Int32)), .val (.int (1 : Int32)), .unset, .val (.long r288), .second] []))
      refine GlW.back (fun _ k => XS.iload X315.here hx rfl (hb hby at_168) rfl k) ?_
      show GlW _ _ _ _ _ _ _ (T315.setTop (mkF m 170 #[.val (.long x0), .second, .val (.long x1), .second, .val (.long x2), .second, .val (.int x3), .val (.int x4), .val (.long x5), .second, .val (.ref b167), .val (.int (2 : Int32)), .val (.ref b244), .val (.ref b248), .val (.long (x5 &&& (9223372036854775807 : Int64))), .second, .val (.int (2 : Int32)), .val (.int (1 : Int32)), .unset, .val (.long r288), .second] [(.int (1 : Int32))]))
      refine GlW.back (fun _ k => XS.iload X315.here hx rfl (hb hby at_170) rfl k) ?_
      show GlW _ _ _ _ _ _ _ (T315.setTop (mkF m 172 #[.val (.long x0), .second, .val (.long x1), .second, .val (.long x2), .second, .val (.int x3), .val (.int x4), .val (.long x5), .second, .val (.ref b167), .val (.int (2 : Int32)), .val (.ref b244), .val (.ref b248), .val (.long (x5 &&& (9223372036854775807 : Int64))), .second, .val (.int (2 : Int32)), .val (.int (1 : Int32)), .unset, .val (.long r288), .second] [(.int (2 : Int32)), (.int (1 : Int32))]))
      refine GlW.back (fun _ k => XS.ifNo X315.here hx rfl (hb hby at_172) rfl ((if0 _ _).trans (tlt (by decide : (0 : Int32) < (2 : Int32))).2.2.2) k) ?_
      show GlW _ _ _ _ _ _ _ (T315.setTop (mkF m 175 #[.val (.long x0), .second, .val (.long x1), .second, .val (.long x2), .second, .val (.int x3), .val (.int x4), .val (.long x5), .second, .val (.ref b167), .val (.int (2 : Int32)), .val (.ref b244), .val (.ref b248), .val (.long (x5 &&& (9223372036854775807 : Int64))), .second, .val (.int (2 : Int32)), .val (.int (1 : Int32)), .unset, .val (.long r288), .second] [(.int (1 : Int32))]))
      refine GlW.back (fun _ k => XS.iconst X315.here hx rfl (hb hby at_175) k) ?_
      show GlW _ _ _ _ _ _ _ (T315.setTop (mkF m 176 #[.val (.long x0), .second, .val (.long x1), .second, .val (.long x2), .second, .val (.int x3), .val (.int x4), .val (.long x5), .second, .val (.ref b167), .val (.int (2 : Int32)), .val (.ref b244), .val (.ref b248), .val (.long (x5 &&& (9223372036854775807 : Int64))), .second, .val (.int (2 : Int32)), .val (.int (1 : Int32)), .unset, .val (.long r288), .second] [(.int (1 : Int32)), (.int (1 : Int32))]))
      refine GlW.back (fun _ k => XS.goto X315.here hx rfl (pc0 := 176) (pc' := 180) rfl (hb hby at_176) (by decide) (by decide) k) ?_
      show GlW _ _ _ _ _ _ _ (T315.setTop (mkF m 180 #[.val (.long x0), .second, .val (.long x1), .second, .val (.long x2), .second, .val (.int x3), .val (.int x4), .val (.long x5), .second, .val (.ref b167), .val (.int (2 : Int32)), .val (.ref b244), .val (.ref b248), .val (.long (x5 &&& (9223372036854775807 : Int64))), .second, .val (.int (2 : Int32)), .val (.int (1 : Int32)), .unset, .val (.long r288), .second] [(.int (1 : Int32)), (.int (1 : Int32))]))
      refine GlW.back (fun _ k => XS.icmpNo X315.here hx rfl (hb hby at_180) rfl (teq (by decide : (1 : Int32) = (1 : Int32))).2 k) ?_
      show GlW _ _ _ _ _ _ _ (T315.setTop (mkF m 183 #[.val (.long x0), .second, .val (.long x1), .second, .val (.long x2), .second, .val (.int x3), .val (.int x4), .val (.long x5), .second, .val (.ref b167), .val (.int (2 : Int32)), .val (.ref b244), .val (.ref b248), .val (.long (x5 &&& (9223372036854775807 : Int64))), .second, .val (.int (2 : Int32)), .val (.int (1 : Int32)), .unset, .val (.long r288), .second] []))
      refine GlW.back (fun _ k => XS.iload X315.here hx rfl (hb hby at_183) rfl k) ?_
      show GlW _ _ _ _ _ _ _ (T315.setTop (mkF m 185 #[.val (.long x0), .second, .val (.long x1), .second, .val (.long x2), .second, .val (.int x3), .val (.int x4), .val (.long x5), .second, .val (.ref b167), .val (.int (2 : Int32)), .val (.ref b244), .val (.ref b248), .val (.long (x5 &&& (9223372036854775807 : Int64))), .second, .val (.int (2 : Int32)), .val (.int (1 : Int32)), .unset, .val (.long r288), .second] [(.int (1 : Int32))]))
      refine GlW.back (fun _ k => XS.aload X315.here hx rfl (hb hby at_185) rfl rfl k) ?_
      show GlW _ _ _ _ _ _ _ (T315.setTop (mkF m 187 #[.val (.long x0), .second, .val (.long x1), .second, .val (.long x2), .second, .val (.int x3), .val (.int x4), .val (.long x5), .second, .val (.ref b167), .val (.int (2 : Int32)), .val (.ref b244), .val (.ref b248), .val (.long (x5 &&& (9223372036854775807 : Int64))), .second, .val (.int (2 : Int32)), .val (.int (1 : Int32)), .unset, .val (.long r288), .second] [(.ref b167), (.int (1 : Int32))]))
      obtain ⟨cq317, kq317, q317a, q317b, q317c⟩ := isOf hZ297 eh315 f316
      obtain ⟨_, _, ⟨T317, L317, k317, n317⟩, -, X317, ⟨Lc317, hQ317, l317, y317, z317⟩, st317⟩ := X315.virtualBack hx (y := (⟨"com/example/gavelwatch/gavelwatch/sim/RunningAuction", "bids", "()Ljava/util/List;"⟩ : MethodName)) (z := (⟨"com/example/gavelwatch/gavelwatch/sim/RunningAuction", "bids", "()Ljava/util/List;"⟩ : MethodName)) hown297 (mvT hZ297 (hw _ (List.mem_of_getElem? (i := 187) rfl))) (mvT hZ297 (hw _ (List.mem_of_getElem? (i := 188) rfl))) (notFace_of_selects (args := #[]) (mvT hZ297 (hw _ (List.mem_of_getElem? (i := 190) rfl)))) (mvT hZ297 (hw _ (List.mem_of_getElem? (i := 190) rfl))) (mvT hZ297 (hw _ (List.mem_of_getElem? (i := 189) rfl))) (by decide) (backOf (W := 1) (rmbids l Z a0 hw [] b167 l170 T297.heap n0 Zc297 Fb297) hZ297 (hw _ (List.mem_of_getElem? (i := 191) rfl)) (hw _ (List.mem_of_getElem? (i := 2) rfl)) (by decide) (by decide)) q317a q317c (g := (mkF m 187 #[.val (.long x0), .second, .val (.long x1), .second, .val (.long x2), .second, .val (.int x3), .val (.int x4), .val (.long x5), .second, .val (.ref b167), .val (.int (2 : Int32)), .val (.ref b244), .val (.ref b248), .val (.long (x5 &&& (9223372036854775807 : Int64))), .second, .val (.int (2 : Int32)), .val (.int (1 : Int32)), .unset, .val (.long r288), .second] [(.ref b167), (.int (1 : Int32))])) rfl (by rw [hml]; rfl) (Steps.refl _) (argsL := []) (rest := [(.int (1 : Int32))]) (lenOf pd___Ljava_util_List_ rfl) rfl (by show 2 * 0 + _ ≤ _; exact Nat.le_of_eq rfl) (hb hby at_187) (fun _ _ => ⟨rfl, eh315, (by decide : 19 + 0 ≤ _), (by decide : 143 + 0 ≤ _)⟩)
      dsimp only [Pt.U, Pt.locs, Pt.cells, Pt.slots] at X317 l317 y317 z317 st317 hQ317
      subst l317 y317 z317
      obtain ⟨Nq317, rfl, eh317⟩ := hQ317
      have N317 := Fr.app N315 Nq317
      refine GlW.back (fun _ k => st317.trans k) ?_
      show GlW _ _ _ _ _ _ _ (T317.setTop (mkF m 190 #[.val (.long x0), .second, .val (.long x1), .second, .val (.long x2), .second, .val (.int x3), .val (.int x4), .val (.long x5), .second, .val (.ref b167), .val (.int (2 : Int32)), .val (.ref b244), .val (.ref b248), .val (.long (x5 &&& (9223372036854775807 : Int64))), .second, .val (.int (2 : Int32)), .val (.int (1 : Int32)), .unset, .val (.long r288), .second] [(.ref l170), (.int (1 : Int32))]))
      have f319 := (f300.keep Kq297)
      obtain ⟨cq318, kq318, q318a, q318b, q318c⟩ := isOf hZ297 eh317 f319
      obtain ⟨_, _, ⟨T318, L318, k318, n318⟩, -, X318, ⟨Lc318, hQ318, l318, y318, z318⟩, st318⟩ := X317.interfaceBack hx (xi := (⟨"java/util/List", "size", "()I"⟩ : MethodName)) (y := (⟨"java/util/ArrayList", "size", "()I"⟩ : MethodName)) hown297 (mvT hZ297 (hw _ (List.mem_of_getElem? (i := 192) rfl))) (mvT hZ297 (hw _ (List.mem_of_getElem? (i := 193) rfl))) (mvT hZ297 (hw _ (List.mem_of_getElem? (i := 194) rfl))) (mvT hZ297 (hw _ (List.mem_of_getElem? (i := 195) rfl))) (mvT hZ297 (hw _ (List.mem_of_getElem? (i := 196) rfl))) (mvT hZ297 (hw _ (List.mem_of_getElem? (i := 197) rfl))) (mvT hZ297 (hw _ (List.mem_of_getElem? (i := 198) rfl))) (mvT hZ297 (hw _ (List.mem_of_getElem? (i := 155) rfl))) (by decide) (backOf (W := 1) (rmsize l Z a0 hw [] l170 (2 : Int32) T297.heap n0 Zc297 Fs297) hZ297 (hw _ (List.mem_of_getElem? (i := 199) rfl)) (hw _ (List.mem_of_getElem? (i := 25) rfl)) (by decide) (by decide)) q318a q318b q318c (g := (mkF m 190 #[.val (.long x0), .second, .val (.long x1), .second, .val (.long x2), .second, .val (.int x3), .val (.int x4), .val (.long x5), .second, .val (.ref b167), .val (.int (2 : Int32)), .val (.ref b244), .val (.ref b248), .val (.long (x5 &&& (9223372036854775807 : Int64))), .second, .val (.int (2 : Int32)), .val (.int (1 : Int32)), .unset, .val (.long r288), .second] [(.ref l170), (.int (1 : Int32))])) rfl (by rw [hml]; rfl) (Steps.refl _) (argsL := []) (rest := [(.int (1 : Int32))]) (lenOf pd___I rfl) rfl (by show 2 * 0 + _ ≤ _; exact Nat.le_of_eq rfl) (hb hby at_190) (fun _ _ => ⟨rfl, eh317, (by decide : 19 + 0 ≤ _), (by decide : 143 + 0 ≤ _)⟩)
      dsimp only [Pt.U, Pt.locs, Pt.cells, Pt.slots] at X318 l318 y318 z318 st318 hQ318
      subst l318 y318 z318
      obtain ⟨Nq318, rfl, eh318⟩ := hQ318
      have N318 := Fr.app N317 Nq318
      refine GlW.back (fun _ k => st318.trans k) ?_
      show GlW _ _ _ _ _ _ _ (T318.setTop (mkF m 195 #[.val (.long x0), .second, .val (.long x1), .second, .val (.long x2), .second, .val (.int x3), .val (.int x4), .val (.long x5), .second, .val (.ref b167), .val (.int (2 : Int32)), .val (.ref b244), .val (.ref b248), .val (.long (x5 &&& (9223372036854775807 : Int64))), .second, .val (.int (2 : Int32)), .val (.int (1 : Int32)), .unset, .val (.long r288), .second] [(.int (2 : Int32)), (.int (1 : Int32))]))
      refine GlW.back (fun _ k => XS.ifNo X318.here hx rfl (hb hby at_195) rfl ((if0 _ _).trans (feq (by decide : ¬ (2 : Int32) = (0 : Int32))).1) k) ?_
      show GlW _ _ _ _ _ _ _ (T318.setTop (mkF m 198 #[.val (.long x0), .second, .val (.long x1), .second, .val (.long x2), .second, .val (.int x3), .val (.int x4), .val (.long x5), .second, .val (.ref b167), .val (.int (2 : Int32)), .val (.ref b244), .val (.ref b248), .val (.long (x5 &&& (9223372036854775807 : Int64))), .second, .val (.int (2 : Int32)), .val (.int (1 : Int32)), .unset, .val (.long r288), .second] [(.int (1 : Int32))]))
      refine GlW.back (fun _ k => XS.iconst X318.here hx rfl (hb hby at_198) k) ?_
      show GlW _ _ _ _ _ _ _ (T318.setTop (mkF m 199 #[.val (.long x0), .second, .val (.long x1), .second, .val (.long x2), .second, .val (.int x3), .val (.int x4), .val (.long x5), .second, .val (.ref b167), .val (.int (2 : Int32)), .val (.ref b244), .val (.ref b248), .val (.long (x5 &&& (9223372036854775807 : Int64))), .second, .val (.int (2 : Int32)), .val (.int (1 : Int32)), .unset, .val (.long r288), .second] [(.int (1 : Int32)), (.int (1 : Int32))]))
      refine GlW.back (fun _ k => XS.goto X318.here hx rfl (pc0 := 199) (pc' := 203) rfl (hb hby at_199) (by decide) (by decide) k) ?_
      show GlW _ _ _ _ _ _ _ (T318.setTop (mkF m 203 #[.val (.long x0), .second, .val (.long x1), .second, .val (.long x2), .second, .val (.int x3), .val (.int x4), .val (.long x5), .second, .val (.ref b167), .val (.int (2 : Int32)), .val (.ref b244), .val (.ref b248), .val (.long (x5 &&& (9223372036854775807 : Int64))), .second, .val (.int (2 : Int32)), .val (.int (1 : Int32)), .unset, .val (.long r288), .second] [(.int (1 : Int32)), (.int (1 : Int32))]))
      refine GlW.back (fun _ k => XS.icmpNo X318.here hx rfl (hb hby at_203) rfl (teq (by decide : (1 : Int32) = (1 : Int32))).2 k) ?_
      show GlW _ _ _ _ _ _ _ (T318.setTop (mkF m 206 #[.val (.long x0), .second, .val (.long x1), .second, .val (.long x2), .second, .val (.int x3), .val (.int x4), .val (.long x5), .second, .val (.ref b167), .val (.int (2 : Int32)), .val (.ref b244), .val (.ref b248), .val (.long (x5 &&& (9223372036854775807 : Int64))), .second, .val (.int (2 : Int32)), .val (.int (1 : Int32)), .unset, .val (.long r288), .second] []))
      refine GlW.back (fun _ k => XS.iconst X318.here hx rfl (hb hby at_206) k) ?_
      show GlW _ _ _ _ _ _ _ (T318.setTop (mkF m 207 #[.val (.long x0), .second, .val (.long x1), .second, .val (.long x2), .second, .val (.int x3), .val (.int x4), .val (.long x5), .second, .val (.ref b167), .val (.int (2 : Int32)), .val (.ref b244), .val (.ref b248), .val (.long (x5 &&& (9223372036854775807 : Int64))), .second, .val (.int (2 : Int32)), .val (.int (1 : Int32)), .unset, .val (.long r288), .second] [(.int (1 : Int32))]))
      refine GlW.back (fun _ k => XS.goto X318.here hx rfl (pc0 := 207) (pc' := 211) rfl (hb hby at_207) (by decide) (by decide) k) ?_
      show GlW _ _ _ _ _ _ _ (T318.setTop (mkF m 211 #[.val (.long x0), .second, .val (.long x1), .second, .val (.long x2), .second, .val (.int x3), .val (.int x4), .val (.long x5), .second, .val (.ref b167), .val (.int (2 : Int32)), .val (.ref b244), .val (.ref b248), .val (.long (x5 &&& (9223372036854775807 : Int64))), .second, .val (.int (2 : Int32)), .val (.int (1 : Int32)), .unset, .val (.long r288), .second] [(.int (1 : Int32))]))
      exact GlW.ret X318 eh318 hS297 (Nat.le_refl _) (v := (some (.int (1 : Int32)))) (fun h => by rw [Bd.returns] at h; cases h) Bd.notSynchronized (fun fs hr => retN X318 hx (t := .boolean) (z := (1 : Int32)) Bd.returns (by simp) (hb hby at_211) hr) ⟨N318, rfl⟩ (by decide) (by decide)
  · rw [hk178]
    show GlW _ _ _ _ _ _ _ (T176.setTop (mkF m 31 #[.val (.long x0), .second, .val (.long x1), .second, .val (.long x2), .second, .val (.int x3), .val (.int x4), .val (.long x5), .second, .val (.ref b167), .unset, .unset, .unset, .unset, .unset, .unset, .unset, .unset, .unset, .unset] [(.int (3 : Int32))]))
    refine GlW.back (fun _ k => XS.istore X176.here hx rfl (hb hby at_31) rfl (l' := #[.val (.long x0), .second, .val (.long x1), .second, .val (.long x2), .second, .val (.int x3), .val (.int x4), .val (.long x5), .second, .val (.ref b167), .val (.int (3 : Int32)), .unset, .unset, .unset, .unset, .unset, .unset, .unset, .unset, .unset]) rfl k) ?_
    show GlW _ _ _ _ _ _ _ (T176.setTop (mkF m 33 #[.val (.long x0), .second, .val (.long x1), .second, .val (.long x2), .second, .val (.int x3), .val (.int x4), .val (.long x5), .second, .val (.ref b167), .val (.int (3 : Int32)), .unset, .unset, .unset, .unset, .unset, .unset, .unset, .unset, .unset] []))
    refine GlW.back (fun _ k => XS.iconst X176.here hx rfl (hb hby at_33) k) ?_
    show GlW _ _ _ _ _ _ _ (T176.setTop (mkF m 34 #[.val (.long x0), .second, .val (.long x1), .second, .val (.long x2), .second, .val (.int x3), .val (.int x4), .val (.long x5), .second, .val (.ref b167), .val (.int (3 : Int32)), .unset, .unset, .unset, .unset, .unset, .unset, .unset, .unset, .unset] [(.int (1 : Int32))]))
    obtain ⟨T320, h320, k320, X320, e320, E320, A320, st320⟩ := newP X176 hx hZ0 (hw _ (List.mem_of_getElem? (i := 58) rfl)) eh176 (g := (mkF m 34 #[.val (.long x0), .second, .val (.long x1), .second, .val (.long x2), .second, .val (.int x3), .val (.int x4), .val (.long x5), .second, .val (.ref b167), .val (.int (3 : Int32)), .unset, .unset, .unset, .unset, .unset, .unset, .unset, .unset, .unset] [(.int (1 : Int32))])) rfl (hb hby at_34) rfl (by decide) (cap := 1) (by decide) (by decide) (by decide) (by decide)
    obtain ⟨b320, g320⟩ : ∃ z, z = T170.heap.size := ⟨_, rfl⟩
    rw [← g320] at A320 st320
    have V320 : Arv Z h320 b320 k320 .char (1 : Int32) [(.int (0 : Int32))] (.int (0 : Int32)) := (Arv.new A320 (by decide)).pad (pad_rep [] (.int (0 : Int32)) 1)
    have ne_b167_b320 : b167 ≠ b320 := Nat.ne_of_lt (Nat.lt_of_lt_of_le f177.lt (Nat.le_of_eq g320.symm))
    have f321 := (f172.keep Kq170)
    have ne_b168_b320 : b168 ≠ b320 := Nat.ne_of_lt (Nat.lt_of_lt_of_le f321.lt (Nat.le_of_eq g320.symm))
    have ne_l170_b320 : l170 ≠ b320 := Nat.ne_of_lt (Nat.lt_of_lt_of_le El170.lt (Nat.le_of_eq g320.symm))
    have g_b320 : n0 ≤ b320 := Nat.le_trans Zc170 (Nat.le_of_eq g320.symm)
    have sz_b320 : h0.size ≤ b320 := Nat.le_trans Kc170.1 (Nat.le_of_eq g320.symm)
    have Z320 : n0 ≤ h320.size := Nat.le_trans Zc170 E320.1
    have K320 := Keep.ext Kc170 E320
    have O320 := Old.ext Oc170 E320
    have SK320 := Nat.le_trans SKc170 E320.1
    refine GlW.back (fun _ k => st320 _ k) ?_
    show GlW _ _ _ _ _ _ _ (T320.setTop (mkF m 36 #[.val (.long x0), .second, .val (.long x1), .second, .val (.long x2), .second, .val (.int x3), .val (.int x4), .val (.long x5), .second, .val (.ref b167), .val (.int (3 : Int32)), .unset, .unset, .unset, .unset, .unset, .unset, .unset, .unset, .unset] [(.ref b320)]))
    refine GlW.back (fun _ k => XS.dup X320.here hx rfl (hb hby at_36) rfl rfl k) ?_
    show GlW _ _ _ _ _ _ _ (T320.setTop (mkF m 37 #[.val (.long x0), .second, .val (.long x1), .second, .val (.long x2), .second, .val (.int x3), .val (.int x4), .val (.long x5), .second, .val (.ref b167), .val (.int (3 : Int32)), .unset, .unset, .unset, .unset, .unset, .unset, .unset, .unset, .unset] [(.ref b320), (.ref b320)]))
    refine GlW.back (fun _ k => XS.iconst X320.here hx rfl (hb hby at_37) k) ?_
    show GlW _ _ _ _ _ _ _ (T320.setTop (mkF m 38 #[.val (.long x0), .second, .val (.long x1), .second, .val (.long x2), .second, .val (.int x3), .val (.int x4), .val (.long x5), .second, .val (.ref b167), .val (.int (3 : Int32)), .unset, .unset, .unset, .unset, .unset, .unset, .unset, .unset, .unset] [(.int (0 : Int32)), (.ref b320), (.ref b320)]))
    refine GlW.back (fun _ k => XS.iload X320.here hx rfl (hb hby at_38) rfl k) ?_
    show GlW _ _ _ _ _ _ _ (T320.setTop (mkF m 40 #[.val (.long x0), .second, .val (.long x1), .second, .val (.long x2), .second, .val (.int x3), .val (.int x4), .val (.long x5), .second, .val (.ref b167), .val (.int (3 : Int32)), .unset, .unset, .unset, .unset, .unset, .unset, .unset, .unset, .unset] [(.int x4), (.int (0 : Int32)), (.ref b320), (.ref b320)]))
    refine GlW.back (fun _ k => XS.sipush X320.here hx rfl (hb hby at_40) k) ?_
    show GlW _ _ _ _ _ _ _ (T320.setTop (mkF m 43 #[.val (.long x0), .second, .val (.long x1), .second, .val (.long x2), .second, .val (.int x3), .val (.int x4), .val (.long x5), .second, .val (.ref b167), .val (.int (3 : Int32)), .unset, .unset, .unset, .unset, .unset, .unset, .unset, .unset, .unset] [(.int (255 : Int32)), (.int x4), (.int (0 : Int32)), (.ref b320), (.ref b320)]))
    refine GlW.back (fun _ k => XS.iand X320.here hx rfl (hb hby at_43) rfl k) ?_
    show GlW _ _ _ _ _ _ _ (T320.setTop (mkF m 44 #[.val (.long x0), .second, .val (.long x1), .second, .val (.long x2), .second, .val (.int x3), .val (.int x4), .val (.long x5), .second, .val (.ref b167), .val (.int (3 : Int32)), .unset, .unset, .unset, .unset, .unset, .unset, .unset, .unset, .unset] [(.int (x4 &&& (255 : Int32))), (.int (0 : Int32)), (.ref b320), (.ref b320)]))
    refine GlW.back (fun _ k => XS.i2c X320.here hx rfl (hb hby at_44) rfl k) ?_
    show GlW _ _ _ _ _ _ _ (T320.setTop (mkF m 45 #[.val (.long x0), .second, .val (.long x1), .second, .val (.long x2), .second, .val (.int x3), .val (.int x4), .val (.long x5), .second, .val (.ref b167), .val (.int (3 : Int32)), .unset, .unset, .unset, .unset, .unset, .unset, .unset, .unset, .unset] [(.int ((x4 &&& (255 : Int32)).toUInt32.toUInt16.toUInt32.toInt32)), (.int (0 : Int32)), (.ref b320), (.ref b320)]))
    obtain ⟨cl322, Ar322, q322, Sz322, Nn322, Hs322, Gf322⟩ := id V320
    have hin322 : ¬ ((0 : Int32) < 0 ∨ cl322.slots.size ≤ ((0 : Int32)).toNatClampNeg) := inb_of Sz322 ⟨by decide, by decide⟩
    obtain ⟨T323, h323, X323, e323, W323, st323⟩ := stC X320 hx hZ0 e320 Ar322 (j := (0 : Int32)) hin322 (g := (mkF m 45 #[.val (.long x0), .second, .val (.long x1), .second, .val (.long x2), .second, .val (.int x3), .val (.int x4), .val (.long x5), .second, .val (.ref b167), .val (.int (3 : Int32)), .unset, .unset, .unset, .unset, .unset, .unset, .unset, .unset, .unset] [(.int ((x4 &&& (255 : Int32)).toUInt32.toUInt16.toUInt32.toInt32)), (.int (0 : Int32)), (.ref b320), (.ref b320)])) rfl rfl (hb hby at_45)
    have V323 := Arv.set Ar322 q322 Sz322 Nn322 Hs322 Gf322 (fits_nar_char _) W323 0 rfl (Nat.le_of_ble_eq_true rfl)
    replace V323 : Arv Z h323 b320 k320 .char (1 : Int32) [(.int (nar .char ((x4 &&& (255 : Int32)).toUInt32.toUInt16.toUInt32.toInt32)))] (.int (0 : Int32)) := V323
    have K323 := Keep.wr K320 W323 (Or.inr sz_b320)
    have O323 := Old.wr O320 W323 g_b320
    have Z323 : n0 ≤ h323.size := Nat.le_trans Z320 (Keep.of_wr W323).1
    have SK323 := Nat.le_trans SK320 (Keep.of_wr W323).1
    have N323 := Fr.snoc X323 N176 g_b320
    refine GlW.back (fun _ k => st323 _ k) ?_
    show GlW _ _ _ _ _ _ _ (T323.setTop (mkF m 46 #[.val (.long x0), .second, .val (.long x1), .second, .val (.long x2), .second, .val (.int x3), .val (.int x4), .val (.long x5), .second, .val (.ref b167), .val (.int (3 : Int32)), .unset, .unset, .unset, .unset, .unset, .unset, .unset, .unset, .unset] [(.ref b320)]))
    refine GlW.back (fun _ k => XS.astore X323.here hx rfl (hb hby at_46) rfl rfl (l' := #[.val (.long x0), .second, .val (.long x1), .second, .val (.long x2), .second, .val (.int x3), .val (.int x4), .val (.long x5), .second, .val (.ref b167), .val (.int (3 : Int32)), .val (.ref b320), .unset, .unset, .unset, .unset, .unset, .unset, .unset, .unset]) rfl k) ?_
    show GlW _ _ _ _ _ _ _ (T323.setTop (mkF m 48 #[.val (.long x0), .second, .val (.long x1), .second, .val (.long x2), .second, .val (.int x3), .val (.int x4), .val (.long x5), .second, .val (.ref b167), .val (.int (3 : Int32)), .val (.ref b320), .unset, .unset, .unset, .unset, .unset, .unset, .unset, .unset] []))
    obtain ⟨T324, h324, X324, e324, E324, A324, D324, -, st324⟩ := newO X323 hx hZ0 hown0 (hw _ (List.mem_of_getElem? (i := 59) rfl)) (hw _ (List.mem_of_getElem? (i := 60) rfl)) (hw _ (List.mem_of_getElem? (i := 61) rfl)) e323 (g := (mkF m 48 #[.val (.long x0), .second, .val (.long x1), .second, .val (.long x2), .second, .val (.int x3), .val (.int x4), .val (.long x5), .second, .val (.ref b167), .val (.int (3 : Int32)), .val (.ref b320), .unset, .unset, .unset, .unset, .unset, .unset, .unset, .unset] [])) rfl (hb hby at_48) (by decide) (by decide)
    obtain ⟨b324, g324⟩ : ∃ z, z = h323.size := ⟨_, rfl⟩
    rw [← g324] at A324 D324 st324
    have f325 := ((f177.ext E320).wr W323)
    have ne_b167_b324 : b167 ≠ b324 := Nat.ne_of_lt (Nat.lt_of_lt_of_le f325.lt (Nat.le_of_eq g324.symm))
    have f326 := ((f321.ext E320).wr W323)
    have ne_b168_b324 : b168 ≠ b324 := Nat.ne_of_lt (Nat.lt_of_lt_of_le f326.lt (Nat.le_of_eq g324.symm))
    have f327 := ((El170.ext E320).wr W323)
    have ne_l170_b324 : l170 ≠ b324 := Nat.ne_of_lt (Nat.lt_of_lt_of_le f327.lt (Nat.le_of_eq g324.symm))
    have ne_b320_b324 : b320 ≠ b324 := Nat.ne_of_lt (Nat.lt_of_lt_of_le V323.lt (Nat.le_of_eq g324.symm))
    have g_b324 : n0 ≤ b324 := Nat.le_trans Z323 (Nat.le_of_eq g324.symm)
    have sz_b324 : h0.size ≤ b324 := Nat.le_trans K323.1 (Nat.le_of_eq g324.symm)
    have Z324 : n0 ≤ h324.size := Nat.le_trans Z323 E324.1
    have K324 := Keep.ext K323 E324
    have O324 := Old.ext O323 E324
    have SK324 := Nat.le_trans SK323 E324.1
    have F324_coder : Fld Z h324 b324 "java/lang/String" "coder" "B" (.int (0 : Int32)) := D324 (Or.inr (hw _ (List.mem_of_getElem? (i := 83) rfl))) (ty := .byte) (by decide)
    have F324_value : Fld Z h324 b324 "java/lang/String" "value" "[B" .null := D324 (Or.inr (hw _ (List.mem_of_getElem? (i := 85) rfl))) (ty := (.array .byte)) (by decide)
    refine GlW.back (fun _ k => st324 _ k) ?_
    show GlW _ _ _ _ _ _ _ (T324.setTop (mkF m 51 #[.val (.long x0), .second, .val (.long x1), .second, .val (.long x2), .second, .val (.int x3), .val (.int x4), .val (.long x5), .second, .val (.ref b167), .val (.int (3 : Int32)), .val (.ref b320), .unset, .unset, .unset, .unset, .unset, .unset, .unset, .unset] [(.ref b324)]))
    refine GlW.back (fun _ k => XS.dup X324.here hx rfl (hb hby at_51) rfl rfl k) ?_
    show GlW _ _ _ _ _ _ _ (T324.setTop (mkF m 52 #[.val (.long x0), .second, .val (.long x1), .second, .val (.long x2), .second, .val (.int x3), .val (.int x4), .val (.long x5), .second, .val (.ref b167), .val (.int (3 : Int32)), .val (.ref b320), .unset, .unset, .unset, .unset, .unset, .unset, .unset, .unset] [(.ref b324), (.ref b324)]))
    refine GlW.back (fun _ k => XS.aload X324.here hx rfl (hb hby at_52) rfl rfl k) ?_
    show GlW _ _ _ _ _ _ _ (T324.setTop (mkF m 54 #[.val (.long x0), .second, .val (.long x1), .second, .val (.long x2), .second, .val (.int x3), .val (.int x4), .val (.long x5), .second, .val (.ref b167), .val (.int (3 : Int32)), .val (.ref b320), .unset, .unset, .unset, .unset, .unset, .unset, .unset, .unset] [(.ref b320), (.ref b324), (.ref b324)]))
    have f328 := (f325.ext E324)
    have f329 := (f326.ext E324)
    have f330 := (f327.ext E324)
    have f331 := (V323.ext E324)
    have hws333 : ∀ d ∈ StrChars.Road.words, d.before a0 Z = true := fun d hd => hw d ((by decide +kernel : ∀ d ∈ StrChars.Road.words, d ∈ tables_1) d hd)
    have hlat333 : ∀ c ∈ [(nar .char ((x4 &&& (255 : Int32)).toUInt32.toUInt16.toUInt32.toInt32))], ¬ c < 0 ∧ ¬ (255 : Int32) < c := by
      intro c hc
      simp only [List.mem_cons, List.not_mem_nil, or_false] at hc
      subst hc
      exact (by rw [show (nar .char (((x4 &&& (255 : Int32))).toUInt32.toUInt16.toUInt32.toInt32)) = x4 &&& 255 from by simp only [nar, i2c_mask]]; exact own_and255 _)
    obtain ⟨_, _, ⟨T332, L332, k332, n332⟩, -, X332, ⟨Lc332, hQ332, l332, y332, z332⟩, st332⟩ := X324.specialBack hx (y := (⟨"java/lang/String", "<init>", "([C)V"⟩ : MethodName)) rfl hown0 (mvT hZ0 (hw _ (List.mem_of_getElem? (i := 62) rfl))) (mvT hZ0 (hw _ (List.mem_of_getElem? (i := 63) rfl))) (mvT hZ0 (hw _ (List.mem_of_getElem? (i := 64) rfl))) (by decide) (StrChars.Road.backV (W := 1) hZ0 hws333 (kI := 4) (hw _ (List.mem_of_getElem? (i := 60) rfl)) (cs := [(nar .char ((x4 &&& (255 : Int32)).toUInt32.toUInt16.toUInt32.toInt32))]) (bs := [((nar .char ((x4 &&& (255 : Int32)).toUInt32.toUInt16.toUInt32.toInt32))).toInt8.toInt32]) (n := 1) g_b324 Z324 A324 F324_value F324_coder f331 (S_COMPACT_STRINGS.ext O324.2) P0 rfl rfl (by decide) (by decide) hlat333 rfl (by decide) (by decide)) (g := (mkF m 54 #[.val (.long x0), .second, .val (.long x1), .second, .val (.long x2), .second, .val (.int x3), .val (.int x4), .val (.long x5), .second, .val (.ref b167), .val (.int (3 : Int32)), .val (.ref b320), .unset, .unset, .unset, .unset, .unset, .unset, .unset, .unset] [(.ref b320), (.ref b324), (.ref b324)])) rfl (by rw [hml]; rfl) (Steps.refl _) (a := b324) (argsL := [(.ref b320)]) (rest := [(.ref b324)]) (lenOf pd___C_V rfl) rfl (by show 2 * 0 + _ ≤ _; exact Nat.le_of_eq rfl) (hb hby at_54) (fun _ _ => ⟨rfl, e324, (by decide : 5 + 1 ≤ _), (by decide : 12 + 1 ≤ _)⟩)
    dsimp only [Pt.U, Pt.locs, Pt.cells, Pt.slots] at X332 l332 y332 z332 st332 hQ332
    subst l332 y332 z332
    obtain ⟨rfl, Nq332, Kq332, -, Fc332, t332, kb332, Gt332, St332, Nt332, Fv332, Vt332⟩ := hQ332
    have N332 := Fr.app N323 Nq332
    have Kc332 := Keep.trans K324 Kq332 (allS (Or.inr sz_b324) all0)
    have Zc332 : n0 ≤ T332.heap.size := Nat.le_trans Z324 Kq332.1
    have Oc332 := Old.keep O324 Kq332 (allS g_b324 all0)
    have SKc332 := Nat.le_trans SK324 Kq332.1
    have ne_b167_t332 : b167 ≠ t332 := Nat.ne_of_lt (Nat.lt_of_lt_of_le (f328).lt St332)
    have ne_b168_t332 : b168 ≠ t332 := Nat.ne_of_lt (Nat.lt_of_lt_of_le (f329).lt St332)
    have ne_l170_t332 : l170 ≠ t332 := Nat.ne_of_lt (Nat.lt_of_lt_of_le (f330).lt St332)
    have ne_b320_t332 : b320 ≠ t332 := Nat.ne_of_lt (Nat.lt_of_lt_of_le (f331).lt St332)
    have szt332 : h0.size ≤ t332 := Nat.le_trans K324.1 St332
    refine GlW.back (fun _ k => st332.trans k) ?_
    show GlW _ _ _ _ _ _ _ (T332.setTop (mkF m 57 #[.val (.long x0), .second, .val (.long x1), .second, .val (.long x2), .second, .val (.int x3), .val (.int x4), .val (.long x5), .second, .val (.ref b167), .val (.int (3 : Int32)), .val (.ref b320), .unset, .unset, .unset, .unset, .unset, .unset, .unset, .unset] [(.ref b324)]))
    refine GlW.back (fun _ k => XS.astore X332.here hx rfl (hb hby at_57) rfl rfl (l' := #[.val (.long x0), .second, .val (.long x1), .second, .val (.long x2), .second, .val (.int x3), .val (.int x4), .val (.long x5), .second, .val (.ref b167), .val (.int (3 : Int32)), .val (.ref b320), .val (.ref b324), .unset, .unset, .unset, .unset, .unset, .unset, .unset]) rfl k) ?_
    show GlW _ _ _ _ _ _ _ (T332.setTop (mkF m 59 #[.val (.long x0), .second, .val (.long x1), .second, .val (.long x2), .second, .val (.int x3), .val (.int x4), .val (.long x5), .second, .val (.ref b167), .val (.int (3 : Int32)), .val (.ref b320), .val (.ref b324), .unset, .unset, .unset, .unset, .unset, .unset, .unset] []))
    refine GlW.back (fun _ k => XS.lload X332.here hx rfl (hb hby at_59) rfl k) ?_
    show GlW _ _ _ _ _ _ _ (T332.setTop (mkF m 61 #[.val (.long x0), .second, .val (.long x1), .second, .val (.long x2), .second, .val (.int x3), .val (.int x4), .val (.long x5), .second, .val (.ref b167), .val (.int (3 : Int32)), .val (.ref b320), .val (.ref b324), .unset, .unset, .unset, .unset, .unset, .unset, .unset] [(.long x5)]))
    refine GlW.back (fun _ k => X332.ldc2Long hx hown0 (mvT hZ0 (hw _ (List.mem_of_getElem? (i := 86) rfl))) (g := (mkF m 61 #[.val (.long x0), .second, .val (.long x1), .second, .val (.long x2), .second, .val (.int x3), .val (.int x4), .val (.long x5), .second, .val (.ref b167), .val (.int (3 : Int32)), .val (.ref b320), .val (.ref b324), .unset, .unset, .unset, .unset, .unset, .unset, .unset] [(.long x5)])) rfl (hb hby at_61) _ k) ?_
    show GlW _ _ _ _ _ _ _ (T332.setTop (mkF m 64 #[.val (.long x0), .second, .val (.long x1), .second, .val (.long x2), .second, .val (.int x3), .val (.int x4), .val (.long x5), .second, .val (.ref b167), .val (.int (3 : Int32)), .val (.ref b320), .val (.ref b324), .unset, .unset, .unset, .unset, .unset, .unset, .unset] [(.long (9223372036854775807 : Int64)), (.long x5)]))
    refine GlW.back (fun _ k => XS.land X332.here hx rfl (hb hby at_64) rfl k) ?_
    show GlW _ _ _ _ _ _ _ (T332.setTop (mkF m 65 #[.val (.long x0), .second, .val (.long x1), .second, .val (.long x2), .second, .val (.int x3), .val (.int x4), .val (.long x5), .second, .val (.ref b167), .val (.int (3 : Int32)), .val (.ref b320), .val (.ref b324), .unset, .unset, .unset, .unset, .unset, .unset, .unset] [(.long (x5 &&& (9223372036854775807 : Int64)))]))
    refine GlW.back (fun _ k => XS.lstore X332.here hx rfl (hb hby at_65) rfl (l' := #[.val (.long x0), .second, .val (.long x1), .second, .val (.long x2), .second, .val (.int x3), .val (.int x4), .val (.long x5), .second, .val (.ref b167), .val (.int (3 : Int32)), .val (.ref b320), .val (.ref b324), .val (.long (x5 &&& (9223372036854775807 : Int64))), .second, .unset, .unset, .unset, .unset, .unset]) rfl k) ?_
    show GlW _ _ _ _ _ _ _ (T332.setTop (mkF m 67 #[.val (.long x0), .second, .val (.long x1), .second, .val (.long x2), .second, .val (.int x3), .val (.int x4), .val (.long x5), .second, .val (.ref b167), .val (.int (3 : Int32)), .val (.ref b320), .val (.ref b324), .val (.long (x5 &&& (9223372036854775807 : Int64))), .second, .unset, .unset, .unset, .unset, .unset] []))
    refine GlW.back (fun _ k => XS.iconst X332.here hx rfl (hb hby at_67) k) ?_
    show GlW _ _ _ _ _ _ _ (T332.setTop (mkF m 68 #[.val (.long x0), .second, .val (.long x1), .second, .val (.long x2), .second, .val (.int x3), .val (.int x4), .val (.long x5), .second, .val (.ref b167), .val (.int (3 : Int32)), .val (.ref b320), .val (.ref b324), .val (.long (x5 &&& (9223372036854775807 : Int64))), .second, .unset, .unset, .unset, .unset, .unset] [(.int (0 : Int32))]))
    refine GlW.back (fun _ k => XS.istore X332.here hx rfl (hb hby at_68) rfl (l' := #[.val (.long x0), .second, .val (.long x1), .second, .val (.long x2), .second, .val (.int x3), .val (.int x4), .val (.long x5), .second, .val (.ref b167), .val (.int (3 : Int32)), .val (.ref b320), .val (.ref b324), .val (.long (x5 &&& (9223372036854775807 : Int64))), .second, .val (.int (0 : Int32)), .unset, .unset, .unset, .unset]) rfl k) ?_
    show GlW _ _ _ _ _ _ _ (T332.setTop (mkF m 70 #[.val (.long x0), .second, .val (.long x1), .second, .val (.long x2), .second, .val (.int x3), .val (.int x4), .val (.long x5), .second, .val (.ref b167), .val (.int (3 : Int32)), .val (.ref b320), .val (.ref b324), .val (.long (x5 &&& (9223372036854775807 : Int64))), .second, .val (.int (0 : Int32)), .unset, .unset, .unset, .unset] []))
    refine GlW.back (fun _ k => XS.iload X332.here hx rfl (hb hby at_70) rfl k) ?_
    show GlW _ _ _ _ _ _ _ (T332.setTop (mkF m 72 #[.val (.long x0), .second, .val (.long x1), .second, .val (.long x2), .second, .val (.int x3), .val (.int x4), .val (.long x5), .second, .val (.ref b167), .val (.int (3 : Int32)), .val (.ref b320), .val (.ref b324), .val (.long (x5 &&& (9223372036854775807 : Int64))), .second, .val (.int (0 : Int32)), .unset, .unset, .unset, .unset] [(.int (3 : Int32))]))
    refine GlW.back (fun _ k => XS.iconst X332.here hx rfl (hb hby at_72) k) ?_
    show GlW _ _ _ _ _ _ _ (T332.setTop (mkF m 73 #[.val (.long x0), .second, .val (.long x1), .second, .val (.long x2), .second, .val (.int x3), .val (.int x4), .val (.long x5), .second, .val (.ref b167), .val (.int (3 : Int32)), .val (.ref b320), .val (.ref b324), .val (.long (x5 &&& (9223372036854775807 : Int64))), .second, .val (.int (0 : Int32)), .unset, .unset, .unset, .unset] [(.int (1 : Int32)), (.int (3 : Int32))]))
    refine GlW.back (fun _ k => XS.icmpNo X332.here hx rfl (hb hby at_73) rfl (flt (by decide : ¬ (3 : Int32) < (1 : Int32))).1 k) ?_
    show GlW _ _ _ _ _ _ _ (T332.setTop (mkF m 76 #[.val (.long x0), .second, .val (.long x1), .second, .val (.long x2), .second, .val (.int x3), .val (.int x4), .val (.long x5), .second, .val (.ref b167), .val (.int (3 : Int32)), .val (.ref b320), .val (.ref b324), .val (.long (x5 &&& (9223372036854775807 : Int64))), .second, .val (.int (0 : Int32)), .unset, .unset, .unset, .unset] []))
    refine GlW.back (fun _ k => XS.lloadN X332.here hx rfl (hb hby at_76) rfl k) ?_
    show GlW _ _ _ _ _ _ _ (T332.setTop (mkF m 77 #[.val (.long x0), .second, .val (.long x1), .second, .val (.long x2), .second, .val (.int x3), .val (.int x4), .val (.long x5), .second, .val (.ref b167), .val (.int (3 : Int32)), .val (.ref b320), .val (.ref b324), .val (.long (x5 &&& (9223372036854775807 : Int64))), .second, .val (.int (0 : Int32)), .unset, .unset, .unset, .unset] [(.long x0)]))
    refine GlW.back (fun _ k => XS.lloadN X332.here hx rfl (hb hby at_77) rfl k) ?_
    show GlW _ _ _ _ _ _ _ (T332.setTop (mkF m 78 #[.val (.long x0), .second, .val (.long x1), .second, .val (.long x2), .second, .val (.int x3), .val (.int x4), .val (.long x5), .second, .val (.ref b167), .val (.int (3 : Int32)), .val (.ref b320), .val (.ref b324), .val (.long (x5 &&& (9223372036854775807 : Int64))), .second, .val (.int (0 : Int32)), .unset, .unset, .unset, .unset] [(.long x1), (.long x0)]))
    obtain ⟨_, _, ⟨T334, L334, k334, n334⟩, -, X334, ⟨Lc334, hQ334, l334, y334, z334⟩, st334⟩ := Jvm.LawKit.callS X332 hx (y := (⟨"java/lang/Math", "max", "(JJ)J"⟩ : MethodName)) hown0 (mvT hZ0 (hw _ (List.mem_of_getElem? (i := 87) rfl))) (mvT hZ0 (hw _ (List.mem_of_getElem? (i := 88) rfl))) (mvT hZ0 (hw _ (List.mem_of_getElem? (i := 89) rfl))) (mvT hZ0 (hw _ (List.mem_of_getElem? (i := 90) rfl))) (by decide) (backOf (W := 0) (rmmaxJ l Z a0 hw [] x0 x1  T332.heap n0 Zc332 ) hZ0 (hw _ (List.mem_of_getElem? (i := 90) rfl)) (hw _ (List.mem_of_getElem? (i := 89) rfl)) (by decide) (by decide)) (g := (mkF m 78 #[.val (.long x0), .second, .val (.long x1), .second, .val (.long x2), .second, .val (.int x3), .val (.int x4), .val (.long x5), .second, .val (.ref b167), .val (.int (3 : Int32)), .val (.ref b320), .val (.ref b324), .val (.long (x5 &&& (9223372036854775807 : Int64))), .second, .val (.int (0 : Int32)), .unset, .unset, .unset, .unset] [(.long x1), (.long x0)])) rfl (by rw [hml]; rfl) (argsL := [(.long x0), (.long x1)]) (rest := []) (lenOf pd__JJ_J rfl) rfl (by show 2 * 0 + _ ≤ _; exact Nat.le_of_eq rfl) (hb hby at_78) (fun _ _ => ⟨rfl, rfl, (by decide : 6 + 0 ≤ _), (by decide : 13 + 0 ≤ _)⟩)
    dsimp only [Pt.U, Pt.locs, Pt.cells, Pt.slots] at X334 l334 y334 z334 st334 hQ334
    subst l334 y334 z334
    obtain ⟨Nq334, r334, rfl, hge334, hgf334, eh334⟩ := hQ334
    have N334 := Fr.app N332 Nq334
    refine GlW.back (fun _ k => st334 _ k) ?_
    show GlW _ _ _ _ _ _ _ (T334.setTop (mkF m 81 #[.val (.long x0), .second, .val (.long x1), .second, .val (.long x2), .second, .val (.int x3), .val (.int x4), .val (.long x5), .second, .val (.ref b167), .val (.int (3 : Int32)), .val (.ref b320), .val (.ref b324), .val (.long (x5 &&& (9223372036854775807 : Int64))), .second, .val (.int (0 : Int32)), .unset, .unset, .unset, .unset] [(.long r334)]))
    refine GlW.back (fun _ k => XS.lstore X334.here hx rfl (hb hby at_81) rfl (l' := #[.val (.long x0), .second, .val (.long x1), .second, .val (.long x2), .second, .val (.int x3), .val (.int x4), .val (.long x5), .second, .val (.ref b167), .val (.int (3 : Int32)), .val (.ref b320), .val (.ref b324), .val (.long (x5 &&& (9223372036854775807 : Int64))), .second, .val (.int (0 : Int32)), .val (.long r334), .second, .unset, .unset]) rfl k) ?_
    show GlW _ _ _ _ _ _ _ (T334.setTop (mkF m 83 #[.val (.long x0), .second, .val (.long x1), .second, .val (.long x2), .second, .val (.int x3), .val (.int x4), .val (.long x5), .second, .val (.ref b167), .val (.int (3 : Int32)), .val (.ref b320), .val (.ref b324), .val (.long (x5 &&& (9223372036854775807 : Int64))), .second, .val (.int (0 : Int32)), .val (.long r334), .second, .unset, .unset] []))
    refine GlW.back (fun _ k => XS.aload X334.here hx rfl (hb hby at_83) rfl rfl k) ?_
    show GlW _ _ _ _ _ _ _ (T334.setTop (mkF m 85 #[.val (.long x0), .second, .val (.long x1), .second, .val (.long x2), .second, .val (.int x3), .val (.int x4), .val (.long x5), .second, .val (.ref b167), .val (.int (3 : Int32)), .val (.ref b320), .val (.ref b324), .val (.long (x5 &&& (9223372036854775807 : Int64))), .second, .val (.int (0 : Int32)), .val (.long r334), .second, .unset, .unset] [(.ref b167)]))
    refine GlW.back (fun _ k => XS.aload X334.here hx rfl (hb hby at_85) rfl rfl k) ?_
    show GlW _ _ _ _ _ _ _ (T334.setTop (mkF m 87 #[.val (.long x0), .second, .val (.long x1), .second, .val (.long x2), .second, .val (.int x3), .val (.int x4), .val (.long x5), .second, .val (.ref b167), .val (.int (3 : Int32)), .val (.ref b320), .val (.ref b324), .val (.long (x5 &&& (9223372036854775807 : Int64))), .second, .val (.int (0 : Int32)), .val (.long r334), .second, .unset, .unset] [(.ref b324), (.ref b167)]))
    obtain ⟨T335, h335, X335, e335, E335, A335, D335, -, st335⟩ := newO X334 hx hZ0 hown0 (hw _ (List.mem_of_getElem? (i := 3) rfl)) (hw _ (List.mem_of_getElem? (i := 4) rfl)) (hw _ (List.mem_of_getElem? (i := 5) rfl)) eh334 (g := (mkF m 87 #[.val (.long x0), .second, .val (.long x1), .second, .val (.long x2), .second, .val (.int x3), .val (.int x4), .val (.long x5), .second, .val (.ref b167), .val (.int (3 : Int32)), .val (.ref b320), .val (.ref b324), .val (.long (x5 &&& (9223372036854775807 : Int64))), .second, .val (.int (0 : Int32)), .val (.long r334), .second, .unset, .unset] [(.ref b324), (.ref b167)])) rfl (hb hby at_87) (by decide) (by decide)
    obtain ⟨b335, g335⟩ : ∃ z, z = T332.heap.size := ⟨_, rfl⟩
    rw [← g335] at A335 D335 st335
    have f336 := (f328.keep Kq332)
    have ne_b167_b335 : b167 ≠ b335 := Nat.ne_of_lt (Nat.lt_of_lt_of_le f336.lt (Nat.le_of_eq g335.symm))
    have f337 := (f329.keep Kq332)
    have ne_b168_b335 : b168 ≠ b335 := Nat.ne_of_lt (Nat.lt_of_lt_of_le f337.lt (Nat.le_of_eq g335.symm))
    have f338 := (f330.keep Kq332)
    have ne_l170_b335 : l170 ≠ b335 := Nat.ne_of_lt (Nat.lt_of_lt_of_le f338.lt (Nat.le_of_eq g335.symm))
    have f339 := (f331.keep Kq332 (ninS ne_b320_b324 nin0))
    have ne_b320_b335 : b320 ≠ b335 := Nat.ne_of_lt (Nat.lt_of_lt_of_le f339.lt (Nat.le_of_eq g335.symm))
    have f340 := (A324.keep Kq332)
    have ne_b324_b335 : b324 ≠ b335 := Nat.ne_of_lt (Nat.lt_of_lt_of_le f340.lt (Nat.le_of_eq g335.symm))
    have ne_t332_b335 : t332 ≠ b335 := Nat.ne_of_lt (Nat.lt_of_lt_of_le Vt332.lt (Nat.le_of_eq g335.symm))
    have g_b335 : n0 ≤ b335 := Nat.le_trans Zc332 (Nat.le_of_eq g335.symm)
    have sz_b335 : h0.size ≤ b335 := Nat.le_trans Kc332.1 (Nat.le_of_eq g335.symm)
    have Z335 : n0 ≤ h335.size := Nat.le_trans Zc332 E335.1
    have K335 := Keep.ext Kc332 E335
    have O335 := Old.ext Oc332 E335
    have SK335 := Nat.le_trans SKc332 E335.1
    have F335_cents : Fld Z h335 b335 "com/example/gavelwatch/gavelwatch/model/Money" "cents" "J" (.long (0 : Int64)) := D335 (Or.inr (hw _ (List.mem_of_getElem? (i := 18) rfl))) (ty := .long) (by decide)
    refine GlW.back (fun _ k => st335 _ k) ?_
    show GlW _ _ _ _ _ _ _ (T335.setTop (mkF m 90 #[.val (.long x0), .second, .val (.long x1), .second, .val (.long x2), .second, .val (.int x3), .val (.int x4), .val (.long x5), .second, .val (.ref b167), .val (.int (3 : Int32)), .val (.ref b320), .val (.ref b324), .val (.long (x5 &&& (9223372036854775807 : Int64))), .second, .val (.int (0 : Int32)), .val (.long r334), .second, .unset, .unset] [(.ref b335), (.ref b324), (.ref b167)]))
    refine GlW.back (fun _ k => XS.dup X335.here hx rfl (hb hby at_90) rfl rfl k) ?_
    show GlW _ _ _ _ _ _ _ (T335.setTop (mkF m 91 #[.val (.long x0), .second, .val (.long x1), .second, .val (.long x2), .second, .val (.int x3), .val (.int x4), .val (.long x5), .second, .val (.ref b167), .val (.int (3 : Int32)), .val (.ref b320), .val (.ref b324), .val (.long (x5 &&& (9223372036854775807 : Int64))), .second, .val (.int (0 : Int32)), .val (.long r334), .second, .unset, .unset] [(.ref b335), (.ref b335), (.ref b324), (.ref b167)]))
    refine GlW.back (fun _ k => XS.lload X335.here hx rfl (hb hby at_91) rfl k) ?_
    show GlW _ _ _ _ _ _ _ (T335.setTop (mkF m 93 #[.val (.long x0), .second, .val (.long x1), .second, .val (.long x2), .second, .val (.int x3), .val (.int x4), .val (.long x5), .second, .val (.ref b167), .val (.int (3 : Int32)), .val (.ref b320), .val (.ref b324), .val (.long (x5 &&& (9223372036854775807 : Int64))), .second, .val (.int (0 : Int32)), .val (.long r334), .second, .unset, .unset] [(.long r334), (.ref b335), (.ref b335), (.ref b324), (.ref b167)]))
    obtain ⟨_, _, ⟨T341, L341, k341, n341⟩, -, X341, ⟨Lc341, hQ341, l341, y341, z341⟩, st341⟩ := X335.specialBack hx (y := (⟨"com/example/gavelwatch/gavelwatch/model/Money", "<init>", "(J)V"⟩ : MethodName)) rfl hown0 (mvT hZ0 (hw _ (List.mem_of_getElem? (i := 6) rfl))) (mvT hZ0 (hw _ (List.mem_of_getElem? (i := 7) rfl))) (mvT hZ0 (hw _ (List.mem_of_getElem? (i := 8) rfl))) (by decide) (backOf (W := 3) (rmmoney l Z a0 hw [] b335 r334  h335 n0 Z335 g_b335 A335 F335_cents) hZ0 (hw _ (List.mem_of_getElem? (i := 8) rfl)) (hw _ (List.mem_of_getElem? (i := 5) rfl)) (by decide) (by decide)) (g := (mkF m 93 #[.val (.long x0), .second, .val (.long x1), .second, .val (.long x2), .second, .val (.int x3), .val (.int x4), .val (.long x5), .second, .val (.ref b167), .val (.int (3 : Int32)), .val (.ref b320), .val (.ref b324), .val (.long (x5 &&& (9223372036854775807 : Int64))), .second, .val (.int (0 : Int32)), .val (.long r334), .second, .unset, .unset] [(.long r334), (.ref b335), (.ref b335), (.ref b324), (.ref b167)])) rfl (by rw [hml]; rfl) (Steps.refl _) (a := b335) (argsL := [(.long r334)]) (rest := [(.ref b335), (.ref b324), (.ref b167)]) (lenOf pd__J_V rfl) rfl (by show 2 * 0 + _ ≤ _; exact Nat.le_of_eq rfl) (hb hby at_93) (fun _ _ => ⟨rfl, e335, (by decide : 7 + 0 ≤ _), (by decide : 14 + 0 ≤ _)⟩)
    dsimp only [Pt.U, Pt.locs, Pt.cells, Pt.slots] at X341 l341 y341 z341 st341 hQ341
    subst l341 y341 z341
    obtain ⟨Nq341, rfl, Kq341, Fc341⟩ := hQ341
    have N341 := Fr.app N334 Nq341
    have Kc341 := Keep.trans K335 Kq341 (allS (Or.inr sz_b335) all0)
    have Zc341 : n0 ≤ T341.heap.size := Nat.le_trans Z335 Kq341.1
    have Oc341 := Old.keep O335 Kq341 (allS g_b335 all0)
    have SKc341 := Nat.le_trans SK335 Kq341.1
    refine GlW.back (fun _ k => st341.trans k) ?_
    show GlW _ _ _ _ _ _ _ (T341.setTop (mkF m 96 #[.val (.long x0), .second, .val (.long x1), .second, .val (.long x2), .second, .val (.int x3), .val (.int x4), .val (.long x5), .second, .val (.ref b167), .val (.int (3 : Int32)), .val (.ref b320), .val (.ref b324), .val (.long (x5 &&& (9223372036854775807 : Int64))), .second, .val (.int (0 : Int32)), .val (.long r334), .second, .unset, .unset] [(.ref b335), (.ref b324), (.ref b167)]))
    refine GlW.back (fun _ k => XS.lload X341.here hx rfl (hb hby at_96) rfl k) ?_
    show GlW _ _ _ _ _ _ _ (T341.setTop (mkF m 98 #[.val (.long x0), .second, .val (.long x1), .second, .val (.long x2), .second, .val (.int x3), .val (.int x4), .val (.long x5), .second, .val (.ref b167), .val (.int (3 : Int32)), .val (.ref b320), .val (.ref b324), .val (.long (x5 &&& (9223372036854775807 : Int64))), .second, .val (.int (0 : Int32)), .val (.long r334), .second, .unset, .unset] [(.long (x5 &&& (9223372036854775807 : Int64))), (.ref b335), (.ref b324), (.ref b167)]))
    have f343 := ((f336.ext E335).keep Kq341)
    have f344 := ((f337.ext E335).keep Kq341)
    have f345 := ((f338.ext E335).keep Kq341)
    have f346 := ((f339.ext E335).keep Kq341 (ninS ne_b320_b335 nin0))
    have f347 := ((f340.ext E335).keep Kq341)
    have f348 := ((Vt332.ext E335).keep Kq341 (ninS ne_t332_b335 nin0))
    have f349 := (A335.keep Kq341)
    have f350 := ((((((Fh170.ext E320).other W323 (Or.inl ne_b167_b320)).ext E324).keep Kq332 (ninS ne_b167_b324 nin0)).ext E335).keep Kq341 (ninS ne_b167_b335 nin0))
    have f351 := ((((((Fb170.ext E320).other W323 (Or.inl ne_b167_b320)).ext E324).keep Kq332 (ninS ne_b167_b324 nin0)).ext E335).keep Kq341 (ninS ne_b167_b335 nin0))
    have f352 := ((((((Fo170.ext E320).other W323 (Or.inl ne_b167_b320)).ext E324).keep Kq332 (ninS ne_b167_b324 nin0)).ext E335).keep Kq341 (ninS ne_b167_b335 nin0))
    have f353 := (((((((Fc169.keep Kq170 (ninS (Ne.symm ne_b167_b168) nin0)).ext E320).other W323 (Or.inl ne_b168_b320)).ext E324).keep Kq332 (ninS ne_b168_b324 nin0)).ext E335).keep Kq341 (ninS ne_b168_b335 nin0))
    have f354 := ((((((Fm170.ext E320).other W323 (Or.inl ne_l170_b320)).ext E324).keep Kq332 (ninS ne_l170_b324 nin0)).ext E335).keep Kq341 (ninS ne_l170_b335 nin0))
    have f355 := ((((((Fe170.ext E320).other W323 (Or.inl ne_l170_b320)).ext E324).keep Kq332 (ninS ne_l170_b324 nin0)).ext E335).keep Kq341 (ninS ne_l170_b335 nin0))
    have f356 := ((((((Fs170.ext E320).other W323 (Or.inl ne_l170_b320)).ext E324).keep Kq332 (ninS ne_l170_b324 nin0)).ext E335).keep Kq341 (ninS ne_l170_b335 nin0))
    obtain ⟨cq342, kq342, q342a, q342b, q342c⟩ := isOf hZ0 rfl f343
    obtain ⟨_, _, ⟨T342, L342, k342, n342⟩, -, X342, hS2342, hg2342, ⟨Lc342, hQ342, l342, y342, z342⟩, st342⟩ := X341.virtualBackS hx (y := (⟨"com/example/gavelwatch/gavelwatch/sim/RunningAuction", "place", "(Ljava/lang/String;Lcom/example/gavelwatch/gavelwatch/model/Money;J)V"⟩ : MethodName)) (z := (⟨"com/example/gavelwatch/gavelwatch/sim/RunningAuction", "place", "(Ljava/lang/String;Lcom/example/gavelwatch/gavelwatch/model/Money;J)V"⟩ : MethodName)) hown0 (mvT hZ0 (hw _ (List.mem_of_getElem? (i := 91) rfl))) (mvT hZ0 (hw _ (List.mem_of_getElem? (i := 92) rfl))) (notFace_of_selects (args := #[]) (mvT hZ0 (hw _ (List.mem_of_getElem? (i := 94) rfl)))) (mvT hZ0 (hw _ (List.mem_of_getElem? (i := 94) rfl))) (mvT hZ0 (hw _ (List.mem_of_getElem? (i := 93) rfl))) (by decide) (backOfS (W := 0) (rmplace0 l Z a0 hw [] b167 b324 b335 (x5 &&& (9223372036854775807 : Int64)) l170 b168 u wD kD (0 : Int32) r334 x0 T341.heap n0 Zc341 Oc341 g_b167 f343 f350 f351 f352 f344 f353 f349 Fc341 Gz170 f345 f354 f355 f356 S_DEFAULTCAPACITY_EMPTY_ELEMENTDATA V_wD S_SECONDS E_u F_u_scale F_u_maxNanos hge334 ne_b167_l170 ne_b167_b168 ne_b167_b335 (Ne.symm ne_b168_l170) ne_l170_b335 (own_nn x5)) hZ0 (hw _ (List.mem_of_getElem? (i := 95) rfl)) (hw _ (List.mem_of_getElem? (i := 2) rfl)) (by decide) (by decide)) q342a q342c (g := (mkF m 98 #[.val (.long x0), .second, .val (.long x1), .second, .val (.long x2), .second, .val (.int x3), .val (.int x4), .val (.long x5), .second, .val (.ref b167), .val (.int (3 : Int32)), .val (.ref b320), .val (.ref b324), .val (.long (x5 &&& (9223372036854775807 : Int64))), .second, .val (.int (0 : Int32)), .val (.long r334), .second, .unset, .unset] [(.long (x5 &&& (9223372036854775807 : Int64))), (.ref b335), (.ref b324), (.ref b167)])) rfl (by rw [hml]; rfl) (Steps.refl _) (argsL := [(.ref b324), (.ref b335), (.long (x5 &&& (9223372036854775807 : Int64)))]) (rest := []) (lenOf pd__Ljava_lang_String_Lcom_example_gavelwatch_gavelwatch_model_Money_J_V rfl) rfl (by show 2 * 0 + _ ≤ _; exact Nat.le_of_eq rfl) (hb hby at_98) (fun _ _ => ⟨rfl, rfl, (by decide : 7 + 6 ≤ _), (by decide : 14 + 69 ≤ _)⟩)
    dsimp only [Pt.U, Pt.locs, Pt.cells, Pt.slots] at X342 l342 y342 z342 st342 hQ342 hS2342 hg2342
    subst l342 y342 z342
    obtain ⟨X342, hS342, hZ342, hown342⟩ := rebS hS0 (SKc341) X342 hS2342 hg2342 hZ0 hown0
    obtain ⟨Nq342, rfl, Kq342, c342, t342, k0342, Sc342, Gc342, Sz342, Gz342, Nct342, Ec342, Fh342, Fa342, Fb342, Fe342, Fs342, Fm342, V342, Ov342, -⟩ := hQ342
    have N342 := Fr.app N341 Nq342
    have Kc342 := Keep.trans Kc341 Kq342 (allS (Or.inr sz_b167) (allS (Or.inr sz_l170) all0))
    have Zc342 : n0 ≤ T342.heap.size := Nat.le_trans Zc341 Kq342.1
    have Oc342 := Old.keep Oc341 Kq342 (allS g_b167 (allS Gz170 all0))
    have ne_b167_c342 : b167 ≠ c342 := Nat.ne_of_lt (Nat.lt_of_lt_of_le (f343).lt Sc342)
    have ne_b168_c342 : b168 ≠ c342 := Nat.ne_of_lt (Nat.lt_of_lt_of_le (f344).lt Sc342)
    have ne_l170_c342 : l170 ≠ c342 := Nat.ne_of_lt (Nat.lt_of_lt_of_le (f345).lt Sc342)
    have ne_b320_c342 : b320 ≠ c342 := Nat.ne_of_lt (Nat.lt_of_lt_of_le (f346).lt Sc342)
    have ne_b324_c342 : b324 ≠ c342 := Nat.ne_of_lt (Nat.lt_of_lt_of_le (f347).lt Sc342)
    have ne_t332_c342 : t332 ≠ c342 := Nat.ne_of_lt (Nat.lt_of_lt_of_le (f348).lt Sc342)
    have ne_b335_c342 : b335 ≠ c342 := Nat.ne_of_lt (Nat.lt_of_lt_of_le (f349).lt Sc342)
    have sz_c342 : h0.size ≤ c342 := Nat.le_trans Kc341.1 Sc342
    have ne_b167_t342 : b167 ≠ t342 := Nat.ne_of_lt (Nat.lt_of_lt_of_le (f343).lt Sz342)
    have ne_b168_t342 : b168 ≠ t342 := Nat.ne_of_lt (Nat.lt_of_lt_of_le (f344).lt Sz342)
    have ne_l170_t342 : l170 ≠ t342 := Nat.ne_of_lt (Nat.lt_of_lt_of_le (f345).lt Sz342)
    have ne_b320_t342 : b320 ≠ t342 := Nat.ne_of_lt (Nat.lt_of_lt_of_le (f346).lt Sz342)
    have ne_b324_t342 : b324 ≠ t342 := Nat.ne_of_lt (Nat.lt_of_lt_of_le (f347).lt Sz342)
    have ne_t332_t342 : t332 ≠ t342 := Nat.ne_of_lt (Nat.lt_of_lt_of_le (f348).lt Sz342)
    have ne_b335_t342 : b335 ≠ t342 := Nat.ne_of_lt (Nat.lt_of_lt_of_le (f349).lt Sz342)
    have sz_t342 : h0.size ≤ t342 := Nat.le_trans Kc341.1 Sz342
    refine GlW.back (fun _ k => st342.trans k) ?_
    show GlW _ _ _ _ _ _ _ (T342.setTop (mkF m 101 #[.val (.long x0), .second, .val (.long x1), .second, .val (.long x2), .second, .val (.int x3), .val (.int x4), .val (.long x5), .second, .val (.ref b167), .val (.int (3 : Int32)), .val (.ref b320), .val (.ref b324), .val (.long (x5 &&& (9223372036854775807 : Int64))), .second, .val (.int (0 : Int32)), .val (.long r334), .second, .unset, .unset] []))
    refine GlW.back (fun _ k => XS.iconst X342.here hx rfl (hb hby at_101) k) ?_
    show GlW _ _ _ _ _ _ _ (T342.setTop (mkF m 102 #[.val (.long x0), .second, .val (.long x1), .second, .val (.long x2), .second, .val (.int x3), .val (.int x4), .val (.long x5), .second, .val (.ref b167), .val (.int (3 : Int32)), .val (.ref b320), .val (.ref b324), .val (.long (x5 &&& (9223372036854775807 : Int64))), .second, .val (.int (0 : Int32)), .val (.long r334), .second, .unset, .unset] [(.int (1 : Int32))]))
    refine GlW.back (fun _ k => XS.istore X342.here hx rfl (hb hby at_102) rfl (l' := #[.val (.long x0), .second, .val (.long x1), .second, .val (.long x2), .second, .val (.int x3), .val (.int x4), .val (.long x5), .second, .val (.ref b167), .val (.int (3 : Int32)), .val (.ref b320), .val (.ref b324), .val (.long (x5 &&& (9223372036854775807 : Int64))), .second, .val (.int (1 : Int32)), .val (.long r334), .second, .unset, .unset]) rfl k) ?_
    show GlW _ _ _ _ _ _ _ (T342.setTop (mkF m 104 #[.val (.long x0), .second, .val (.long x1), .second, .val (.long x2), .second, .val (.int x3), .val (.int x4), .val (.long x5), .second, .val (.ref b167), .val (.int (3 : Int32)), .val (.ref b320), .val (.ref b324), .val (.long (x5 &&& (9223372036854775807 : Int64))), .second, .val (.int (1 : Int32)), .val (.long r334), .second, .unset, .unset] []))
    refine GlW.back (fun _ k => XS.aload X342.here hx rfl (hb hby at_104) rfl rfl k) ?_
    show GlW _ _ _ _ _ _ _ (T342.setTop (mkF m 106 #[.val (.long x0), .second, .val (.long x1), .second, .val (.long x2), .second, .val (.int x3), .val (.int x4), .val (.long x5), .second, .val (.ref b167), .val (.int (3 : Int32)), .val (.ref b320), .val (.ref b324), .val (.long (x5 &&& (9223372036854775807 : Int64))), .second, .val (.int (1 : Int32)), .val (.long r334), .second, .unset, .unset] [(.ref b167)]))
    have f358 := (f343.keep Kq342)
    obtain ⟨cq357, kq357, q357a, q357b, q357c⟩ := isOf hZ342 rfl f358
    obtain ⟨_, _, ⟨T357, L357, k357, n357⟩, -, X357, ⟨Lc357, hQ357, l357, y357, z357⟩, st357⟩ := X342.virtualBack hx (y := (⟨"com/example/gavelwatch/gavelwatch/sim/RunningAuction", "hasBids", "()Z"⟩ : MethodName)) (z := (⟨"com/example/gavelwatch/gavelwatch/sim/RunningAuction", "hasBids", "()Z"⟩ : MethodName)) hown342 (mvT hZ342 (hw _ (List.mem_of_getElem? (i := 51) rfl))) (mvT hZ342 (hw _ (List.mem_of_getElem? (i := 52) rfl))) (notFace_of_selects (args := #[]) (mvT hZ342 (hw _ (List.mem_of_getElem? (i := 54) rfl)))) (mvT hZ342 (hw _ (List.mem_of_getElem? (i := 54) rfl))) (mvT hZ342 (hw _ (List.mem_of_getElem? (i := 53) rfl))) (by decide) (backOf (W := 0) (rmhas1 l Z a0 hw [] b167 c342 T342.heap n0 Zc342 Fh342) hZ342 (hw _ (List.mem_of_getElem? (i := 55) rfl)) (hw _ (List.mem_of_getElem? (i := 2) rfl)) (by decide) (by decide)) q357a q357c (g := (mkF m 106 #[.val (.long x0), .second, .val (.long x1), .second, .val (.long x2), .second, .val (.int x3), .val (.int x4), .val (.long x5), .second, .val (.ref b167), .val (.int (3 : Int32)), .val (.ref b320), .val (.ref b324), .val (.long (x5 &&& (9223372036854775807 : Int64))), .second, .val (.int (1 : Int32)), .val (.long r334), .second, .unset, .unset] [(.ref b167)])) rfl (by rw [hml]; rfl) (Steps.refl _) (argsL := []) (rest := []) (lenOf pd___Z rfl) rfl (by show 2 * 0 + _ ≤ _; exact Nat.le_of_eq rfl) (hb hby at_106) (fun _ _ => ⟨rfl, rfl, (by decide : 13 + 0 ≤ _), (by decide : 83 + 0 ≤ _)⟩)
    dsimp only [Pt.U, Pt.locs, Pt.cells, Pt.slots] at X357 l357 y357 z357 st357 hQ357
    subst l357 y357 z357
    obtain ⟨Nq357, rfl, eh357⟩ := hQ357
    have N357 := Fr.app N342 Nq357
    refine GlW.back (fun _ k => st357.trans k) ?_
    show GlW _ _ _ _ _ _ _ (T357.setTop (mkF m 109 #[.val (.long x0), .second, .val (.long x1), .second, .val (.long x2), .second, .val (.int x3), .val (.int x4), .val (.long x5), .second, .val (.ref b167), .val (.int (3 : Int32)), .val (.ref b320), .val (.ref b324), .val (.long (x5 &&& (9223372036854775807 : Int64))), .second, .val (.int (1 : Int32)), .val (.long r334), .second, .unset, .unset] [(.int (1 : Int32))]))
    refine GlW.back (fun _ k => XS.ifYes X357.here hx rfl (pc0 := 109) (pc' := 114) rfl (hb hby at_109) rfl ((if0 _ _).trans (feq (by decide : ¬ (1 : Int32) = (0 : Int32))).2) (by decide) (by decide) k) ?_
    show GlW _ _ _ _ _ _ _ (T357.setTop (mkF m 114 #[.val (.long x0), .second, .val (.long x1), .second, .val (.long x2), .second, .val (.int x3), .val (.int x4), .val (.long x5), .second, .val (.ref b167), .val (.int (3 : Int32)), .val (.ref b320), .val (.ref b324), .val (.long (x5 &&& (9223372036854775807 : Int64))), .second, .val (.int (1 : Int32)), .val (.long r334), .second, .unset, .unset] []))
    refine GlW.back (fun _ k => XS.iload X357.here hx rfl (hb hby at_114) rfl k) ?_
    show GlW _ _ _ _ _ _ _ (T357.setTop (mkF m 116 #[.val (.long x0), .second, .val (.long x1), .second, .val (.long x2), .second, .val (.int x3), .val (.int x4), .val (.long x5), .second, .val (.ref b167), .val (.int (3 : Int32)), .val (.ref b320), .val (.ref b324), .val (.long (x5 &&& (9223372036854775807 : Int64))), .second, .val (.int (1 : Int32)), .val (.long r334), .second, .unset, .unset] [(.int (3 : Int32))]))
    refine GlW.back (fun _ k => XS.iconst X357.here hx rfl (hb hby at_116) k) ?_
    show GlW _ _ _ _ _ _ _ (T357.setTop (mkF m 117 #[.val (.long x0), .second, .val (.long x1), .second, .val (.long x2), .second, .val (.int x3), .val (.int x4), .val (.long x5), .second, .val (.ref b167), .val (.int (3 : Int32)), .val (.ref b320), .val (.ref b324), .val (.long (x5 &&& (9223372036854775807 : Int64))), .second, .val (.int (1 : Int32)), .val (.long r334), .second, .unset, .unset] [(.int (2 : Int32)), (.int (3 : Int32))]))
    refine GlW.back (fun _ k => XS.icmpNo X357.here hx rfl (hb hby at_117) rfl (flt (by decide : ¬ (3 : Int32) < (2 : Int32))).1 k) ?_
    show GlW _ _ _ _ _ _ _ (T357.setTop (mkF m 120 #[.val (.long x0), .second, .val (.long x1), .second, .val (.long x2), .second, .val (.int x3), .val (.int x4), .val (.long x5), .second, .val (.ref b167), .val (.int (3 : Int32)), .val (.ref b320), .val (.ref b324), .val (.long (x5 &&& (9223372036854775807 : Int64))), .second, .val (.int (1 : Int32)), .val (.long r334), .second, .unset, .unset] []))
    refine GlW.back (fun _ k => XS.lload X357.here hx rfl (hb hby at_120) rfl k) ?_
    show GlW _ _ _ _ _ _ _ (T357.setTop (mkF m 122 #[.val (.long x0), .second, .val (.long x1), .second, .val (.long x2), .second, .val (.int x3), .val (.int x4), .val (.long x5), .second, .val (.ref b167), .val (.int (3 : Int32)), .val (.ref b320), .val (.ref b324), .val (.long (x5 &&& (9223372036854775807 : Int64))), .second, .val (.int (1 : Int32)), .val (.long r334), .second, .unset, .unset] [(.long r334)]))
    refine GlW.back (fun _ k => X357.ldc2Long hx hown342 (mvT hZ342 (hw _ (List.mem_of_getElem? (i := 86) rfl))) (g := (mkF m 122 #[.val (.long x0), .second, .val (.long x1), .second, .val (.long x2), .second, .val (.int x3), .val (.int x4), .val (.long x5), .second, .val (.ref b167), .val (.int (3 : Int32)), .val (.ref b320), .val (.ref b324), .val (.long (x5 &&& (9223372036854775807 : Int64))), .second, .val (.int (1 : Int32)), .val (.long r334), .second, .unset, .unset] [(.long r334)])) rfl (hb hby at_122) _ k) ?_
    show GlW _ _ _ _ _ _ _ (T357.setTop (mkF m 125 #[.val (.long x0), .second, .val (.long x1), .second, .val (.long x2), .second, .val (.int x3), .val (.int x4), .val (.long x5), .second, .val (.ref b167), .val (.int (3 : Int32)), .val (.ref b320), .val (.ref b324), .val (.long (x5 &&& (9223372036854775807 : Int64))), .second, .val (.int (1 : Int32)), .val (.long r334), .second, .unset, .unset] [(.long (9223372036854775807 : Int64)), (.long r334)]))
    refine GlW.back (fun _ k => XS.lcmp X357.here hx rfl (hb hby at_125) rfl k) ?_
    show GlW _ _ _ _ _ _ _ (T357.setTop (mkF m 126 #[.val (.long x0), .second, .val (.long x1), .second, .val (.long x2), .second, .val (.int x3), .val (.int x4), .val (.long x5), .second, .val (.ref b167), .val (.int (3 : Int32)), .val (.ref b320), .val (.ref b324), .val (.long (x5 &&& (9223372036854775807 : Int64))), .second, .val (.int (1 : Int32)), .val (.long r334), .second, .unset, .unset] [(.int (lcmpW r334 (9223372036854775807 : Int64)))]))
    by_cases hc126_359 : r334 = (9223372036854775807 : Int64)
    · refine GlW.back (fun _ k => XS.ifYes X357.here hx rfl (pc0 := 126) (pc' := 161) rfl (hb hby at_126) rfl ((if0 _ _).trans (teq (own_lcE hc126_359)).1) (by decide) (by decide) k) ?_
      show GlW _ _ _ _ _ _ _ (T357.setTop (mkF m 161 #[.val (.long x0), .second, .val (.long x1), .second, .val (.long x2), .second, .val (.int x3), .val (.int x4), .val (.long x5), .second, .val (.ref b167), .val (.int (3 : Int32)), .val (.ref b320), .val (.ref b324), .val (.long (x5 &&& (9223372036854775807 : Int64))), .second, .val (.int (1 : Int32)), .val (.long r334), .second, .unset, .unset] []))
      refine GlW.back (fun _ k => XS.aload X357.here hx rfl (hb hby at_161) rfl rfl k) ?_
      show GlW _ _ _ _ _ _ _ (T357.setTop (mkF m 163 #[.val (.long x0), .second, .val (.long x1), .second, .val (.long x2), .second, .val (.int x3), .val (.int x4), .val (.long x5), .second, .val (.ref b167), .val (.int (3 : Int32)), .val (.ref b320), .val (.ref b324), .val (.long (x5 &&& (9223372036854775807 : Int64))), .second, .val (.int (1 : Int32)), .val (.long r334), .second, .unset, .unset] [(.ref b167)]))
      obtain ⟨cq360, kq360, q360a, q360b, q360c⟩ := isOf hZ342 eh357 f358
      obtain ⟨_, _, ⟨T360, L360, k360, n360⟩, -, X360, ⟨Lc360, hQ360, l360, y360, z360⟩, st360⟩ := X357.virtualBack hx (y := (⟨"com/example/gavelwatch/gavelwatch/sim/RunningAuction", "hasBids", "()Z"⟩ : MethodName)) (z := (⟨"com/example/gavelwatch/gavelwatch/sim/RunningAuction", "hasBids", "()Z"⟩ : MethodName)) hown342 (mvT hZ342 (hw _ (List.mem_of_getElem? (i := 51) rfl))) (mvT hZ342 (hw _ (List.mem_of_getElem? (i := 52) rfl))) (notFace_of_selects (args := #[]) (mvT hZ342 (hw _ (List.mem_of_getElem? (i := 54) rfl)))) (mvT hZ342 (hw _ (List.mem_of_getElem? (i := 54) rfl))) (mvT hZ342 (hw _ (List.mem_of_getElem? (i := 53) rfl))) (by decide) (backOf (W := 0) (rmhas1 l Z a0 hw [] b167 c342 T342.heap n0 Zc342 Fh342) hZ342 (hw _ (List.mem_of_getElem? (i := 55) rfl)) (hw _ (List.mem_of_getElem? (i := 2) rfl)) (by decide) (by decide)) q360a q360c (g := (mkF m 163 #[.val (.long x0), .second, .val (.long x1), .second, .val (.long x2), .second, .val (.int x3), .val (.int x4), .val (.long x5), .second, .val (.ref b167), .val (.int (3 : Int32)), .val (.ref b320), .val (.ref b324), .val (.long (x5 &&& (9223372036854775807 : Int64))), .second, .val (.int (1 : Int32)), .val (.long r334), .second, .unset, .unset] [(.ref b167)])) rfl (by rw [hml]; rfl) (Steps.refl _) (argsL := []) (rest := []) (lenOf pd___Z rfl) rfl (by show 2 * 0 + _ ≤ _; exact Nat.le_of_eq rfl) (hb hby at_163) (fun _ _ => ⟨rfl, eh357, (by decide : 13 + 0 ≤ _), (by decide : 83 + 0 ≤ _)⟩)
      dsimp only [Pt.U, Pt.locs, Pt.cells, Pt.slots] at X360 l360 y360 z360 st360 hQ360
      subst l360 y360 z360
      obtain ⟨Nq360, rfl, eh360⟩ := hQ360
      have N360 := Fr.app N357 Nq360
      refine GlW.back (fun _ k => st360.trans k) ?_
      show GlW _ _ _ _ _ _ _ (T360.setTop (mkF m 166 #[.val (.long x0), .second, .val (.long x1), .second, .val (.long x2), .second, .val (.int x3), .val (.int x4), .val (.long x5), .second, .val (.ref b167), .val (.int (3 : Int32)), .val (.ref b320), .val (.ref b324), .val (.long (x5 &&& (9223372036854775807 : Int64))), .second, .val (.int (1 : Int32)), .val (.long r334), .second, .unset, .unset] [(.int (1 : Int32))]))
      refine GlW.back (fun _ k => XS.istore X360.here hx rfl (hb hby at_166) rfl (l' := #[.val (.long x0), .second, .val (.long x1), .second, .val (.long x2), .second, .val (.int x3), .val (.int x4), .val (.long x5), .second, .val (.ref b167), .val (.int (3 : Int32)), .val (.ref b320), .val (.ref b324), .val (.long (x5 &&& (9223372036854775807 : Int64))), .second, .val (.int (1 : Int32)), .val (.int (1 : Int32)), .unset, .unset, .unset]) rfl k) ?_
      show GlW _ _ _ _ _ _ _ (T360.setTop (mkF m 168 #[.val (.long x0), .second, .val (.long x1), .second, .val (.long x2), .second, .val (.int x3), .val (.int x4), .val (.long x5), .second, .val (.ref b167), .val (.int (3 : Int32)), .val (.ref b320), .val (.ref b324), .val (.long (x5 &&& (9223372036854775807 : Int64))), .second, .val (.int (1 : Int32)), .val (.int (1 : Int32)), .unset, .unset, .unset] []))
      refine GlW.back (fun _ k => XS.iload X360.here hx rfl (hb hby at_168) rfl k) ?_
      show GlW _ _ _ _ _ _ _ (T360.setTop (mkF m 170 #[.val (.long x0), .second, .val (.long x1), .second, .val (.long x2), .second, .val (.int x3), .val (.int x4), .val (.long x5), .second, .val (.ref b167), .val (.int (3 : Int32)), .val (.ref b320), .val (.ref b324), .val (.long (x5 &&& (9223372036854775807 : Int64))), .second, .val (.int (1 : Int32)), .val (.int (1 : Int32)), .unset, .unset, .unset] [(.int (1 : Int32))]))
      refine GlW.back (fun _ k => XS.iload X360.here hx rfl (hb hby at_170) rfl k) ?_
      show GlW _ _ _ _ _ _ _ (T360.setTop (mkF m 172 #[.val (.long x0), .second, .val (.long x1), .second, .val (.long x2), .second, .val (.int x3), .val (.int x4), .val (.long x5), .second, .val (.ref b167), .val (.int (3 : Int32)), .val (.ref b320), .val (.ref b324), .val (.long (x5 &&& (9223372036854775807 : Int64))), .second, .val (.int (1 : Int32)), .val (.int (1 : Int32)), .unset, .unset, .unset] [(.int (1 : Int32)), (.int (1 : Int32))]))
      refine GlW.back (fun _ k => XS.ifNo X360.here hx rfl (hb hby at_172) rfl ((if0 _ _).trans (tlt (by decide : (0 : Int32) < (1 : Int32))).2.2.2) k) ?_
      show GlW _ _ _ _ _ _ _ (T360.setTop (mkF m 175 #[.val (.long x0), .second, .val (.long x1), .second, .val (.long x2), .second, .val (.int x3), .val (.int x4), .val (.long x5), .second, .val (.ref b167), .val (.int (3 : Int32)), .val (.ref b320), .val (.ref b324), .val (.long (x5 &&& (9223372036854775807 : Int64))), .second, .val (.int (1 : Int32)), .val (.int (1 : Int32)), .unset, .unset, .unset] [(.int (1 : Int32))]))
      refine GlW.back (fun _ k => XS.iconst X360.here hx rfl (hb hby at_175) k) ?_
      show GlW _ _ _ _ _ _ _ (T360.setTop (mkF m 176 #[.val (.long x0), .second, .val (.long x1), .second, .val (.long x2), .second, .val (.int x3), .val (.int x4), .val (.long x5), .second, .val (.ref b167), .val (.int (3 : Int32)), .val (.ref b320), .val (.ref b324), .val (.long (x5 &&& (9223372036854775807 : Int64))), .second, .val (.int (1 : Int32)), .val (.int (1 : Int32)), .unset, .unset, .unset] [(.int (1 : Int32)), (.int (1 : Int32))]))
      refine GlW.back (fun _ k => XS.goto X360.here hx rfl (pc0 := 176) (pc' := 180) rfl (hb hby at_176) (by decide) (by decide) k) ?_
      show GlW _ _ _ _ _ _ _ (T360.setTop (mkF m 180 #[.val (.long x0), .second, .val (.long x1), .second, .val (.long x2), .second, .val (.int x3), .val (.int x4), .val (.long x5), .second, .val (.ref b167), .val (.int (3 : Int32)), .val (.ref b320), .val (.ref b324), .val (.long (x5 &&& (9223372036854775807 : Int64))), .second, .val (.int (1 : Int32)), .val (.int (1 : Int32)), .unset, .unset, .unset] [(.int (1 : Int32)), (.int (1 : Int32))]))
      refine GlW.back (fun _ k => XS.icmpNo X360.here hx rfl (hb hby at_180) rfl (teq (by decide : (1 : Int32) = (1 : Int32))).2 k) ?_
      show GlW _ _ _ _ _ _ _ (T360.setTop (mkF m 183 #[.val (.long x0), .second, .val (.long x1), .second, .val (.long x2), .second, .val (.int x3), .val (.int x4), .val (.long x5), .second, .val (.ref b167), .val (.int (3 : Int32)), .val (.ref b320), .val (.ref b324), .val (.long (x5 &&& (9223372036854775807 : Int64))), .second, .val (.int (1 : Int32)), .val (.int (1 : Int32)), .unset, .unset, .unset] []))
      refine GlW.back (fun _ k => XS.iload X360.here hx rfl (hb hby at_183) rfl k) ?_
      show GlW _ _ _ _ _ _ _ (T360.setTop (mkF m 185 #[.val (.long x0), .second, .val (.long x1), .second, .val (.long x2), .second, .val (.int x3), .val (.int x4), .val (.long x5), .second, .val (.ref b167), .val (.int (3 : Int32)), .val (.ref b320), .val (.ref b324), .val (.long (x5 &&& (9223372036854775807 : Int64))), .second, .val (.int (1 : Int32)), .val (.int (1 : Int32)), .unset, .unset, .unset] [(.int (1 : Int32))]))
      refine GlW.back (fun _ k => XS.aload X360.here hx rfl (hb hby at_185) rfl rfl k) ?_
      show GlW _ _ _ _ _ _ _ (T360.setTop (mkF m 187 #[.val (.long x0), .second, .val (.long x1), .second, .val (.long x2), .second, .val (.int x3), .val (.int x4), .val (.long x5), .second, .val (.ref b167), .val (.int (3 : Int32)), .val (.ref b320), .val (.ref b324), .val (.long (x5 &&& (9223372036854775807 : Int64))), .second, .val (.int (1 : Int32)), .val (.int (1 : Int32)), .unset, .unset, .unset] [(.ref b167), (.int (1 : Int32))]))
      obtain ⟨cq361, kq361, q361a, q361b, q361c⟩ := isOf hZ342 eh360 f358
      obtain ⟨_, _, ⟨T361, L361, k361, n361⟩, -, X361, ⟨Lc361, hQ361, l361, y361, z361⟩, st361⟩ := X360.virtualBack hx (y := (⟨"com/example/gavelwatch/gavelwatch/sim/RunningAuction", "bids", "()Ljava/util/List;"⟩ : MethodName)) (z := (⟨"com/example/gavelwatch/gavelwatch/sim/RunningAuction", "bids", "()Ljava/util/List;"⟩ : MethodName)) hown342 (mvT hZ342 (hw _ (List.mem_of_getElem? (i := 187) rfl))) (mvT hZ342 (hw _ (List.mem_of_getElem? (i := 188) rfl))) (notFace_of_selects (args := #[]) (mvT hZ342 (hw _ (List.mem_of_getElem? (i := 190) rfl)))) (mvT hZ342 (hw _ (List.mem_of_getElem? (i := 190) rfl))) (mvT hZ342 (hw _ (List.mem_of_getElem? (i := 189) rfl))) (by decide) (backOf (W := 1) (rmbids l Z a0 hw [] b167 l170 T342.heap n0 Zc342 Fb342) hZ342 (hw _ (List.mem_of_getElem? (i := 191) rfl)) (hw _ (List.mem_of_getElem? (i := 2) rfl)) (by decide) (by decide)) q361a q361c (g := (mkF m 187 #[.val (.long x0), .second, .val (.long x1), .second, .val (.long x2), .second, .val (.int x3), .val (.int x4), .val (.long x5), .second, .val (.ref b167), .val (.int (3 : Int32)), .val (.ref b320), .val (.ref b324), .val (.long (x5 &&& (9223372036854775807 : Int64))), .second, .val (.int (1 : Int32)), .val (.int (1 : Int32)), .unset, .unset, .unset] [(.ref b167), (.int (1 : Int32))])) rfl (by rw [hml]; rfl) (Steps.refl _) (argsL := []) (rest := [(.int (1 : Int32))]) (lenOf pd___Ljava_util_List_ rfl) rfl (by show 2 * 0 + _ ≤ _; exact Nat.le_of_eq rfl) (hb hby at_187) (fun _ _ => ⟨rfl, eh360, (by decide : 13 + 0 ≤ _), (by decide : 83 + 0 ≤ _)⟩)
      dsimp only [Pt.U, Pt.locs, Pt.cells, Pt.slots] at X361 l361 y361 z361 st361 hQ361
      subst l361 y361 z361
      obtain ⟨Nq361, rfl, eh361⟩ := hQ361
      have N361 := Fr.app N360 Nq361
      refine GlW.back (fun _ k => st361.trans k) ?_
      show GlW _ _ _ _ _ _ _ (T361.setTop (mkF m 190 #[.val (.long x0), .second, .val (.long x1), .second, .val (.long x2), .second, .val (.int x3), .val (.int x4), .val (.long x5), .second, .val (.ref b167), .val (.int (3 : Int32)), .val (.ref b320), .val (.ref b324), .val (.long (x5 &&& (9223372036854775807 : Int64))), .second, .val (.int (1 : Int32)), .val (.int (1 : Int32)), .unset, .unset, .unset] [(.ref l170), (.int (1 : Int32))]))
      have f363 := (f345.keep Kq342)
      obtain ⟨cq362, kq362, q362a, q362b, q362c⟩ := isOf hZ342 eh361 f363
      obtain ⟨_, _, ⟨T362, L362, k362, n362⟩, -, X362, ⟨Lc362, hQ362, l362, y362, z362⟩, st362⟩ := X361.interfaceBack hx (xi := (⟨"java/util/List", "size", "()I"⟩ : MethodName)) (y := (⟨"java/util/ArrayList", "size", "()I"⟩ : MethodName)) hown342 (mvT hZ342 (hw _ (List.mem_of_getElem? (i := 192) rfl))) (mvT hZ342 (hw _ (List.mem_of_getElem? (i := 193) rfl))) (mvT hZ342 (hw _ (List.mem_of_getElem? (i := 194) rfl))) (mvT hZ342 (hw _ (List.mem_of_getElem? (i := 195) rfl))) (mvT hZ342 (hw _ (List.mem_of_getElem? (i := 196) rfl))) (mvT hZ342 (hw _ (List.mem_of_getElem? (i := 197) rfl))) (mvT hZ342 (hw _ (List.mem_of_getElem? (i := 198) rfl))) (mvT hZ342 (hw _ (List.mem_of_getElem? (i := 155) rfl))) (by decide) (backOf (W := 1) (rmsize l Z a0 hw [] l170 (1 : Int32) T342.heap n0 Zc342 Fs342) hZ342 (hw _ (List.mem_of_getElem? (i := 199) rfl)) (hw _ (List.mem_of_getElem? (i := 25) rfl)) (by decide) (by decide)) q362a q362b q362c (g := (mkF m 190 #[.val (.long x0), .second, .val (.long x1), .second, .val (.long x2), .second, .val (.int x3), .val (.int x4), .val (.long x5), .second, .val (.ref b167), .val (.int (3 : Int32)), .val (.ref b320), .val (.ref b324), .val (.long (x5 &&& (9223372036854775807 : Int64))), .second, .val (.int (1 : Int32)), .val (.int (1 : Int32)), .unset, .unset, .unset] [(.ref l170), (.int (1 : Int32))])) rfl (by rw [hml]; rfl) (Steps.refl _) (argsL := []) (rest := [(.int (1 : Int32))]) (lenOf pd___I rfl) rfl (by show 2 * 0 + _ ≤ _; exact Nat.le_of_eq rfl) (hb hby at_190) (fun _ _ => ⟨rfl, eh361, (by decide : 13 + 0 ≤ _), (by decide : 83 + 0 ≤ _)⟩)
      dsimp only [Pt.U, Pt.locs, Pt.cells, Pt.slots] at X362 l362 y362 z362 st362 hQ362
      subst l362 y362 z362
      obtain ⟨Nq362, rfl, eh362⟩ := hQ362
      have N362 := Fr.app N361 Nq362
      refine GlW.back (fun _ k => st362.trans k) ?_
      show GlW _ _ _ _ _ _ _ (T362.setTop (mkF m 195 #[.val (.long x0), .second, .val (.long x1), .second, .val (.long x2), .second, .val (.int x3), .val (.int x4), .val (.long x5), .second, .val (.ref b167), .val (.int (3 : Int32)), .val (.ref b320), .val (.ref b324), .val (.long (x5 &&& (9223372036854775807 : Int64))), .second, .val (.int (1 : Int32)), .val (.int (1 : Int32)), .unset, .unset, .unset] [(.int (1 : Int32)), (.int (1 : Int32))]))
      refine GlW.back (fun _ k => XS.ifNo X362.here hx rfl (hb hby at_195) rfl ((if0 _ _).trans (feq (by decide : ¬ (1 : Int32) = (0 : Int32))).1) k) ?_
      show GlW _ _ _ _ _ _ _ (T362.setTop (mkF m 198 #[.val (.long x0), .second, .val (.long x1), .second, .val (.long x2), .second, .val (.int x3), .val (.int x4), .val (.long x5), .second, .val (.ref b167), .val (.int (3 : Int32)), .val (.ref b320), .val (.ref b324), .val (.long (x5 &&& (9223372036854775807 : Int64))), .second, .val (.int (1 : Int32)), .val (.int (1 : Int32)), .unset, .unset, .unset] [(.int (1 : Int32))]))
      refine GlW.back (fun _ k => XS.iconst X362.here hx rfl (hb hby at_198) k) ?_
      show GlW _ _ _ _ _ _ _ (T362.setTop (mkF m 199 #[.val (.long x0), .second, .val (.long x1), .second, .val (.long x2), .second, .val (.int x3), .val (.int x4), .val (.long x5), .second, .val (.ref b167), .val (.int (3 : Int32)), .val (.ref b320), .val (.ref b324), .val (.long (x5 &&& (9223372036854775807 : Int64))), .second, .val (.int (1 : Int32)), .val (.int (1 : Int32)), .unset, .unset, .unset] [(.int (1 : Int32)), (.int (1 : Int32))]))
      refine GlW.back (fun _ k => XS.goto X362.here hx rfl (pc0 := 199) (pc' := 203) rfl (hb hby at_199) (by decide) (by decide) k) ?_
      show GlW _ _ _ _ _ _ _ (T362.setTop (mkF m 203 #[.val (.long x0), .second, .val (.long x1), .second, .val (.long x2), .second, .val (.int x3), .val (.int x4), .val (.long x5), .second, .val (.ref b167), .val (.int (3 : Int32)), .val (.ref b320), .val (.ref b324), .val (.long (x5 &&& (9223372036854775807 : Int64))), .second, .val (.int (1 : Int32)), .val (.int (1 : Int32)), .unset, .unset, .unset] [(.int (1 : Int32)), (.int (1 : Int32))]))
      refine GlW.back (fun _ k => XS.icmpNo X362.here hx rfl (hb hby at_203) rfl (teq (by decide : (1 : Int32) = (1 : Int32))).2 k) ?_
      show GlW _ _ _ _ _ _ _ (T362.setTop (mkF m 206 #[.val (.long x0), .second, .val (.long x1), .second, .val (.long x2), .second, .val (.int x3), .val (.int x4), .val (.long x5), .second, .val (.ref b167), .val (.int (3 : Int32)), .val (.ref b320), .val (.ref b324), .val (.long (x5 &&& (9223372036854775807 : Int64))), .second, .val (.int (1 : Int32)), .val (.int (1 : Int32)), .unset, .unset, .unset] []))
      refine GlW.back (fun _ k => XS.iconst X362.here hx rfl (hb hby at_206) k) ?_
      show GlW _ _ _ _ _ _ _ (T362.setTop (mkF m 207 #[.val (.long x0), .second, .val (.long x1), .second, .val (.long x2), .second, .val (.int x3), .val (.int x4), .val (.long x5), .second, .val (.ref b167), .val (.int (3 : Int32)), .val (.ref b320), .val (.ref b324), .val (.long (x5 &&& (9223372036854775807 : Int64))), .second, .val (.int (1 : Int32)), .val (.int (1 : Int32)), .unset, .unset, .unset] [(.int (1 : Int32))]))
      refine GlW.back (fun _ k => XS.goto X362.here hx rfl (pc0 := 207) (pc' := 211) rfl (hb hby at_207) (by decide) (by decide) k) ?_
      show GlW _ _ _ _ _ _ _ (T362.setTop (mkF m 211 #[.val (.long x0), .second, .val (.long x1), .second, .val (.long x2), .second, .val (.int x3), .val (.int x4), .val (.long x5), .second, .val (.ref b167), .val (.int (3 : Int32)), .val (.ref b320), .val (.ref b324), .val (.long (x5 &&& (9223372036854775807 : Int64))), .second, .val (.int (1 : Int32)), .val (.int (1 : Int32)), .unset, .unset, .unset] [(.int (1 : Int32))]))
      exact GlW.ret X362 eh362 hS342 (Nat.le_refl _) (v := (some (.int (1 : Int32)))) (fun h => by rw [Bd.returns] at h; cases h) Bd.notSynchronized (fun fs hr => retN X362 hx (t := .boolean) (z := (1 : Int32)) Bd.returns (by simp) (hb hby at_211) hr) ⟨N362, rfl⟩ (by decide) (by decide)
    · refine GlW.back (fun _ k => XS.ifNo X357.here hx rfl (hb hby at_126) rfl ((if0 _ _).trans (feq (own_lcEn hc126_359)).1) k) ?_
      show GlW _ _ _ _ _ _ _ (T357.setTop (mkF m 129 #[.val (.long x0), .second, .val (.long x1), .second, .val (.long x2), .second, .val (.int x3), .val (.int x4), .val (.long x5), .second, .val (.ref b167), .val (.int (3 : Int32)), .val (.ref b320), .val (.ref b324), .val (.long (x5 &&& (9223372036854775807 : Int64))), .second, .val (.int (1 : Int32)), .val (.long r334), .second, .unset, .unset] []))
      refine GlW.back (fun _ k => XS.lload X357.here hx rfl (hb hby at_129) rfl k) ?_
      show GlW _ _ _ _ _ _ _ (T357.setTop (mkF m 131 #[.val (.long x0), .second, .val (.long x1), .second, .val (.long x2), .second, .val (.int x3), .val (.int x4), .val (.long x5), .second, .val (.ref b167), .val (.int (3 : Int32)), .val (.ref b320), .val (.ref b324), .val (.long (x5 &&& (9223372036854775807 : Int64))), .second, .val (.int (1 : Int32)), .val (.long r334), .second, .unset, .unset] [(.long r334)]))
      refine GlW.back (fun _ k => XS.lconst X357.here hx rfl (hb hby at_131) k) ?_
      show GlW _ _ _ _ _ _ _ (T357.setTop (mkF m 132 #[.val (.long x0), .second, .val (.long x1), .second, .val (.long x2), .second, .val (.int x3), .val (.int x4), .val (.long x5), .second, .val (.ref b167), .val (.int (3 : Int32)), .val (.ref b320), .val (.ref b324), .val (.long (x5 &&& (9223372036854775807 : Int64))), .second, .val (.int (1 : Int32)), .val (.long r334), .second, .unset, .unset] [(.long (1 : Int64)), (.long r334)]))
      refine GlW.back (fun _ k => XS.ladd X357.here hx rfl (hb hby at_132) rfl k) ?_
      show GlW _ _ _ _ _ _ _ (T357.setTop (mkF m 133 #[.val (.long x0), .second, .val (.long x1), .second, .val (.long x2), .second, .val (.int x3), .val (.int x4), .val (.long x5), .second, .val (.ref b167), .val (.int (3 : Int32)), .val (.ref b320), .val (.ref b324), .val (.long (x5 &&& (9223372036854775807 : Int64))), .second, .val (.int (1 : Int32)), .val (.long r334), .second, .unset, .unset] [(.long (r334 + (1 : Int64)))]))
      refine GlW.back (fun _ k => XS.lload X357.here hx rfl (hb hby at_133) rfl k) ?_
      show GlW _ _ _ _ _ _ _ (T357.setTop (mkF m 135 #[.val (.long x0), .second, .val (.long x1), .second, .val (.long x2), .second, .val (.int x3), .val (.int x4), .val (.long x5), .second, .val (.ref b167), .val (.int (3 : Int32)), .val (.ref b320), .val (.ref b324), .val (.long (x5 &&& (9223372036854775807 : Int64))), .second, .val (.int (1 : Int32)), .val (.long r334), .second, .unset, .unset] [(.long x2), (.long (r334 + (1 : Int64)))]))
      obtain ⟨_, _, ⟨T364, L364, k364, n364⟩, -, X364, ⟨Lc364, hQ364, l364, y364, z364⟩, st364⟩ := Jvm.LawKit.callS X357 hx (y := (⟨"java/lang/Math", "max", "(JJ)J"⟩ : MethodName)) hown342 (mvT hZ342 (hw _ (List.mem_of_getElem? (i := 87) rfl))) (mvT hZ342 (hw _ (List.mem_of_getElem? (i := 88) rfl))) (mvT hZ342 (hw _ (List.mem_of_getElem? (i := 89) rfl))) (mvT hZ342 (hw _ (List.mem_of_getElem? (i := 90) rfl))) (by decide) (backOf (W := 0) (rmmaxJ l Z a0 hw [] (r334 + (1 : Int64)) x2  T342.heap n0 Zc342 ) hZ342 (hw _ (List.mem_of_getElem? (i := 90) rfl)) (hw _ (List.mem_of_getElem? (i := 89) rfl)) (by decide) (by decide)) (g := (mkF m 135 #[.val (.long x0), .second, .val (.long x1), .second, .val (.long x2), .second, .val (.int x3), .val (.int x4), .val (.long x5), .second, .val (.ref b167), .val (.int (3 : Int32)), .val (.ref b320), .val (.ref b324), .val (.long (x5 &&& (9223372036854775807 : Int64))), .second, .val (.int (1 : Int32)), .val (.long r334), .second, .unset, .unset] [(.long x2), (.long (r334 + (1 : Int64)))])) rfl (by rw [hml]; rfl) (argsL := [(.long (r334 + (1 : Int64))), (.long x2)]) (rest := []) (lenOf pd__JJ_J rfl) rfl (by show 2 * 0 + _ ≤ _; exact Nat.le_of_eq rfl) (hb hby at_135) (fun _ _ => ⟨rfl, eh357, (by decide : 13 + 0 ≤ _), (by decide : 83 + 0 ≤ _)⟩)
      dsimp only [Pt.U, Pt.locs, Pt.cells, Pt.slots] at X364 l364 y364 z364 st364 hQ364
      subst l364 y364 z364
      obtain ⟨Nq364, r364, rfl, hge364, hgf364, eh364⟩ := hQ364
      have N364 := Fr.app N357 Nq364
      refine GlW.back (fun _ k => st364 _ k) ?_
      show GlW _ _ _ _ _ _ _ (T364.setTop (mkF m 138 #[.val (.long x0), .second, .val (.long x1), .second, .val (.long x2), .second, .val (.int x3), .val (.int x4), .val (.long x5), .second, .val (.ref b167), .val (.int (3 : Int32)), .val (.ref b320), .val (.ref b324), .val (.long (x5 &&& (9223372036854775807 : Int64))), .second, .val (.int (1 : Int32)), .val (.long r334), .second, .unset, .unset] [(.long r364)]))
      refine GlW.back (fun _ k => XS.lstore X364.here hx rfl (hb hby at_138) rfl (l' := #[.val (.long x0), .second, .val (.long x1), .second, .val (.long x2), .second, .val (.int x3), .val (.int x4), .val (.long x5), .second, .val (.ref b167), .val (.int (3 : Int32)), .val (.ref b320), .val (.ref b324), .val (.long (x5 &&& (9223372036854775807 : Int64))), .second, .val (.int (1 : Int32)), .val (.long r334), .second, .val (.long r364), .second]) rfl k) ?_
      show GlW _ _ _ _ _ _ _ (T364.setTop (mkF m 140 #[.val (.long x0), .second, .val (.long x1), .second, .val (.long x2), .second, .val (.int x3), .val (.int x4), .val (.long x5), .second, .val (.ref b167), .val (.int (3 : Int32)), .val (.ref b320), .val (.ref b324), .val (.long (x5 &&& (9223372036854775807 : Int64))), .second, .val (.int (1 : Int32)), .val (.long r334), .second, .val (.long r364), .second] []))
      refine GlW.back (fun _ k => XS.aload X364.here hx rfl (hb hby at_140) rfl rfl k) ?_
      show GlW _ _ _ _ _ _ _ (T364.setTop (mkF m 142 #[.val (.long x0), .second, .val (.long x1), .second, .val (.long x2), .second, .val (.int x3), .val (.int x4), .val (.long x5), .second, .val (.ref b167), .val (.int (3 : Int32)), .val (.ref b320), .val (.ref b324), .val (.long (x5 &&& (9223372036854775807 : Int64))), .second, .val (.int (1 : Int32)), .val (.long r334), .second, .val (.long r364), .second] [(.ref b167)]))
      refine GlW.back (fun _ k => XS.aload X364.here hx rfl (hb hby at_142) rfl rfl k) ?_
      show GlW _ _ _ _ _ _ _ (T364.setTop (mkF m 144 #[.val (.long x0), .second, .val (.long x1), .second, .val (.long x2), .second, .val (.int x3), .val (.int x4), .val (.long x5), .second, .val (.ref b167), .val (.int (3 : Int32)), .val (.ref b320), .val (.ref b324), .val (.long (x5 &&& (9223372036854775807 : Int64))), .second, .val (.int (1 : Int32)), .val (.long r334), .second, .val (.long r364), .second] [(.ref b324), (.ref b167)]))
      obtain ⟨T365, h365, X365, e365, E365, A365, D365, -, st365⟩ := newO X364 hx hZ342 hown342 (hw _ (List.mem_of_getElem? (i := 3) rfl)) (hw _ (List.mem_of_getElem? (i := 4) rfl)) (hw _ (List.mem_of_getElem? (i := 5) rfl)) eh364 (g := (mkF m 144 #[.val (.long x0), .second, .val (.long x1), .second, .val (.long x2), .second, .val (.int x3), .val (.int x4), .val (.long x5), .second, .val (.ref b167), .val (.int (3 : Int32)), .val (.ref b320), .val (.ref b324), .val (.long (x5 &&& (9223372036854775807 : Int64))), .second, .val (.int (1 : Int32)), .val (.long r334), .second, .val (.long r364), .second] [(.ref b324), (.ref b167)])) rfl (hb hby at_144) (by decide) (by decide)
      obtain ⟨b365, g365⟩ : ∃ z, z = T342.heap.size := ⟨_, rfl⟩
      rw [← g365] at A365 D365 st365
      have ne_b167_b365 : b167 ≠ b365 := Nat.ne_of_lt (Nat.lt_of_lt_of_le f358.lt (Nat.le_of_eq g365.symm))
      have f366 := (f344.keep Kq342)
      have ne_b168_b365 : b168 ≠ b365 := Nat.ne_of_lt (Nat.lt_of_lt_of_le f366.lt (Nat.le_of_eq g365.symm))
      have f367 := (f345.keep Kq342)
      have ne_l170_b365 : l170 ≠ b365 := Nat.ne_of_lt (Nat.lt_of_lt_of_le f367.lt (Nat.le_of_eq g365.symm))
      have f368 := (f346.keep Kq342 (ninS (Ne.symm ne_b167_b320) (ninS (Ne.symm ne_l170_b320) nin0)))
      have ne_b320_b365 : b320 ≠ b365 := Nat.ne_of_lt (Nat.lt_of_lt_of_le f368.lt (Nat.le_of_eq g365.symm))
      have f369 := (f347.keep Kq342)
      have ne_b324_b365 : b324 ≠ b365 := Nat.ne_of_lt (Nat.lt_of_lt_of_le f369.lt (Nat.le_of_eq g365.symm))
      have f370 := (f348.keep Kq342 (ninS (Ne.symm ne_b167_t332) (ninS (Ne.symm ne_l170_t332) nin0)))
      have ne_t332_b365 : t332 ≠ b365 := Nat.ne_of_lt (Nat.lt_of_lt_of_le f370.lt (Nat.le_of_eq g365.symm))
      have f371 := (f349.keep Kq342)
      have ne_b335_b365 : b335 ≠ b365 := Nat.ne_of_lt (Nat.lt_of_lt_of_le f371.lt (Nat.le_of_eq g365.symm))
      have ne_c342_b365 : c342 ≠ b365 := Nat.ne_of_lt (Nat.lt_of_lt_of_le Ec342.lt (Nat.le_of_eq g365.symm))
      have ne_t342_b365 : t342 ≠ b365 := Nat.ne_of_lt (Nat.lt_of_lt_of_le V342.lt (Nat.le_of_eq g365.symm))
      have g_b365 : n0 ≤ b365 := Nat.le_trans Zc342 (Nat.le_of_eq g365.symm)
      have sz_b365 : h0.size ≤ b365 := Nat.le_trans Kc342.1 (Nat.le_of_eq g365.symm)
      have Z365 : n0 ≤ h365.size := Nat.le_trans Zc342 E365.1
      have K365 := Keep.ext Kc342 E365
      have O365 := Old.ext Oc342 E365
      have SK365 := Nat.le_trans (Nat.le_refl _) E365.1
      have F365_cents : Fld Z h365 b365 "com/example/gavelwatch/gavelwatch/model/Money" "cents" "J" (.long (0 : Int64)) := D365 (Or.inr (hw _ (List.mem_of_getElem? (i := 18) rfl))) (ty := .long) (by decide)
      refine GlW.back (fun _ k => st365 _ k) ?_
      show GlW _ _ _ _ _ _ _ (T365.setTop (mkF m 147 #[.val (.long x0), .second, .val (.long x1), .second, .val (.long x2), .second, .val (.int x3), .val (.int x4), .val (.long x5), .second, .val (.ref b167), .val (.int (3 : Int32)), .val (.ref b320), .val (.ref b324), .val (.long (x5 &&& (9223372036854775807 : Int64))), .second, .val (.int (1 : Int32)), .val (.long r334), .second, .val (.long r364), .second] [(.ref b365), (.ref b324), (.ref b167)]))
      refine GlW.back (fun _ k => XS.dup X365.here hx rfl (hb hby at_147) rfl rfl k) ?_
      show GlW _ _ _ _ _ _ _ (T365.setTop (mkF m 148 #[.val (.long x0), .second, .val (.long x1), .second, .val (.long x2), .second, .val (.int x3), .val (.int x4), .val (.long x5), .second, .val (.ref b167), .val (.int (3 : Int32)), .val (.ref b320), .val (.ref b324), .val (.long (x5 &&& (9223372036854775807 : Int64))), .second, .val (.int (1 : Int32)), .val (.long r334), .second, .val (.long r364), .second] [(.ref b365), (.ref b365), (.ref b324), (.ref b167)]))
      refine GlW.back (fun _ k => XS.lload X365.here hx rfl (hb hby at_148) rfl k) ?_
      show GlW _ _ _ _ _ _ _ (T365.setTop (mkF m 150 #[.val (.long x0), .second, .val (.long x1), .second, .val (.long x2), .second, .val (.int x3), .val (.int x4), .val (.long x5), .second, .val (.ref b167), .val (.int (3 : Int32)), .val (.ref b320), .val (.ref b324), .val (.long (x5 &&& (9223372036854775807 : Int64))), .second, .val (.int (1 : Int32)), .val (.long r334), .second, .val (.long r364), .second] [(.long r364), (.ref b365), (.ref b365), (.ref b324), (.ref b167)]))
      obtain ⟨_, _, ⟨T372, L372, k372, n372⟩, -, X372, ⟨Lc372, hQ372, l372, y372, z372⟩, st372⟩ := X365.specialBack hx (y := (⟨"com/example/gavelwatch/gavelwatch/model/Money", "<init>", "(J)V"⟩ : MethodName)) rfl hown342 (mvT hZ342 (hw _ (List.mem_of_getElem? (i := 6) rfl))) (mvT hZ342 (hw _ (List.mem_of_getElem? (i := 7) rfl))) (mvT hZ342 (hw _ (List.mem_of_getElem? (i := 8) rfl))) (by decide) (backOf (W := 3) (rmmoney l Z a0 hw [] b365 r364  h365 n0 Z365 g_b365 A365 F365_cents) hZ342 (hw _ (List.mem_of_getElem? (i := 8) rfl)) (hw _ (List.mem_of_getElem? (i := 5) rfl)) (by decide) (by decide)) (g := (mkF m 150 #[.val (.long x0), .second, .val (.long x1), .second, .val (.long x2), .second, .val (.int x3), .val (.int x4), .val (.long x5), .second, .val (.ref b167), .val (.int (3 : Int32)), .val (.ref b320), .val (.ref b324), .val (.long (x5 &&& (9223372036854775807 : Int64))), .second, .val (.int (1 : Int32)), .val (.long r334), .second, .val (.long r364), .second] [(.long r364), (.ref b365), (.ref b365), (.ref b324), (.ref b167)])) rfl (by rw [hml]; rfl) (Steps.refl _) (a := b365) (argsL := [(.long r364)]) (rest := [(.ref b365), (.ref b324), (.ref b167)]) (lenOf pd__J_V rfl) rfl (by show 2 * 0 + _ ≤ _; exact Nat.le_of_eq rfl) (hb hby at_150) (fun _ _ => ⟨rfl, e365, (by decide : 14 + 0 ≤ _), (by decide : 84 + 0 ≤ _)⟩)
      dsimp only [Pt.U, Pt.locs, Pt.cells, Pt.slots] at X372 l372 y372 z372 st372 hQ372
      subst l372 y372 z372
      obtain ⟨Nq372, rfl, Kq372, Fc372⟩ := hQ372
      have N372 := Fr.app N364 Nq372
      have Kc372 := Keep.trans K365 Kq372 (allS (Or.inr sz_b365) all0)
      have Zc372 : n0 ≤ T372.heap.size := Nat.le_trans Z365 Kq372.1
      have Oc372 := Old.keep O365 Kq372 (allS g_b365 all0)
      have SKc372 := Nat.le_trans SK365 Kq372.1
      refine GlW.back (fun _ k => st372.trans k) ?_
      show GlW _ _ _ _ _ _ _ (T372.setTop (mkF m 153 #[.val (.long x0), .second, .val (.long x1), .second, .val (.long x2), .second, .val (.int x3), .val (.int x4), .val (.long x5), .second, .val (.ref b167), .val (.int (3 : Int32)), .val (.ref b320), .val (.ref b324), .val (.long (x5 &&& (9223372036854775807 : Int64))), .second, .val (.int (1 : Int32)), .val (.long r334), .second, .val (.long r364), .second] [(.ref b365), (.ref b324), (.ref b167)]))
      refine GlW.back (fun _ k => XS.lload X372.here hx rfl (hb hby at_153) rfl k) ?_
      show GlW _ _ _ _ _ _ _ (T372.setTop (mkF m 155 #[.val (.long x0), .second, .val (.long x1), .second, .val (.long x2), .second, .val (.int x3), .val (.int x4), .val (.long x5), .second, .val (.ref b167), .val (.int (3 : Int32)), .val (.ref b320), .val (.ref b324), .val (.long (x5 &&& (9223372036854775807 : Int64))), .second, .val (.int (1 : Int32)), .val (.long r334), .second, .val (.long r364), .second] [(.long (x5 &&& (9223372036854775807 : Int64))), (.ref b365), (.ref b324), (.ref b167)]))
      have f374 := ((f358.ext E365).keep Kq372)
      have f375 := ((f366.ext E365).keep Kq372)
      have f376 := ((f367.ext E365).keep Kq372)
      have f377 := ((f368.ext E365).keep Kq372 (ninS ne_b320_b365 nin0))
      have f378 := ((f369.ext E365).keep Kq372)
      have f379 := ((f370.ext E365).keep Kq372 (ninS ne_t332_b365 nin0))
      have f380 := ((f371.ext E365).keep Kq372)
      have f381 := ((Ec342.ext E365).keep Kq372)
      have f382 := ((V342.ext E365).keep Kq372 (ninS ne_t342_b365 nin0))
      have f383 := (A365.keep Kq372)
      have f384 := ((Fh342.ext E365).keep Kq372 (ninS ne_b167_b365 nin0))
      have f385 := ((Fb342.ext E365).keep Kq372 (ninS ne_b167_b365 nin0))
      have f386 := ((Fa342.ext E365).keep Kq372 (ninS ne_c342_b365 nin0))
      have f387 := (((Fc341.keep Kq342 (ninS (Ne.symm ne_b167_b335) (ninS (Ne.symm ne_l170_b335) nin0))).ext E365).keep Kq372 (ninS ne_b335_b365 nin0))
      have f388 := ((Fm342.ext E365).keep Kq372 (ninS ne_l170_b365 nin0))
      have f389 := ((Fe342.ext E365).keep Kq372 (ninS ne_l170_b365 nin0))
      have f390 := ((Fs342.ext E365).keep Kq372 (ninS ne_l170_b365 nin0))
      obtain ⟨cq373, kq373, q373a, q373b, q373c⟩ := isOf hZ342 rfl f374
      obtain ⟨_, _, ⟨T373, L373, k373, n373⟩, -, X373, hS2373, hg2373, ⟨Lc373, hQ373, l373, y373, z373⟩, st373⟩ := X372.virtualBackS hx (y := (⟨"com/example/gavelwatch/gavelwatch/sim/RunningAuction", "place", "(Ljava/lang/String;Lcom/example/gavelwatch/gavelwatch/model/Money;J)V"⟩ : MethodName)) (z := (⟨"com/example/gavelwatch/gavelwatch/sim/RunningAuction", "place", "(Ljava/lang/String;Lcom/example/gavelwatch/gavelwatch/model/Money;J)V"⟩ : MethodName)) hown342 (mvT hZ342 (hw _ (List.mem_of_getElem? (i := 91) rfl))) (mvT hZ342 (hw _ (List.mem_of_getElem? (i := 92) rfl))) (notFace_of_selects (args := #[]) (mvT hZ342 (hw _ (List.mem_of_getElem? (i := 94) rfl)))) (mvT hZ342 (hw _ (List.mem_of_getElem? (i := 94) rfl))) (mvT hZ342 (hw _ (List.mem_of_getElem? (i := 93) rfl))) (by decide) (backOfS (W := 0) (rmplace1 l Z a0 hw [] b167 b324 b365 (x5 &&& (9223372036854775807 : Int64)) l170 b335 u c342 t342 k0342 ((0 : Int32) + (1 : Int32)) r364 r334 T372.heap n0 Zc372 Oc372 g_b167 f374 f384 f385 f381 f386 f380 f387 f383 Fc372 Gz170 f376 f388 f389 f390 Gz342 f382 S_SECONDS E_u F_u_scale F_u_maxNanos Ov342 (own_next hc126_359 hge364) ne_b167_l170 ne_b167_c342 ne_b167_b335 ne_b167_b365 ne_b167_t342 ne_l170_c342 ne_l170_b335 ne_l170_b365 ne_l170_t342 (own_nn x5)) hZ342 (hw _ (List.mem_of_getElem? (i := 95) rfl)) (hw _ (List.mem_of_getElem? (i := 2) rfl)) (by decide) (by decide)) q373a q373c (g := (mkF m 155 #[.val (.long x0), .second, .val (.long x1), .second, .val (.long x2), .second, .val (.int x3), .val (.int x4), .val (.long x5), .second, .val (.ref b167), .val (.int (3 : Int32)), .val (.ref b320), .val (.ref b324), .val (.long (x5 &&& (9223372036854775807 : Int64))), .second, .val (.int (1 : Int32)), .val (.long r334), .second, .val (.long r364), .second] [(.long (x5 &&& (9223372036854775807 : Int64))), (.ref b365), (.ref b324), (.ref b167)])) rfl (by rw [hml]; rfl) (Steps.refl _) (argsL := [(.ref b324), (.ref b365), (.long (x5 &&& (9223372036854775807 : Int64)))]) (rest := []) (lenOf pd__Ljava_lang_String_Lcom_example_gavelwatch_gavelwatch_model_Money_J_V rfl) rfl (by show 2 * 0 + _ ≤ _; exact Nat.le_of_eq rfl) (hb hby at_155) (fun _ _ => ⟨rfl, rfl, (by decide : 14 + 5 ≤ _), (by decide : 84 + 59 ≤ _)⟩)
      dsimp only [Pt.U, Pt.locs, Pt.cells, Pt.slots] at X373 l373 y373 z373 st373 hQ373 hS2373 hg2373
      subst l373 y373 z373
      obtain ⟨X373, hS373, hZ373, hown373⟩ := rebS hS342 (SKc372) X373 hS2373 hg2373 hZ342 hown342
      obtain ⟨Nq373, rfl, Kq373, c373, Sc373, Gc373, Ec373, Fh373, Fa373, Fb373, Fs373⟩ := hQ373
      have N373 := Fr.app N372 Nq373
      have Kc373 := Keep.trans Kc372 Kq373 (allS (Or.inr sz_b167) (allS (Or.inr sz_l170) (allS (Or.inr sz_t342) all0)))
      have Zc373 : n0 ≤ T373.heap.size := Nat.le_trans Zc372 Kq373.1
      have Oc373 := Old.keep Oc372 Kq373 (allS g_b167 (allS Gz170 (allS Gz342 all0)))
      have ne_b167_c373 : b167 ≠ c373 := Nat.ne_of_lt (Nat.lt_of_lt_of_le (f374).lt Sc373)
      have ne_b168_c373 : b168 ≠ c373 := Nat.ne_of_lt (Nat.lt_of_lt_of_le (f375).lt Sc373)
      have ne_l170_c373 : l170 ≠ c373 := Nat.ne_of_lt (Nat.lt_of_lt_of_le (f376).lt Sc373)
      have ne_b320_c373 : b320 ≠ c373 := Nat.ne_of_lt (Nat.lt_of_lt_of_le (f377).lt Sc373)
      have ne_b324_c373 : b324 ≠ c373 := Nat.ne_of_lt (Nat.lt_of_lt_of_le (f378).lt Sc373)
      have ne_t332_c373 : t332 ≠ c373 := Nat.ne_of_lt (Nat.lt_of_lt_of_le (f379).lt Sc373)
      have ne_b335_c373 : b335 ≠ c373 := Nat.ne_of_lt (Nat.lt_of_lt_of_le (f380).lt Sc373)
      have ne_c342_c373 : c342 ≠ c373 := Nat.ne_of_lt (Nat.lt_of_lt_of_le (f381).lt Sc373)
      have ne_b365_c373 : b365 ≠ c373 := Nat.ne_of_lt (Nat.lt_of_lt_of_le (f383).lt Sc373)
      have sz_c373 : h0.size ≤ c373 := Nat.le_trans Kc372.1 Sc373
      refine GlW.back (fun _ k => st373.trans k) ?_
      show GlW _ _ _ _ _ _ _ (T373.setTop (mkF m 158 #[.val (.long x0), .second, .val (.long x1), .second, .val (.long x2), .second, .val (.int x3), .val (.int x4), .val (.long x5), .second, .val (.ref b167), .val (.int (3 : Int32)), .val (.ref b320), .val (.ref b324), .val (.long (x5 &&& (9223372036854775807 : Int64))), .second, .val (.int (1 : Int32)), .val (.long r334), .second, .val (.long r364), .second] []))
      refine GlW.back (fun _ k => XS.iconst X373.here hx rfl (hb hby at_158) k) ?_
      show GlW _ _ _ _ _ _ _ (T373.setTop (mkF m 159 #[.val (.long x0), .second, .val (.long x1), .second, .val (.long x2), .second, .val (.int x3), .val (.int x4), .val (.long x5), .second, .val (.ref b167), .val (.int (3 : Int32)), .val (.ref b320), .val (.ref b324), .val (.long (x5 &&& (9223372036854775807 : Int64))), .second, .val (.int (1 : Int32)), .val (.long r334), .second, .val (.long r364), .second] [(.int (2 : Int32))]))
      refine GlW.back (fun _ k => XS.istore X373.here hx rfl (hb hby at_159) rfl (l' := #[.val (.long x0), .second, .val (.long x1), .second, .val (.long x2), .second, .val (.int x3), .val (.int x4), .val (.long x5), .second, .val (.ref b167), .val (.int (3 : Int32)), .val (.ref b320), .val (.ref b324), .val (.long (x5 &&& (9223372036854775807 : Int64))), .second, .val (.int (2 : Int32)), .val (.long r334), .second, .val (.long r364), .second]) rfl k) ?_
      show GlW _ _ _ _ _ _ _ (T373.setTop (mkF m 161 #[.val (.long x0), .second, .val (.long x1), .second, .val (.long x2), .second, .val (.int x3), .val (.int x4), .val (.long x5), .second, .val (.ref b167), .val (.int (3 : Int32)), .val (.ref b320), .val (.ref b324), .val (.long (x5 &&& (9223372036854775807 : Int64))), .second, .val (.int (2 : Int32)), .val (.long r334), .second, .val (.long r364), .second] []))
      refine GlW.back (fun _ k => XS.aload X373.here hx rfl (hb hby at_161) rfl rfl k) ?_
      show GlW _ _ _ _ _ _ _ (T373.setTop (mkF m 163 #[.val (.long x0), .second, .val (.long x1), .second, .val (.long x2), .second, .val (.int x3), .val (.int x4), .val (.long x5), .second, .val (.ref b167), .val (.int (3 : Int32)), .val (.ref b320), .val (.ref b324), .val (.long (x5 &&& (9223372036854775807 : Int64))), .second, .val (.int (2 : Int32)), .val (.long r334), .second, .val (.long r364), .second] [(.ref b167)]))
      have f392 := (f374.keep Kq373)
      obtain ⟨cq391, kq391, q391a, q391b, q391c⟩ := isOf hZ373 rfl f392
      obtain ⟨_, _, ⟨T391, L391, k391, n391⟩, -, X391, ⟨Lc391, hQ391, l391, y391, z391⟩, st391⟩ := X373.virtualBack hx (y := (⟨"com/example/gavelwatch/gavelwatch/sim/RunningAuction", "hasBids", "()Z"⟩ : MethodName)) (z := (⟨"com/example/gavelwatch/gavelwatch/sim/RunningAuction", "hasBids", "()Z"⟩ : MethodName)) hown373 (mvT hZ373 (hw _ (List.mem_of_getElem? (i := 51) rfl))) (mvT hZ373 (hw _ (List.mem_of_getElem? (i := 52) rfl))) (notFace_of_selects (args := #[]) (mvT hZ373 (hw _ (List.mem_of_getElem? (i := 54) rfl)))) (mvT hZ373 (hw _ (List.mem_of_getElem? (i := 54) rfl))) (mvT hZ373 (hw _ (List.mem_of_getElem? (i := 53) rfl))) (by decide) (backOf (W := 0) (rmhas1 l Z a0 hw [] b167 c373 T373.heap n0 Zc373 Fh373) hZ373 (hw _ (List.mem_of_getElem? (i := 55) rfl)) (hw _ (List.mem_of_getElem? (i := 2) rfl)) (by decide) (by decide)) q391a q391c (g := (mkF m 163 #[.val (.long x0), .second, .val (.long x1), .second, .val (.long x2), .second, .val (.int x3), .val (.int x4), .val (.long x5), .second, .val (.ref b167), .val (.int (3 : Int32)), .val (.ref b320), .val (.ref b324), .val (.long (x5 &&& (9223372036854775807 : Int64))), .second, .val (.int (2 : Int32)), .val (.long r334), .second, .val (.long r364), .second] [(.ref b167)])) rfl (by rw [hml]; rfl) (Steps.refl _) (argsL := []) (rest := []) (lenOf pd___Z rfl) rfl (by show 2 * 0 + _ ≤ _; exact Nat.le_of_eq rfl) (hb hby at_163) (fun _ _ => ⟨rfl, rfl, (by decide : 19 + 0 ≤ _), (by decide : 143 + 0 ≤ _)⟩)
      dsimp only [Pt.U, Pt.locs, Pt.cells, Pt.slots] at X391 l391 y391 z391 st391 hQ391
      subst l391 y391 z391
      obtain ⟨Nq391, rfl, eh391⟩ := hQ391
      have N391 := Fr.app N373 Nq391
      refine GlW.back (fun _ k => st391.trans k) ?_
      show GlW _ _ _ _ _ _ _ (T391.setTop (mkF m 166 #[.val (.long x0), .second, .val (.long x1), .second, .val (.long x2), .second, .val (.int x3), .val (.int x4), .val (.long x5), .second, .val (.ref b167), .val (.int (3 : Int32)), .val (.ref b320), .val (.ref b324), .val (.long (x5 &&& (9223372036854775807 : Int64))), .second, .val (.int (2 : Int32)), .val (.long r334), .second, .val (.long r364), .second] [(.int (1 : Int32))]))
      refine GlW.back (fun _ k => XS.istore X391.here hx rfl (hb hby at_166) rfl (l' := #[.val (.long x0), .second, .val (.long x1), .second, .val (.long x2), .second, .val (.int x3), .val (.int x4), .val (.long x5), .second, .val (.ref b167), .val (.int (3 : Int32)), .val (.ref b320), .val (.ref b324), .val (.long (x5 &&& (9223372036854775807 : Int64))), .second, .val (.int (2 : Int32)), .val (.int (1 : Int32)), .unset, .val (.long r364), .second]) rfl k) ?_
      show GlW _ _ _ _ _ _ _ (T391.setTop (mkF m 168 #[.val (.long x0), .second, .val (.long x1), .second, .val (.long x2), .second, .val (.int x3), .val (.int x4), .val (.long x5), .second, .val (.ref b167), .val (.int (3 : Int32)), .val (.ref b320), .val (.ref b324), .val (.long (x5 &&& (9223372036854775807 : Int64))), .second, .val (.int (2 : Int32)), .val (.int (1 : Int32)), .unset, .val (.long r364), .second] []))
      refine GlW.back (fun _ k => XS.iload X391.here hx rfl (hb hby at_168) rfl k) ?_
      show GlW _ _ _ _ _ _ _ (T391.setTop (mkF m 170 #[.val (.long x0), .second, .val (.long x1), .second, .val (.long x2), .second, .val (.int x3), .val (.int x4), .val (.long x5), .second, .val (.ref b167), .val (.int (3 : Int32)), .val (.ref b320), .val (.ref b324), .val (.long (x5 &&& (9223372036854775807 : Int64))), .second, .val (.int (2 : Int32)), .val (.int (1 : Int32)), .unset, .val (.long r364), .second] [(.int (1 : Int32))]))
      refine GlW.back (fun _ k => XS.iload X391.here hx rfl (hb hby at_170) rfl k) ?_
      show GlW _ _ _ _ _ _ _ (T391.setTop (mkF m 172 #[.val (.long x0), .second, .val (.long x1), .second, .val (.long x2), .second, .val (.int x3), .val (.int x4), .val (.long x5), .second, .val (.ref b167), .val (.int (3 : Int32)), .val (.ref b320), .val (.ref b324), .val (.long (x5 &&& (9223372036854775807 : Int64))), .second, .val (.int (2 : Int32)), .val (.int (1 : Int32)), .unset, .val (.long r364), .second] [(.int (2 : Int32)), (.int (1 : Int32))]))
      refine GlW.back (fun _ k => XS.ifNo X391.here hx rfl (hb hby at_172) rfl ((if0 _ _).trans (tlt (by decide : (0 : Int32) < (2 : Int32))).2.2.2) k) ?_
      show GlW _ _ _ _ _ _ _ (T391.setTop (mkF m 175 #[.val (.long x0), .second, .val (.long x1), .second, .val (.long x2), .second, .val (.int x3), .val (.int x4), .val (.long x5), .second, .val (.ref b167), .val (.int (3 : Int32)), .val (.ref b320), .val (.ref b324), .val (.long (x5 &&& (9223372036854775807 : Int64))), .second, .val (.int (2 : Int32)), .val (.int (1 : Int32)), .unset, .val (.long r364), .second] [(.int (1 : Int32))]))
      refine GlW.back (fun _ k => XS.iconst X391.here hx rfl (hb hby at_175) k) ?_
      show GlW _ _ _ _ _ _ _ (T391.setTop (mkF m 176 #[.val (.long x0), .second, .val (.long x1), .second, .val (.long x2), .second, .val (.int x3), .val (.int x4), .val (.long x5), .second, .val (.ref b167), .val (.int (3 : Int32)), .val (.ref b320), .val (.ref b324), .val (.long (x5 &&& (9223372036854775807 : Int64))), .second, .val (.int (2 : Int32)), .val (.int (1 : Int32)), .unset, .val (.long r364), .second] [(.int (1 : Int32)), (.int (1 : Int32))]))
      refine GlW.back (fun _ k => XS.goto X391.here hx rfl (pc0 := 176) (pc' := 180) rfl (hb hby at_176) (by decide) (by decide) k) ?_
      show GlW _ _ _ _ _ _ _ (T391.setTop (mkF m 180 #[.val (.long x0), .second, .val (.long x1), .second, .val (.long x2), .second, .val (.int x3), .val (.int x4), .val (.long x5), .second, .val (.ref b167), .val (.int (3 : Int32)), .val (.ref b320), .val (.ref b324), .val (.long (x5 &&& (9223372036854775807 : Int64))), .second, .val (.int (2 : Int32)), .val (.int (1 : Int32)), .unset, .val (.long r364), .second] [(.int (1 : Int32)), (.int (1 : Int32))]))
      refine GlW.back (fun _ k => XS.icmpNo X391.here hx rfl (hb hby at_180) rfl (teq (by decide : (1 : Int32) = (1 : Int32))).2 k) ?_
      show GlW _ _ _ _ _ _ _ (T391.setTop (mkF m 183 #[.val (.long x0), .second, .val (.long x1), .second, .val (.long x2), .second, .val (.int x3), .val (.int x4), .val (.long x5), .second, .val (.ref b167), .val (.int (3 : Int32)), .val (.ref b320), .val (.ref b324), .val (.long (x5 &&& (9223372036854775807 : Int64))), .second, .val (.int (2 : Int32)), .val (.int (1 : Int32)), .unset, .val (.long r364), .second] []))
      refine GlW.back (fun _ k => XS.iload X391.here hx rfl (hb hby at_183) rfl k) ?_
      show GlW _ _ _ _ _ _ _ (T391.setTop (mkF m 185 #[.val (.long x0), .second, .val (.long x1), .second, .val (.long x2), .second, .val (.int x3), .val (.int x4), .val (.long x5), .second, .val (.ref b167), .val (.int (3 : Int32)), .val (.ref b320), .val (.ref b324), .val (.long (x5 &&& (9223372036854775807 : Int64))), .second, .val (.int (2 : Int32)), .val (.int (1 : Int32)), .unset, .val (.long r364), .second] [(.int (1 : Int32))]))
      refine GlW.back (fun _ k => XS.aload X391.here hx rfl (hb hby at_185) rfl rfl k) ?_
      show GlW _ _ _ _ _ _ _ (T391.setTop (mkF m 187 #[.val (.long x0), .second, .val (.long x1), .second, .val (.long x2), .second, .val (.int x3), .val (.int x4), .val (.long x5), .second, .val (.ref b167), .val (.int (3 : Int32)), .val (.ref b320), .val (.ref b324), .val (.long (x5 &&& (9223372036854775807 : Int64))), .second, .val (.int (2 : Int32)), .val (.int (1 : Int32)), .unset, .val (.long r364), .second] [(.ref b167), (.int (1 : Int32))]))
      obtain ⟨cq393, kq393, q393a, q393b, q393c⟩ := isOf hZ373 eh391 f392
      obtain ⟨_, _, ⟨T393, L393, k393, n393⟩, -, X393, ⟨Lc393, hQ393, l393, y393, z393⟩, st393⟩ := X391.virtualBack hx (y := (⟨"com/example/gavelwatch/gavelwatch/sim/RunningAuction", "bids", "()Ljava/util/List;"⟩ : MethodName)) (z := (⟨"com/example/gavelwatch/gavelwatch/sim/RunningAuction", "bids", "()Ljava/util/List;"⟩ : MethodName)) hown373 (mvT hZ373 (hw _ (List.mem_of_getElem? (i := 187) rfl))) (mvT hZ373 (hw _ (List.mem_of_getElem? (i := 188) rfl))) (notFace_of_selects (args := #[]) (mvT hZ373 (hw _ (List.mem_of_getElem? (i := 190) rfl)))) (mvT hZ373 (hw _ (List.mem_of_getElem? (i := 190) rfl))) (mvT hZ373 (hw _ (List.mem_of_getElem? (i := 189) rfl))) (by decide) (backOf (W := 1) (rmbids l Z a0 hw [] b167 l170 T373.heap n0 Zc373 Fb373) hZ373 (hw _ (List.mem_of_getElem? (i := 191) rfl)) (hw _ (List.mem_of_getElem? (i := 2) rfl)) (by decide) (by decide)) q393a q393c (g := (mkF m 187 #[.val (.long x0), .second, .val (.long x1), .second, .val (.long x2), .second, .val (.int x3), .val (.int x4), .val (.long x5), .second, .val (.ref b167), .val (.int (3 : Int32)), .val (.ref b320), .val (.ref b324), .val (.long (x5 &&& (9223372036854775807 : Int64))), .second, .val (.int (2 : Int32)), .val (.int (1 : Int32)), .unset, .val (.long r364), .second] [(.ref b167), (.int (1 : Int32))])) rfl (by rw [hml]; rfl) (Steps.refl _) (argsL := []) (rest := [(.int (1 : Int32))]) (lenOf pd___Ljava_util_List_ rfl) rfl (by show 2 * 0 + _ ≤ _; exact Nat.le_of_eq rfl) (hb hby at_187) (fun _ _ => ⟨rfl, eh391, (by decide : 19 + 0 ≤ _), (by decide : 143 + 0 ≤ _)⟩)
      dsimp only [Pt.U, Pt.locs, Pt.cells, Pt.slots] at X393 l393 y393 z393 st393 hQ393
      subst l393 y393 z393
      obtain ⟨Nq393, rfl, eh393⟩ := hQ393
      have N393 := Fr.app N391 Nq393
      refine GlW.back (fun _ k => st393.trans k) ?_
      show GlW _ _ _ _ _ _ _ (T393.setTop (mkF m 190 #[.val (.long x0), .second, .val (.long x1), .second, .val (.long x2), .second, .val (.int x3), .val (.int x4), .val (.long x5), .second, .val (.ref b167), .val (.int (3 : Int32)), .val (.ref b320), .val (.ref b324), .val (.long (x5 &&& (9223372036854775807 : Int64))), .second, .val (.int (2 : Int32)), .val (.int (1 : Int32)), .unset, .val (.long r364), .second] [(.ref l170), (.int (1 : Int32))]))
      have f395 := (f376.keep Kq373)
      obtain ⟨cq394, kq394, q394a, q394b, q394c⟩ := isOf hZ373 eh393 f395
      obtain ⟨_, _, ⟨T394, L394, k394, n394⟩, -, X394, ⟨Lc394, hQ394, l394, y394, z394⟩, st394⟩ := X393.interfaceBack hx (xi := (⟨"java/util/List", "size", "()I"⟩ : MethodName)) (y := (⟨"java/util/ArrayList", "size", "()I"⟩ : MethodName)) hown373 (mvT hZ373 (hw _ (List.mem_of_getElem? (i := 192) rfl))) (mvT hZ373 (hw _ (List.mem_of_getElem? (i := 193) rfl))) (mvT hZ373 (hw _ (List.mem_of_getElem? (i := 194) rfl))) (mvT hZ373 (hw _ (List.mem_of_getElem? (i := 195) rfl))) (mvT hZ373 (hw _ (List.mem_of_getElem? (i := 196) rfl))) (mvT hZ373 (hw _ (List.mem_of_getElem? (i := 197) rfl))) (mvT hZ373 (hw _ (List.mem_of_getElem? (i := 198) rfl))) (mvT hZ373 (hw _ (List.mem_of_getElem? (i := 155) rfl))) (by decide) (backOf (W := 1) (rmsize l Z a0 hw [] l170 (2 : Int32) T373.heap n0 Zc373 Fs373) hZ373 (hw _ (List.mem_of_getElem? (i := 199) rfl)) (hw _ (List.mem_of_getElem? (i := 25) rfl)) (by decide) (by decide)) q394a q394b q394c (g := (mkF m 190 #[.val (.long x0), .second, .val (.long x1), .second, .val (.long x2), .second, .val (.int x3), .val (.int x4), .val (.long x5), .second, .val (.ref b167), .val (.int (3 : Int32)), .val (.ref b320), .val (.ref b324), .val (.long (x5 &&& (9223372036854775807 : Int64))), .second, .val (.int (2 : Int32)), .val (.int (1 : Int32)), .unset, .val (.long r364), .second] [(.ref l170), (.int (1 : Int32))])) rfl (by rw [hml]; rfl) (Steps.refl _) (argsL := []) (rest := [(.int (1 : Int32))]) (lenOf pd___I rfl) rfl (by show 2 * 0 + _ ≤ _; exact Nat.le_of_eq rfl) (hb hby at_190) (fun _ _ => ⟨rfl, eh393, (by decide : 19 + 0 ≤ _), (by decide : 143 + 0 ≤ _)⟩)
      dsimp only [Pt.U, Pt.locs, Pt.cells, Pt.slots] at X394 l394 y394 z394 st394 hQ394
      subst l394 y394 z394
      obtain ⟨Nq394, rfl, eh394⟩ := hQ394
      have N394 := Fr.app N393 Nq394
      refine GlW.back (fun _ k => st394.trans k) ?_
      show GlW _ _ _ _ _ _ _ (T394.setTop (mkF m 195 #[.val (.long x0), .second, .val (.long x1), .second, .val (.long x2), .second, .val (.int x3), .val (.int x4), .val (.long x5), .second, .val (.ref b167), .val (.int (3 : Int32)), .val (.ref b320), .val (.ref b324), .val (.long (x5 &&& (9223372036854775807 : Int64))), .second, .val (.int (2 : Int32)), .val (.int (1 : Int32)), .unset, .val (.long r364), .second] [(.int (2 : Int32)), (.int (1 : Int32))]))
      refine GlW.back (fun _ k => XS.ifNo X394.here hx rfl (hb hby at_195) rfl ((if0 _ _).trans (feq (by decide : ¬ (2 : Int32) = (0 : Int32))).1) k) ?_
      show GlW _ _ _ _ _ _ _ (T394.setTop (mkF m 198 #[.val (.long x0), .second, .val (.long x1), .second, .val (.long x2), .second, .val (.int x3), .val (.int x4), .val (.long x5), .second, .val (.ref b167), .val (.int (3 : Int32)), .val (.ref b320), .val (.ref b324), .val (.long (x5 &&& (9223372036854775807 : Int64))), .second, .val (.int (2 : Int32)), .val (.int (1 : Int32)), .unset, .val (.long r364), .second] [(.int (1 : Int32))]))
      refine GlW.back (fun _ k => XS.iconst X394.here hx rfl (hb hby at_198) k) ?_
      show GlW _ _ _ _ _ _ _ (T394.setTop (mkF m 199 #[.val (.long x0), .second, .val (.long x1), .second, .val (.long x2), .second, .val (.int x3), .val (.int x4), .val (.long x5), .second, .val (.ref b167), .val (.int (3 : Int32)), .val (.ref b320), .val (.ref b324), .val (.long (x5 &&& (9223372036854775807 : Int64))), .second, .val (.int (2 : Int32)), .val (.int (1 : Int32)), .unset, .val (.long r364), .second] [(.int (1 : Int32)), (.int (1 : Int32))]))
      refine GlW.back (fun _ k => XS.goto X394.here hx rfl (pc0 := 199) (pc' := 203) rfl (hb hby at_199) (by decide) (by decide) k) ?_
      show GlW _ _ _ _ _ _ _ (T394.setTop (mkF m 203 #[.val (.long x0), .second, .val (.long x1), .second, .val (.long x2), .second, .val (.int x3), .val (.int x4), .val (.long x5), .second, .val (.ref b167), .val (.int (3 : Int32)), .val (.ref b320), .val (.ref b324), .val (.long (x5 &&& (9223372036854775807 : Int64))), .second, .val (.int (2 : Int32)), .val (.int (1 : Int32)), .unset, .val (.long r364), .second] [(.int (1 : Int32)), (.int (1 : Int32))]))
      refine GlW.back (fun _ k => XS.icmpNo X394.here hx rfl (hb hby at_203) rfl (teq (by decide : (1 : Int32) = (1 : Int32))).2 k) ?_
      show GlW _ _ _ _ _ _ _ (T394.setTop (mkF m 206 #[.val (.long x0), .second, .val (.long x1), .second, .val (.long x2), .second, .val (.int x3), .val (.int x4), .val (.long x5), .second, .val (.ref b167), .val (.int (3 : Int32)), .val (.ref b320), .val (.ref b324), .val (.long (x5 &&& (9223372036854775807 : Int64))), .second, .val (.int (2 : Int32)), .val (.int (1 : Int32)), .unset, .val (.long r364), .second] []))
      refine GlW.back (fun _ k => XS.iconst X394.here hx rfl (hb hby at_206) k) ?_
      show GlW _ _ _ _ _ _ _ (T394.setTop (mkF m 207 #[.val (.long x0), .second, .val (.long x1), .second, .val (.long x2), .second, .val (.int x3), .val (.int x4), .val (.long x5), .second, .val (.ref b167), .val (.int (3 : Int32)), .val (.ref b320), .val (.ref b324), .val (.long (x5 &&& (9223372036854775807 : Int64))), .second, .val (.int (2 : Int32)), .val (.int (1 : Int32)), .unset, .val (.long r364), .second] [(.int (1 : Int32))]))
      refine GlW.back (fun _ k => XS.goto X394.here hx rfl (pc0 := 207) (pc' := 211) rfl (hb hby at_207) (by decide) (by decide) k) ?_
      show GlW _ _ _ _ _ _ _ (T394.setTop (mkF m 211 #[.val (.long x0), .second, .val (.long x1), .second, .val (.long x2), .second, .val (.int x3), .val (.int x4), .val (.long x5), .second, .val (.ref b167), .val (.int (3 : Int32)), .val (.ref b320), .val (.ref b324), .val (.long (x5 &&& (9223372036854775807 : Int64))), .second, .val (.int (2 : Int32)), .val (.int (1 : Int32)), .unset, .val (.long r364), .second] [(.int (1 : Int32))]))
      exact GlW.ret X394 eh394 hS373 (Nat.le_refl _) (v := (some (.int (1 : Int32)))) (fun h => by rw [Bd.returns] at h; cases h) Bd.notSynchronized (fun fs hr => retN X394 hx (t := .boolean) (z := (1 : Int32)) Bd.returns (by simp) (hb hby at_211) hr) ⟨N394, rfl⟩ (by decide) (by decide)
set_option maxRecDepth 65536 in
set_option maxHeartbeats 40000000 in
theorem comes_1 {Post : Tables → Env → Array Value → State → Outcome → State → Prop} (hpost : ∀ tb e args s v u, (limb_1_1.after args s (.returned v) u = true ∧ limb_1_2.after args s (.returned v) u = true ∧ True) → ReturnedEndW s (.returned v) u (Jvm.fieldLocs frame_1_writes args s ++ Jvm.arrayLocs frame_1_arrays args s ++ Jvm.staticLocs frame_1_statics s) 40 2240 → Post tb e args s (.returned v) u) :
    ArmFor flags0 classFile x code maxLocals ret World_1 tables_1 room_1 Calls_1 rest_1 Pre_1 Post := by
  intro l hfl _ _ p e ha hc hk s m args below hf hA hF happ hP
  obtain ⟨hcalls, hrest, hpre⟩ := hP
  obtain ⟨-, -, -, hnamed, -, -, -, hat⟩ := (Spec.applies_iff hf).mp happ
  obtain ⟨hg, hn⟩ := and_e (Cond.before_iff.mp (show (Jvm.Cond.and given_1 narrow_1).before args s = true from hpre))
  obtain ⟨gv396, gv397⟩ := and_e hg
  obtain ⟨gv398, gv399⟩ := and_e gv397
  obtain ⟨gv400, gv401⟩ := and_e gv399
  obtain ⟨gv402, gv403⟩ := and_e gv401
  obtain ⟨gv404, gv405⟩ := and_e gv403
  obtain ⟨gv406, gv407⟩ := and_e gv405
  obtain ⟨w0, w1, w2, w3, w4, w5, rfl⟩ : ∃ w0 w1 w2 w3 w4 w5 : Value, args = #[w0, w1, w2, w3, w4, w5] := by
    have hs : args.size = 6 := by simpa [Cond.value, given_1] using gv396
    obtain ⟨L⟩ := args
    match L, hs with
    | [w0, w1, w2, w3, w4, w5], _ => exact ⟨w0, w1, w2, w3, w4, w5, rfl⟩
  have hw := fun d (hd : d ∈ tables_1) => atoms_spec (ws := Jvm.Cond.code x code maxLocals ret :: tables_1) hat d (List.mem_cons_of_mem _ hd)
  have hfit : Fit s := fun {y c} hc i hi => by
    obtain ⟨ha, rfl⟩ := Array.getElem?_eq_some_iff.mp hc
    have q := List.all_eq_true.mp ((Array.all_eq_true_iff_forall_mem.mp hF) _ (Array.getElem_mem ha)) i (List.mem_range.mpr hi)
    simpa [Array.getElem?_eq_getElem hi] using q
  obtain ⟨hsets, hown0⟩ := atoms_of _ (rest_1_c_eq ▸ (show rest_1_c.before _ s = true from hrest))
  have hr0 := Cond.before_iff.mp hown0
  obtain ⟨i0, ei0⟩ := isL_v gv398
  obtain rfl : w0 = (.long i0) := Option.some.inj ei0
  obtain ⟨i1, ei1⟩ := isL_v gv400
  obtain rfl : w1 = (.long i1) := Option.some.inj ei1
  obtain ⟨i2, ei2⟩ := isL_v gv402
  obtain rfl : w2 = (.long i2) := Option.some.inj ei2
  obtain ⟨i3, ei3⟩ := is_v gv404
  obtain rfl : w3 = (.int i3) := Option.some.inj ei3
  obtain ⟨i4, ei4⟩ := is_v gv406
  obtain rfl : w4 = (.int i4) := Option.some.inj ei4
  obtain ⟨i5, ei5⟩ := isL_v gv407
  obtain rfl : w5 = (.long i5) := Option.some.inj ei5
  obtain ⟨wD, evD⟩ := arr_v (Cond.before_iff.mp (hsets _ (List.mem_of_getElem? (i := 6) rfl)))
  obtain ⟨kD, VD⟩ := own_arr0 hfit evD (Cond.before_iff.mp (hsets _ (List.mem_of_getElem? (i := 6) rfl))) (Cond.before_iff.mp (hsets _ (List.mem_of_getElem? (i := 8) rfl))) .null
  have SD := Sta.start evD (Or.inr ⟨(hw _ (List.mem_of_getElem? (i := 25) rfl)), hsets _ (List.mem_of_getElem? (i := 2) rfl)⟩)
  obtain ⟨u, evU⟩ := exa_v (Cond.before_iff.mp (hsets _ (List.mem_of_getElem? (i := 20) rfl)))
  have SU := Sta.start evU (Or.inl (hsets _ (List.mem_of_getElem? (i := 19) rfl)))
  have EU := Exa.start evU (Cond.before_iff.mp (hsets _ (List.mem_of_getElem? (i := 20) rfl)))
  have FS := own_fldJ evU (Cond.before_iff.mp (hsets _ (List.mem_of_getElem? (i := 23) rfl)))
  have FM := own_fldJ evU (Cond.before_iff.mp (hsets _ (List.mem_of_getElem? (i := 24) rfl)))
  have nz := not_v (Cond.before_iff.mp (hsets _ (List.mem_of_getElem? (i := 11) rfl)))
  obtain ⟨zc, ez⟩ := is_v (Cond.before_iff.mp (hsets _ (List.mem_of_getElem? (i := 10) rfl)))
  have S_C : Sta s s.heap "java/lang/String" "COMPACT_STRINGS" "Z" (.int zc) := Sta.start ez (Or.inl (hsets _ (List.mem_of_getElem? (i := 9) rfl)))
  have P0 : ¬ (zc = (0 : Int32)) := gotF (Jvm.Cond.eq_ints ez (Term.int_eval (0))) nz
  obtain ⟨n, o, h1, h2, h3, _, L, rfl, ⟨N, rfl⟩, hq⟩ := rm0 l s _ hw tables_1 i0 i1 i2 i3 i4 i5 wD u kD zc s.heap s.heap.size (Nat.le_refl _) (Old.start s) SD VD SU EU FS FM S_C P0 p e ha hc hk s m _ below hf ((Spec.applies_iff_loose hf).mp happ).1 ⟨rfl, State.Warmed39.refl s, rfl⟩ trivial
  refine ⟨n, _, h1, h2, h3, hpost _ _ _ _ _ _ ⟨Cond.after_iff.mpr rfl, Cond.after_iff.mpr (eq_i res_at (Term.int_eval (1)) rfl), trivial⟩ ⟨hq.1, hq.2.1, hq.2.2.1, (hq.2.2.2.sift fun y hy => Or.inr (N y hy)).mono (by decide) (by decide)⟩⟩
theorem main_1_1 : Claimed_1_1 := comes_1 fun _ _ _ _ _ _ h hF => ⟨h.1, hF⟩
theorem main_1_2 : Claimed_1_2 := comes_1 fun _ _ _ _ _ _ h hF => ⟨h.2.1, hF⟩
end Jvm.Pilot.@@N@@
namespace Jvm.Pilot.@@N@@
open Jvm Jvm.ClassFile Sem Op Lib Jvm.Free Jvm.Stand Jvm.Pilot.@@N@@.Jvm.D
/-! MADE BY PROGRAM (witnessworld.py) out of the Statement's table words and the real class files: 38 classes; the members and pool entries that the words name. The judged class is class 1, her method 1. -/
namespace start1
open Jvm.ClassFile
def u (s : String) : CpInfo := .utf8 (stringToUtf16 s)
/-- a pool by its gaps: so many unusable entries, then the entry; so many at the end -/
def gap : Nat → List CpInfo → List CpInfo
  | 0, r => r
  | n + 1, r => .unusable :: gap n r
def poolList (es : List (Nat × CpInfo)) (last : Nat) : List CpInfo := es.foldr (fun e r => gap e.1 (e.2 :: r)) (gap last [])
def pool (es : List (Nat × CpInfo)) (last : Nat) : Array CpInfo := ⟨poolList es last⟩
def fileOf (pool : Array CpInfo) (this : Nat) (attrs : Array Attribute := #[]) (ms : Array MethodInfo := #[]) (fl : Nat := 33) (sup : Nat := 0) (ifs : Array Nat := #[]) (fds : Array FieldInfo := #[]) : ClassFile where
  minorVersion := 0
  majorVersion := 65
  constantPool := pool
  accessFlags := fl
  thisClass := this
  superClass := sup
  interfaces := ifs
  fields := fds
  methods := ms
  attributes := attrs
def plain (name : String) (sup : Option ClassId) : Class where
  name := name
  kind := .ordinary
  loader := none
  accessFlags := 33
  super := sup
  interfaces := #[]
  cf := none
  fields := #[]
  methods := #[]
  instanceTypes := #[]
  staticTypes := #[]
  resolved := #[]
  callSites := []
  init := .initialized
  statics := none
  mirror := none

def pool0 : Array CpInfo := pool [(5, u "<init>"), (0, u "()V"), (1, .class_ 10), (1, u "java/lang/Object")] 113

def k0c0 : Code := { maxStack := 0, maxLocals := 1, code := object_method_1_code, exceptionTable := #[], attributes := #[] }
def k0m0 : Method := { name := "<init>", desc := "()V", sig := { parameters := [], returnType := none }, accessFlags := 1, code := some k0c0 }
/-- java/lang/Object -/
def k0 : Class := { plain "java/lang/Object" none with
  accessFlags := 33
  interfaces := #[]
  cf := some (fileOf pool0 8 #[] #[{ accessFlags := 1, nameIndex := 5, descriptorIndex := 6, attributes := #[] }] 33 0 #[] #[])
  fields := #[]
  methods := #[k0m0]
  instanceTypes := #[]
  staticTypes := #[]
  resolved := Array.replicate 124 none
  statics := none }

def pool1 : Array CpInfo := pool [(2, .class_ 4), (1, u "java/lang/Object"), (0, u "<init>"), (0, u "()V"), (0, .class_ 8), (0, u "com/example/gavelwatch/gavelwatch/sim/RunningAuction"), (0, .class_ 10), (0, u "com/example/gavelwatch/gavelwatch/model/Money"), (0, .methodref 9 12), (0, .nameAndType 5 13), (0, u "(J)V"), (0, .methodref 7 15), (0, .nameAndType 5 16), (0, u "(Lcom/example/gavelwatch/gavelwatch/model/Money;)V"), (0, .methodref 7 18), (0, .nameAndType 19 20), (0, u "hasBids"), (0, u "()Z"), (0, .class_ 22), (0, u "java/lang/String"), (0, .methodref 21 24), (0, .nameAndType 5 25), (0, u "([C)V"), (2, .long 9223372036854775807), (1, .methodref 31 32), (0, .class_ 33), (0, .nameAndType 34 35), (0, u "java/lang/Math"), (0, u "max"), (0, u "(JJ)J"), (0, .methodref 7 37), (0, .nameAndType 38 39), (0, u "place"), (0, u "(Ljava/lang/String;Lcom/example/gavelwatch/gavelwatch/model/Money;J)V"), (0, .methodref 7 41), (0, .nameAndType 42 43), (0, u "bids"), (0, u "()Ljava/util/List;"), (0, .interfaceMethodref 45 46), (0, .class_ 47), (0, .nameAndType 48 49), (0, u "java/util/List"), (0, u "size"), (0, u "()I"), (0, .class_ 51), (0, u "com/example/gavelwatch/gavelwatch/sim/RunningAuctionHasBidsPinLaw"), (2, u "law"), (0, u "(JJJIIJ)Z")] 5

def k1m0 : Method := { name := "<init>", desc := "()V", sig := { parameters := [], returnType := none }, accessFlags := 1, code := none }
def k1c1 : Code := { maxStack := 6, maxLocals := 21, code := code, exceptionTable := #[], attributes := #[] }
def k1m1 : Method := { name := "law", desc := "(JJJIIJ)Z", sig := { parameters := [.long, .long, .long, .int, .int, .long], returnType := some .boolean }, accessFlags := 9, code := some k1c1 }
/-- com/example/gavelwatch/gavelwatch/sim/RunningAuctionHasBidsPinLaw -/
def k1 : Class := { plain "com/example/gavelwatch/gavelwatch/sim/RunningAuctionHasBidsPinLaw" (some 0) with
  accessFlags := 49
  interfaces := #[]
  cf := some (fileOf pool1 50 #[] #[{ accessFlags := 1, nameIndex := 5, descriptorIndex := 6, attributes := #[] }, { accessFlags := 9, nameIndex := 54, descriptorIndex := 55, attributes := #[] }] 49 2 #[] #[])
  fields := #[]
  methods := #[k1m0, k1m1]
  instanceTypes := #[]
  staticTypes := #[]
  resolved := Array.replicate 61 none
  statics := none }

def pool2 : Array CpInfo := pool [(1, .methodref 2 3), (0, .class_ 4), (0, .nameAndType 5 6), (0, u "java/lang/Object"), (0, u "<init>"), (0, u "()V"), (0, .class_ 8), (0, u "java/util/ArrayList"), (0, .methodref 7 3), (0, .fieldref 11 12), (0, .class_ 13), (0, .nameAndType 14 15), (0, u "com/example/gavelwatch/gavelwatch/sim/RunningAuction"), (0, u "bids"), (0, u "Ljava/util/List;"), (0, .fieldref 11 17), (0, .nameAndType 18 19), (0, u "openingBid"), (0, u "Lcom/example/gavelwatch/gavelwatch/model/Money;"), (0, .fieldref 11 21), (0, .nameAndType 22 23), (0, u "highest"), (0, u "Lcom/example/gavelwatch/gavelwatch/model/Bid;"), (0, .methodref 11 25), (0, .nameAndType 26 27), (0, u "hasBids"), (0, u "()Z"), (0, .methodref 29 30), (0, .class_ 31), (0, .nameAndType 32 33), (0, u "com/example/gavelwatch/gavelwatch/model/Bid"), (0, u "amount"), (0, u "()Lcom/example/gavelwatch/gavelwatch/model/Money;"), (0, .methodref 11 35), (0, .nameAndType 36 33), (0, u "price"), (0, .methodref 38 39), (0, .class_ 40), (0, .nameAndType 41 42), (0, u "com/example/gavelwatch/gavelwatch/model/Money"), (0, u "compareTo"), (0, u "(Lcom/example/gavelwatch/gavelwatch/model/Money;)I"), (0, .fieldref 44 45), (0, .class_ 46), (0, .nameAndType 47 48), (0, u "java/util/concurrent/TimeUnit"), (0, u "SECONDS"), (0, u "Ljava/util/concurrent/TimeUnit;"), (0, .methodref 44 50), (0, .nameAndType 51 52), (0, u "toNanos"), (0, u "(J)J"), (0, .methodref 11 54), (0, .nameAndType 55 56), (0, u "accepts"), (0, u "(Lcom/example/gavelwatch/gavelwatch/model/Money;)Z"), (26, .methodref 29 84), (0, .nameAndType 5 85), (0, u "(Ljava/lang/String;Lcom/example/gavelwatch/gavelwatch/model/Money;J)V"), (0, .interfaceMethodref 87 88), (0, .class_ 89), (0, .nameAndType 90 91), (0, u "java/util/List"), (0, u "add"), (0, u "(Ljava/lang/Object;)Z"), (2, u "(Lcom/example/gavelwatch/gavelwatch/model/Money;)V"), (3, u "place"), (2, u "()Ljava/util/List;")] 18

def k2c0 : Code := { maxStack := 3, maxLocals := 2, code := prog_50_method_1_code, exceptionTable := #[], attributes := #[] }
def k2m0 : Method := { name := "<init>", desc := "(Lcom/example/gavelwatch/gavelwatch/model/Money;)V", sig := { parameters := [(.object "com/example/gavelwatch/gavelwatch/model/Money")], returnType := none }, accessFlags := 0, code := some k2c0 }
def k2c1 : Code := { maxStack := 1, maxLocals := 1, code := prog_50_method_2_code, exceptionTable := #[], attributes := #[] }
def k2m1 : Method := { name := "hasBids", desc := "()Z", sig := { parameters := [], returnType := some .boolean }, accessFlags := 0, code := some k2c1 }
def k2c2 : Code := { maxStack := 1, maxLocals := 1, code := prog_50_method_3_code, exceptionTable := #[], attributes := #[] }
def k2m2 : Method := { name := "price", desc := "()Lcom/example/gavelwatch/gavelwatch/model/Money;", sig := { parameters := [], returnType := some (.object "com/example/gavelwatch/gavelwatch/model/Money") }, accessFlags := 0, code := some k2c2 }
def k2c3 : Code := { maxStack := 2, maxLocals := 3, code := prog_50_method_4_code, exceptionTable := #[], attributes := #[] }
def k2m3 : Method := { name := "accepts", desc := "(Lcom/example/gavelwatch/gavelwatch/model/Money;)Z", sig := { parameters := [(.object "com/example/gavelwatch/gavelwatch/model/Money")], returnType := some .boolean }, accessFlags := 0, code := some k2c3 }
def k2c4 : Code := { maxStack := 8, maxLocals := 7, code := prog_50_method_5_code, exceptionTable := #[], attributes := #[] }
def k2m4 : Method := { name := "place", desc := "(Ljava/lang/String;Lcom/example/gavelwatch/gavelwatch/model/Money;J)V", sig := { parameters := [(.object "java/lang/String"), (.object "com/example/gavelwatch/gavelwatch/model/Money"), .long], returnType := none }, accessFlags := 0, code := some k2c4 }
def k2c5 : Code := { maxStack := 1, maxLocals := 1, code := prog_50_method_6_code, exceptionTable := #[], attributes := #[] }
def k2m5 : Method := { name := "bids", desc := "()Ljava/util/List;", sig := { parameters := [], returnType := some (.object "java/util/List") }, accessFlags := 0, code := some k2c5 }
/-- com/example/gavelwatch/gavelwatch/sim/RunningAuction -/
def k2 : Class := { plain "com/example/gavelwatch/gavelwatch/sim/RunningAuction" (some 0) with
  accessFlags := 48
  interfaces := #[]
  cf := some (fileOf pool2 11 #[] #[{ accessFlags := 0, nameIndex := 5, descriptorIndex := 94, attributes := #[] }, { accessFlags := 0, nameIndex := 26, descriptorIndex := 27, attributes := #[] }, { accessFlags := 0, nameIndex := 36, descriptorIndex := 33, attributes := #[] }, { accessFlags := 0, nameIndex := 55, descriptorIndex := 56, attributes := #[] }, { accessFlags := 0, nameIndex := 98, descriptorIndex := 85, attributes := #[] }, { accessFlags := 0, nameIndex := 14, descriptorIndex := 101, attributes := #[] }] 48 2 #[] #[{ accessFlags := 18, nameIndex := 18, descriptorIndex := 19, attributes := #[] }, { accessFlags := 18, nameIndex := 14, descriptorIndex := 15, attributes := #[] }, { accessFlags := 2, nameIndex := 22, descriptorIndex := 23, attributes := #[] }])
  fields := #[{ name := "openingBid", type := (.object "com/example/gavelwatch/gavelwatch/model/Money"), accessFlags := 18, slot := 0, constantValue := 0 }, { name := "bids", type := (.object "java/util/List"), accessFlags := 18, slot := 1, constantValue := 0 }, { name := "highest", type := (.object "com/example/gavelwatch/gavelwatch/model/Bid"), accessFlags := 2, slot := 2, constantValue := 0 }]
  methods := #[k2m0, k2m1, k2m2, k2m3, k2m4, k2m5]
  instanceTypes := #[(.object "com/example/gavelwatch/gavelwatch/model/Money"), (.object "java/util/List"), (.object "com/example/gavelwatch/gavelwatch/model/Bid")]
  staticTypes := #[]
  resolved := Array.replicate 120 none
  statics := none }

def pool3 : Array CpInfo := pool [(1, .methodref 2 3), (0, .class_ 4), (0, .nameAndType 5 6), (0, u "java/lang/Object"), (0, u "<init>"), (0, u "()V"), (0, .class_ 8), (0, u "java/lang/Record")] 13

def k3c0 : Code := { maxStack := 1, maxLocals := 1, code := jdk_30_method_1_code, exceptionTable := #[], attributes := #[] }
def k3m0 : Method := { name := "<init>", desc := "()V", sig := { parameters := [], returnType := none }, accessFlags := 4, code := some k3c0 }
/-- java/lang/Record -/
def k3 : Class := { plain "java/lang/Record" (some 0) with
  accessFlags := 1057
  interfaces := #[]
  cf := some (fileOf pool3 7 #[] #[{ accessFlags := 4, nameIndex := 5, descriptorIndex := 6, attributes := #[] }] 1057 2 #[] #[])
  fields := #[]
  methods := #[k3m0]
  instanceTypes := #[]
  staticTypes := #[]
  resolved := Array.replicate 22 none
  statics := none }

def pool4 : Array CpInfo := pool [(1, .class_ 2), (0, u "java/lang/Comparable"), (0, .class_ 4), (0, u "java/lang/Object")] 7

/-- java/lang/Comparable -/
def k4 : Class := { plain "java/lang/Comparable" (some 0) with
  accessFlags := 1537
  interfaces := #[]
  cf := some (fileOf pool4 1 #[] #[] 1537 3 #[] #[])
  fields := #[]
  methods := #[]
  instanceTypes := #[]
  staticTypes := #[]
  resolved := Array.replicate 12 none
  statics := none }

def pool5 : Array CpInfo := pool [(1, .methodref 2 3), (0, .class_ 4), (0, .nameAndType 5 6), (0, u "java/lang/Record"), (0, u "<init>"), (0, u "()V"), (0, .fieldref 8 9), (0, .class_ 10), (0, .nameAndType 11 12), (0, u "com/example/gavelwatch/gavelwatch/model/Money"), (0, u "cents"), (0, u "J"), (40, u "(J)V"), (0, .methodref 55 56), (0, .class_ 57), (0, .nameAndType 58 59), (0, u "java/lang/Long"), (0, u "compare"), (0, u "(JJ)I"), (30, u "compareTo"), (0, u "(Lcom/example/gavelwatch/gavelwatch/model/Money;)I"), (7, .class_ 100), (0, u "java/lang/Comparable"), (0, u "MAX_DECIMALS"), (0, u "I")] 45

def k5c0 : Code := { maxStack := 3, maxLocals := 3, code := prog_40_method_1_code, exceptionTable := #[], attributes := #[] }
def k5m0 : Method := { name := "<init>", desc := "(J)V", sig := { parameters := [.long], returnType := none }, accessFlags := 1, code := some k5c0 }
def k5c1 : Code := { maxStack := 4, maxLocals := 2, code := prog_40_method_4_code, exceptionTable := #[], attributes := #[] }
def k5m1 : Method := { name := "compareTo", desc := "(Lcom/example/gavelwatch/gavelwatch/model/Money;)I", sig := { parameters := [(.object "com/example/gavelwatch/gavelwatch/model/Money")], returnType := some .int }, accessFlags := 1, code := some k5c1 }
/-- com/example/gavelwatch/gavelwatch/model/Money -/
def k5 : Class := { plain "com/example/gavelwatch/gavelwatch/model/Money" (some 3) with
  accessFlags := 49
  interfaces := #[4]
  cf := some (fileOf pool5 8 #[] #[{ accessFlags := 1, nameIndex := 5, descriptorIndex := 53, attributes := #[] }, { accessFlags := 1, nameIndex := 90, descriptorIndex := 91, attributes := #[] }] 49 2 #[99] #[{ accessFlags := 18, nameIndex := 11, descriptorIndex := 12, attributes := #[] }, { accessFlags := 26, nameIndex := 101, descriptorIndex := 102, attributes := #[] }])
  fields := #[{ name := "cents", type := .long, accessFlags := 18, slot := 0, constantValue := 0 }, { name := "MAX_DECIMALS", type := .int, accessFlags := 26, slot := 0, constantValue := 0 }]
  methods := #[k5m0, k5m1]
  instanceTypes := #[.long]
  staticTypes := #[.int]
  resolved := Array.replicate 148 none
  statics := none }

def pool6 : Array CpInfo := pool [(8, .class_ 10), (1, u "java/lang/Iterable"), (24, .class_ 36), (0, u "java/lang/Object")] 25

/-- java/lang/Iterable -/
def k6 : Class := { plain "java/lang/Iterable" (some 0) with
  accessFlags := 1537
  interfaces := #[]
  cf := some (fileOf pool6 8 #[] #[] 1537 35 #[] #[])
  fields := #[]
  methods := #[]
  instanceTypes := #[]
  staticTypes := #[]
  resolved := Array.replicate 62 none
  statics := none }

def pool7 : Array CpInfo := pool [(10, .class_ 12), (1, u "java/util/Collection"), (47, .class_ 61), (0, u "java/lang/Object"), (0, .class_ 63), (0, u "java/lang/Iterable")] 51

/-- java/util/Collection -/
def k7 : Class := { plain "java/util/Collection" (some 0) with
  accessFlags := 1537
  interfaces := #[6]
  cf := some (fileOf pool7 10 #[] #[] 1537 60 #[62] #[])
  fields := #[]
  methods := #[]
  instanceTypes := #[]
  staticTypes := #[]
  resolved := Array.replicate 115 none
  statics := none }

def pool8 : Array CpInfo := pool [(1, .methodref 2 3), (0, .class_ 4), (0, .nameAndType 5 6), (0, u "java/lang/Object"), (0, u "<init>"), (0, u "()V"), (1, .class_ 10), (1, u "java/util/AbstractCollection"), (66, .class_ 78), (0, u "java/util/Collection")] 81

def k8c0 : Code := { maxStack := 1, maxLocals := 1, code := jdk_22_method_1_code, exceptionTable := #[], attributes := #[] }
def k8m0 : Method := { name := "<init>", desc := "()V", sig := { parameters := [], returnType := none }, accessFlags := 4, code := some k8c0 }
/-- java/util/AbstractCollection -/
def k8 : Class := { plain "java/util/AbstractCollection" (some 0) with
  accessFlags := 1057
  interfaces := #[7]
  cf := some (fileOf pool8 8 #[] #[{ accessFlags := 4, nameIndex := 5, descriptorIndex := 6, attributes := #[] }] 1057 2 #[77] #[])
  fields := #[]
  methods := #[k8m0]
  instanceTypes := #[]
  staticTypes := #[]
  resolved := Array.replicate 160 none
  statics := none }

def pool9 : Array CpInfo := pool [(8, .class_ 10), (1, u "java/util/SequencedCollection"), (15, .class_ 27), (0, u "java/lang/Object"), (0, .class_ 29), (0, u "java/util/Collection")] 27

/-- java/util/SequencedCollection -/
def k9 : Class := { plain "java/util/SequencedCollection" (some 0) with
  accessFlags := 1537
  interfaces := #[7]
  cf := some (fileOf pool9 8 #[] #[] 1537 26 #[28] #[])
  fields := #[]
  methods := #[]
  instanceTypes := #[]
  staticTypes := #[]
  resolved := Array.replicate 57 none
  statics := none }

def pool10 : Array CpInfo := pool [(8, .class_ 10), (1, u "java/util/List"), (49, u "add"), (3, u "(Ljava/lang/Object;)Z"), (14, u "size"), (0, u "()I"), (22, .class_ 104), (0, u "java/lang/Object"), (15, .class_ 121), (0, u "java/util/SequencedCollection")] 129

def k10m0 : Method := { name := "size", desc := "()I", sig := { parameters := [], returnType := some .int }, accessFlags := 1025, code := none }
def k10m1 : Method := { name := "add", desc := "(Ljava/lang/Object;)Z", sig := { parameters := [(.object "java/lang/Object")], returnType := some .boolean }, accessFlags := 1025, code := none }
/-- java/util/List -/
def k10 : Class := { plain "java/util/List" (some 0) with
  accessFlags := 1537
  interfaces := #[9]
  cf := some (fileOf pool10 8 #[] #[{ accessFlags := 1025, nameIndex := 79, descriptorIndex := 80, attributes := #[] }, { accessFlags := 1025, nameIndex := 60, descriptorIndex := 64, attributes := #[] }] 1537 103 #[120] #[])
  fields := #[]
  methods := #[k10m0, k10m1]
  instanceTypes := #[]
  staticTypes := #[]
  resolved := Array.replicate 251 none
  statics := none }

def pool11 : Array CpInfo := pool [(1, .methodref 2 3), (0, .class_ 4), (0, .nameAndType 5 6), (0, u "java/util/AbstractCollection"), (0, u "<init>"), (0, u "()V"), (0, .fieldref 8 9), (0, .class_ 10), (0, .nameAndType 11 12), (0, u "java/util/AbstractList"), (0, u "modCount"), (0, u "I"), (64, .class_ 78), (0, u "java/util/AbstractList$Itr"), (3, .class_ 83), (0, u "java/util/AbstractList$ListItr"), (9, .class_ 94), (0, u "java/util/AbstractList$RandomAccessSubList"), (3, .class_ 99), (0, u "java/util/AbstractList$SubList"), (33, .class_ 134), (0, u "java/util/List"), (73, .class_ 209), (0, u "java/util/AbstractList$SubList$1"), (0, .class_ 211), (0, u "java/util/AbstractList$RandomAccessSpliterator")] 6

def k11c0 : Code := { maxStack := 2, maxLocals := 1, code := jdk_39_method_1_code, exceptionTable := #[], attributes := #[] }
def k11m0 : Method := { name := "<init>", desc := "()V", sig := { parameters := [], returnType := none }, accessFlags := 4, code := some k11c0 }
/-- java/util/AbstractList -/
def k11 : Class := { plain "java/util/AbstractList" (some 8) with
  accessFlags := 1057
  interfaces := #[10]
  cf := some (fileOf pool11 8 #[.nestMembers #[93, 98, 208, 210, 82, 77]] #[{ accessFlags := 4, nameIndex := 5, descriptorIndex := 6, attributes := #[] }] 1057 2 #[133] #[{ accessFlags := 132, nameIndex := 11, descriptorIndex := 12, attributes := #[] }])
  fields := #[{ name := "modCount", type := .int, accessFlags := 132, slot := 0, constantValue := 0 }]
  methods := #[k11m0]
  instanceTypes := #[.int]
  staticTypes := #[]
  resolved := Array.replicate 218 none
  statics := none }

def pool12 : Array CpInfo := pool [(1, .class_ 2), (0, u "java/util/RandomAccess"), (0, .class_ 4), (0, u "java/lang/Object")] 2

/-- java/util/RandomAccess -/
def k12 : Class := { plain "java/util/RandomAccess" (some 0) with
  accessFlags := 1537
  interfaces := #[]
  cf := some (fileOf pool12 1 #[] #[] 1537 3 #[] #[])
  fields := #[]
  methods := #[]
  instanceTypes := #[]
  staticTypes := #[]
  resolved := Array.replicate 7 none
  statics := none }

def pool13 : Array CpInfo := pool [(1, .class_ 2), (0, u "java/lang/Cloneable"), (0, .class_ 4), (0, u "java/lang/Object")] 2

/-- java/lang/Cloneable -/
def k13 : Class := { plain "java/lang/Cloneable" (some 0) with
  accessFlags := 1537
  interfaces := #[]
  cf := some (fileOf pool13 1 #[] #[] 1537 3 #[] #[])
  fields := #[]
  methods := #[]
  instanceTypes := #[]
  staticTypes := #[]
  resolved := Array.replicate 7 none
  statics := none }

def pool14 : Array CpInfo := pool [(1, .class_ 2), (0, u "java/io/Serializable"), (0, .class_ 4), (0, u "java/lang/Object")] 2

/-- java/io/Serializable -/
def k14 : Class := { plain "java/io/Serializable" (some 0) with
  accessFlags := 1537
  interfaces := #[]
  cf := some (fileOf pool14 1 #[] #[] 1537 3 #[] #[])
  fields := #[]
  methods := #[]
  instanceTypes := #[]
  staticTypes := #[]
  resolved := Array.replicate 7 none
  statics := none }

def pool15 : Array CpInfo := pool [(1, .methodref 2 3), (0, .class_ 4), (0, .nameAndType 5 6), (0, u "java/util/AbstractList"), (0, u "<init>"), (0, u "()V"), (0, .class_ 8), (0, u "java/lang/Object"), (0, .fieldref 10 11), (0, .class_ 12), (0, .nameAndType 13 14), (0, u "java/util/ArrayList"), (0, u "elementData"), (0, u "[Ljava/lang/Object;"), (2, u "EMPTY_ELEMENTDATA"), (21, .fieldref 10 40), (0, .nameAndType 41 14), (0, u "DEFAULTCAPACITY_EMPTY_ELEMENTDATA"), (5, u "()[Ljava/lang/Object;"), (0, .fieldref 10 49), (0, .nameAndType 50 51), (0, u "size"), (0, u "I"), (11, .fieldref 10 64), (0, .nameAndType 65 51), (0, u "modCount"), (3, .methodref 10 70), (0, .nameAndType 71 72), (0, u "grow"), (0, u "(I)[Ljava/lang/Object;"), (6, .methodref 80 81), (0, .class_ 82), (0, .nameAndType 83 84), (0, u "java/lang/Math"), (0, u "max"), (0, u "(II)I"), (11, u "(Ljava/lang/Object;)Z"), (32, .methodref 10 130), (0, .nameAndType 71 47), (0, .methodref 10 132), (0, .nameAndType 133 134), (0, u "add"), (0, u "(Ljava/lang/Object;[Ljava/lang/Object;I)V"), (13, .class_ 149), (0, u "java/util/List"), (36, u "()I"), (75, .class_ 263), (0, u "java/util/ArrayList$ListItr"), (3, .class_ 268), (0, u "java/util/ArrayList$Itr"), (7, .class_ 277), (0, u "java/util/ArrayList$SubList"), (12, .class_ 291), (0, u "java/util/ArrayList$ArrayListSpliterator"), (37, .class_ 330), (0, u "java/util/RandomAccess"), (0, .class_ 332), (0, u "java/lang/Cloneable"), (0, .class_ 334), (0, u "java/io/Serializable"), (0, u "serialVersionUID"), (0, u "J"), (3, u "DEFAULT_CAPACITY"), (159, .class_ 501), (0, u "java/util/ArrayList$SubList$2"), (0, .class_ 503), (0, u "java/util/ArrayList$SubList$1")] 5

def k15c0 : Code := { maxStack := 2, maxLocals := 1, code := jdk_38_method_2_code, exceptionTable := #[], attributes := #[] }
def k15m0 : Method := { name := "<init>", desc := "()V", sig := { parameters := [], returnType := none }, accessFlags := 1, code := some k15c0 }
def k15c1 : Code := { maxStack := 4, maxLocals := 4, code := jdk_38_method_6_code, exceptionTable := #[], attributes := #[] }
def k15m1 : Method := { name := "grow", desc := "(I)[Ljava/lang/Object;", sig := { parameters := [.int], returnType := some (.array (.object "java/lang/Object")) }, accessFlags := 2, code := some k15c1 }
def k15c2 : Code := { maxStack := 3, maxLocals := 1, code := jdk_38_method_7_code, exceptionTable := #[], attributes := #[] }
def k15m2 : Method := { name := "grow", desc := "()[Ljava/lang/Object;", sig := { parameters := [], returnType := some (.array (.object "java/lang/Object")) }, accessFlags := 2, code := some k15c2 }
def k15c3 : Code := { maxStack := 1, maxLocals := 1, code := jdk_38_method_8_code, exceptionTable := #[], attributes := #[] }
def k15m3 : Method := { name := "size", desc := "()I", sig := { parameters := [], returnType := some .int }, accessFlags := 1, code := some k15c3 }
def k15c4 : Code := { maxStack := 3, maxLocals := 4, code := jdk_38_method_24_code, exceptionTable := #[], attributes := #[] }
def k15m4 : Method := { name := "add", desc := "(Ljava/lang/Object;[Ljava/lang/Object;I)V", sig := { parameters := [(.object "java/lang/Object"), (.array (.object "java/lang/Object")), .int], returnType := none }, accessFlags := 2, code := some k15c4 }
def k15c5 : Code := { maxStack := 4, maxLocals := 2, code := jdk_38_method_25_code, exceptionTable := #[], attributes := #[] }
def k15m5 : Method := { name := "add", desc := "(Ljava/lang/Object;)Z", sig := { parameters := [(.object "java/lang/Object")], returnType := some .boolean }, accessFlags := 1, code := some k15c5 }
/-- java/util/ArrayList -/
def k15 : Class := { plain "java/util/ArrayList" (some 11) with
  accessFlags := 33
  interfaces := #[10, 12, 13, 14]
  cf := some (fileOf pool15 10 #[.nestMembers #[290, 276, 500, 502, 262, 267]] #[{ accessFlags := 1, nameIndex := 5, descriptorIndex := 6, attributes := #[] }, { accessFlags := 2, nameIndex := 71, descriptorIndex := 72, attributes := #[] }, { accessFlags := 2, nameIndex := 71, descriptorIndex := 47, attributes := #[] }, { accessFlags := 1, nameIndex := 50, descriptorIndex := 186, attributes := #[] }, { accessFlags := 2, nameIndex := 133, descriptorIndex := 134, attributes := #[] }, { accessFlags := 1, nameIndex := 133, descriptorIndex := 96, attributes := #[] }] 33 2 #[148, 329, 331, 333] #[{ accessFlags := 26, nameIndex := 335, descriptorIndex := 336, attributes := #[] }, { accessFlags := 26, nameIndex := 340, descriptorIndex := 51, attributes := #[] }, { accessFlags := 26, nameIndex := 17, descriptorIndex := 14, attributes := #[] }, { accessFlags := 26, nameIndex := 41, descriptorIndex := 14, attributes := #[] }, { accessFlags := 128, nameIndex := 13, descriptorIndex := 14, attributes := #[] }, { accessFlags := 2, nameIndex := 50, descriptorIndex := 51, attributes := #[] }])
  fields := #[{ name := "serialVersionUID", type := .long, accessFlags := 26, slot := 0, constantValue := 0 }, { name := "DEFAULT_CAPACITY", type := .int, accessFlags := 26, slot := 1, constantValue := 0 }, { name := "EMPTY_ELEMENTDATA", type := (.array (.object "java/lang/Object")), accessFlags := 26, slot := 2, constantValue := 0 }, { name := "DEFAULTCAPACITY_EMPTY_ELEMENTDATA", type := (.array (.object "java/lang/Object")), accessFlags := 26, slot := 3, constantValue := 0 }, { name := "elementData", type := (.array (.object "java/lang/Object")), accessFlags := 128, slot := 1, constantValue := 0 }, { name := "size", type := .int, accessFlags := 2, slot := 2, constantValue := 0 }]
  methods := #[k15m0, k15m1, k15m2, k15m3, k15m4, k15m5]
  instanceTypes := #[.int, (.array (.object "java/lang/Object")), .int]
  staticTypes := #[.long, .int, (.array (.object "java/lang/Object")), (.array (.object "java/lang/Object"))]
  resolved := Array.replicate 509 none
  statics := some 0 }

def pool16 : Array CpInfo := pool [(2, .class_ 4), (1, u "java/lang/CharSequence"), (42, .class_ 48), (0, u "java/lang/CharSequence$1CodePointIterator"), (10, .class_ 60), (0, u "java/lang/CharSequence$1CharIterator"), (5, .class_ 67), (0, u "java/lang/Object")] 63

/-- java/lang/CharSequence -/
def k16 : Class := { plain "java/lang/CharSequence" (some 0) with
  accessFlags := 1537
  interfaces := #[]
  cf := some (fileOf pool16 2 #[.nestMembers #[47, 59]] #[] 1537 66 #[] #[])
  fields := #[]
  methods := #[]
  instanceTypes := #[]
  staticTypes := #[]
  resolved := Array.replicate 131 none
  statics := none }

def pool17 : Array CpInfo := pool [(1, .class_ 2), (0, u "java/lang/constant/Constable"), (0, .class_ 4), (0, u "java/lang/Object")] 6

/-- java/lang/constant/Constable -/
def k17 : Class := { plain "java/lang/constant/Constable" (some 0) with
  accessFlags := 1537
  interfaces := #[]
  cf := some (fileOf pool17 1 #[] #[] 1537 3 #[] #[])
  fields := #[]
  methods := #[]
  instanceTypes := #[]
  staticTypes := #[]
  resolved := Array.replicate 11 none
  statics := none }

def pool18 : Array CpInfo := pool [(1, .class_ 2), (0, u "java/lang/constant/ConstantDesc"), (0, .class_ 4), (0, u "java/lang/Object")] 32

/-- java/lang/constant/ConstantDesc -/
def k18 : Class := { plain "java/lang/constant/ConstantDesc" (some 0) with
  accessFlags := 1537
  interfaces := #[]
  cf := some (fileOf pool18 1 #[] #[] 1537 3 #[] #[])
  fields := #[]
  methods := #[]
  instanceTypes := #[]
  staticTypes := #[]
  resolved := Array.replicate 37 none
  statics := none }

def pool19 : Array CpInfo := pool [(1, .methodref 2 3), (0, .class_ 4), (0, .nameAndType 5 6), (0, u "java/lang/Object"), (0, u "<init>"), (0, u "()V"), (2, .fieldref 10 11), (0, .class_ 12), (0, .nameAndType 13 14), (0, u "java/lang/String"), (0, u "value"), (0, u "[B"), (0, .fieldref 10 16), (0, .nameAndType 17 18), (0, u "coder"), (0, u "B"), (2, u "hash"), (0, u "I"), (2, u "hashIsZero"), (0, u "Z"), (0, .methodref 10 28), (0, .nameAndType 5 29), (0, u "([CIILjava/lang/Void;)V"), (8, .fieldref 10 39), (0, .nameAndType 40 26), (0, u "COMPACT_STRINGS"), (1, .class_ 44), (1, u "java/lang/StringUTF16"), (0, u "compress"), (1, .methodref 42 48), (0, .nameAndType 49 50), (0, u "coderFromArrayLen"), (0, u "([BI)B"), (126, .methodref 42 178), (0, .nameAndType 45 179), (0, u "([CII)[B"), (395, .class_ 576), (0, u "java/lang/CharSequence"), (22, u "CASE_INSENSITIVE_ORDER"), (0, u "Ljava/util/Comparator;"), (409, u "([C)V"), (90, u "serialPersistentFields"), (0, u "[Ljava/io/ObjectStreamField;"), (0, .class_ 1104), (0, u "java/lang/String$CaseInsensitiveComparator"), (1, .class_ 1107), (0, u "java/io/Serializable"), (0, .class_ 1109), (0, u "java/lang/Comparable"), (0, .class_ 1111), (0, u "java/lang/constant/Constable"), (0, .class_ 1113), (0, u "java/lang/constant/ConstantDesc"), (2, u "serialVersionUID"), (0, u "J"), (3, u "REPL"), (0, u "C"), (2, u "LATIN1"), (1, u "UTF16")] 323

def k19m0 : Method := { name := "<init>", desc := "()V", sig := { parameters := [], returnType := none }, accessFlags := 1, code := none }
def k19c1 : Code := { maxStack := 5, maxLocals := 2, code := jdk_42_method_3_code, exceptionTable := #[], attributes := #[] }
def k19m1 : Method := { name := "<init>", desc := "([C)V", sig := { parameters := [(.array .char)], returnType := none }, accessFlags := 1, code := some k19c1 }
def k19c2 : Code := { maxStack := 4, maxLocals := 6, code := jdk_42_method_149_code, exceptionTable := #[], attributes := #[] }
def k19m2 : Method := { name := "<init>", desc := "([CIILjava/lang/Void;)V", sig := { parameters := [(.array .char), .int, .int, (.object "java/lang/Void")], returnType := none }, accessFlags := 2, code := some k19c2 }
/-- java/lang/String -/
def k19 : Class := { plain "java/lang/String" (some 0) with
  accessFlags := 49
  interfaces := #[14, 4, 16, 17, 18]
  cf := some (fileOf pool19 10 #[.nestMembers #[1103]] #[{ accessFlags := 1, nameIndex := 5, descriptorIndex := 6, attributes := #[] }, { accessFlags := 1, nameIndex := 5, descriptorIndex := 1010, attributes := #[] }, { accessFlags := 2, nameIndex := 5, descriptorIndex := 29, attributes := #[] }] 49 2 #[1106, 1108, 575, 1110, 1112] #[{ accessFlags := 18, nameIndex := 13, descriptorIndex := 14, attributes := #[] }, { accessFlags := 18, nameIndex := 17, descriptorIndex := 18, attributes := #[] }, { accessFlags := 2, nameIndex := 21, descriptorIndex := 22, attributes := #[] }, { accessFlags := 2, nameIndex := 25, descriptorIndex := 26, attributes := #[] }, { accessFlags := 26, nameIndex := 1116, descriptorIndex := 1117, attributes := #[] }, { accessFlags := 24, nameIndex := 40, descriptorIndex := 26, attributes := #[] }, { accessFlags := 26, nameIndex := 1101, descriptorIndex := 1102, attributes := #[] }, { accessFlags := 26, nameIndex := 1121, descriptorIndex := 1122, attributes := #[] }, { accessFlags := 25, nameIndex := 599, descriptorIndex := 600, attributes := #[] }, { accessFlags := 24, nameIndex := 1125, descriptorIndex := 18, attributes := #[] }, { accessFlags := 24, nameIndex := 1127, descriptorIndex := 18, attributes := #[] }])
  fields := #[{ name := "value", type := (.array .byte), accessFlags := 18, slot := 0, constantValue := 0 }, { name := "coder", type := .byte, accessFlags := 18, slot := 1, constantValue := 0 }, { name := "hash", type := .int, accessFlags := 2, slot := 2, constantValue := 0 }, { name := "hashIsZero", type := .boolean, accessFlags := 2, slot := 3, constantValue := 0 }, { name := "serialVersionUID", type := .long, accessFlags := 26, slot := 0, constantValue := 0 }, { name := "COMPACT_STRINGS", type := .boolean, accessFlags := 24, slot := 1, constantValue := 0 }, { name := "serialPersistentFields", type := (.array (.object "java/io/ObjectStreamField")), accessFlags := 26, slot := 2, constantValue := 0 }, { name := "REPL", type := .char, accessFlags := 26, slot := 3, constantValue := 0 }, { name := "CASE_INSENSITIVE_ORDER", type := (.object "java/util/Comparator"), accessFlags := 25, slot := 4, constantValue := 0 }, { name := "LATIN1", type := .byte, accessFlags := 24, slot := 5, constantValue := 0 }, { name := "UTF16", type := .byte, accessFlags := 24, slot := 6, constantValue := 0 }]
  methods := #[k19m0, k19m1, k19m2]
  instanceTypes := #[(.array .byte), .byte, .int, .boolean]
  staticTypes := #[.long, .boolean, (.array (.object "java/io/ObjectStreamField")), .char, (.object "java/util/Comparator"), .byte, .byte]
  resolved := Array.replicate 1451 none
  statics := some 1 }

def pool20 : Array CpInfo := pool [(6, .class_ 8), (1, u "java/lang/Object"), (0, u "<init>"), (0, u "()V"), (1, .class_ 14), (1, u "java/lang/StringUTF16"), (31, u "$assertionsDisabled"), (0, u "Z"), (13, u "HI_BYTE_SHIFT"), (0, u "I"), (2, u "LO_BYTE_SHIFT"), (49, .methodref 12 116), (0, .nameAndType 117 118), (0, u "compress"), (0, u "([CI[BII)I"), (3, u "([CII)[B"), (138, u "coderFromArrayLen"), (0, u "([BI)B"), (106, .class_ 371), (1, u "java/lang/StringUTF16$LinesSpliterator"), (58, u "MAX_LENGTH"), (196, .class_ 628), (0, u "java/lang/StringUTF16$CodePointsSpliterator"), (0, .class_ 630), (0, u "java/lang/StringUTF16$CharsSpliterator")] 4

def k20m0 : Method := { name := "<init>", desc := "()V", sig := { parameters := [], returnType := none }, accessFlags := 0, code := none }
def k20c1 : Code := { maxStack := 2, maxLocals := 2, code := jdk_52_method_15_code, exceptionTable := #[], attributes := #[] }
def k20m1 : Method := { name := "coderFromArrayLen", desc := "([BI)B", sig := { parameters := [(.array .byte), .int], returnType := some .byte }, accessFlags := 8, code := some k20c1 }
def k20c2 : Code := { maxStack := 5, maxLocals := 6, code := jdk_52_method_16_code, exceptionTable := #[], attributes := #[] }
def k20m2 : Method := { name := "compress", desc := "([CII)[B", sig := { parameters := [(.array .char), .int, .int], returnType := some (.array .byte) }, accessFlags := 9, code := some k20c2 }
def k20c3 : Code := { maxStack := 3, maxLocals := 7, code := jdk_52_method_21_code, exceptionTable := #[], attributes := #[] }
def k20m3 : Method := { name := "compress", desc := "([CI[BII)I", sig := { parameters := [(.array .char), .int, (.array .byte), .int, .int], returnType := some .int }, accessFlags := 9, code := some k20c3 }
/-- java/lang/StringUTF16 -/
def k20 : Class := { plain "java/lang/StringUTF16" (some 0) with
  accessFlags := 48
  interfaces := #[]
  cf := some (fileOf pool20 12 #[.nestMembers #[627, 629, 369]] #[{ accessFlags := 0, nameIndex := 9, descriptorIndex := 10, attributes := #[] }, { accessFlags := 8, nameIndex := 261, descriptorIndex := 262, attributes := #[] }, { accessFlags := 9, nameIndex := 117, descriptorIndex := 122, attributes := #[] }, { accessFlags := 9, nameIndex := 117, descriptorIndex := 118, attributes := #[] }] 48 6 #[] #[{ accessFlags := 26, nameIndex := 61, descriptorIndex := 62, attributes := #[] }, { accessFlags := 26, nameIndex := 65, descriptorIndex := 62, attributes := #[] }, { accessFlags := 24, nameIndex := 430, descriptorIndex := 62, attributes := #[] }, { accessFlags := 4120, nameIndex := 46, descriptorIndex := 47, attributes := #[] }])
  fields := #[{ name := "HI_BYTE_SHIFT", type := .int, accessFlags := 26, slot := 0, constantValue := 0 }, { name := "LO_BYTE_SHIFT", type := .int, accessFlags := 26, slot := 1, constantValue := 0 }, { name := "MAX_LENGTH", type := .int, accessFlags := 24, slot := 2, constantValue := 0 }, { name := "$assertionsDisabled", type := .boolean, accessFlags := 4120, slot := 3, constantValue := 0 }]
  methods := #[k20m0, k20m1, k20m2, k20m3]
  instanceTypes := #[]
  staticTypes := #[.int, .int, .int, .boolean]
  resolved := Array.replicate 635 none
  statics := none }

def pool21 : Array CpInfo := pool [(1, .class_ 2), (0, u "java/lang/Math"), (1, .class_ 6), (1, u "java/lang/Object"), (0, u "<init>"), (0, u "()V"), (89, .class_ 100), (1, u "java/lang/Math$RandomNumberGeneratorHolder"), (20, u "(JJ)J"), (50, u "negativeZeroFloatBits"), (0, u "J"), (2, u "negativeZeroDoubleBits"), (21, u "max"), (46, u "$assertionsDisabled"), (0, u "Z"), (88, u "(II)I"), (2, u "twoToTheDoubleScaleDown"), (0, u "D"), (4, u "twoToTheDoubleScaleUp"), (9, u "E"), (3, u "PI"), (2, u "TAU"), (2, u "DEGREES_TO_RADIANS"), (0, u "RADIANS_TO_DEGREES")] 94

def k21m0 : Method := { name := "<init>", desc := "()V", sig := { parameters := [], returnType := none }, accessFlags := 2, code := none }
def k21c1 : Code := { maxStack := 2, maxLocals := 2, code := jdk_29_method_65_code, exceptionTable := #[], attributes := #[] }
def k21m1 : Method := { name := "max", desc := "(II)I", sig := { parameters := [.int, .int], returnType := some .int }, accessFlags := 9, code := some k21c1 }
def k21c2 : Code := { maxStack := 4, maxLocals := 4, code := jdk_29_method_66_code, exceptionTable := #[], attributes := #[] }
def k21m2 : Method := { name := "max", desc := "(JJ)J", sig := { parameters := [.long, .long], returnType := some .long }, accessFlags := 9, code := some k21c2 }
/-- java/lang/Math -/
def k21 : Class := { plain "java/lang/Math" (some 0) with
  accessFlags := 49
  interfaces := #[]
  cf := some (fileOf pool21 1 #[.nestMembers #[98]] #[{ accessFlags := 2, nameIndex := 7, descriptorIndex := 8, attributes := #[] }, { accessFlags := 9, nameIndex := 198, descriptorIndex := 335, attributes := #[] }, { accessFlags := 9, nameIndex := 198, descriptorIndex := 121, attributes := #[] }] 49 4 #[] #[{ accessFlags := 25, nameIndex := 354, descriptorIndex := 339, attributes := #[] }, { accessFlags := 25, nameIndex := 358, descriptorIndex := 339, attributes := #[] }, { accessFlags := 25, nameIndex := 361, descriptorIndex := 339, attributes := #[] }, { accessFlags := 26, nameIndex := 364, descriptorIndex := 339, attributes := #[] }, { accessFlags := 26, nameIndex := 365, descriptorIndex := 339, attributes := #[] }, { accessFlags := 26, nameIndex := 172, descriptorIndex := 173, attributes := #[] }, { accessFlags := 26, nameIndex := 176, descriptorIndex := 173, attributes := #[] }, { accessFlags := 8, nameIndex := 344, descriptorIndex := 339, attributes := #[] }, { accessFlags := 8, nameIndex := 338, descriptorIndex := 339, attributes := #[] }, { accessFlags := 4120, nameIndex := 245, descriptorIndex := 246, attributes := #[] }])
  fields := #[{ name := "E", type := .double, accessFlags := 25, slot := 0, constantValue := 0 }, { name := "PI", type := .double, accessFlags := 25, slot := 1, constantValue := 0 }, { name := "TAU", type := .double, accessFlags := 25, slot := 2, constantValue := 0 }, { name := "DEGREES_TO_RADIANS", type := .double, accessFlags := 26, slot := 3, constantValue := 0 }, { name := "RADIANS_TO_DEGREES", type := .double, accessFlags := 26, slot := 4, constantValue := 0 }, { name := "negativeZeroFloatBits", type := .long, accessFlags := 26, slot := 5, constantValue := 0 }, { name := "negativeZeroDoubleBits", type := .long, accessFlags := 26, slot := 6, constantValue := 0 }, { name := "twoToTheDoubleScaleUp", type := .double, accessFlags := 8, slot := 7, constantValue := 0 }, { name := "twoToTheDoubleScaleDown", type := .double, accessFlags := 8, slot := 8, constantValue := 0 }, { name := "$assertionsDisabled", type := .boolean, accessFlags := 4120, slot := 9, constantValue := 0 }]
  methods := #[k21m0, k21m1, k21m2]
  instanceTypes := #[]
  staticTypes := #[.double, .double, .double, .double, .double, .long, .long, .double, .double, .boolean]
  resolved := Array.replicate 460 none
  statics := none }

def pool22 : Array CpInfo := pool [(2, .class_ 4), (1, u "java/lang/Enum"), (0, u "name"), (0, u "Ljava/lang/String;"), (2, u "ordinal"), (0, u "I"), (1, .class_ 14), (1, u "java/lang/Object"), (4, u "hash"), (86, .class_ 108), (1, u "java/lang/Enum$EnumDesc"), (2, .class_ 112), (0, u "java/lang/constant/Constable"), (0, .class_ 114), (0, u "java/lang/Comparable"), (0, .class_ 116), (0, u "java/io/Serializable")] 87

/-- java/lang/Enum -/
def k22 : Class := { plain "java/lang/Enum" (some 0) with
  accessFlags := 1057
  interfaces := #[17, 4, 14]
  cf := some (fileOf pool22 2 #[.nestMembers #[106]] #[] 1057 12 #[111, 113, 115] #[{ accessFlags := 18, nameIndex := 5, descriptorIndex := 6, attributes := #[] }, { accessFlags := 18, nameIndex := 9, descriptorIndex := 10, attributes := #[] }, { accessFlags := 2, nameIndex := 19, descriptorIndex := 10, attributes := #[] }])
  fields := #[{ name := "name", type := (.object "java/lang/String"), accessFlags := 18, slot := 0, constantValue := 0 }, { name := "ordinal", type := .int, accessFlags := 18, slot := 1, constantValue := 0 }, { name := "hash", type := .int, accessFlags := 2, slot := 2, constantValue := 0 }]
  methods := #[]
  instanceTypes := #[(.object "java/lang/String"), .int, .int]
  staticTypes := #[]
  resolved := Array.replicate 204 none
  statics := none }

def pool23 : Array CpInfo := pool [(1, .class_ 2), (0, u "java/util/concurrent/TimeUnit"), (2, u "NANOSECONDS"), (0, u "Ljava/util/concurrent/TimeUnit;"), (2, u "MICROSECONDS"), (2, u "MILLISECONDS"), (2, u "SECONDS"), (2, u "MINUTES"), (2, u "HOURS"), (2, u "DAYS"), (2, u "$VALUES"), (0, u "[Ljava/util/concurrent/TimeUnit;"), (6, .class_ 37), (1, u "java/lang/Enum"), (6, .fieldref 1 45), (0, .nameAndType 46 47), (0, u "scale"), (0, u "J"), (2, .long 9223372036854775807), (1, .fieldref 1 53), (0, .nameAndType 54 47), (0, u "maxNanos"), (4, u "microRatio"), (2, u "maxMicros"), (4, u "milliRatio"), (0, u "I"), (2, u "maxMillis"), (4, u "secRatio"), (2, u "maxSecs"), (8, u "toNanos"), (0, u "(J)J"), (73, .class_ 165), (1, u "java/util/concurrent/TimeUnit$1"), (46, u "NANO_SCALE"), (3, u "MICRO_SCALE"), (0, u "MILLI_SCALE"), (0, u "SECOND_SCALE"), (0, u "MINUTE_SCALE"), (0, u "HOUR_SCALE"), (0, u "DAY_SCALE")] 61

def k23c0 : Code := { maxStack := 6, maxLocals := 7, code := jdk_2799_method_7_code, exceptionTable := #[], attributes := #[] }
def k23m0 : Method := { name := "toNanos", desc := "(J)J", sig := { parameters := [.long], returnType := some .long }, accessFlags := 1, code := some k23c0 }
/-- java/util/concurrent/TimeUnit -/
def k23 : Class := { plain "java/util/concurrent/TimeUnit" (some 22) with
  accessFlags := 16433
  interfaces := #[]
  cf := some (fileOf pool23 1 #[.nestMembers #[163]] #[{ accessFlags := 1, nameIndex := 88, descriptorIndex := 89, attributes := #[] }] 16433 35 #[] #[{ accessFlags := 16409, nameIndex := 5, descriptorIndex := 6, attributes := #[] }, { accessFlags := 16409, nameIndex := 9, descriptorIndex := 6, attributes := #[] }, { accessFlags := 16409, nameIndex := 12, descriptorIndex := 6, attributes := #[] }, { accessFlags := 16409, nameIndex := 15, descriptorIndex := 6, attributes := #[] }, { accessFlags := 16409, nameIndex := 18, descriptorIndex := 6, attributes := #[] }, { accessFlags := 16409, nameIndex := 21, descriptorIndex := 6, attributes := #[] }, { accessFlags := 16409, nameIndex := 24, descriptorIndex := 6, attributes := #[] }, { accessFlags := 26, nameIndex := 212, descriptorIndex := 47, attributes := #[] }, { accessFlags := 26, nameIndex := 216, descriptorIndex := 47, attributes := #[] }, { accessFlags := 26, nameIndex := 217, descriptorIndex := 47, attributes := #[] }, { accessFlags := 26, nameIndex := 218, descriptorIndex := 47, attributes := #[] }, { accessFlags := 26, nameIndex := 219, descriptorIndex := 47, attributes := #[] }, { accessFlags := 26, nameIndex := 220, descriptorIndex := 47, attributes := #[] }, { accessFlags := 26, nameIndex := 221, descriptorIndex := 47, attributes := #[] }, { accessFlags := 18, nameIndex := 46, descriptorIndex := 47, attributes := #[] }, { accessFlags := 18, nameIndex := 54, descriptorIndex := 47, attributes := #[] }, { accessFlags := 18, nameIndex := 62, descriptorIndex := 47, attributes := #[] }, { accessFlags := 18, nameIndex := 71, descriptorIndex := 47, attributes := #[] }, { accessFlags := 18, nameIndex := 79, descriptorIndex := 47, attributes := #[] }, { accessFlags := 18, nameIndex := 59, descriptorIndex := 47, attributes := #[] }, { accessFlags := 18, nameIndex := 67, descriptorIndex := 68, attributes := #[] }, { accessFlags := 18, nameIndex := 76, descriptorIndex := 68, attributes := #[] }, { accessFlags := 4122, nameIndex := 27, descriptorIndex := 28, attributes := #[] }])
  fields := #[{ name := "NANOSECONDS", type := (.object "java/util/concurrent/TimeUnit"), accessFlags := 16409, slot := 0, constantValue := 0 }, { name := "MICROSECONDS", type := (.object "java/util/concurrent/TimeUnit"), accessFlags := 16409, slot := 1, constantValue := 0 }, { name := "MILLISECONDS", type := (.object "java/util/concurrent/TimeUnit"), accessFlags := 16409, slot := 2, constantValue := 0 }, { name := "SECONDS", type := (.object "java/util/concurrent/TimeUnit"), accessFlags := 16409, slot := 3, constantValue := 0 }, { name := "MINUTES", type := (.object "java/util/concurrent/TimeUnit"), accessFlags := 16409, slot := 4, constantValue := 0 }, { name := "HOURS", type := (.object "java/util/concurrent/TimeUnit"), accessFlags := 16409, slot := 5, constantValue := 0 }, { name := "DAYS", type := (.object "java/util/concurrent/TimeUnit"), accessFlags := 16409, slot := 6, constantValue := 0 }, { name := "NANO_SCALE", type := .long, accessFlags := 26, slot := 7, constantValue := 0 }, { name := "MICRO_SCALE", type := .long, accessFlags := 26, slot := 8, constantValue := 0 }, { name := "MILLI_SCALE", type := .long, accessFlags := 26, slot := 9, constantValue := 0 }, { name := "SECOND_SCALE", type := .long, accessFlags := 26, slot := 10, constantValue := 0 }, { name := "MINUTE_SCALE", type := .long, accessFlags := 26, slot := 11, constantValue := 0 }, { name := "HOUR_SCALE", type := .long, accessFlags := 26, slot := 12, constantValue := 0 }, { name := "DAY_SCALE", type := .long, accessFlags := 26, slot := 13, constantValue := 0 }, { name := "scale", type := .long, accessFlags := 18, slot := 3, constantValue := 0 }, { name := "maxNanos", type := .long, accessFlags := 18, slot := 4, constantValue := 0 }, { name := "maxMicros", type := .long, accessFlags := 18, slot := 5, constantValue := 0 }, { name := "maxMillis", type := .long, accessFlags := 18, slot := 6, constantValue := 0 }, { name := "maxSecs", type := .long, accessFlags := 18, slot := 7, constantValue := 0 }, { name := "microRatio", type := .long, accessFlags := 18, slot := 8, constantValue := 0 }, { name := "milliRatio", type := .int, accessFlags := 18, slot := 9, constantValue := 0 }, { name := "secRatio", type := .int, accessFlags := 18, slot := 10, constantValue := 0 }, { name := "$VALUES", type := (.array (.object "java/util/concurrent/TimeUnit")), accessFlags := 4122, slot := 14, constantValue := 0 }]
  methods := #[k23m0]
  instanceTypes := #[(.object "java/lang/String"), .int, .int, .long, .long, .long, .long, .long, .long, .int, .int]
  staticTypes := #[(.object "java/util/concurrent/TimeUnit"), (.object "java/util/concurrent/TimeUnit"), (.object "java/util/concurrent/TimeUnit"), (.object "java/util/concurrent/TimeUnit"), (.object "java/util/concurrent/TimeUnit"), (.object "java/util/concurrent/TimeUnit"), (.object "java/util/concurrent/TimeUnit"), .long, .long, .long, .long, .long, .long, .long, (.array (.object "java/util/concurrent/TimeUnit"))]
  resolved := Array.replicate 283 none
  statics := some 2 }

def pool24 : Array CpInfo := pool [(2, .class_ 4), (1, u "java/lang/Object"), (0, u "<init>"), (0, u "()V"), (1, .class_ 10), (1, u "java/lang/Number"), (2, .class_ 14), (0, u "java/io/Serializable"), (0, u "serialVersionUID"), (0, u "J")] 20

def k24m0 : Method := { name := "<init>", desc := "()V", sig := { parameters := [], returnType := none }, accessFlags := 1, code := none }
/-- java/lang/Number -/
def k24 : Class := { plain "java/lang/Number" (some 0) with
  accessFlags := 1057
  interfaces := #[14]
  cf := some (fileOf pool24 8 #[] #[{ accessFlags := 1, nameIndex := 5, descriptorIndex := 6, attributes := #[] }] 1057 2 #[13] #[{ accessFlags := 26, nameIndex := 15, descriptorIndex := 16, attributes := #[] }])
  fields := #[{ name := "serialVersionUID", type := .long, accessFlags := 26, slot := 0, constantValue := 0 }]
  methods := #[k24m0]
  instanceTypes := #[]
  staticTypes := #[.long]
  resolved := Array.replicate 37 none
  statics := none }

def pool25 : Array CpInfo := pool [(1, .class_ 2), (0, u "java/lang/Long"), (232, .class_ 237), (1, u "java/lang/Long$LongCache"), (33, .class_ 272), (0, u "java/lang/Number"), (2, u "value"), (0, u "J"), (27, u "compare"), (0, u "(JJ)I"), (55, u "TYPE"), (0, u "Ljava/lang/Class;"), (0, .class_ 364), (0, u "java/lang/Comparable"), (0, .class_ 366), (0, u "java/lang/constant/Constable"), (0, .class_ 368), (0, u "java/lang/constant/ConstantDesc"), (0, u "MIN_VALUE"), (1, u "MAX_VALUE"), (4, u "SIZE"), (0, u "I"), (1, u "BYTES"), (1, u "serialVersionUID")] 142

def k25c0 : Code := { maxStack := 4, maxLocals := 4, code := jdk_35_method_42_code, exceptionTable := #[], attributes := #[] }
def k25m0 : Method := { name := "compare", desc := "(JJ)I", sig := { parameters := [.long, .long], returnType := some .int }, accessFlags := 9, code := some k25c0 }
/-- java/lang/Long -/
def k25 : Class := { plain "java/lang/Long" (some 24) with
  accessFlags := 49
  interfaces := #[4, 17, 18]
  cf := some (fileOf pool25 1 #[.nestMembers #[235]] #[{ accessFlags := 9, nameIndex := 304, descriptorIndex := 305, attributes := #[] }] 49 271 #[363, 365, 367] #[{ accessFlags := 25, nameIndex := 369, descriptorIndex := 276, attributes := #[] }, { accessFlags := 25, nameIndex := 371, descriptorIndex := 276, attributes := #[] }, { accessFlags := 25, nameIndex := 361, descriptorIndex := 362, attributes := #[] }, { accessFlags := 18, nameIndex := 275, descriptorIndex := 276, attributes := #[] }, { accessFlags := 25, nameIndex := 376, descriptorIndex := 377, attributes := #[] }, { accessFlags := 25, nameIndex := 379, descriptorIndex := 377, attributes := #[] }, { accessFlags := 26, nameIndex := 381, descriptorIndex := 276, attributes := #[] }])
  fields := #[{ name := "MIN_VALUE", type := .long, accessFlags := 25, slot := 0, constantValue := 0 }, { name := "MAX_VALUE", type := .long, accessFlags := 25, slot := 1, constantValue := 0 }, { name := "TYPE", type := (.object "java/lang/Class"), accessFlags := 25, slot := 2, constantValue := 0 }, { name := "value", type := .long, accessFlags := 18, slot := 0, constantValue := 0 }, { name := "SIZE", type := .int, accessFlags := 25, slot := 3, constantValue := 0 }, { name := "BYTES", type := .int, accessFlags := 25, slot := 4, constantValue := 0 }, { name := "serialVersionUID", type := .long, accessFlags := 26, slot := 5, constantValue := 0 }]
  methods := #[k25m0]
  instanceTypes := #[.long]
  staticTypes := #[.long, .long, (.object "java/lang/Class"), .int, .int, .long]
  resolved := Array.replicate 524 none
  statics := none }

def pool26 : Array CpInfo := pool [(1, .methodref 2 3), (0, .class_ 4), (0, .nameAndType 5 6), (0, u "java/lang/Record"), (0, u "<init>"), (0, u "()V"), (0, .string 8), (0, u "bidder"), (0, .methodref 10 11), (0, .class_ 12), (0, .nameAndType 13 14), (0, u "java/util/Objects"), (0, u "requireNonNull"), (0, u "(Ljava/lang/Object;Ljava/lang/String;)Ljava/lang/Object;"), (0, .string 16), (0, u "amount"), (0, .fieldref 18 19), (0, .class_ 20), (0, .nameAndType 8 21), (0, u "com/example/gavelwatch/gavelwatch/model/Bid"), (0, u "Ljava/lang/String;"), (0, .fieldref 18 23), (0, .nameAndType 16 24), (0, u "Lcom/example/gavelwatch/gavelwatch/model/Money;"), (0, .fieldref 18 26), (0, .nameAndType 27 28), (0, u "time"), (0, u "J"), (12, u "(Ljava/lang/String;Lcom/example/gavelwatch/gavelwatch/model/Money;J)V"), (6, u "()Lcom/example/gavelwatch/gavelwatch/model/Money;")] 23

def k26c0 : Code := { maxStack := 3, maxLocals := 5, code := prog_28_method_1_code, exceptionTable := #[], attributes := #[] }
def k26m0 : Method := { name := "<init>", desc := "(Ljava/lang/String;Lcom/example/gavelwatch/gavelwatch/model/Money;J)V", sig := { parameters := [(.object "java/lang/String"), (.object "com/example/gavelwatch/gavelwatch/model/Money"), .long], returnType := none }, accessFlags := 1, code := some k26c0 }
def k26c1 : Code := { maxStack := 1, maxLocals := 1, code := prog_28_method_6_code, exceptionTable := #[], attributes := #[] }
def k26m1 : Method := { name := "amount", desc := "()Lcom/example/gavelwatch/gavelwatch/model/Money;", sig := { parameters := [], returnType := some (.object "com/example/gavelwatch/gavelwatch/model/Money") }, accessFlags := 1, code := some k26c1 }
/-- com/example/gavelwatch/gavelwatch/model/Bid -/
def k26 : Class := { plain "com/example/gavelwatch/gavelwatch/model/Bid" (some 3) with
  accessFlags := 49
  interfaces := #[]
  cf := some (fileOf pool26 18 #[] #[{ accessFlags := 1, nameIndex := 5, descriptorIndex := 41, attributes := #[] }, { accessFlags := 1, nameIndex := 16, descriptorIndex := 48, attributes := #[] }] 49 2 #[] #[{ accessFlags := 18, nameIndex := 8, descriptorIndex := 21, attributes := #[] }, { accessFlags := 18, nameIndex := 16, descriptorIndex := 24, attributes := #[] }, { accessFlags := 18, nameIndex := 27, descriptorIndex := 28, attributes := #[] }])
  fields := #[{ name := "bidder", type := (.object "java/lang/String"), accessFlags := 18, slot := 0, constantValue := 0 }, { name := "amount", type := (.object "com/example/gavelwatch/gavelwatch/model/Money"), accessFlags := 18, slot := 1, constantValue := 0 }, { name := "time", type := .long, accessFlags := 18, slot := 2, constantValue := 0 }]
  methods := #[k26m0, k26m1]
  instanceTypes := #[(.object "java/lang/String"), (.object "com/example/gavelwatch/gavelwatch/model/Money"), .long]
  staticTypes := #[]
  resolved := Array.replicate 72 none
  statics := none }

def pool27 : Array CpInfo := pool [(2, .class_ 4), (1, u "java/lang/Object"), (0, u "<init>"), (0, u "()V"), (35, .class_ 44), (1, u "java/util/Objects"), (0, u "requireNonNull"), (48, u "(Ljava/lang/Object;Ljava/lang/String;)Ljava/lang/Object;")] 89

def k27m0 : Method := { name := "<init>", desc := "()V", sig := { parameters := [], returnType := none }, accessFlags := 2, code := none }
def k27c1 : Code := { maxStack := 3, maxLocals := 2, code := jdk_31_method_11_code, exceptionTable := #[], attributes := #[] }
def k27m1 : Method := { name := "requireNonNull", desc := "(Ljava/lang/Object;Ljava/lang/String;)Ljava/lang/Object;", sig := { parameters := [(.object "java/lang/Object"), (.object "java/lang/String")], returnType := some (.object "java/lang/Object") }, accessFlags := 9, code := some k27c1 }
/-- java/util/Objects -/
def k27 : Class := { plain "java/util/Objects" (some 0) with
  accessFlags := 49
  interfaces := #[]
  cf := some (fileOf pool27 42 #[] #[{ accessFlags := 2, nameIndex := 5, descriptorIndex := 6, attributes := #[] }, { accessFlags := 9, nameIndex := 45, descriptorIndex := 94, attributes := #[] }] 49 2 #[] #[])
  fields := #[]
  methods := #[k27m0, k27m1]
  instanceTypes := #[]
  staticTypes := #[]
  resolved := Array.replicate 184 none
  statics := none }

def pool28 : Array CpInfo := pool [(4, .class_ 6), (1, u "java/lang/Object"), (0, u "<init>"), (0, u "()V"), (5, .class_ 16), (1, u "java/lang/StringLatin1"), (104, u "$assertionsDisabled"), (0, u "Z"), (98, .class_ 223), (1, u "java/lang/StringLatin1$LinesSpliterator"), (166, .class_ 391), (0, u "java/lang/StringLatin1$CharsSpliterator")] 3

def k28m0 : Method := { name := "<init>", desc := "()V", sig := { parameters := [], returnType := none }, accessFlags := 0, code := none }
/-- java/lang/StringLatin1 -/
def k28 : Class := { plain "java/lang/StringLatin1" (some 0) with
  accessFlags := 48
  interfaces := #[]
  cf := some (fileOf pool28 14 #[.nestMembers #[390, 221]] #[{ accessFlags := 0, nameIndex := 7, descriptorIndex := 8, attributes := #[] }] 48 4 #[] #[{ accessFlags := 4120, nameIndex := 121, descriptorIndex := 122, attributes := #[] }])
  fields := #[{ name := "$assertionsDisabled", type := .boolean, accessFlags := 4120, slot := 0, constantValue := 0 }]
  methods := #[k28m0]
  instanceTypes := #[]
  staticTypes := #[.boolean]
  resolved := Array.replicate 395 none
  statics := none }

def pool29 : Array CpInfo := pool [(2, .class_ 4), (1, u "java/lang/Object"), (0, u "<init>"), (0, u "()V"), (17, .class_ 26), (1, u "jdk/internal/util/Preconditions"), (28, .class_ 56), (0, u "jdk/internal/util/Preconditions$4"), (57, .class_ 115), (0, u "jdk/internal/util/Preconditions$1"), (7, u "SIOOBE_FORMATTER"), (0, u "Ljava/util/function/BiFunction;"), (0, .class_ 126), (0, u "jdk/internal/util/Preconditions$2"), (3, u "AIOOBE_FORMATTER"), (0, .class_ 132), (0, u "jdk/internal/util/Preconditions$3"), (3, u "IOOBE_FORMATTER")] 57

def k29m0 : Method := { name := "<init>", desc := "()V", sig := { parameters := [], returnType := none }, accessFlags := 1, code := none }
/-- jdk/internal/util/Preconditions -/
def k29 : Class := { plain "jdk/internal/util/Preconditions" (some 0) with
  accessFlags := 33
  interfaces := #[]
  cf := some (fileOf pool29 24 #[.nestMembers #[55, 131, 125, 114]] #[{ accessFlags := 1, nameIndex := 5, descriptorIndex := 6, attributes := #[] }] 33 2 #[] #[{ accessFlags := 25, nameIndex := 123, descriptorIndex := 124, attributes := #[] }, { accessFlags := 25, nameIndex := 130, descriptorIndex := 124, attributes := #[] }, { accessFlags := 25, nameIndex := 136, descriptorIndex := 124, attributes := #[] }])
  fields := #[{ name := "SIOOBE_FORMATTER", type := (.object "java/util/function/BiFunction"), accessFlags := 25, slot := 0, constantValue := 0 }, { name := "AIOOBE_FORMATTER", type := (.object "java/util/function/BiFunction"), accessFlags := 25, slot := 1, constantValue := 0 }, { name := "IOOBE_FORMATTER", type := (.object "java/util/function/BiFunction"), accessFlags := 25, slot := 2, constantValue := 0 }]
  methods := #[k29m0]
  instanceTypes := #[]
  staticTypes := #[(.object "java/util/function/BiFunction"), (.object "java/util/function/BiFunction"), (.object "java/util/function/BiFunction")]
  resolved := Array.replicate 194 none
  statics := some 3 }

def pool30 : Array CpInfo := pool [(9, u "<init>"), (6, .class_ 18), (1, u "java/lang/Object"), (0, u "()V"), (1, .class_ 23), (1, u "jdk/internal/util/ArraysSupport"), (0, u "LOG2_ARRAY_LONG_INDEX_SCALE"), (0, u "I"), (2, u "U"), (0, u "Ljdk/internal/misc/Unsafe;"), (8, u "BIG_ENDIAN"), (0, u "Z"), (8, u "LOG2_BYTE_BIT_SIZE"), (4, u "LOG2_ARRAY_INT_INDEX_SCALE"), (54, u "JLA"), (0, u "Ljdk/internal/access/JavaLangAccess;"), (11, u "LOG2_ARRAY_BOOLEAN_INDEX_SCALE"), (9, u "LOG2_ARRAY_BYTE_INDEX_SCALE"), (5, u "LOG2_ARRAY_CHAR_INDEX_SCALE"), (5, u "LOG2_ARRAY_SHORT_INDEX_SCALE"), (18, u "LOG2_ARRAY_FLOAT_INDEX_SCALE"), (24, u "LOG2_ARRAY_DOUBLE_INDEX_SCALE"), (89, u "T_BOOLEAN"), (2, u "T_CHAR"), (1, u "T_FLOAT"), (1, u "T_DOUBLE"), (1, u "T_BYTE"), (1, u "T_SHORT"), (1, u "T_INT"), (1, u "T_LONG"), (1, u "SOFT_MAX_ARRAY_LENGTH")] 83

def k30m0 : Method := { name := "<init>", desc := "()V", sig := { parameters := [], returnType := none }, accessFlags := 2, code := none }
/-- jdk/internal/util/ArraysSupport -/
def k30 : Class := { plain "jdk/internal/util/ArraysSupport" (some 0) with
  accessFlags := 33
  interfaces := #[]
  cf := some (fileOf pool30 21 #[] #[{ accessFlags := 2, nameIndex := 9, descriptorIndex := 19, attributes := #[] }] 33 16 #[] #[{ accessFlags := 24, nameIndex := 28, descriptorIndex := 29, attributes := #[] }, { accessFlags := 26, nameIndex := 38, descriptorIndex := 39, attributes := #[] }, { accessFlags := 25, nameIndex := 121, descriptorIndex := 25, attributes := #[] }, { accessFlags := 25, nameIndex := 131, descriptorIndex := 25, attributes := #[] }, { accessFlags := 25, nameIndex := 137, descriptorIndex := 25, attributes := #[] }, { accessFlags := 25, nameIndex := 143, descriptorIndex := 25, attributes := #[] }, { accessFlags := 25, nameIndex := 53, descriptorIndex := 25, attributes := #[] }, { accessFlags := 25, nameIndex := 24, descriptorIndex := 25, attributes := #[] }, { accessFlags := 25, nameIndex := 162, descriptorIndex := 25, attributes := #[] }, { accessFlags := 25, nameIndex := 187, descriptorIndex := 25, attributes := #[] }, { accessFlags := 26, nameIndex := 48, descriptorIndex := 25, attributes := #[] }, { accessFlags := 25, nameIndex := 277, descriptorIndex := 25, attributes := #[] }, { accessFlags := 25, nameIndex := 280, descriptorIndex := 25, attributes := #[] }, { accessFlags := 25, nameIndex := 282, descriptorIndex := 25, attributes := #[] }, { accessFlags := 25, nameIndex := 284, descriptorIndex := 25, attributes := #[] }, { accessFlags := 25, nameIndex := 286, descriptorIndex := 25, attributes := #[] }, { accessFlags := 25, nameIndex := 288, descriptorIndex := 25, attributes := #[] }, { accessFlags := 25, nameIndex := 290, descriptorIndex := 25, attributes := #[] }, { accessFlags := 25, nameIndex := 292, descriptorIndex := 25, attributes := #[] }, { accessFlags := 26, nameIndex := 108, descriptorIndex := 109, attributes := #[] }, { accessFlags := 25, nameIndex := 294, descriptorIndex := 25, attributes := #[] }])
  fields := #[{ name := "U", type := (.object "jdk/internal/misc/Unsafe"), accessFlags := 24, slot := 0, constantValue := 0 }, { name := "BIG_ENDIAN", type := .boolean, accessFlags := 26, slot := 1, constantValue := 0 }, { name := "LOG2_ARRAY_BOOLEAN_INDEX_SCALE", type := .int, accessFlags := 25, slot := 2, constantValue := 0 }, { name := "LOG2_ARRAY_BYTE_INDEX_SCALE", type := .int, accessFlags := 25, slot := 3, constantValue := 0 }, { name := "LOG2_ARRAY_CHAR_INDEX_SCALE", type := .int, accessFlags := 25, slot := 4, constantValue := 0 }, { name := "LOG2_ARRAY_SHORT_INDEX_SCALE", type := .int, accessFlags := 25, slot := 5, constantValue := 0 }, { name := "LOG2_ARRAY_INT_INDEX_SCALE", type := .int, accessFlags := 25, slot := 6, constantValue := 0 }, { name := "LOG2_ARRAY_LONG_INDEX_SCALE", type := .int, accessFlags := 25, slot := 7, constantValue := 0 }, { name := "LOG2_ARRAY_FLOAT_INDEX_SCALE", type := .int, accessFlags := 25, slot := 8, constantValue := 0 }, { name := "LOG2_ARRAY_DOUBLE_INDEX_SCALE", type := .int, accessFlags := 25, slot := 9, constantValue := 0 }, { name := "LOG2_BYTE_BIT_SIZE", type := .int, accessFlags := 26, slot := 10, constantValue := 0 }, { name := "T_BOOLEAN", type := .int, accessFlags := 25, slot := 11, constantValue := 0 }, { name := "T_CHAR", type := .int, accessFlags := 25, slot := 12, constantValue := 0 }, { name := "T_FLOAT", type := .int, accessFlags := 25, slot := 13, constantValue := 0 }, { name := "T_DOUBLE", type := .int, accessFlags := 25, slot := 14, constantValue := 0 }, { name := "T_BYTE", type := .int, accessFlags := 25, slot := 15, constantValue := 0 }, { name := "T_SHORT", type := .int, accessFlags := 25, slot := 16, constantValue := 0 }, { name := "T_INT", type := .int, accessFlags := 25, slot := 17, constantValue := 0 }, { name := "T_LONG", type := .int, accessFlags := 25, slot := 18, constantValue := 0 }, { name := "JLA", type := (.object "jdk/internal/access/JavaLangAccess"), accessFlags := 26, slot := 19, constantValue := 0 }, { name := "SOFT_MAX_ARRAY_LENGTH", type := .int, accessFlags := 25, slot := 20, constantValue := 0 }]
  methods := #[k30m0]
  instanceTypes := #[]
  staticTypes := #[(.object "jdk/internal/misc/Unsafe"), .boolean, .int, .int, .int, .int, .int, .int, .int, .int, .int, .int, .int, .int, .int, .int, .int, .int, .int, (.object "jdk/internal/access/JavaLangAccess"), .int]
  resolved := Array.replicate 378 none
  statics := none }

/-- the primitive byte -/
def k31 : Class := { plain "byte" none with kind := .primitive 'B', accessFlags := 0x411 }
/-- [B -/
def k32 : Class := { plain "[B" (some 0) with kind := .array 31 .byte, interfaces := #[13, 14], accessFlags := 1041 }

/-- the primitive char -/
def k33 : Class := { plain "char" none with kind := .primitive 'C', accessFlags := 0x411 }
/-- [C -/
def k34 : Class := { plain "[C" (some 0) with kind := .array 33 .char, interfaces := #[13, 14], accessFlags := 1041 }

/-- the primitive int -/
def k35 : Class := { plain "int" none with kind := .primitive 'I', accessFlags := 0x411 }
/-- [I -/
def k36 : Class := { plain "[I" (some 0) with kind := .array 35 .int, interfaces := #[13, 14], accessFlags := 1041 }

/-- [Ljava/lang/Object; -/
def k37 : Class := { plain "[Ljava/lang/Object;" (some 0) with kind := .array 0 (.object "java/lang/Object"), interfaces := #[13, 14], accessFlags := 1041 }

def heap : Heap := #[{ cls := 15, slots := #[.long 0, .int 0, .ref 6, .ref 7], vm := .statics 15 },
  { cls := 19, slots := #[.long 0, .int 1, .null, .int 0, .null, .int 0, .int 0], vm := .statics 19 },
  { cls := 23, slots := #[.null, .null, .null, .ref 5, .null, .null, .null, .long 0, .long 0, .long 0, .long 0, .long 0, .long 0, .long 0, .null], vm := .statics 23 },
  { cls := 29, slots := #[.null, .null, .null], vm := .statics 29 },
  { cls := 19, slots := #[.null, .int 0, .int 0, .int 0], vm := .none },
  { cls := 23, slots := #[.ref 4, .int 3, .int 0, .long 1000000000, .long 9223372036, .long 9223372036854, .long 9223372036854775, .long 9223372036854775807, .long 1000000, .int 1000, .int 1], vm := .none },
  { cls := 37, slots := #[], vm := .none },
  { cls := 37, slots := #[], vm := .none }]
def classes : Array Class := #[k0, k1, k2, k3, k4, k5, k6, k7, k8, k9, k10, k11, k12, k13, k14, k15, k16, k17, k18, k19, k20, k21, k22, k23, k24, k25, k26, k27, k28, k29, k30, k31, k32, k33, k34, k35, k36, k37]
def interned : List (Array UInt16 × Addr) := []
def slotsUsed : Nat := 44
def theMethod : MethodId := ⟨1, 1⟩
def args0 : Array Value := #[.long 5, .long 6, .long 7, .int 2, .int 98, .long 3]
def aboutOver (below : List Frame) : State where
  vm := { classes := classes, interned := interned.toArray }
  heap := heap
  slotsUsed := slotsUsed
  threads := #[{ frames := .invoking theMethod args0 :: below }]
def below0 : List Frame := [.native { method := ⟨0, 0⟩, args := #[] }]
def about1 : State := aboutOver below0
def p0 : Program := .bare "" "" ""
def e0 : Env := launch0.env 0 0 0
theorem w_frames : about1.frames = Frame.invoking theMethod args0 :: below0 := rfl
set_option maxRecDepth 65536 in
theorem w_args : argsFit about1.vm theMethod args0 = true := by decide +kernel
set_option maxRecDepth 65536 in
theorem w_heap : heapFits about1 = true := by decide +kernel
set_option maxRecDepth 65536 in
theorem w_runnable : about1.curStatus? = some .runnable := by decide +kernel
set_option maxRecDepth 65536 in
theorem w_alone : about1.alone = true := by decide +kernel
set_option maxRecDepth 65536 in
theorem w_named : about1.methodNamed? x = some theMethod := by decide +kernel
set_option maxRecDepth 65536 in
theorem w_hears : about1.hears theMethod below0 = true := by decide +kernel
set_option maxRecDepth 65536 in
theorem w_ripe : about1.ripe theMethod args0 below0 = true := by decide +kernel
theorem w_running : about1.status = .running := rfl
set_option maxRecDepth 65536 in
theorem w_room : about1.hasRoom e0.platform room_1 = true :=
  launch0.hasRoom_least _ room_1 (by decide +kernel) (by decide +kernel) (by decide +kernel) (by decide +kernel) (by decide +kernel) (by decide +kernel)
theorem allAtoms_all (ts : List Jvm.Cond) (a : Array Jvm.Value) (st : Jvm.State) : (allAtoms ts).before a st = ts.all (fun c => c.before a st) := by
  induction ts with
  | nil => rfl
  | cons c t ih =>
    show (Jvm.Cond.and c (allAtoms t)).before a st = _
    rw [Jvm.Cond.before_and, ih, List.all_cons]
def words1 : List Jvm.Cond := Jvm.Cond.code x code maxLocals ret :: tables_1
/-- a 'code' word, met by the world's own term for the bytes: nothing is compared byte by byte -/
theorem code_word {y : MethodName} {bytes : ByteArray} {mx : Nat} {rt : Option FieldType} {a : Array Value} {s : State} {m : MethodId} {meth : Method} {c : Code} (h1 : s.methodNamed? y = some m) (h2 : s.vm.method? m = some meth) (h3 : meth.code = some c) (h4 : c.code = bytes)
    (h5 : (c.maxLocals == mx && c.exceptionTable.isEmpty && decide (c.maxStack ≤ mostOperands) && decide (meth.sig.returnType = rt) && !meth.locks && decide (parseMethodDescriptor y.desc = some meth.sig)) = true) : (Jvm.Cond.code y bytes mx rt).before a s = true := by
  simp only [Bool.and_eq_true, beq_iff_eq, Bool.not_eq_true', decide_eq_true_eq] at h5
  obtain ⟨⟨⟨⟨⟨g1, g2⟩, g3⟩, g4⟩, g5⟩, g6⟩ := h5
  simp [Cond.before, Cond.holds, Cond.value, h1, h2, h3, h4, g1, g2, g3, g4, g5, g6]
def isCode : Jvm.Cond → Bool
  | .code _ _ _ _ => true
  | _ => false
theorem all_split {L : List Jvm.Cond} {P : Jvm.Cond → Bool} (h1 : L.all (fun c => isCode c || P c) = true) (h2 : ∀ c ∈ L.filter isCode, P c = true) : L.all P = true := by
  refine List.all_eq_true.mpr fun c hc => ?_
  have h := List.all_eq_true.mp h1 c hc
  rcases Bool.eq_false_or_eq_true (isCode c) with hi | hi
  · exact h2 c (List.mem_filter.mpr ⟨hc, hi⟩)
  · simpa [hi] using h
set_option maxRecDepth 65536 in
theorem w_c0 : (Jvm.Cond.code x code maxLocals ret).before args0 about1 = true := code_word (m := ⟨1, 1⟩) (meth := k1m1) (c := k1c1) (by decide +kernel) rfl rfl rfl (by decide +kernel)
set_option maxRecDepth 65536 in
theorem w_c1 : (Jvm.Cond.code ({ cls := "com/example/gavelwatch/gavelwatch/model/Money", name := "<init>", desc := "(J)V" } : Jvm.MethodName) prog_40_method_1_code (3 : Nat) (Option.none : Option Jvm.ClassFile.FieldType)).before args0 about1 = true := code_word (m := ⟨5, 0⟩) (meth := k5m0) (c := k5c0) (by decide +kernel) rfl rfl rfl (by decide +kernel)
set_option maxRecDepth 65536 in
theorem w_c2 : (Jvm.Cond.code ({ cls := "java/lang/Record", name := "<init>", desc := "()V" } : Jvm.MethodName) jdk_30_method_1_code (1 : Nat) (Option.none : Option Jvm.ClassFile.FieldType)).before args0 about1 = true := code_word (m := ⟨3, 0⟩) (meth := k3m0) (c := k3c0) (by decide +kernel) rfl rfl rfl (by decide +kernel)
set_option maxRecDepth 65536 in
theorem w_c3 : (Jvm.Cond.code ({ cls := "java/lang/Object", name := "<init>", desc := "()V" } : Jvm.MethodName) object_method_1_code (1 : Nat) (Option.none : Option Jvm.ClassFile.FieldType)).before args0 about1 = true := code_word (m := ⟨0, 0⟩) (meth := k0m0) (c := k0c0) (by decide +kernel) rfl rfl rfl (by decide +kernel)
set_option maxRecDepth 65536 in
theorem w_c4 : (Jvm.Cond.code ({ cls := "com/example/gavelwatch/gavelwatch/sim/RunningAuction", name := "<init>", desc := "(Lcom/example/gavelwatch/gavelwatch/model/Money;)V" } : Jvm.MethodName) prog_50_method_1_code (2 : Nat) (Option.none : Option Jvm.ClassFile.FieldType)).before args0 about1 = true := code_word (m := ⟨2, 0⟩) (meth := k2m0) (c := k2c0) (by decide +kernel) rfl rfl rfl (by decide +kernel)
set_option maxRecDepth 65536 in
theorem w_c5 : (Jvm.Cond.code ({ cls := "java/util/ArrayList", name := "<init>", desc := "()V" } : Jvm.MethodName) jdk_38_method_2_code (1 : Nat) (Option.none : Option Jvm.ClassFile.FieldType)).before args0 about1 = true := code_word (m := ⟨15, 0⟩) (meth := k15m0) (c := k15c0) (by decide +kernel) rfl rfl rfl (by decide +kernel)
set_option maxRecDepth 65536 in
theorem w_c6 : (Jvm.Cond.code ({ cls := "java/util/AbstractList", name := "<init>", desc := "()V" } : Jvm.MethodName) jdk_39_method_1_code (1 : Nat) (Option.none : Option Jvm.ClassFile.FieldType)).before args0 about1 = true := code_word (m := ⟨11, 0⟩) (meth := k11m0) (c := k11c0) (by decide +kernel) rfl rfl rfl (by decide +kernel)
set_option maxRecDepth 65536 in
theorem w_c7 : (Jvm.Cond.code ({ cls := "java/util/AbstractCollection", name := "<init>", desc := "()V" } : Jvm.MethodName) jdk_22_method_1_code (1 : Nat) (Option.none : Option Jvm.ClassFile.FieldType)).before args0 about1 = true := code_word (m := ⟨8, 0⟩) (meth := k8m0) (c := k8c0) (by decide +kernel) rfl rfl rfl (by decide +kernel)
set_option maxRecDepth 65536 in
theorem w_c8 : (Jvm.Cond.code ({ cls := "com/example/gavelwatch/gavelwatch/sim/RunningAuction", name := "hasBids", desc := "()Z" } : Jvm.MethodName) prog_50_method_2_code (1 : Nat) (Option.some Jvm.ClassFile.FieldType.boolean)).before args0 about1 = true := code_word (m := ⟨2, 1⟩) (meth := k2m1) (c := k2c1) (by decide +kernel) rfl rfl rfl (by decide +kernel)
set_option maxRecDepth 65536 in
theorem w_c9 : (Jvm.Cond.code ({ cls := "java/lang/String", name := "<init>", desc := "([C)V" } : Jvm.MethodName) jdk_42_method_3_code (2 : Nat) (Option.none : Option Jvm.ClassFile.FieldType)).before args0 about1 = true := code_word (m := ⟨19, 1⟩) (meth := k19m1) (c := k19c1) (by decide +kernel) rfl rfl rfl (by decide +kernel)
set_option maxRecDepth 65536 in
theorem w_c10 : (Jvm.Cond.code ({ cls := "java/lang/String", name := "<init>", desc := "([CIILjava/lang/Void;)V" } : Jvm.MethodName) jdk_42_method_149_code (6 : Nat) (Option.none : Option Jvm.ClassFile.FieldType)).before args0 about1 = true := code_word (m := ⟨19, 2⟩) (meth := k19m2) (c := k19c2) (by decide +kernel) rfl rfl rfl (by decide +kernel)
set_option maxRecDepth 65536 in
theorem w_c11 : (Jvm.Cond.code ({ cls := "java/lang/StringUTF16", name := "compress", desc := "([CII)[B" } : Jvm.MethodName) jdk_52_method_16_code (6 : Nat) (Option.some (Jvm.ClassFile.FieldType.array Jvm.ClassFile.FieldType.byte))).before args0 about1 = true := code_word (m := ⟨20, 2⟩) (meth := k20m2) (c := k20c2) (by decide +kernel) rfl rfl rfl (by decide +kernel)
set_option maxRecDepth 65536 in
theorem w_c12 : (Jvm.Cond.code ({ cls := "java/lang/StringUTF16", name := "compress", desc := "([CI[BII)I" } : Jvm.MethodName) jdk_52_method_21_code (7 : Nat) (Option.some Jvm.ClassFile.FieldType.int)).before args0 about1 = true := code_word (m := ⟨20, 3⟩) (meth := k20m3) (c := k20c3) (by decide +kernel) rfl rfl rfl (by decide +kernel)
set_option maxRecDepth 65536 in
theorem w_c13 : (Jvm.Cond.code ({ cls := "java/lang/StringUTF16", name := "coderFromArrayLen", desc := "([BI)B" } : Jvm.MethodName) jdk_52_method_15_code (2 : Nat) (Option.some Jvm.ClassFile.FieldType.byte)).before args0 about1 = true := code_word (m := ⟨20, 1⟩) (meth := k20m1) (c := k20c1) (by decide +kernel) rfl rfl rfl (by decide +kernel)
set_option maxRecDepth 65536 in
theorem w_c14 : (Jvm.Cond.code ({ cls := "java/lang/Math", name := "max", desc := "(JJ)J" } : Jvm.MethodName) jdk_29_method_66_code (4 : Nat) (Option.some Jvm.ClassFile.FieldType.long)).before args0 about1 = true := code_word (m := ⟨21, 2⟩) (meth := k21m2) (c := k21c2) (by decide +kernel) rfl rfl rfl (by decide +kernel)
set_option maxRecDepth 65536 in
theorem w_c15 : (Jvm.Cond.code ({ cls := "com/example/gavelwatch/gavelwatch/sim/RunningAuction", name := "place", desc := "(Ljava/lang/String;Lcom/example/gavelwatch/gavelwatch/model/Money;J)V" } : Jvm.MethodName) prog_50_method_5_code (7 : Nat) (Option.none : Option Jvm.ClassFile.FieldType)).before args0 about1 = true := code_word (m := ⟨2, 4⟩) (meth := k2m4) (c := k2c4) (by decide +kernel) rfl rfl rfl (by decide +kernel)
set_option maxRecDepth 65536 in
theorem w_c16 : (Jvm.Cond.code ({ cls := "java/util/concurrent/TimeUnit", name := "toNanos", desc := "(J)J" } : Jvm.MethodName) jdk_2799_method_7_code (7 : Nat) (Option.some Jvm.ClassFile.FieldType.long)).before args0 about1 = true := code_word (m := ⟨23, 0⟩) (meth := k23m0) (c := k23c0) (by decide +kernel) rfl rfl rfl (by decide +kernel)
set_option maxRecDepth 65536 in
theorem w_c17 : (Jvm.Cond.code ({ cls := "com/example/gavelwatch/gavelwatch/sim/RunningAuction", name := "accepts", desc := "(Lcom/example/gavelwatch/gavelwatch/model/Money;)Z" } : Jvm.MethodName) prog_50_method_4_code (3 : Nat) (Option.some Jvm.ClassFile.FieldType.boolean)).before args0 about1 = true := code_word (m := ⟨2, 3⟩) (meth := k2m3) (c := k2c3) (by decide +kernel) rfl rfl rfl (by decide +kernel)
set_option maxRecDepth 65536 in
theorem w_c18 : (Jvm.Cond.code ({ cls := "com/example/gavelwatch/gavelwatch/sim/RunningAuction", name := "price", desc := "()Lcom/example/gavelwatch/gavelwatch/model/Money;" } : Jvm.MethodName) prog_50_method_3_code (1 : Nat) (Option.some (Jvm.ClassFile.FieldType.object "com/example/gavelwatch/gavelwatch/model/Money"))).before args0 about1 = true := code_word (m := ⟨2, 2⟩) (meth := k2m2) (c := k2c2) (by decide +kernel) rfl rfl rfl (by decide +kernel)
set_option maxRecDepth 65536 in
theorem w_c19 : (Jvm.Cond.code ({ cls := "com/example/gavelwatch/gavelwatch/model/Money", name := "compareTo", desc := "(Lcom/example/gavelwatch/gavelwatch/model/Money;)I" } : Jvm.MethodName) prog_40_method_4_code (2 : Nat) (Option.some Jvm.ClassFile.FieldType.int)).before args0 about1 = true := code_word (m := ⟨5, 1⟩) (meth := k5m1) (c := k5c1) (by decide +kernel) rfl rfl rfl (by decide +kernel)
set_option maxRecDepth 65536 in
theorem w_c20 : (Jvm.Cond.code ({ cls := "java/lang/Long", name := "compare", desc := "(JJ)I" } : Jvm.MethodName) jdk_35_method_42_code (4 : Nat) (Option.some Jvm.ClassFile.FieldType.int)).before args0 about1 = true := code_word (m := ⟨25, 0⟩) (meth := k25m0) (c := k25c0) (by decide +kernel) rfl rfl rfl (by decide +kernel)
set_option maxRecDepth 65536 in
theorem w_c21 : (Jvm.Cond.code ({ cls := "com/example/gavelwatch/gavelwatch/model/Bid", name := "<init>", desc := "(Ljava/lang/String;Lcom/example/gavelwatch/gavelwatch/model/Money;J)V" } : Jvm.MethodName) prog_28_method_1_code (5 : Nat) (Option.none : Option Jvm.ClassFile.FieldType)).before args0 about1 = true := code_word (m := ⟨26, 0⟩) (meth := k26m0) (c := k26c0) (by decide +kernel) rfl rfl rfl (by decide +kernel)
set_option maxRecDepth 65536 in
theorem w_c22 : (Jvm.Cond.code ({ cls := "java/util/Objects", name := "requireNonNull", desc := "(Ljava/lang/Object;Ljava/lang/String;)Ljava/lang/Object;" } : Jvm.MethodName) jdk_31_method_11_code (2 : Nat) (Option.some (Jvm.ClassFile.FieldType.object "java/lang/Object"))).before args0 about1 = true := code_word (m := ⟨27, 1⟩) (meth := k27m1) (c := k27c1) (by decide +kernel) rfl rfl rfl (by decide +kernel)
set_option maxRecDepth 65536 in
theorem w_c23 : (Jvm.Cond.code ({ cls := "java/util/ArrayList", name := "add", desc := "(Ljava/lang/Object;)Z" } : Jvm.MethodName) jdk_38_method_25_code (2 : Nat) (Option.some Jvm.ClassFile.FieldType.boolean)).before args0 about1 = true := code_word (m := ⟨15, 5⟩) (meth := k15m5) (c := k15c5) (by decide +kernel) rfl rfl rfl (by decide +kernel)
set_option maxRecDepth 65536 in
theorem w_c24 : (Jvm.Cond.code ({ cls := "java/util/ArrayList", name := "add", desc := "(Ljava/lang/Object;[Ljava/lang/Object;I)V" } : Jvm.MethodName) jdk_38_method_24_code (4 : Nat) (Option.none : Option Jvm.ClassFile.FieldType)).before args0 about1 = true := code_word (m := ⟨15, 4⟩) (meth := k15m4) (c := k15c4) (by decide +kernel) rfl rfl rfl (by decide +kernel)
set_option maxRecDepth 65536 in
theorem w_c25 : (Jvm.Cond.code ({ cls := "java/util/ArrayList", name := "grow", desc := "()[Ljava/lang/Object;" } : Jvm.MethodName) jdk_38_method_7_code (1 : Nat) (Option.some (Jvm.ClassFile.FieldType.array (Jvm.ClassFile.FieldType.object "java/lang/Object")))).before args0 about1 = true := code_word (m := ⟨15, 2⟩) (meth := k15m2) (c := k15c2) (by decide +kernel) rfl rfl rfl (by decide +kernel)
set_option maxRecDepth 65536 in
theorem w_c26 : (Jvm.Cond.code ({ cls := "java/util/ArrayList", name := "grow", desc := "(I)[Ljava/lang/Object;" } : Jvm.MethodName) jdk_38_method_6_code (4 : Nat) (Option.some (Jvm.ClassFile.FieldType.array (Jvm.ClassFile.FieldType.object "java/lang/Object")))).before args0 about1 = true := code_word (m := ⟨15, 1⟩) (meth := k15m1) (c := k15c1) (by decide +kernel) rfl rfl rfl (by decide +kernel)
set_option maxRecDepth 65536 in
theorem w_c27 : (Jvm.Cond.code ({ cls := "java/lang/Math", name := "max", desc := "(II)I" } : Jvm.MethodName) jdk_29_method_65_code (2 : Nat) (Option.some Jvm.ClassFile.FieldType.int)).before args0 about1 = true := code_word (m := ⟨21, 1⟩) (meth := k21m1) (c := k21c1) (by decide +kernel) rfl rfl rfl (by decide +kernel)
set_option maxRecDepth 65536 in
theorem w_c28 : (Jvm.Cond.code ({ cls := "com/example/gavelwatch/gavelwatch/model/Bid", name := "amount", desc := "()Lcom/example/gavelwatch/gavelwatch/model/Money;" } : Jvm.MethodName) prog_28_method_6_code (1 : Nat) (Option.some (Jvm.ClassFile.FieldType.object "com/example/gavelwatch/gavelwatch/model/Money"))).before args0 about1 = true := code_word (m := ⟨26, 1⟩) (meth := k26m1) (c := k26c1) (by decide +kernel) rfl rfl rfl (by decide +kernel)
set_option maxRecDepth 65536 in
theorem w_c29 : (Jvm.Cond.code ({ cls := "com/example/gavelwatch/gavelwatch/sim/RunningAuction", name := "bids", desc := "()Ljava/util/List;" } : Jvm.MethodName) prog_50_method_6_code (1 : Nat) (Option.some (Jvm.ClassFile.FieldType.object "java/util/List"))).before args0 about1 = true := code_word (m := ⟨2, 5⟩) (meth := k2m5) (c := k2c5) (by decide +kernel) rfl rfl rfl (by decide +kernel)
set_option maxRecDepth 65536 in
theorem w_c30 : (Jvm.Cond.code ({ cls := "java/util/ArrayList", name := "size", desc := "()I" } : Jvm.MethodName) jdk_38_method_8_code (1 : Nat) (Option.some Jvm.ClassFile.FieldType.int)).before args0 about1 = true := code_word (m := ⟨15, 3⟩) (meth := k15m3) (c := k15c3) (by decide +kernel) rfl rfl rfl (by decide +kernel)
def codes1 : List Jvm.Cond := [Jvm.Cond.code x code maxLocals ret, Jvm.Cond.code ({ cls := "com/example/gavelwatch/gavelwatch/model/Money", name := "<init>", desc := "(J)V" } : Jvm.MethodName) prog_40_method_1_code (3 : Nat) (Option.none : Option Jvm.ClassFile.FieldType), Jvm.Cond.code ({ cls := "java/lang/Record", name := "<init>", desc := "()V" } : Jvm.MethodName) jdk_30_method_1_code (1 : Nat) (Option.none : Option Jvm.ClassFile.FieldType), Jvm.Cond.code ({ cls := "java/lang/Object", name := "<init>", desc := "()V" } : Jvm.MethodName) object_method_1_code (1 : Nat) (Option.none : Option Jvm.ClassFile.FieldType), Jvm.Cond.code ({ cls := "com/example/gavelwatch/gavelwatch/sim/RunningAuction", name := "<init>", desc := "(Lcom/example/gavelwatch/gavelwatch/model/Money;)V" } : Jvm.MethodName) prog_50_method_1_code (2 : Nat) (Option.none : Option Jvm.ClassFile.FieldType), Jvm.Cond.code ({ cls := "java/util/ArrayList", name := "<init>", desc := "()V" } : Jvm.MethodName) jdk_38_method_2_code (1 : Nat) (Option.none : Option Jvm.ClassFile.FieldType), Jvm.Cond.code ({ cls := "java/util/AbstractList", name := "<init>", desc := "()V" } : Jvm.MethodName) jdk_39_method_1_code (1 : Nat) (Option.none : Option Jvm.ClassFile.FieldType), Jvm.Cond.code ({ cls := "java/util/AbstractCollection", name := "<init>", desc := "()V" } : Jvm.MethodName) jdk_22_method_1_code (1 : Nat) (Option.none : Option Jvm.ClassFile.FieldType), Jvm.Cond.code ({ cls := "com/example/gavelwatch/gavelwatch/sim/RunningAuction", name := "hasBids", desc := "()Z" } : Jvm.MethodName) prog_50_method_2_code (1 : Nat) (Option.some Jvm.ClassFile.FieldType.boolean), Jvm.Cond.code ({ cls := "java/lang/String", name := "<init>", desc := "([C)V" } : Jvm.MethodName) jdk_42_method_3_code (2 : Nat) (Option.none : Option Jvm.ClassFile.FieldType), Jvm.Cond.code ({ cls := "java/lang/String", name := "<init>", desc := "([CIILjava/lang/Void;)V" } : Jvm.MethodName) jdk_42_method_149_code (6 : Nat) (Option.none : Option Jvm.ClassFile.FieldType), Jvm.Cond.code ({ cls := "java/lang/StringUTF16", name := "compress", desc := "([CII)[B" } : Jvm.MethodName) jdk_52_method_16_code (6 : Nat) (Option.some (Jvm.ClassFile.FieldType.array Jvm.ClassFile.FieldType.byte)), Jvm.Cond.code ({ cls := "java/lang/StringUTF16", name := "compress", desc := "([CI[BII)I" } : Jvm.MethodName) jdk_52_method_21_code (7 : Nat) (Option.some Jvm.ClassFile.FieldType.int), Jvm.Cond.code ({ cls := "java/lang/StringUTF16", name := "coderFromArrayLen", desc := "([BI)B" } : Jvm.MethodName) jdk_52_method_15_code (2 : Nat) (Option.some Jvm.ClassFile.FieldType.byte), Jvm.Cond.code ({ cls := "java/lang/Math", name := "max", desc := "(JJ)J" } : Jvm.MethodName) jdk_29_method_66_code (4 : Nat) (Option.some Jvm.ClassFile.FieldType.long), Jvm.Cond.code ({ cls := "com/example/gavelwatch/gavelwatch/sim/RunningAuction", name := "place", desc := "(Ljava/lang/String;Lcom/example/gavelwatch/gavelwatch/model/Money;J)V" } : Jvm.MethodName) prog_50_method_5_code (7 : Nat) (Option.none : Option Jvm.ClassFile.FieldType), Jvm.Cond.code ({ cls := "java/util/concurrent/TimeUnit", name := "toNanos", desc := "(J)J" } : Jvm.MethodName) jdk_2799_method_7_code (7 : Nat) (Option.some Jvm.ClassFile.FieldType.long), Jvm.Cond.code ({ cls := "com/example/gavelwatch/gavelwatch/sim/RunningAuction", name := "accepts", desc := "(Lcom/example/gavelwatch/gavelwatch/model/Money;)Z" } : Jvm.MethodName) prog_50_method_4_code (3 : Nat) (Option.some Jvm.ClassFile.FieldType.boolean), Jvm.Cond.code ({ cls := "com/example/gavelwatch/gavelwatch/sim/RunningAuction", name := "price", desc := "()Lcom/example/gavelwatch/gavelwatch/model/Money;" } : Jvm.MethodName) prog_50_method_3_code (1 : Nat) (Option.some (Jvm.ClassFile.FieldType.object "com/example/gavelwatch/gavelwatch/model/Money")), Jvm.Cond.code ({ cls := "com/example/gavelwatch/gavelwatch/model/Money", name := "compareTo", desc := "(Lcom/example/gavelwatch/gavelwatch/model/Money;)I" } : Jvm.MethodName) prog_40_method_4_code (2 : Nat) (Option.some Jvm.ClassFile.FieldType.int), Jvm.Cond.code ({ cls := "java/lang/Long", name := "compare", desc := "(JJ)I" } : Jvm.MethodName) jdk_35_method_42_code (4 : Nat) (Option.some Jvm.ClassFile.FieldType.int), Jvm.Cond.code ({ cls := "com/example/gavelwatch/gavelwatch/model/Bid", name := "<init>", desc := "(Ljava/lang/String;Lcom/example/gavelwatch/gavelwatch/model/Money;J)V" } : Jvm.MethodName) prog_28_method_1_code (5 : Nat) (Option.none : Option Jvm.ClassFile.FieldType), Jvm.Cond.code ({ cls := "java/util/Objects", name := "requireNonNull", desc := "(Ljava/lang/Object;Ljava/lang/String;)Ljava/lang/Object;" } : Jvm.MethodName) jdk_31_method_11_code (2 : Nat) (Option.some (Jvm.ClassFile.FieldType.object "java/lang/Object")), Jvm.Cond.code ({ cls := "java/util/ArrayList", name := "add", desc := "(Ljava/lang/Object;)Z" } : Jvm.MethodName) jdk_38_method_25_code (2 : Nat) (Option.some Jvm.ClassFile.FieldType.boolean), Jvm.Cond.code ({ cls := "java/util/ArrayList", name := "add", desc := "(Ljava/lang/Object;[Ljava/lang/Object;I)V" } : Jvm.MethodName) jdk_38_method_24_code (4 : Nat) (Option.none : Option Jvm.ClassFile.FieldType), Jvm.Cond.code ({ cls := "java/util/ArrayList", name := "grow", desc := "()[Ljava/lang/Object;" } : Jvm.MethodName) jdk_38_method_7_code (1 : Nat) (Option.some (Jvm.ClassFile.FieldType.array (Jvm.ClassFile.FieldType.object "java/lang/Object"))), Jvm.Cond.code ({ cls := "java/util/ArrayList", name := "grow", desc := "(I)[Ljava/lang/Object;" } : Jvm.MethodName) jdk_38_method_6_code (4 : Nat) (Option.some (Jvm.ClassFile.FieldType.array (Jvm.ClassFile.FieldType.object "java/lang/Object"))), Jvm.Cond.code ({ cls := "java/lang/Math", name := "max", desc := "(II)I" } : Jvm.MethodName) jdk_29_method_65_code (2 : Nat) (Option.some Jvm.ClassFile.FieldType.int), Jvm.Cond.code ({ cls := "com/example/gavelwatch/gavelwatch/model/Bid", name := "amount", desc := "()Lcom/example/gavelwatch/gavelwatch/model/Money;" } : Jvm.MethodName) prog_28_method_6_code (1 : Nat) (Option.some (Jvm.ClassFile.FieldType.object "com/example/gavelwatch/gavelwatch/model/Money")), Jvm.Cond.code ({ cls := "com/example/gavelwatch/gavelwatch/sim/RunningAuction", name := "bids", desc := "()Ljava/util/List;" } : Jvm.MethodName) prog_50_method_6_code (1 : Nat) (Option.some (Jvm.ClassFile.FieldType.object "java/util/List")), Jvm.Cond.code ({ cls := "java/util/ArrayList", name := "size", desc := "()I" } : Jvm.MethodName) jdk_38_method_8_code (1 : Nat) (Option.some Jvm.ClassFile.FieldType.int)]
set_option maxRecDepth 65536 in
theorem codes_eq : words1.filter isCode = codes1 := rfl
theorem w_codes : ∀ c ∈ words1.filter isCode, c.before args0 about1 = true := by
  rw [codes_eq]
  intro c hc
  simp only [codes1, List.mem_cons, List.not_mem_nil, or_false] at hc
  rcases hc with rfl | rfl | rfl | rfl | rfl | rfl | rfl | rfl | rfl | rfl | rfl | rfl | rfl | rfl | rfl | rfl | rfl | rfl | rfl | rfl | rfl | rfl | rfl | rfl | rfl | rfl | rfl | rfl | rfl | rfl | rfl
  · exact w_c0
  · exact w_c1
  · exact w_c2
  · exact w_c3
  · exact w_c4
  · exact w_c5
  · exact w_c6
  · exact w_c7
  · exact w_c8
  · exact w_c9
  · exact w_c10
  · exact w_c11
  · exact w_c12
  · exact w_c13
  · exact w_c14
  · exact w_c15
  · exact w_c16
  · exact w_c17
  · exact w_c18
  · exact w_c19
  · exact w_c20
  · exact w_c21
  · exact w_c22
  · exact w_c23
  · exact w_c24
  · exact w_c25
  · exact w_c26
  · exact w_c27
  · exact w_c28
  · exact w_c29
  · exact w_c30
set_option maxRecDepth 65536 in
theorem w_t1 : (words1.take 24).all (fun c => isCode c || c.before args0 about1) = true := by decide +kernel
set_option maxRecDepth 65536 in
theorem w_t2 : ((words1.drop 24).take 24).all (fun c => isCode c || c.before args0 about1) = true := by decide +kernel
set_option maxRecDepth 65536 in
theorem w_t3 : (((words1.drop 24).drop 24).take 24).all (fun c => isCode c || c.before args0 about1) = true := by decide +kernel
set_option maxRecDepth 65536 in
theorem w_t4 : ((((words1.drop 24).drop 24).drop 24).take 24).all (fun c => isCode c || c.before args0 about1) = true := by decide +kernel
set_option maxRecDepth 65536 in
theorem w_t5 : (((((words1.drop 24).drop 24).drop 24).drop 24).take 24).all (fun c => isCode c || c.before args0 about1) = true := by decide +kernel
set_option maxRecDepth 65536 in
theorem w_t6 : ((((((words1.drop 24).drop 24).drop 24).drop 24).drop 24).take 24).all (fun c => isCode c || c.before args0 about1) = true := by decide +kernel
set_option maxRecDepth 65536 in
theorem w_t7 : (((((((words1.drop 24).drop 24).drop 24).drop 24).drop 24).drop 24).take 24).all (fun c => isCode c || c.before args0 about1) = true := by decide +kernel
set_option maxRecDepth 65536 in
theorem w_t8 : ((((((((words1.drop 24).drop 24).drop 24).drop 24).drop 24).drop 24).drop 24).take 24).all (fun c => isCode c || c.before args0 about1) = true := by decide +kernel
set_option maxRecDepth 65536 in
theorem w_t9 : ((((((((words1.drop 24).drop 24).drop 24).drop 24).drop 24).drop 24).drop 24).drop 24).all (fun c => isCode c || c.before args0 about1) = true := by decide +kernel
theorem w_tables : (allAtoms (Jvm.Cond.code x code maxLocals ret :: tables_1)).before args0 about1 = true := by
  rw [allAtoms_all]
  show words1.all (fun c => c.before args0 about1) = true
  refine all_split ?_ w_codes
  rw [← List.take_append_drop 24 words1, List.all_append, w_t1, ← List.take_append_drop 24 (words1.drop 24), List.all_append, w_t2, ← List.take_append_drop 24 ((words1.drop 24).drop 24), List.all_append, w_t3, ← List.take_append_drop 24 (((words1.drop 24).drop 24).drop 24), List.all_append, w_t4, ← List.take_append_drop 24 ((((words1.drop 24).drop 24).drop 24).drop 24), List.all_append, w_t5, ← List.take_append_drop 24 (((((words1.drop 24).drop 24).drop 24).drop 24).drop 24), List.all_append, w_t6, ← List.take_append_drop 24 ((((((words1.drop 24).drop 24).drop 24).drop 24).drop 24).drop 24), List.all_append, w_t7, ← List.take_append_drop 24 (((((((words1.drop 24).drop 24).drop 24).drop 24).drop 24).drop 24).drop 24), List.all_append, w_t8, w_t9]
  rfl
set_option maxRecDepth 65536 in
theorem w_rest : rest_1_c.before args0 about1 = true := by decide +kernel
set_option maxRecDepth 65536 in
theorem w_case : (Jvm.Cond.and given_1 narrow_1).before args0 about1 = true := by decide +kernel
theorem w_applies : (headSpec (Jvm.Cond.code x code maxLocals ret :: tables_1) room_1).applies x e0.platform about1 = true :=
  (Spec.applies_iff w_frames).mpr ⟨w_running, w_runnable, w_alone, w_named, w_hears, w_ripe, w_room, w_tables⟩
theorem atStart : AtStart classFile x code maxLocals ret World_1 tables_1 room_1 Calls_1 rest_1 Pre_1 launch0 p0 e0 about1 theMethod args0 below0 :=
  ⟨lists_1, trivial, launch0.admits_env _ _ _, launch0.least_env, fairChoices_fair.cas, fairChoices_fair.clock, w_frames, w_args, w_heap, w_applies, trivial, w_rest, w_case⟩
end start1
theorem witness_1 : WitnessClaimed_1 := ⟨start1.p0, start1.e0, start1.about1, start1.theMethod, start1.args0, start1.below0, start1.atStart⟩
end Jvm.Pilot.@@N@@
