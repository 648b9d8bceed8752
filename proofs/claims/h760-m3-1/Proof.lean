import JvmDerived
import JvmDerived.Pilot.@@N@@Statement
import JvmDerived.Pilot.@@N@@Code
set_option linter.unusedVariables false
set_option linter.unusedSimpArgs false
@@BLOCK:NumsL.lean.txt@@
/- laws to paste: Road.backV, Road.chN (cut by pick.py; bodies as the Statement names them) -/
namespace Jvm.Pilot.@@N@@
namespace StrChars
open Jvm Sem ClassFile Op Lib Jvm.Stand Jvm.Free.XT Jvm.Free.ALB Jvm.Free.JM Jvm.Free
open Jvm.Lib.Cold (StaticIs)
/-- a char array whose places are chars -/
def Ch (a : Addr) (A : Cell) (U : State) : Prop := Arr .char a A U ∧ Typed .char A
theorem Ch.mv {a : Addr} {A : Cell} {U U' : State} (h : Ch a A U) (hal : U.vm.Alike U'.vm) (hh : U'.heap = U.heap) : Ch a A U' := ⟨h.1.mv hal hh, h.2⟩
theorem Ch.keep {a : Addr} {A : Cell} {U U' : State} (h : Ch a A U) (hal : U.vm.Alike U'.vm) (hk : U'.heap[a]? = some A) : Ch a A U' := ⟨h.1.keep hal hk, h.2⟩
/-- what place i of a char[]'s cell holds -/
def cv (A : Cell) (i : Nat) : Int32 := match A.slots[i]? with | some (.int x) => x | _ => 0
theorem Ch.get {a : Addr} {A : Cell} {U : State} (h : Ch a A U) {i : Nat} (hi : i < A.slots.size) : A.slots[i]? = some (.int (cv A i)) := by
  have e := Array.getElem?_eq_getElem hi
  have f := h.2 i _ e
  unfold cv; rw [e]
  generalize A.slots[i] = v at f
  cases v <;> simp [fits] at f ⊢
/-- the byte that i2b leaves of a char -/
def lo8 (x : Int32) : Int32 := x.toInt8.toInt32
theorem fits_lo8 (y : Int32) : fits .byte (.int (lo8 y)) = true := by
  have h1 := y.toInt8.le_toInt
  have h2 := y.toInt8.toInt_lt
  simp only [lo8, fits, Bool.and_eq_true, decide_eq_true_eq, Int32.le_iff_toInt_le, Int8.toInt_toInt32, show (-128 : Int32).toInt = -128 from by decide, show (127 : Int32).toInt = 127 from by decide]
  omega
/-- A' is A but that each place j of lo .. hi - 1 holds f j -/
def Laid (A A' : Cell) (lo hi : Nat) (f : Nat → Value) : Prop := A'.cls = A.cls ∧ A'.vm = A.vm ∧ A'.slots.size = A.slots.size ∧ ∀ i, A'.slots[i]? = if lo ≤ i ∧ i < hi then some (f i) else A.slots[i]?
theorem Laid.zero (A : Cell) (lo : Nat) (f : Nat → Value) : Laid A A lo (lo + 0) f := ⟨rfl, rfl, rfl, fun i => by rw [if_neg (by omega)]⟩
theorem Laid.step {A Ak : Cell} {lo k : Nat} {f : Nat → Value} {v : Value} (h : Laid A Ak lo k f) (hlo : lo ≤ k) (hk : k < Ak.slots.size) (hv : v = f k) : Laid A (Ak.setSlot k v) lo (k + 1) f := by
  refine ⟨h.1, h.2.1, by simpa [Cell.setSlot] using h.2.2.1, fun i => ?_⟩
  by_cases e : k = i
  · subst e; rw [Cell.slots_setSlot_self v hk, if_pos (by omega), hv]
  · rw [Cell.slots_setSlot_ne v e, h.2.2.2 i]
    by_cases q : lo ≤ i ∧ i < k
    · rw [if_pos q, if_pos (by omega)]
    · rw [if_neg q, if_neg (by omega)]
def U16 : String := "java/lang/StringUTF16"
namespace Cmp5
def yN : MethodName := ⟨"java/lang/StringUTF16", "compress", "([CI[BII)I"⟩
abbrev yB : ByteArray := jdk_52_method_21_code
theorem d0 : decode yB 0 = .ok (.iconst 0, 1) := by decide +kernel
theorem d1 : decode yB 1 = .ok (.istore 5, 2) := by decide +kernel
theorem d3 : decode yB 3 = .ok (.iload 5, 2) := by decide +kernel
theorem d5 : decode yB 5 = .ok (.iload 4, 2) := by decide +kernel
theorem d7 : decode yB 7 = .ok (.if_icmp (.ge) 37, 3) := by decide +kernel
theorem d10 : decode yB 10 = .ok (.aload_n 0, 1) := by decide +kernel
theorem d11 : decode yB 11 = .ok (.iload_n 1, 1) := by decide +kernel
theorem d12 : decode yB 12 = .ok (.caload, 1) := by decide +kernel
theorem d13 : decode yB 13 = .ok (.istore 6, 2) := by decide +kernel
theorem d15 : decode yB 15 = .ok (.iload 6, 2) := by decide +kernel
theorem d17 : decode yB 17 = .ok (.sipush 255, 3) := by decide +kernel
theorem d20 : decode yB 20 = .ok (.if_icmp (.le) 6, 3) := by decide +kernel
theorem d26 : decode yB 26 = .ok (.aload_n 2, 1) := by decide +kernel
theorem d27 : decode yB 27 = .ok (.iload_n 3, 1) := by decide +kernel
theorem d28 : decode yB 28 = .ok (.iload 6, 2) := by decide +kernel
theorem d30 : decode yB 30 = .ok (.i2b, 1) := by decide +kernel
theorem d31 : decode yB 31 = .ok (.bastore, 1) := by decide +kernel
theorem d32 : decode yB 32 = .ok (.iinc 1 1, 3) := by decide +kernel
theorem d35 : decode yB 35 = .ok (.iinc 3 1, 3) := by decide +kernel
theorem d38 : decode yB 38 = .ok (.iinc 5 1, 3) := by decide +kernel
theorem d41 : decode yB 41 = .ok (.goto (-38), 3) := by decide +kernel
theorem d44 : decode yB 44 = .ok (.iload 4, 2) := by decide +kernel
theorem d46 : decode yB 46 = .ok (.ireturn, 1) := by decide +kernel
def site : List Cond := []
def tab : Cond := tabOf yN yB 7 (some .int) site
def P (b : Addr) (A : Cell) (d : Addr) (B : Cell) (o q len : Nat) (args : Array Value) (s : State) : Prop := args = #[.ref b, .int (Int32.ofNat o), .ref d, .int (Int32.ofNat q), .int (Int32.ofNat len)] ∧ Ch b A s ∧ Arr .byte d B s ∧ b ≠ d ∧ o + len ≤ A.slots.size ∧ q + len ≤ B.slots.size ∧ ∀ i, i < len → ¬ 255 < cv A (o + i)
def E (b : Addr) (A : Cell) (d : Addr) (B : Cell) (o q len : Nat) (r : Option Value) (s u : State) : Prop := r = some (.int (Int32.ofNat len)) ∧ ∃ B', Put d B' s u ∧ Laid B B' q (q + len) (fun j => Value.int (lo8 (cv A (o + (j - q)))))
/-- no char of the range above 255: len; the places written hold each char's low byte -/
theorem law (l : Launch) (b : Addr) (A : Cell) (d : Addr) (B : Cell) (o q len : Nat) : Law l yN 5 5 0 0 yB 7 (some .int) site (P b A d B o q len) (E b A d B o q len) (copyLocs d q len) 0 0 := by
  refine Law.of_walk (plainFor_of_name (by decide +kernel)) (by decide +kernel) (by decide +kernel) (by decide) (fun _ _ h => by rw [h.1]; rfl) (fun _ U U' hal hh h => ⟨h.1, h.2.1.mv hal hh, h.2.2.1.mv hal hh, h.2.2.2⟩) (fun r U U' V V' h1 hal h2 h => ⟨h.1, h.2.elim fun B' q => ⟨B', q.1.mv h1 h2, q.2⟩⟩) ?_
  intro p e s m args below meth c s₁ X0 hexec hbytes hml hret hlk hnm hown hh0 W hP
  obtain ⟨rfl, hA, hB, hne, l1, l2, hp⟩ := hP
  have c1 : Steps p.tables e below (s₁.setTop (entryFrame m #[.ref b, .int (Int32.ofNat o), .ref d, .int (Int32.ofNat q), .int (Int32.ofNat len)] 7)) (s₁.setTop (mkF m 0 #[.val (.ref b), .val (.int (Int32.ofNat o)), .val (.ref d), .val (.int (Int32.ofNat q)), .val (.int (Int32.ofNat len)), .unset, .unset] [])) := entry rfl
  have hA0 := hA.1.mv X0.warmed.alike hh0
  have hB0 := hB.mv X0.warmed.alike hh0
  have a31 := hA.1.2.2.2
  have c2 : Steps p.tables e below (s₁.setTop (entryFrame m #[.ref b, .int (Int32.ofNat o), .ref d, .int (Int32.ofNat q), .int (Int32.ofNat len)] 7)) (s₁.setTop (mkF m 3 #[.val (.ref b), .val (.int (Int32.ofNat o)), .val (.ref d), .val (.int (Int32.ofNat q)), .val (.int (Int32.ofNat len)), .val (.int 0), .unset] [])) := c1.trans (by
    refine iconstV X0.here hexec rfl 0 (hb hbytes d0) (by decide) ?_
    refine XS.istore X0.here hexec rfl (hb hbytes d1) rfl rfl ?_
    exact Steps.refl _)
  have loop : ∀ (r i : Nat), i + r = len → ∀ (z : Slot), (z = .unset ∨ ∃ w, z = .val w ∧ w.category = 1) → ∀ (Tl : State) (Bk : Cell), Stand p l e { frames := 0, locals := 0, cells := 0, slots := 0 } s m #[.ref b, .int (Int32.ofNat o), .ref d, .int (Int32.ofNat q), .int (Int32.ofNat len)] below meth c Tl ([] ++ copyLocs d q i) 0 0 → Put d Bk s₁ Tl → Laid B Bk q (q + i) (fun j => Value.int (lo8 (cv A (o + (j - q))))) →
      Steps p.tables e below (s₁.setTop (entryFrame m #[.ref b, .int (Int32.ofNat o), .ref d, .int (Int32.ofNat q), .int (Int32.ofNat len)] 7)) (Tl.setTop (mkF m 3 #[.val (.ref b), .val (.int (Int32.ofNat (o + i))), .val (.ref d), .val (.int (Int32.ofNat (q + i))), .val (.int (Int32.ofNat len)), .val (.int (Int32.ofNat i)), z] [])) → ∃ (T' : State) (B' : Cell) (z' : Slot), Stand p l e { frames := 0, locals := 0, cells := 0, slots := 0 } s m #[.ref b, .int (Int32.ofNat o), .ref d, .int (Int32.ofNat q), .int (Int32.ofNat len)] below meth c T' ([] ++ copyLocs d q len) 0 0 ∧ Put d B' s₁ T' ∧ Laid B B' q (q + len) (fun j => Value.int (lo8 (cv A (o + (j - q))))) ∧
      Steps p.tables e below (s₁.setTop (entryFrame m #[.ref b, .int (Int32.ofNat o), .ref d, .int (Int32.ofNat q), .int (Int32.ofNat len)] 7)) (T'.setTop (mkF m 3 #[.val (.ref b), .val (.int (Int32.ofNat (o + len))), .val (.ref d), .val (.int (Int32.ofNat (q + len))), .val (.int (Int32.ofNat len)), .val (.int (Int32.ofNat len)), z'] [])) := by
    intro r
    induction r with
    | zero =>
      intro i hi z hz Tl Bk Xl pl fl cl
      have hil : i = len := by omega
      rw [hil] at Xl fl cl
      exact ⟨Tl, Bk, z, Xl, pl, fl, cl⟩
    | succ r ih =>
      intro i hi z hz Tl Bk Xl pl fl cl
      have all := X0.warmed.alike.symm.trans Xl.warmed.alike
      have hAl := hA0.keep all (pl.other hne hA0.1)
      have hBk := hB0.like all pl.1 fl.1 fl.2.1 fl.2.2.1
      have hlt : q + i < Bk.slots.size := by rw [fl.2.2.1]; omega
      have c3 : Steps p.tables e below (s₁.setTop (entryFrame m #[.ref b, .int (Int32.ofNat o), .ref d, .int (Int32.ofNat q), .int (Int32.ofNat len)] 7)) (Tl.setTop (mkF m 12 #[.val (.ref b), .val (.int (Int32.ofNat (o + i))), .val (.ref d), .val (.int (Int32.ofNat (q + i))), .val (.int (Int32.ofNat len)), .val (.int (Int32.ofNat i)), z] [.int (Int32.ofNat (o + i)), .ref b])) := cl.trans (by
        refine XS.iload Xl.here hexec rfl (hb hbytes d3) rfl ?_
        refine XS.iload Xl.here hexec rfl (hb hbytes d5) rfl ?_
        refine XS.icmpNo Xl.here hexec rfl (hb hbytes d7) rfl (ii_ge_f (lt32 (by omega) (by omega))) ?_
        refine XS.aloadN Xl.here hexec rfl (hb hbytes d10) rfl rfl ?_
        refine XS.iloadN Xl.here hexec rfl (hb hbytes d11) rfl ?_
        exact Steps.refl _)
      have c4 : Steps p.tables e below (s₁.setTop (entryFrame m #[.ref b, .int (Int32.ofNat o), .ref d, .int (Int32.ofNat q), .int (Int32.ofNat len)] 7)) (Tl.setTop (mkF m 13 #[.val (.ref b), .val (.int (Int32.ofNat (o + i))), .val (.ref d), .val (.int (Int32.ofNat (q + i))), .val (.int (Int32.ofNat len)), .val (.int (Int32.ofNat i)), z] [.int (cv A (o + i))])) := c3.trans (by
        refine Xl.aget hexec hAl rfl (hA.get (i := o + i) (by omega)) rfl rfl (hb hbytes d12) ?_
        exact Steps.refl _)
      have c5 : Steps p.tables e below (s₁.setTop (entryFrame m #[.ref b, .int (Int32.ofNat o), .ref d, .int (Int32.ofNat q), .int (Int32.ofNat len)] 7)) (Tl.setTop (mkF m 15 #[.val (.ref b), .val (.int (Int32.ofNat (o + i))), .val (.ref d), .val (.int (Int32.ofNat (q + i))), .val (.int (Int32.ofNat len)), .val (.int (Int32.ofNat i)), .val (.int (cv A (o + i)))] [])) := c4.trans (by
        refine XS.istoreS Xl.here hexec rfl (hb hbytes d13) rfl rfl hz ?_
        exact Steps.refl _)
      have c6 : Steps p.tables e below (s₁.setTop (entryFrame m #[.ref b, .int (Int32.ofNat o), .ref d, .int (Int32.ofNat q), .int (Int32.ofNat len)] 7)) (Tl.setTop (mkF m 31 #[.val (.ref b), .val (.int (Int32.ofNat (o + i))), .val (.ref d), .val (.int (Int32.ofNat (q + i))), .val (.int (Int32.ofNat len)), .val (.int (Int32.ofNat i)), .val (.int (cv A (o + i)))] [.int (lo8 (cv A (o + i))), .int (Int32.ofNat (q + i)), .ref d])) := c5.trans (by
        refine XS.iload Xl.here hexec rfl (hb hbytes d15) rfl ?_
        refine sipushV Xl.here hexec rfl 255 (hb hbytes d17) (by decide) ?_
        refine XS.icmpYes Xl.here hexec rfl (pc0 := 20) rfl (hb hbytes d20) rfl (ii_le_t (hp i (by omega))) (by decide) rfl ?_
        refine XS.aloadN Xl.here hexec rfl (hb hbytes d26) rfl rfl ?_
        refine XS.iloadN Xl.here hexec rfl (hb hbytes d27) rfl ?_
        refine XS.iload Xl.here hexec rfl (hb hbytes d28) rfl ?_
        refine i2b Xl.here hexec rfl (hb hbytes d30) rfl ?_
        exact Steps.refl _)
      obtain ⟨T7, X7, p7, st7⟩ := Xl.aput hexec hBk rfl hlt rfl (fits_lo8 (cv A (o + i))) (g := (mkF m 31 #[.val (.ref b), .val (.int (Int32.ofNat (o + i))), .val (.ref d), .val (.int (Int32.ofNat (q + i))), .val (.int (Int32.ofNat len)), .val (.int (Int32.ofNat i)), .val (.int (cv A (o + i)))] [.int (lo8 (cv A (o + i))), .int (Int32.ofNat (q + i)), .ref d])) rfl (rest := []) rfl (hb hbytes d31)
      have c8 : Steps p.tables e below (s₁.setTop (entryFrame m #[.ref b, .int (Int32.ofNat o), .ref d, .int (Int32.ofNat q), .int (Int32.ofNat len)] 7)) (T7.setTop (mkF m 32 #[.val (.ref b), .val (.int (Int32.ofNat (o + i))), .val (.ref d), .val (.int (Int32.ofNat (q + i))), .val (.int (Int32.ofNat len)), .val (.int (Int32.ofNat i)), .val (.int (cv A (o + i)))] [])) := c6.trans (st7 _ (Steps.refl _))
      have c9 : Steps p.tables e below (s₁.setTop (entryFrame m #[.ref b, .int (Int32.ofNat o), .ref d, .int (Int32.ofNat q), .int (Int32.ofNat len)] 7)) (T7.setTop (mkF m 3 #[.val (.ref b), .val (.int (Int32.ofNat (o + i) + 1)), .val (.ref d), .val (.int (Int32.ofNat (q + i) + 1)), .val (.int (Int32.ofNat len)), .val (.int (Int32.ofNat i + 1)), .val (.int (cv A (o + i)))] [])) := c8.trans (by
        refine iincV X7.here hexec rfl 1 (hb hbytes d32) (by decide) rfl rfl ?_
        refine iincV X7.here hexec rfl 1 (hb hbytes d35) (by decide) rfl rfl ?_
        refine iincV X7.here hexec rfl 1 (hb hbytes d38) (by decide) rfl rfl ?_
        refine XS.goto X7.here hexec rfl (pc0 := 41) rfl (hb hbytes d41) (by decide) rfl ?_
        exact Steps.refl _)
      have c10 : Steps p.tables e below (s₁.setTop (entryFrame m #[.ref b, .int (Int32.ofNat o), .ref d, .int (Int32.ofNat q), .int (Int32.ofNat len)] 7)) (T7.setTop (mkF m 3 #[.val (.ref b), .val (.int (Int32.ofNat (o + (i + 1)))), .val (.ref d), .val (.int (Int32.ofNat (q + (i + 1)))), .val (.int (Int32.ofNat len)), .val (.int (Int32.ofNat (i + 1))), .val (.int (cv A (o + i)))] [])) := by
        have := c9
        rw [succ32, succ32, succ32] at this
        exact this
      exact ih (i + 1) (by omega) _ (Or.inr ⟨_, rfl, rfl⟩) T7 _ (by rw [copyLocs_step, ← List.append_assoc]; exact X7) (pl.trans p7) (fl.step (by omega) hlt (by simp)) c10
  obtain ⟨T9, B9, z9, X9, p9, f9, g9⟩ := loop len 0 (by omega) .unset (Or.inl rfl) s₁ B (by simpa [copyLocs] using X0) ⟨hB0.1, fun _ _ => rfl, rfl⟩ (Laid.zero _ _ _) c2
  have c11 : Steps p.tables e below (s₁.setTop (entryFrame m #[.ref b, .int (Int32.ofNat o), .ref d, .int (Int32.ofNat q), .int (Int32.ofNat len)] 7)) (T9.setTop (mkF m 46 #[.val (.ref b), .val (.int (Int32.ofNat (o + len))), .val (.ref d), .val (.int (Int32.ofNat (q + len))), .val (.int (Int32.ofNat len)), .val (.int (Int32.ofNat len)), z9] [.int (Int32.ofNat len)])) := g9.trans (by
    refine XS.iload X9.here hexec rfl (hb hbytes d3) rfl ?_
    refine XS.iload X9.here hexec rfl (hb hbytes d5) rfl ?_
    refine XS.icmpYes X9.here hexec rfl (pc0 := 7) rfl (hb hbytes d7) rfl (ii_ge_t (nlt32 (by omega) (Nat.le_refl _))) (by decide) rfl ?_
    refine XS.iload X9.here hexec rfl (hb hbytes d44) rfl ?_
    exact Steps.refl _)
  exact ⟨T9, some (.int (Int32.ofNat len)), _, _, _, X9, by simp, rfl, rfl, (fun h => by cases h), ⟨rfl, B9, p9.from hh0, f9⟩, fun fs hl => c11.trans (X9.ireturnOut hexec hret rfl (Or.inl rfl) (hb hbytes d46) hl)⟩
end Cmp5
namespace Cmp3
def yN : MethodName := ⟨"java/lang/StringUTF16", "compress", "([CII)[B"⟩
abbrev yB : ByteArray := jdk_52_method_16_code
theorem d0 : decode yB 0 = .ok (.iload_n 2, 1) := by decide +kernel
theorem d1 : decode yB 1 = .ok (.newarray .byte, 2) := by decide +kernel
theorem d3 : decode yB 3 = .ok (.astore_n 3, 1) := by decide +kernel
theorem d4 : decode yB 4 = .ok (.aload_n 0, 1) := by decide +kernel
theorem d5 : decode yB 5 = .ok (.iload_n 1, 1) := by decide +kernel
theorem d6 : decode yB 6 = .ok (.aload_n 3, 1) := by decide +kernel
theorem d7 : decode yB 7 = .ok (.iconst 0, 1) := by decide +kernel
theorem d8 : decode yB 8 = .ok (.iload_n 2, 1) := by decide +kernel
theorem d9 : decode yB 9 = .ok (.invokestatic 115, 3) := by decide +kernel
theorem d12 : decode yB 12 = .ok (.istore 4, 2) := by decide +kernel
theorem d14 : decode yB 14 = .ok (.iload 4, 2) := by decide +kernel
theorem d16 : decode yB 16 = .ok (.iload_n 2, 1) := by decide +kernel
theorem d17 : decode yB 17 = .ok (.if_icmp (.eq) 40, 3) := by decide +kernel
theorem d57 : decode yB 57 = .ok (.aload_n 3, 1) := by decide +kernel
theorem d58 : decode yB 58 = .ok (.areturn, 1) := by decide +kernel
def site : List Cond := [.arrayClass .byte, Cmp5.tab] ++ staticW U16 115 Cmp5.yN
def tab : Cond := tabOf yN yB 6 (some (.array .byte)) site
def P (b : Addr) (A : Cell) (o len : Nat) (args : Array Value) (s : State) : Prop := args = #[.ref b, .int (Int32.ofNat o), .int (Int32.ofNat len)] ∧ Ch b A s ∧ o + len ≤ A.slots.size ∧ len ≤ 536870912 ∧ ∀ i, i < len → ¬ 255 < cv A (o + i)
def E (b : Addr) (A : Cell) (o len : Nat) (r : Option Value) (s u : State) : Prop := NewArr .byte "[B" len (fun j => .int (lo8 (cv A (o + j)))) r s u ∧ u.heap.size = s.heap.size + 1
/-- no char of the range above 255: a new byte[] of their low bytes -/
theorem law (l : Launch) (b : Addr) (A : Cell) (o len : Nat) : Law l yN 3 3 1 18 yB 6 (some (.array .byte)) site (P b A o len) (E b A o len) [] 1 len := by
  refine Law.of_walk (plainFor_of_name (by decide +kernel)) (by decide +kernel) (by decide +kernel) (by decide) (fun _ _ h => by rw [h.1]; rfl) (fun _ U U' hal hh h => ⟨h.1, h.2.1.mv hal hh, h.2.2⟩) (fun r U U' V V' h1 hal h2 h => ⟨NewArr.mv r U U' V V' h1 hal h2 h.1, by rw [h1, h2]; exact h.2⟩) ?_
  intro p e s m args below meth c s₁ X0 hexec hbytes hml hret hlk hnm hown hh0 W hP
  obtain ⟨rfl, hA, l1, l2, hp⟩ := hP
  have a31 := hA.1.2.2.2
  have c1 : Steps p.tables e below (s₁.setTop (entryFrame m #[.ref b, .int (Int32.ofNat o), .int (Int32.ofNat len)] 6)) (s₁.setTop (mkF m 0 #[.val (.ref b), .val (.int (Int32.ofNat o)), .val (.int (Int32.ofNat len)), .unset, .unset, .unset] [])) := entry rfl
  have c2 : Steps p.tables e below (s₁.setTop (entryFrame m #[.ref b, .int (Int32.ofNat o), .int (Int32.ofNat len)] 6)) (s₁.setTop (mkF m 1 #[.val (.ref b), .val (.int (Int32.ofNat o)), .val (.int (Int32.ofNat len)), .unset, .unset, .unset] [.int (Int32.ofNat len)])) := c1.trans (by
    refine XS.iloadN X0.here hexec rfl (hb hbytes d0) rfl ?_
    exact Steps.refl _)
  obtain ⟨T3, B3, X3, ba3, bs3, bv3, bh3, bf3, st3⟩ := X0.anew hexec (atype := .byte) (wk W (.arrayClass .byte)) rfl (by show len * 1 ≤ _; omega) (by omega) (g := (mkF m 1 #[.val (.ref b), .val (.int (Int32.ofNat o)), .val (.int (Int32.ofNat len)), .unset, .unset, .unset] [.int (Int32.ofNat len)])) rfl (hb hbytes d1) (rest := []) rfl (Nat.le_refl _) (by show 0 + len ≤ len; omega)
  rw [hh0] at ba3 st3
  have kp3 : XT.Kept s T3 := (XT.Kept.of_eq hh0).push bh3
  have hA3 := hA.keep X3.warmed.alike (kp3 _ _ hA.1.1)
  have hne : b ≠ s.heap.size := hA.1.ne
  have c4 : Steps p.tables e below (s₁.setTop (entryFrame m #[.ref b, .int (Int32.ofNat o), .int (Int32.ofNat len)] 6)) (T3.setTop (mkF m 3 #[.val (.ref b), .val (.int (Int32.ofNat o)), .val (.int (Int32.ofNat len)), .unset, .unset, .unset] [.ref s.heap.size])) := c2.trans (st3 _ (Steps.refl _))
  have c5 : Steps p.tables e below (s₁.setTop (entryFrame m #[.ref b, .int (Int32.ofNat o), .int (Int32.ofNat len)] 6)) (T3.setTop (mkF m 9 #[.val (.ref b), .val (.int (Int32.ofNat o)), .val (.int (Int32.ofNat len)), .val (.ref s.heap.size), .unset, .unset] [.int (Int32.ofNat len), .int 0, .ref s.heap.size, .int (Int32.ofNat o), .ref b])) := c4.trans (by
    refine XS.astoreN X3.here hexec rfl (hb hbytes d3) rfl rfl rfl ?_
    refine XS.aloadN X3.here hexec rfl (hb hbytes d4) rfl rfl ?_
    refine XS.iloadN X3.here hexec rfl (hb hbytes d5) rfl ?_
    refine XS.aloadN X3.here hexec rfl (hb hbytes d6) rfl rfl ?_
    refine iconstV X3.here hexec rfl 0 (hb hbytes d7) (by decide) ?_
    refine XS.iloadN X3.here hexec rfl (hb hbytes d8) rfl ?_
    exact Steps.refl _)
  obtain ⟨v6, T6, X6, E6, g6⟩ := X3.callS hexec (Cmp5.law l b A s.heap.size B3 o 0 len) hown (wks W (staticW U16 115 Cmp5.yN)) (wk W Cmp5.tab) (W := 0) (Nat.le_of_ble_eq_true rfl) (Nat.le_of_ble_eq_true rfl) (Nat.le_refl _) (by show 0 + len + 0 ≤ len; omega) (g := (mkF m 9 #[.val (.ref b), .val (.int (Int32.ofNat o)), .val (.int (Int32.ofNat len)), .val (.ref s.heap.size), .unset, .unset] [.int (Int32.ofNat len), .int (Int32.ofNat 0), .ref s.heap.size, .int (Int32.ofNat o), .ref b])) rfl (by rw [hml]; rfl) c5 (argsL := [.ref b, .int (Int32.ofNat o), .ref s.heap.size, .int (Int32.ofNat 0), .int (Int32.ofNat len)]) (rest := []) rfl rfl (by show 2 * 0 + 0 ≤ _; decide) (hb hbytes d9) (⟨rfl, hA3, ba3, hne, l1, by rw [bs3]; simp, hp⟩)
  obtain ⟨rfl, B6, p6, f6⟩ := E6
  have c7 : Steps p.tables e below (s₁.setTop (entryFrame m #[.ref b, .int (Int32.ofNat o), .int (Int32.ofNat len)] 6)) (T6.setTop (mkF m 12 #[.val (.ref b), .val (.int (Int32.ofNat o)), .val (.int (Int32.ofNat len)), .val (.ref s.heap.size), .unset, .unset] [.int (Int32.ofNat len)])) := g6
  have c8 : Steps p.tables e below (s₁.setTop (entryFrame m #[.ref b, .int (Int32.ofNat o), .int (Int32.ofNat len)] 6)) (T6.setTop (mkF m 58 #[.val (.ref b), .val (.int (Int32.ofNat o)), .val (.int (Int32.ofNat len)), .val (.ref s.heap.size), .val (.int (Int32.ofNat len)), .unset] [.ref s.heap.size])) := c7.trans (by
    refine XS.istore X6.here hexec rfl (hb hbytes d12) rfl rfl ?_
    refine XS.iload X6.here hexec rfl (hb hbytes d14) rfl ?_
    refine XS.iloadN X6.here hexec rfl (hb hbytes d16) rfl ?_
    refine XS.icmpYes X6.here hexec rfl (pc0 := 17) rfl (hb hbytes d17) rfl (ii_eq_t rfl) (by decide) rfl ?_
    refine XS.aloadN X6.here hexec rfl (hb hbytes d57) rfl rfl ?_
    exact Steps.refl _)
  have X8 := X6.wide (L' := []) (cells' := 1) (slots' := len) (fun x hx hlt => by
    simp only [List.nil_append, copyLocs, List.mem_map, List.mem_range] at hx
    obtain ⟨i, -, rfl⟩ := hx
    exact absurd hlt (Nat.lt_irrefl _)) (Nat.le_refl _) (by omega)
  exact ⟨T6, some (.ref s.heap.size), _, _, _, X8, rfl, rfl, rfl, (fun h => by cases h), ⟨⟨rfl, B6, ba3.like (X3.warmed.alike.symm.trans X6.warmed.alike) p6.1 f6.1 f6.2.1 f6.2.2.1, f6.2.1.trans bv3, by rw [X6.warmed.alike.findClass, f6.1]; exact bf3, by rw [f6.2.2.1, bs3]; simp, fun j hj => by rw [f6.2.2.2 j, if_pos (by omega)]; rfl, kp3.put p6 (Nat.le_refl _)⟩, by rw [p6.2.2, bh3, hh0]; simp⟩, fun fs hl => c8.trans (X8.areturnOut hexec rfl hret rfl (hb hbytes d58) hl)⟩
end Cmp3
namespace CodL
def yN : MethodName := ⟨"java/lang/StringUTF16", "coderFromArrayLen", "([BI)B"⟩
abbrev yB : ByteArray := jdk_52_method_15_code
theorem d0 : decode yB 0 = .ok (.iload_n 1, 1) := by decide +kernel
theorem d1 : decode yB 1 = .ok (.aload_n 0, 1) := by decide +kernel
theorem d2 : decode yB 2 = .ok (.arraylength, 1) := by decide +kernel
theorem d3 : decode yB 3 = .ok (.isub, 1) := by decide +kernel
theorem d4 : decode yB 4 = .ok (.bipush 31, 2) := by decide +kernel
theorem d6 : decode yB 6 = .ok (.iushr, 1) := by decide +kernel
theorem d7 : decode yB 7 = .ok (.i2b, 1) := by decide +kernel
theorem d8 : decode yB 8 = .ok (.ireturn, 1) := by decide +kernel
def site : List Cond := []
def tab : Cond := tabOf yN yB 2 (some .byte) site
def P (d : Addr) (B : Cell) (args : Array Value) (s : State) : Prop := args = #[.ref d, .int (Int32.ofNat B.slots.size)] ∧ Arr .byte d B s
def E (r : Option Value) (s u : State) : Prop := XT.PureE (some (.int 0)) r s u
/-- an array as long as the number of chars: LATIN1 -/
theorem law (l : Launch) (d : Addr) (B : Cell) : Law l yN 2 2 0 0 yB 2 (some .byte) site (P d B) E [] 0 0 := by
  refine Law.of_walk (plainFor_of_name (by decide +kernel)) (by decide +kernel) (by decide +kernel) (by decide) (fun _ _ h => by rw [h.1]; rfl) (fun _ U U' hal hh h => ⟨h.1, h.2.mv hal hh⟩) (fun r U U' V V' h1 hal h2 h => XT.PureE.mv r U U' V V' h1 hal h2 h) ?_
  intro p e s m args below meth c s₁ X0 hexec hbytes hml hret hlk hnm hown hh0 W hP
  obtain ⟨rfl, hB⟩ := hP
  have hB0 := hB.mv X0.warmed.alike hh0
  have c1 : Steps p.tables e below (s₁.setTop (entryFrame m #[.ref d, .int (Int32.ofNat B.slots.size)] 2)) (s₁.setTop (mkF m 0 #[.val (.ref d), .val (.int (Int32.ofNat B.slots.size))] [])) := entry rfl
  have c2 : Steps p.tables e below (s₁.setTop (entryFrame m #[.ref d, .int (Int32.ofNat B.slots.size)] 2)) (s₁.setTop (mkF m 2 #[.val (.ref d), .val (.int (Int32.ofNat B.slots.size))] [.ref d, .int (Int32.ofNat B.slots.size)])) := c1.trans (by
    refine XS.iloadN X0.here hexec rfl (hb hbytes d0) rfl ?_
    refine XS.aloadN X0.here hexec rfl (hb hbytes d1) rfl rfl ?_
    exact Steps.refl _)
  have c3 : Steps p.tables e below (s₁.setTop (entryFrame m #[.ref d, .int (Int32.ofNat B.slots.size)] 2)) (s₁.setTop (mkF m 8 #[.val (.ref d), .val (.int (Int32.ofNat B.slots.size))] [.int (lo8 (ushr (Int32.ofNat B.slots.size - Int32.ofNat B.slots.size) 31))])) := c2.trans (by
    refine X0.alen hexec hB0 rfl rfl (hb hbytes d2) ?_
    refine XS.isub X0.here hexec rfl (hb hbytes d3) rfl ?_
    refine bipushV X0.here hexec rfl 31 (hb hbytes d4) (by decide) ?_
    refine iushr X0.here hexec rfl (hb hbytes d6) rfl ?_
    refine i2b X0.here hexec rfl (hb hbytes d7) rfl ?_
    exact Steps.refl _)
  have e0 : lo8 (ushr (Int32.ofNat B.slots.size - Int32.ofNat B.slots.size) 31) = 0 := by rw [Int32.sub_self]; decide
  rw [e0] at c3
  exact ⟨s₁, some (.int 0), _, _, _, X0, rfl, rfl, rfl, (fun h => by cases h), ⟨rfl, hh0⟩, fun fs hl => c3.trans (X0.ireturnOut hexec hret rfl (Or.inr (Or.inr (Or.inl rfl))) (hb hbytes d8) hl)⟩
end CodL
/-- the String at a is Latin-1 over a new byte[] (the heap's one new cell): the low bytes of the len chars of A from o on; every cell but a is kept -/
def Got (a : Addr) (D : Cell) (fV fC : Field) (A : Cell) (o len : Nat) (r : Option Value) (s u : State) : Prop := r = none ∧ ∃ D' V : Cell, Blank "java/lang/String" a D' u ∧ Same D D' [fV.slot, fC.slot] ∧ D'.slots[fV.slot]? = some (.ref s.heap.size) ∧ D'.slots[fC.slot]? = some (.int 0) ∧ Arr .byte s.heap.size V u ∧ V.vm = .none ∧ u.vm.findClass "[B" = some V.cls ∧ V.slots.size = len ∧ (∀ j, j < len → V.slots[j]? = some (.int (lo8 (cv A (o + j))))) ∧ (∀ (y : Addr) (c : Cell), y ≠ a → s.heap[y]? = some c → u.heap[y]? = some c) ∧ u.heap.size = s.heap.size + 1
theorem Got.mv {a : Addr} {D A : Cell} {fV fC : Field} {o len : Nat} : ∀ r (U U' V V' : State), U'.heap = U.heap → V.vm.Alike V'.vm → V'.heap = V.heap → Got a D fV fC A o len r U V → Got a D fV fC A o len r U' V' :=
  fun r U U' V V' h1 hal h2 ⟨e0, D', X, a1, a2, a3, a4, a5, a6, a7, a8, a9, a10, a11⟩ => ⟨e0, D', X, a1.mv hal h2, a2, by rw [h1]; exact a3, a4, by rw [h1]; exact a5.mv hal h2, a6, by rw [hal.findClass]; exact a7, a8, a9, by rw [h1, h2]; exact a10, by rw [h1, h2]; exact a11⟩
namespace New4
def yN : MethodName := ⟨"java/lang/String", "<init>", "([CIILjava/lang/Void;)V"⟩
abbrev yB : ByteArray := jdk_42_method_149_code
theorem d0 : decode yB 0 = .ok (.aload_n 0, 1) := by decide +kernel
theorem d1 : decode yB 1 = .ok (.invokespecial 1, 3) := by decide +kernel
theorem d4 : decode yB 4 = .ok (.iload_n 3, 1) := by decide +kernel
theorem d5 : decode yB 5 = .ok (.ifCond (.ne) 22, 3) := by decide +kernel
theorem d27 : decode yB 27 = .ok (.getstatic 38, 3) := by decide +kernel
theorem d30 : decode yB 30 = .ok (.ifCond (.eq) 28, 3) := by decide +kernel
theorem d33 : decode yB 33 = .ok (.aload_n 1, 1) := by decide +kernel
theorem d34 : decode yB 34 = .ok (.iload_n 2, 1) := by decide +kernel
theorem d35 : decode yB 35 = .ok (.iload_n 3, 1) := by decide +kernel
theorem d36 : decode yB 36 = .ok (.invokestatic 177, 3) := by decide +kernel
theorem d39 : decode yB 39 = .ok (.astore 5, 2) := by decide +kernel
theorem d41 : decode yB 41 = .ok (.aload_n 0, 1) := by decide +kernel
theorem d42 : decode yB 42 = .ok (.aload 5, 2) := by decide +kernel
theorem d44 : decode yB 44 = .ok (.iload_n 3, 1) := by decide +kernel
theorem d45 : decode yB 45 = .ok (.invokestatic 47, 3) := by decide +kernel
theorem d48 : decode yB 48 = .ok (.putfield 15, 3) := by decide +kernel
theorem d51 : decode yB 51 = .ok (.aload_n 0, 1) := by decide +kernel
theorem d52 : decode yB 52 = .ok (.aload 5, 2) := by decide +kernel
theorem d54 : decode yB 54 = .ok (.putfield 9, 3) := by decide +kernel
theorem d57 : decode yB 57 = .ok (.return_, 1) := by decide +kernel
def site : List Cond := [.fieldLink "java/lang/String" 38 "java/lang/String" "COMPACT_STRINGS" "Z", Cmp3.tab, CodL.tab, .laysFinal "java/lang/String" "java/lang/String" "value" "[B", .fieldLink "java/lang/String" 9 "java/lang/String" "value" "[B", .laysFinal "java/lang/String" "java/lang/String" "coder" "B", .fieldLink "java/lang/String" 15 "java/lang/String" "coder" "B"] ++ objW "java/lang/String" 1 ++ staticW "java/lang/String" 177 Cmp3.yN ++ staticW "java/lang/String" 47 CodL.yN
def tab : Cond := tabOf yN yB 6 none site
def P (a : Addr) (D : Cell) (fV fC : Field) (b : Addr) (A : Cell) (z : Int32) (o len : Nat) (args : Array Value) (s : State) : Prop := args = #[.ref a, .ref b, .int (Int32.ofNat o), .int (Int32.ofNat len), .null] ∧ Blank "java/lang/String" a D s ∧ Found "java/lang/String" "value" "[B" fV s ∧ Found "java/lang/String" "coder" "B" fC s ∧ Ch b A s ∧ StaticIs s "java/lang/String" "COMPACT_STRINGS" "Z" (.int z) ∧ ¬ z = 0 ∧ 0 < len ∧ o + len ≤ A.slots.size ∧ len ≤ 536870912 ∧ ∀ i, i < len → ¬ 255 < cv A (o + i)
def E (a : Addr) (D : Cell) (fV fC : Field) (A : Cell) (o len : Nat) (r : Option Value) (s u : State) : Prop := Got a D fV fC A o len r s u
/-- len > 0, no char of the range above 255: a Latin-1 String of their low bytes -/
theorem law (l : Launch) (a : Addr) (D : Cell) (fV fC : Field) (b : Addr) (A : Cell) (z : Int32) (o len : Nat) : Law l yN 5 4 2 35 yB 6 none site (P a D fV fC b A z o len) (E a D fV fC A o len) [⟨a, fC.slot⟩, ⟨a, fV.slot⟩] 1 len := by
  refine Law.of_walk (plainFor_of_name (by decide +kernel)) (by decide +kernel) (by decide +kernel) (by decide) (fun _ _ h => by rw [h.1]; rfl) (fun _ U U' hal hh h => ⟨h.1, h.2.1.mv hal hh, h.2.2.1.al hal, h.2.2.2.1.al hal, h.2.2.2.2.1.mv hal hh, h.2.2.2.2.2.1.there hal hh, h.2.2.2.2.2.2⟩) (fun r U U' V V' h1 hal h2 h => Got.mv r U U' V V' h1 hal h2 h) ?_
  intro p e s m args below meth c s₁ X0 hexec hbytes hml hret hlk hnm hown hh0 W hP
  obtain ⟨rfl, hB, f1, f2, hA, s1, hz, l0, l1, l2, hp⟩ := hP
  have a31 := hA.1.2.2.2
  have c1 : Steps p.tables e below (s₁.setTop (entryFrame m #[.ref a, .ref b, .int (Int32.ofNat o), .int (Int32.ofNat len), .null] 6)) (s₁.setTop (mkF m 0 #[.val (.ref a), .val (.ref b), .val (.int (Int32.ofNat o)), .val (.int (Int32.ofNat len)), .val .null, .unset] [])) := entry rfl
  have c2 : Steps p.tables e below (s₁.setTop (entryFrame m #[.ref a, .ref b, .int (Int32.ofNat o), .int (Int32.ofNat len), .null] 6)) (s₁.setTop (mkF m 1 #[.val (.ref a), .val (.ref b), .val (.int (Int32.ofNat o)), .val (.int (Int32.ofNat len)), .val .null, .unset] [.ref a])) := c1.trans (by
    refine XS.aloadN X0.here hexec rfl (hb hbytes d0) rfl rfl ?_
    exact Steps.refl _)
  obtain ⟨T3, X3, q3, st3⟩ := X0.oinit hexec hown (wks W (objW "java/lang/String" 1)) (g := (mkF m 1 #[.val (.ref a), .val (.ref b), .val (.int (Int32.ofNat o)), .val (.int (Int32.ofNat len)), .val .null, .unset] [.ref a])) rfl (by rw [hml]; rfl) (rest := []) rfl (hb hbytes d1) (W := 0) (by show 2 * 0 + 0 ≤ _; decide) (Nat.le_of_ble_eq_true rfl) (Nat.le_of_ble_eq_true rfl)
  have hh3 := q3.trans hh0
  have c4 : Steps p.tables e below (s₁.setTop (entryFrame m #[.ref a, .ref b, .int (Int32.ofNat o), .int (Int32.ofNat len), .null] 6)) (T3.setTop (mkF m 27 #[.val (.ref a), .val (.ref b), .val (.int (Int32.ofNat o)), .val (.int (Int32.ofNat len)), .val .null, .unset] [])) := (c2.trans (st3 _ (Steps.refl _))).trans (by
    refine XS.iloadN X3.here hexec rfl (hb hbytes d4) rfl ?_
    refine XS.ifYes X3.here hexec rfl (pc0 := 5) rfl (hb hbytes d5) rfl (i0_ne_t (nz32 (by omega) l0)) (by decide) rfl ?_
    exact Steps.refl _)
  obtain ⟨T5, X5, q5, st5⟩ := X3.sget hexec hown (wk W (.fieldLink "java/lang/String" 38 "java/lang/String" "COMPACT_STRINGS" "Z")) s1 (fun _ _ h => by rw [hh3]; exact h) (g := (mkF m 27 #[.val (.ref a), .val (.ref b), .val (.int (Int32.ofNat o)), .val (.int (Int32.ofNat len)), .val .null, .unset] [])) rfl (hb hbytes d27)
  have hh5 := q5.trans hh3
  have c6 : Steps p.tables e below (s₁.setTop (entryFrame m #[.ref a, .ref b, .int (Int32.ofNat o), .int (Int32.ofNat len), .null] 6)) (T5.setTop (mkF m 30 #[.val (.ref a), .val (.ref b), .val (.int (Int32.ofNat o)), .val (.int (Int32.ofNat len)), .val .null, .unset] [.int z])) := c4.trans (st5 _ (Steps.refl _))
  have c7 : Steps p.tables e below (s₁.setTop (entryFrame m #[.ref a, .ref b, .int (Int32.ofNat o), .int (Int32.ofNat len), .null] 6)) (T5.setTop (mkF m 36 #[.val (.ref a), .val (.ref b), .val (.int (Int32.ofNat o)), .val (.int (Int32.ofNat len)), .val .null, .unset] [.int (Int32.ofNat len), .int (Int32.ofNat o), .ref b])) := c6.trans (by
    refine XS.ifNo X5.here hexec rfl (hb hbytes d30) rfl (i0_eq_f hz) ?_
    refine XS.aloadN X5.here hexec rfl (hb hbytes d33) rfl rfl ?_
    refine XS.iloadN X5.here hexec rfl (hb hbytes d34) rfl ?_
    refine XS.iloadN X5.here hexec rfl (hb hbytes d35) rfl ?_
    exact Steps.refl _)
  obtain ⟨v8, T8, X8, E8, g8⟩ := X5.callS hexec (Cmp3.law l b A o len) hown (wks W (staticW "java/lang/String" 177 Cmp3.yN)) (wk W Cmp3.tab) (W := 0) (Nat.le_of_ble_eq_true rfl) (Nat.le_of_ble_eq_true rfl) (Nat.le_refl _) (by show 0 + len ≤ len; omega) (g := (mkF m 36 #[.val (.ref a), .val (.ref b), .val (.int (Int32.ofNat o)), .val (.int (Int32.ofNat len)), .val .null, .unset] [.int (Int32.ofNat len), .int (Int32.ofNat o), .ref b])) rfl (by rw [hml]; rfl) c7 (argsL := [.ref b, .int (Int32.ofNat o), .int (Int32.ofNat len)]) (rest := []) rfl rfl (by show 2 * 0 + 0 ≤ _; decide) (hb hbytes d36) (⟨rfl, hA.mv X5.warmed.alike hh5, l1, l2, hp⟩)
  obtain ⟨e8, z8⟩ := E8
  obtain ⟨rfl, N, n1, n2, n3, n4, n5, n6⟩ := NewArr.mv _ T5 s _ _ hh5.symm (Vm.Alike.refl _) rfl e8
  rw [hh5] at z8
  have hB1 := hB.keep X8.warmed.alike (n6 _ _ hB.1)
  have hne : s.heap.size ≠ a := (Nat.ne_of_lt (Array.getElem?_eq_some_iff.mp hB.1).1).symm
  have c9 : Steps p.tables e below (s₁.setTop (entryFrame m #[.ref a, .ref b, .int (Int32.ofNat o), .int (Int32.ofNat len), .null] 6)) (T8.setTop (mkF m 39 #[.val (.ref a), .val (.ref b), .val (.int (Int32.ofNat o)), .val (.int (Int32.ofNat len)), .val .null, .unset] [.ref s.heap.size])) := g8
  have c10 : Steps p.tables e below (s₁.setTop (entryFrame m #[.ref a, .ref b, .int (Int32.ofNat o), .int (Int32.ofNat len), .null] 6)) (T8.setTop (mkF m 45 #[.val (.ref a), .val (.ref b), .val (.int (Int32.ofNat o)), .val (.int (Int32.ofNat len)), .val .null, .val (.ref s.heap.size)] [.int (Int32.ofNat N.slots.size), .ref s.heap.size, .ref a])) := by
    have hc : Steps p.tables e below (s₁.setTop (entryFrame m #[.ref a, .ref b, .int (Int32.ofNat o), .int (Int32.ofNat len), .null] 6)) (T8.setTop (mkF m 45 #[.val (.ref a), .val (.ref b), .val (.int (Int32.ofNat o)), .val (.int (Int32.ofNat len)), .val .null, .val (.ref s.heap.size)] [.int (Int32.ofNat len), .ref s.heap.size, .ref a])) := c9.trans (by
      refine XS.astore X8.here hexec rfl (hb hbytes d39) rfl rfl rfl ?_
      refine XS.aloadN X8.here hexec rfl (hb hbytes d41) rfl rfl ?_
      refine XS.aload X8.here hexec rfl (hb hbytes d42) rfl rfl ?_
      refine XS.iloadN X8.here hexec rfl (hb hbytes d44) rfl ?_
      exact Steps.refl _)
    rw [n4]; exact hc
  obtain ⟨v11, T11, X11, E11, g11⟩ := X8.callS hexec (CodL.law l s.heap.size N) hown (wks W (staticW "java/lang/String" 47 CodL.yN)) (wk W CodL.tab) (W := 1) (Nat.le_of_ble_eq_true rfl) (Nat.le_of_ble_eq_true rfl) (Nat.le_refl _) (by show 0 + len + 0 ≤ len; omega) (g := (mkF m 45 #[.val (.ref a), .val (.ref b), .val (.int (Int32.ofNat o)), .val (.int (Int32.ofNat len)), .val .null, .val (.ref s.heap.size)] [.int (Int32.ofNat N.slots.size), .ref s.heap.size, .ref a])) rfl (by rw [hml]; rfl) c10 (argsL := [.ref s.heap.size, .int (Int32.ofNat N.slots.size)]) (rest := [.ref a]) rfl rfl (by show 2 * 0 + (1 + 0) ≤ _; decide) (hb hbytes d45) (⟨rfl, n1⟩)
  obtain ⟨rfl, q11⟩ := E11
  have hB11 := hB1.mv (X8.warmed.alike.symm.trans X11.warmed.alike) q11
  have c12 : Steps p.tables e below (s₁.setTop (entryFrame m #[.ref a, .ref b, .int (Int32.ofNat o), .int (Int32.ofNat len), .null] 6)) (T11.setTop (mkF m 48 #[.val (.ref a), .val (.ref b), .val (.int (Int32.ofNat o)), .val (.int (Int32.ofNat len)), .val .null, .val (.ref s.heap.size)] [.int 0, .ref a])) := g11
  obtain ⟨T13, X13, p13, bl13, sl13, st13⟩ := X11.finit hexec hown (wk W (.fieldLink "java/lang/String" 15 "java/lang/String" "coder" "B")) (Or.inr ⟨_, (wk W (.laysFinal "java/lang/String" "java/lang/String" "coder" "B"))⟩) (Or.inl ⟨rfl, hnm⟩) f2 (Or.inl rfl) hB11 (t := .byte) (by decide +kernel) rfl (g := (mkF m 48 #[.val (.ref a), .val (.ref b), .val (.int (Int32.ofNat o)), .val (.int (Int32.ofNat len)), .val .null, .val (.ref s.heap.size)] [.int 0, .ref a])) rfl (rest := []) rfl (hb hbytes d48)
  have c14 : Steps p.tables e below (s₁.setTop (entryFrame m #[.ref a, .ref b, .int (Int32.ofNat o), .int (Int32.ofNat len), .null] 6)) (T13.setTop (mkF m 54 #[.val (.ref a), .val (.ref b), .val (.int (Int32.ofNat o)), .val (.int (Int32.ofNat len)), .val .null, .val (.ref s.heap.size)] [.ref s.heap.size, .ref a])) := (c12.trans (st13 _ (Steps.refl _))).trans (by
    refine XS.aloadN X13.here hexec rfl (hb hbytes d51) rfl rfl ?_
    refine XS.aload X13.here hexec rfl (hb hbytes d52) rfl rfl ?_
    exact Steps.refl _)
  obtain ⟨T15, X15, p15, bl15, sl15, st15⟩ := X13.finit hexec hown (wk W (.fieldLink "java/lang/String" 9 "java/lang/String" "value" "[B")) (Or.inr ⟨_, (wk W (.laysFinal "java/lang/String" "java/lang/String" "value" "[B"))⟩) (Or.inl ⟨rfl, hnm⟩) f1 (Or.inl rfl) bl13 (t := (.array .byte)) (by decide +kernel) rfl (g := (mkF m 54 #[.val (.ref a), .val (.ref b), .val (.int (Int32.ofNat o)), .val (.int (Int32.ofNat len)), .val .null, .val (.ref s.heap.size)] [.ref s.heap.size, .ref a])) rfl (rest := []) rfl (hb hbytes d54)
  have c16 : Steps p.tables e below (s₁.setTop (entryFrame m #[.ref a, .ref b, .int (Int32.ofNat o), .int (Int32.ofNat len), .null] 6)) (T15.setTop (mkF m 57 #[.val (.ref a), .val (.ref b), .val (.int (Int32.ofNat o)), .val (.int (Int32.ofNat len)), .val .null, .val (.ref s.heap.size)] [])) := c14.trans (st15 _ (Steps.refl _))
  have ap := apart (Or.inr ⟨_, (wk W (.laysFinal "java/lang/String" "java/lang/String" "value" "[B"))⟩) (Or.inr ⟨_, (wk W (.laysFinal "java/lang/String" "java/lang/String" "coder" "B"))⟩) f1 f2 (t₁ := .array .byte) (t₂ := .byte) (by decide +kernel) (by decide +kernel) (by decide)
  have al := X8.warmed.alike.symm.trans X15.warmed.alike
  have n7 : T11.heap[s.heap.size]? = some N := by rw [q11]; exact n1.1
  exact ⟨T15, none, _, _, _, X15, by simp, rfl, by omega, (fun _ => rfl), ⟨rfl, _, N, bl15, ((Same.refl D _).set _ (by simp)).set _ (by simp), sl15, (Cell.slots_setSlot_ne _ ap).trans sl13, n1.keep al (p15.other hne (p13.other hne n7)), n2, by rw [al.findClass]; exact n3, n4, n5, fun y c h1 h2 => p15.other h1 (p13.other h1 (by rw [q11]; exact n6 y c h2)), by rw [p15.2.2, p13.2.2, q11]; exact z8⟩, fun fs hl => c16.trans (X15.returnOut hexec hret (hb hbytes d57) hl)⟩
end New4
namespace New1
def yN : MethodName := ⟨"java/lang/String", "<init>", "([C)V"⟩
abbrev yB : ByteArray := jdk_42_method_3_code
theorem d0 : decode yB 0 = .ok (.aload_n 0, 1) := by decide +kernel
theorem d1 : decode yB 1 = .ok (.aload_n 1, 1) := by decide +kernel
theorem d2 : decode yB 2 = .ok (.iconst 0, 1) := by decide +kernel
theorem d3 : decode yB 3 = .ok (.aload_n 1, 1) := by decide +kernel
theorem d4 : decode yB 4 = .ok (.arraylength, 1) := by decide +kernel
theorem d5 : decode yB 5 = .ok (.aconst_null, 1) := by decide +kernel
theorem d6 : decode yB 6 = .ok (.invokespecial 27, 3) := by decide +kernel
theorem d9 : decode yB 9 = .ok (.return_, 1) := by decide +kernel
def site : List Cond := [New4.tab] ++ initW "java/lang/String" 27 New4.yN
def tab : Cond := tabOf yN yB 2 none site
def P (a : Addr) (D : Cell) (fV fC : Field) (b : Addr) (A : Cell) (z : Int32) (args : Array Value) (s : State) : Prop := args = #[.ref a, .ref b] ∧ Blank "java/lang/String" a D s ∧ Found "java/lang/String" "value" "[B" fV s ∧ Found "java/lang/String" "coder" "B" fC s ∧ Ch b A s ∧ StaticIs s "java/lang/String" "COMPACT_STRINGS" "Z" (.int z) ∧ ¬ z = 0 ∧ 0 < A.slots.size ∧ A.slots.size ≤ 536870912 ∧ ∀ i, i < A.slots.size → ¬ 255 < cv A i
def E (a : Addr) (D : Cell) (fV fC : Field) (A : Cell) (r : Option Value) (s u : State) : Prop := Got a D fV fC A 0 A.slots.size r s u
/-- new String(chars), not empty, no char above 255: a Latin-1 String of their low bytes -/
theorem law (l : Launch) (a : Addr) (D : Cell) (fV fC : Field) (b : Addr) (A : Cell) (z : Int32) : Law l yN 2 1 3 52 yB 2 none site (P a D fV fC b A z) (E a D fV fC A) [⟨a, fC.slot⟩, ⟨a, fV.slot⟩] 1 A.slots.size := by
  refine Law.of_walk (plainFor_of_name (by decide +kernel)) (by decide +kernel) (by decide +kernel) (by decide) (fun _ _ h => by rw [h.1]; rfl) (fun _ U U' hal hh h => ⟨h.1, h.2.1.mv hal hh, h.2.2.1.al hal, h.2.2.2.1.al hal, h.2.2.2.2.1.mv hal hh, h.2.2.2.2.2.1.there hal hh, h.2.2.2.2.2.2⟩) (fun r U U' V V' h1 hal h2 h => Got.mv r U U' V V' h1 hal h2 h) ?_
  intro p e s m args below meth c s₁ X0 hexec hbytes hml hret hlk hnm hown hh0 W hP
  obtain ⟨rfl, hB, f1, f2, hA, s1, hz, l0, l2, hp⟩ := hP
  have c1 : Steps p.tables e below (s₁.setTop (entryFrame m #[.ref a, .ref b] 2)) (s₁.setTop (mkF m 0 #[.val (.ref a), .val (.ref b)] [])) := entry rfl
  have c2 : Steps p.tables e below (s₁.setTop (entryFrame m #[.ref a, .ref b] 2)) (s₁.setTop (mkF m 6 #[.val (.ref a), .val (.ref b)] [.null, .int (Int32.ofNat A.slots.size), .int 0, .ref b, .ref a])) := c1.trans (by
    refine XS.aloadN X0.here hexec rfl (hb hbytes d0) rfl rfl ?_
    refine XS.aloadN X0.here hexec rfl (hb hbytes d1) rfl rfl ?_
    refine iconstV X0.here hexec rfl 0 (hb hbytes d2) (by decide) ?_
    refine XS.aloadN X0.here hexec rfl (hb hbytes d3) rfl rfl ?_
    refine X0.alen hexec (hA.1.mv X0.warmed.alike hh0) rfl rfl (hb hbytes d4) ?_
    refine XS.aconstNull X0.here hexec rfl (hb hbytes d5) ?_
    exact Steps.refl _)
  obtain ⟨v3, T3, X3, E3, g3⟩ := X0.callN hexec (New4.law l a D fV fC b A z 0 A.slots.size) rfl hown (wks W (initW "java/lang/String" 27 New4.yN)) (W New4.tab (by simp only [site, List.mem_cons, List.mem_append, true_or, or_true])) (W := 0) (Nat.le_of_ble_eq_true rfl) (Nat.le_of_ble_eq_true rfl) (Nat.le_refl _) (by show 0 + A.slots.size ≤ A.slots.size; omega) (g := (mkF m 6 #[.val (.ref a), .val (.ref b)] [.null, .int (Int32.ofNat A.slots.size), .int (Int32.ofNat 0), .ref b, .ref a])) rfl (by rw [hml]; rfl) c2 (argsL := [.ref b, .int (Int32.ofNat 0), .int (Int32.ofNat A.slots.size), .null]) (rest := []) rfl rfl (by show 2 * 0 + 0 ≤ _; decide) (hb hbytes d6) (⟨rfl, hB.mv X0.warmed.alike hh0, f1.al X0.warmed.alike, f2.al X0.warmed.alike, hA.mv X0.warmed.alike hh0, s1.there X0.warmed.alike hh0, hz, l0, by omega, l2, fun i hi => by rw [Nat.zero_add]; exact hp i hi⟩)
  have e0 := Got.mv _ s₁ s _ _ hh0.symm (Vm.Alike.refl _) rfl E3
  obtain rfl := e0.1
  have c4 : Steps p.tables e below (s₁.setTop (entryFrame m #[.ref a, .ref b] 2)) (T3.setTop (mkF m 9 #[.val (.ref a), .val (.ref b)] [])) := g3
  exact ⟨T3, none, _, _, _, X3, by simp, rfl, by omega, (fun _ => rfl), e0, fun fs hl => c4.trans (X3.returnOut hexec hret (hb hbytes d9) hl)⟩
theorem pays {l : Launch} {R : Room} {p : Program} {e : Env} {below : List Frame} {s : State} {sargs : Array Value} {len W : Nat} (a : Addr) (D : Cell) (fV fC : Field) (b : Addr) (A : Cell) (z : Int32) (htab : tab.before sargs s = true) (hfr : 4 ≤ R.frames) (hlo : W + 65 ≤ R.locals) :
    Back l R p e below s sargs yN len W (fun A₁ a₁ => A₁.cells + 1 ≤ R.cells ∧ A₁.slots + A.slots.size ≤ R.slots ∧ P a D fV fC b A z a₁ A₁.U) (fun A₁ _ v₁ B₁ => E a D fV fC A v₁ A₁.U B₁.U ∧ B₁.locs = A₁.locs ++ [⟨a, fC.slot⟩, ⟨a, fV.slot⟩] ∧ B₁.cells = A₁.cells + 1 ∧ B₁.slots = A₁.slots + A.slots.size) :=
  (law l a D fV fC b A z).pays htab hfr (by omega)
end New1
/-- the byte, read back as charAt reads it, is the char -/
theorem lo8_mask {x : Int32} (h0 : ¬ x < 0) (h1 : ¬ 255 < x) : lo8 x &&& 255 = x := by
  have t : ∀ k : Fin 256, lo8 (Int32.ofNat k.val) &&& 255 = Int32.ofNat k.val := by decide +kernel
  rw [Int32.lt_iff_toInt_lt] at h0 h1
  have e0 : (0 : Int32).toInt = 0 := rfl
  have e1 : (255 : Int32).toInt = 255 := rfl
  obtain ⟨k, hk⟩ : ∃ k : Nat, x.toInt = k := ⟨x.toInt.toNat, by omega⟩
  have hx : x = Int32.ofNat k := Int32.toInt_inj.mp (by rw [hk, Int32.toInt_ofNat_small (by omega)])
  rw [hx]
  exact t ⟨k, by omega⟩
end StrChars
namespace StrChars.Road
open Jvm Sem ClassFile Op Lib Jvm.Stand Jvm.Free Jvm.Free.XT
open Jvm.Lib.Cold (StaticIs)
abbrev ST : String := "java/lang/String"
/-- every table word that New1's law asks, flat -/
abbrev words : List Jvm.Cond := [.code New1.yN New1.yB 2 none, .initialized ST, .methodLink ST 27 New4.yN, .instanceMethod New4.yN,
  .code New4.yN New4.yB 6 none, .fieldLink ST 38 ST "COMPACT_STRINGS" "Z", .laysFinal ST ST "value" "[B", .fieldLink ST 9 ST "value" "[B", .laysFinal ST ST "coder" "B", .fieldLink ST 15 ST "coder" "B",
  .methodLink ST 1 Lib.objectInit, .instanceMethod Lib.objectInit, .code Lib.objectInit ⟨#[0xb1]⟩ 1 none, .methodLink ST 177 Cmp3.yN, .static Cmp3.yN, .methodLink ST 47 CodL.yN, .static CodL.yN,
  .code Cmp3.yN Cmp3.yB 6 (some (.array .byte)), .initialized U16, .arrayClass .byte, .methodLink U16 115 Cmp5.yN, .static Cmp5.yN, .code Cmp5.yN Cmp5.yB 7 (some .int), .code CodL.yN CodL.yB 2 (some .byte)]
theorem tab_of {a : Array Value} {s : State} (h : ∀ w ∈ words, w.before a s = true) : New1.tab.before a s = true := by
  have h5 : Cmp5.tab.before a s = true := unparts (wk h (.code Cmp5.yN Cmp5.yB 7 (some .int))) (wks h (.initialized Cmp5.yN.cls :: Cmp5.site))
  have hc : CodL.tab.before a s = true := unparts (wk h (.code CodL.yN CodL.yB 2 (some .byte))) (wks h (.initialized CodL.yN.cls :: CodL.site))
  have q5 : ∀ w ∈ Cmp5.tab :: words, w.before a s = true := fun w hw => (List.mem_cons.mp hw).elim (fun e => e ▸ h5) (h w)
  have h3 : Cmp3.tab.before a s = true := unparts (wk q5 (.code Cmp3.yN Cmp3.yB 6 (some (.array .byte)))) (wks q5 (.initialized Cmp3.yN.cls :: Cmp3.site))
  have q3 : ∀ w ∈ Cmp3.tab :: CodL.tab :: words, w.before a s = true := fun w hw => (List.mem_cons.mp hw).elim (fun e => e ▸ h3) fun hw => (List.mem_cons.mp hw).elim (fun e => e ▸ hc) (h w)
  have h4 : New4.tab.before a s = true := unparts (wk q3 (.code New4.yN New4.yB 6 none)) (wks q3 (.initialized New4.yN.cls :: New4.site))
  have q4 : ∀ w ∈ New4.tab :: words, w.before a s = true := fun w hw => (List.mem_cons.mp hw).elim (fun e => e ▸ h4) (h w)
  exact unparts (wk q4 (.code New1.yN New1.yB 2 none)) (wks q4 (.initialized New1.yN.cls :: New1.site))
/-- the words ride from the start Z to the walk's own state -/
theorem moved {Z s : State} {a0 args : Array Value} (hZ : Z.Warmed39 s.vm) (hw : ∀ d ∈ words, d.before a0 Z = true) : ∀ d ∈ words, d.before args s = true := fun d hd => by
  have q := hw d hd
  have t : ∀ d ∈ words, d = .arrayClass .byte ∨ (d.onTables && d.keepsFace) = true := by decide +kernel
  rcases t d hd with rfl | t
  · exact RoadKit.mvA hZ q
  · exact RoadKit.mv hZ q t
/-- WHAT COMES BACK, over the tables of the start Z: h the heap at the call, h' behind it -/
def Q (Z : State) (x : Addr) (A : Cell) (h : Heap) (v : Option Value) (h' : Heap) (L : List Loc) : Prop := v = none ∧ (∀ y ∈ L, y.base = x) ∧ RoadKit.Keep h h' [x] ∧ h'.size = h.size + 1 ∧ RoadKit.Exa Z h' x ST ∧ RoadKit.Fld Z h' x ST "value" "[B" (.ref h.size) ∧ RoadKit.Fld Z h' x ST "coder" "B" (.int 0) ∧
  (∃ V : Cell, RoadKit.Arr Z h' h.size V .byte ∧ V.vm = .none ∧ Z.vm.findClass "[B" = some V.cls ∧ V.slots.size = A.slots.size ∧ ∀ j, j < A.slots.size → V.slots[j]? = some (.int (lo8 (cv A j)))) ∧
  ∀ (O n d : String) (w : Value), RoadKit.Fld Z h x O n d w → RoadKit.slotOf Z O n d ≠ RoadKit.slotOf Z ST "value" "[B" → RoadKit.slotOf Z O n d ≠ RoadKit.slotOf Z ST "coder" "B" → RoadKit.Fld Z h' x O n d w
/-- **new String(chars) AT A CALL, IN THE ROAD'S FORM**: for specialBack behind newO: x the fresh String, b the char[] with the cell A -/
theorem back {p : Program} {l : Launch} {e : Env} {R : Room} {s : State} {args : Array Value} {below : List Frame} {len W : Nat} {Z : State} {a0 : Array Value} {h : Heap} (hZ : Z.Warmed39 s.vm) (hw : ∀ d ∈ words, d.before a0 Z = true) {kI : Nat} (wi : (Jvm.Cond.instantiable ST kI).before a0 Z = true)
    {x b : Addr} {A : Cell} {z : Int32} {v0 c0 : Value} (E : RoadKit.Exa Z h x ST) (V : RoadKit.Fld Z h x ST "value" "[B" v0) (C : RoadKit.Fld Z h x ST "coder" "B" c0) (K : RoadKit.Arr Z h b A .char) (hty : Typed .char A) (S : RoadKit.Sta Z h ST "COMPACT_STRINGS" "Z" (.int z)) (hz : ¬ z = 0)
    (l0 : 0 < A.slots.size) (l2 : A.slots.size ≤ 536870912) (hp : ∀ i, i < A.slots.size → ¬ 255 < cv A i) (hfr : 4 ≤ R.frames) (hlo : W + 65 ≤ R.locals) :
    Back l R p e below s args New1.yN len W (fun P a => a = #[.ref x, .ref b] ∧ P.U.heap = h ∧ P.cells + 1 ≤ R.cells ∧ P.slots + A.slots.size ≤ R.slots)
      (fun P _ v B => ∃ L, Q Z x A h v B.U.heap L ∧ B.locs = P.locs ++ L ∧ B.cells = P.cells + 1 ∧ B.slots = P.slots + A.slots.size) := by
  intro m meth c P g ig mk a X hg hsize hdg hW hn hp'
  obtain ⟨rfl, rfl, r1, r2⟩ := hp'
  have al : Z.vm.Alike P.U.vm := hZ.alike.trans X.warmed.alike
  obtain ⟨D, cfV, kV, iV, fV, hD, gV, stV, knV, obV, asV, slV⟩ := id V
  obtain ⟨D', cfC, kC, iC, fC, hD', gC, stC, -, -, asC, slC⟩ := id C
  cases hD.symm.trans hD'
  obtain ⟨D2, kD, e1, e2, e3, e4, e5⟩ := id E
  cases hD.symm.trans e1
  obtain ⟨c2, k2, i1, i2, i3, -⟩ := Cond.instantiable_spec wi
  cases e2.symm.trans i1
  cases e3.symm.trans i2
  obtain ⟨kU, u1, u2⟩ := al.2.2 _ _ e3
  have hB : Blank ST x D P.U := ⟨hD, ⟨knV, fun q hq => by rw [hq] at obV; cases obV⟩, by rw [al.findClass]; exact e2, kU, u1, by rw [u2]; exact i3, by rw [u2]; exact e5 i3⟩
  have F1 : Found ST "value" "[B" fV P.U := ⟨SBG.found_only al ⟨cfV, kV, iV, gV⟩, stV⟩
  have F2 : Found ST "coder" "B" fC P.U := ⟨SBG.found_only al ⟨cfC, kC, iC, gC⟩, stC⟩
  have hA : Ch b A P.U := ⟨⟨K.1, State.isArrayOf_alike al K.2.1, K.2.2, by omega⟩, hty⟩
  have hS : StaticIs P.U ST "COMPACT_STRINGS" "Z" (.int z) := by
    obtain ⟨cfS, iS, kS, fS, st, cS, t1, t2, t3, t4, t5, t6, t7⟩ := S
    exact StaticIs.there (s := { Z with heap := P.U.heap }) ⟨cfS, iS, kS, fS, st, cS, t1, t2, t3, t4, t5, (fun q => by rw [q] at t6; cases t6), t7⟩ al rfl
  obtain ⟨v, B, X', ⟨⟨hv, E', V', q1, q2, q3, q4, q5, q6, q7, q8, q9, q10, q11⟩, hl, hc, hs⟩, st⟩ := New1.pays x D fV fC b A z (tab_of (moved hZ hw)) hfr hlo m meth c P g ig mk _ X hg hsize hdg hW hn ⟨r1, r2, rfl, hB, F1, F2, hA, hS, hz, l0, l2, hp⟩
  have al' : Z.vm.Alike B.U.vm := hZ.alike.trans X'.warmed.alike
  have hsz : E'.slots.size = D.slots.size := by
    obtain ⟨-, -, -, kB, w1, w2, w3⟩ := q1
    obtain ⟨kB', y1, y2⟩ := al'.2.2 _ _ e3
    rw [q2.2.1] at w1
    cases w1.symm.trans y1
    rw [w3, e5 i3, y2]
  refine ⟨v, B, X', ⟨_, ⟨hv, ?_, ⟨by omega, fun y cy hy hn' => q10 y cy (by simpa using hn') hy, fun y cy hy => ?_⟩, q11, ⟨E', _, q1.1, by rw [q2.2.1]; exact e2, by rw [q2.2.1]; exact e3, by rw [q2.1]; exact obV, fun _ => by rw [hsz]; exact e5 i3⟩,
    ⟨E', cfV, kV, iV, fV, q1.1, gV, stV, by rw [q2.1]; exact knV, by rw [q2.1]; exact obV, by rw [q2.2.1]; exact asV, q3⟩, ⟨E', cfC, kC, iC, fC, q1.1, gC, stC, by rw [q2.1]; exact knV, by rw [q2.1]; exact obV, by rw [q2.2.1]; exact asC, q4⟩,
    ⟨V', ⟨q5.1, State.isArrayOf_alike al'.symm q5.2.1, q5.2.2.1⟩, q6, by rw [← al'.findClass]; exact q7, q8, fun j hj => by have := q9 j hj; rwa [Nat.zero_add] at this⟩, fun O n d w F n1 n2 => ?_⟩, hl, hc, hs⟩, st⟩
  · intro y hy
    simp only [List.mem_cons, List.not_mem_nil, or_false] at hy
    rcases hy with rfl | rfl <;> rfl
  · by_cases q : y = x
    · subst q
      cases hD.symm.trans hy
      exact ⟨E', q1.1, q2.2.1, q2.1, hsz⟩
    · exact ⟨cy, q10 y cy q hy, rfl, rfl, rfl⟩
  · obtain ⟨D3, cf, k, i, f, g1, g2, g3, g4, g5, g6, g7⟩ := F
    cases hD.symm.trans g1
    simp only [RoadKit.slotOf, g2, gV, gC, Option.map_some, Option.getD_some] at n1 n2
    exact ⟨E', cf, k, i, f, q1.1, g2, g3, by rw [q2.1]; exact g4, by rw [q2.1]; exact g5, by rw [q2.2.1]; exact g6, by rw [q2.2.2 f.slot (by simp [n1, n2])]; exact g7⟩
end StrChars.Road
namespace StrChars.Road
open Jvm Sem ClassFile Op Lib Jvm.Stand Jvm.Free Jvm.Free.XT
/-- WHAT COMES BACK, the byte[] as a list of values -/
def QA (Z : State) (x : Addr) (zn : Int32) (cs : List Int32) (h : Heap) (v : Option Value) (h' : Heap) (L : List Loc) : Prop := v = none ∧ (∀ y ∈ L, y.base = x) ∧ RoadKit.Keep h h' [x] ∧ h'.size = h.size + 1 ∧ RoadKit.Exa Z h' x ST ∧ RoadKit.Fld Z h' x ST "value" "[B" (.ref h.size) ∧ RoadKit.Fld Z h' x ST "coder" "B" (.int 0) ∧
  (∃ kb, Z.vm.findClass "[B" = some kb ∧ RoadKit.Arv Z h' h.size kb .byte zn (cs.map fun c => .int (lo8 c)) (.int 0)) ∧
  ∀ (O n d : String) (w : Value), RoadKit.Fld Z h x O n d w → RoadKit.slotOf Z O n d ≠ RoadKit.slotOf Z ST "value" "[B" → RoadKit.slotOf Z O n d ≠ RoadKit.slotOf Z ST "coder" "B" → RoadKit.Fld Z h' x O n d w
/-- **new String(chars) AT A CALL, THE ARRAYS AS LISTS**: the char[] at b holds cs, not empty, no char above 255 -/
theorem backArv {p : Program} {l : Launch} {e : Env} {R : Room} {s : State} {args : Array Value} {below : List Frame} {len W : Nat} {Z : State} {a0 : Array Value} {h : Heap} (hZ : Z.Warmed39 s.vm) (hw : ∀ d ∈ words, d.before a0 Z = true) {kI : Nat} (wi : (Jvm.Cond.instantiable ST kI).before a0 Z = true)
    {x b : Addr} {k : ClassId} {zn z : Int32} {cs : List Int32} {dv v0 c0 : Value} (E : RoadKit.Exa Z h x ST) (V : RoadKit.Fld Z h x ST "value" "[B" v0) (C : RoadKit.Fld Z h x ST "coder" "B" c0) (K : RoadKit.Arv Z h b k .char zn (cs.map Value.int) dv) (S : RoadKit.Sta Z h ST "COMPACT_STRINGS" "Z" (.int z)) (hz : ¬ z = 0)
    (hlen : zn.toNatClampNeg = cs.length) (h0 : 0 < cs.length) (hbig : cs.length ≤ 536870912) (hall : ∀ c ∈ cs, ¬ 255 < c) (hfr : 4 ≤ R.frames) (hlo : W + 65 ≤ R.locals) :
    Back l R p e below s args New1.yN len W (fun P a => a = #[.ref x, .ref b] ∧ P.U.heap = h ∧ P.cells + 1 ≤ R.cells ∧ P.slots + cs.length ≤ R.slots)
      (fun P _ v B => ∃ L, QA Z x zn cs h v B.U.heap L ∧ B.locs = P.locs ++ L ∧ B.cells = P.cells + 1 ∧ B.slots = P.slots + cs.length) := by
  obtain ⟨A, K1, K2, K3, K4, K5, K6⟩ := K
  have e : A.slots.size = cs.length := K3.trans hlen
  have hat : ∀ (i : Nat) (hi : i < cs.length), A.slots[i]? = some (.int cs[i]) := fun i hi => by rw [K5 i (by omega)]; simp [List.getD_eq_getElem?_getD, hi]
  have hcv : ∀ (i : Nat) (hi : i < cs.length), cv A i = cs[i] := fun i hi => by unfold cv; rw [hat i hi]
  have hty : Typed .char A := fun i v hv => by
    have hi : i < A.slots.size := (Array.getElem?_eq_some_iff.mp hv).1
    have q := K5 i hi
    rw [hv] at q
    rw [Option.some.inj q]
    exact K6 i hi
  refine Back.mono (back hZ hw wi E V C K1 hty S hz (by omega) (by omega) (fun i hi => by rw [hcv i (by omega)]; exact hall _ (List.getElem_mem _)) hfr hlo) (fun P a hp => ⟨hp.1, hp.2.1, hp.2.2.1, by rw [e]; exact hp.2.2.2⟩) (fun P a v B hp hq => ?_)
  obtain ⟨L, ⟨q1, q2, q3, q4, q5, q6, q7, ⟨V', v1, v2, v3, v4, v5⟩, q9⟩, hl, hc, hs⟩ := hq
  refine ⟨L, ⟨q1, q2, q3, q4, q5, q6, q7, ⟨V'.cls, v3, V', v1, rfl, by rw [v4, e, hlen], K4, fun i hi => ?_, fun i hi => ?_⟩, q9⟩, hl, hc, by rw [hs, e]⟩
  · have hi' : i < cs.length := by omega
    rw [v5 i (by omega), hcv i hi']; simp [List.getD_eq_getElem?_getD, hi']
  · have hi' : i < cs.length := by omega
    simp only [List.getD_eq_getElem?_getD, List.getElem?_map, List.getElem?_eq_getElem hi', Option.map_some, Option.getD_some]
    exact fits_lo8 _
end StrChars.Road
namespace StrChars.Road
open Jvm Sem ClassFile Op Lib Jvm.Stand Jvm.Free Jvm.Free.XT
/-- WHAT COMES BACK, in the writer's own shape -/
def QV (Z : State) (x : Addr) (N : Int32) (bs : List Int32) (h : Heap) (n0 : Nat) (v : Option Value) (h' : Heap) (L : List Loc) : Prop := v = none ∧ RoadKit.Fr n0 L ∧ RoadKit.Keep h h' [x] ∧ RoadKit.Exa Z h' x ST ∧ RoadKit.Fld Z h' x ST "coder" "B" (.int 0) ∧
  ∃ (t : Addr) (kb : ClassId), n0 ≤ t ∧ h.size ≤ t ∧ ¬ t = x ∧ RoadKit.Fld Z h' x ST "value" "[B" (.ref t) ∧ RoadKit.Arv Z h' t kb .byte N (bs.map Value.int) (.int 0)
/-- **new String(chars) AT A CALL, FOR THE WRITER**: a char[] of n known ints, each 0 to 255 -/
theorem backV {p : Program} {l : Launch} {e : Env} {R : Room} {s : State} {args : Array Value} {below : List Frame} {len W : Nat} {Z : State} {a0 : Array Value} {h : Heap} (hZ : Z.Warmed39 s.vm) (hw : ∀ d ∈ words, d.before a0 Z = true) {kI : Nat} (wi : (Jvm.Cond.instantiable ST kI).before a0 Z = true)
    {x b : Addr} {kC : ClassId} {cs bs : List Int32} {d v0 c0 : Value} {z N : Int32} {n n0 : Nat} (hx0 : n0 ≤ x) (hh0 : n0 ≤ h.size) (E : RoadKit.Exa Z h x ST) (V : RoadKit.Fld Z h x ST "value" "[B" v0) (C : RoadKit.Fld Z h x ST "coder" "B" c0) (K : RoadKit.Arv Z h b kC .char N (cs.map Value.int) d) (S : RoadKit.Sta Z h ST "COMPACT_STRINGS" "Z" (.int z)) (hz : ¬ z = 0)
    (hn : cs.length = n) (hN : N = Int32.ofNat n) (l0 : 0 < n) (l2 : n ≤ 4000) (hp : ∀ c ∈ cs, ¬ c < 0 ∧ ¬ (255 : Int32) < c) (hb : bs = cs.map (fun c => c.toInt8.toInt32)) (hfr : 4 ≤ R.frames) (hlo : W + 65 ≤ R.locals) :
    Back l R p e below s args (⟨"java/lang/String", "<init>", "([C)V"⟩ : MethodName) len W (fun P a => a = #[.ref x, .ref b] ∧ P.U.heap = h ∧ P.cells + 1 ≤ R.cells ∧ P.slots + n ≤ R.slots)
      (fun P _ v B => ∃ L, QV Z x N bs h n0 v B.U.heap L ∧ B.locs = P.locs ++ L ∧ B.cells = P.cells + 1 ∧ B.slots = P.slots + n) := by
  subst hn hN hb
  refine Back.mono (backArv hZ hw wi E V C K S hz (n32 (by omega)) l0 (by omega) (fun c hc => (hp c hc).2) hfr hlo) (fun P a hp => hp) (fun P a v B hp hq => ?_)
  obtain ⟨L, ⟨q1, q2, q3, q4, q5, q6, q7, ⟨kb, v1, v2⟩, q9⟩, hl, hc, hs⟩ := hq
  exact ⟨L, ⟨q1, fun y hy => by rw [q2 y hy]; exact hx0, q3, q5, q7, h.size, kb, hh0, Nat.le_refl _, Nat.ne_of_gt E.lt, q6, by rw [List.map_map]; exact v2⟩, hl, hc, hs⟩
end StrChars.Road
namespace StrChars
open Jvm Sem ClassFile Op Lib Jvm.Stand Jvm.Free.XT Jvm.Free.ALB Jvm.Free.JM Jvm.Free
open Jvm.Lib.Cold (StaticIs)
def hi8 (x : Int32) : Int32 := lo8 (x >>> ((8 : Int32) &&& 31))
/-- what StringUTF16.getChar makes of two bytes -/
def pairCh (u v : Int32) : Int32 := (((u &&& 255) <<< ((0 : Int32) &&& 31)) ||| ((v &&& 255) <<< ((8 : Int32) &&& 31))).toUInt32.toUInt16.toUInt32.toInt32
theorem lo8_and (x : Int32) : (lo8 x &&& 255).toBitVec.toNat = x.toBitVec.toNat % 256 := by
  have h : (lo8 x).toBitVec = (x.toBitVec.signExtend 8).signExtend 32 := by rw [lo8, Int8.toBitVec_toInt32, Int32.toBitVec_toInt8]
  rw [Int32.toBitVec_and, BitVec.toNat_and, h]
  have e : ((x.toBitVec.signExtend 8).signExtend 32).toNat % 256 = x.toBitVec.toNat % 256 := by
    rw [BitVec.toNat_signExtend]
    have hlt := x.toBitVec.isLt
    simp only [BitVec.toNat_setWidth, BitVec.toNat_signExtend]
    split <;> split <;> omega
  rw [← e]
  exact Nat.and_two_pow_sub_one_eq_mod _ 8
theorem pair_says {c : Int32} (h0 : ¬ c < 0) (h1 : ¬ 65535 < c) : pairCh (lo8 c) (hi8 c) = c := by
  rw [Int32.lt_iff_toInt_lt] at h0 h1
  have e0 : (0 : Int32).toInt = 0 := rfl
  have e1 : (65535 : Int32).toInt = 65535 := rfl
  have hc : c.toInt = c.toBitVec.toNat := by
    have := c.toBitVec.isLt
    have e : c.toInt = c.toBitVec.toInt := rfl
    rw [e] at h0 h1
    rw [e]
    rw [BitVec.toInt_eq_toNat_cond] at h0 h1 ⊢
    split at h0 <;> split <;> omega
  have hn : c.toBitVec.toNat < 65536 := by omega
  have a1 := lo8_and c
  have a2 : (hi8 c &&& 255).toBitVec.toNat = c.toBitVec.toNat / 256 := by
    rw [hi8, lo8_and]
    have e : ((8 : Int32) &&& 31) = 8 := by decide
    rw [e, Int32.toBitVec_shiftRight]
    have e2 : ((8 : Int32).toBitVec.smod 32) = 8#32 := by decide
    rw [e2, BitVec.sshiftRight_eq', BitVec.toNat_sshiftRight_of_msb_false (by rw [BitVec.msb_eq_false_iff_two_mul_lt]; omega)]
    show c.toBitVec.toNat >>> 8 % 256 = _
    rw [Nat.shiftRight_eq_div_pow]
    omega
  unfold pairCh
  apply Int32.toBitVec_inj.mp
  apply BitVec.eq_of_toNat_eq
  have f0 : ((0 : Int32) &&& 31) = 0 := by decide
  have f8 : ((8 : Int32) &&& 31) = 8 := by decide
  rw [f0, f8]
  have g : (((lo8 c &&& 255) <<< (0 : Int32)) ||| ((hi8 c &&& 255) <<< (8 : Int32))).toBitVec.toNat = c.toBitVec.toNat := by
    rw [Int32.toBitVec_or, Int32.toBitVec_shiftLeft, Int32.toBitVec_shiftLeft]
    have s0 : ((0 : Int32).toBitVec.smod 32) = 0#32 := by decide
    have s8 : ((8 : Int32).toBitVec.smod 32) = 8#32 := by decide
    rw [s0, s8, BitVec.toNat_or]
    simp only [BitVec.shiftLeft_eq', BitVec.toNat_shiftLeft, a1, a2]
    show (c.toBitVec.toNat % 256) <<< 0 % 2 ^ 32 ||| (c.toBitVec.toNat / 256) <<< 8 % 2 ^ 32 = _
    rw [Nat.shiftLeft_zero, Nat.mod_eq_of_lt (show c.toBitVec.toNat % 256 < 2 ^ 32 by omega), Nat.mod_eq_of_lt (show (c.toBitVec.toNat / 256) <<< 8 < 2 ^ 32 by rw [Nat.shiftLeft_eq]; omega), Nat.or_comm, ← Nat.shiftLeft_add_eq_or_of_lt (by omega), Nat.shiftLeft_eq]
    omega
  show BitVec.toNat (((((lo8 c &&& 255) <<< (0 : Int32)) ||| ((hi8 c &&& 255) <<< (8 : Int32))).toBitVec.setWidth 16).setWidth 32) = _
  rw [BitVec.toNat_setWidth, BitVec.toNat_setWidth, g]
  omega
end StrChars
namespace StrChars
open Jvm Sem ClassFile Op Lib Jvm.Stand Jvm.Free.XT Jvm.Free.ALB Jvm.Free.JM Jvm.Free
open Jvm.Lib.Cold (StaticIs)
/-- charAt's cast of a byte read back -/
def chr8 (u : Int32) : Int32 := (u &&& 255).toUInt32.toUInt16.toUInt32.toInt32
theorem chr8_lo8 {c : Int32} (h0 : ¬ c < 0) (h1 : ¬ 255 < c) : chr8 (lo8 c) = c := by
  have t : ∀ k : Fin 256, (Int32.ofNat k.val).toUInt32.toUInt16.toUInt32.toInt32 = Int32.ofNat k.val := by decide +kernel
  unfold chr8
  rw [lo8_mask h0 h1]
  rw [Int32.lt_iff_toInt_lt] at h0 h1
  have e0 : (0 : Int32).toInt = 0 := rfl
  have e1 : (255 : Int32).toInt = 255 := rfl
  obtain ⟨k, hk⟩ : ∃ k : Nat, c.toInt = k := ⟨c.toInt.toNat, by omega⟩
  have hx : c = Int32.ofNat k := Int32.toInt_inj.mp (by rw [hk, Int32.toInt_ofNat_small (by omega)])
  rw [hx]
  exact t ⟨k, by omega⟩
theorem narrow_ch {c : Int32} (h0 : ¬ c < 0) (h1 : ¬ 65535 < c) : narrow .char (.int c) = .int c := by
  have q : narrow .char (.int (pairCh (lo8 c) (hi8 c))) = .int (pairCh (lo8 c) (hi8 c)) := narrow_c _
  rwa [pair_says h0 h1] at q
/-- the array's cell V codes the n chars f 0 .. f (n - 1) by the coder cd, as the JDK does: coder 1 just where some char is above 255 -/
def Cod (cd : Int32) (n : Nat) (f : Nat → Int32) (V : Cell) : Prop := (cd = 0 ∧ V.slots.size = n ∧ ∀ j, j < n → V.slots[j]? = some (.int (lo8 (f j))) ∧ ¬ 255 < f j) ∨ (cd = 1 ∧ V.slots.size = 2 * n ∧ (∀ j, j < n → V.slots[2 * j]? = some (.int (lo8 (f j))) ∧ V.slots[2 * j + 1]? = some (.int (hi8 (f j)))) ∧ ∃ j, j < n ∧ 255 < f j)
theorem Cod.cd {cd : Int32} {n : Nat} {f : Nat → Int32} {V : Cell} (h : Cod cd n f V) : cd = 0 ∨ cd = 1 := h.imp (fun q => q.1) fun q => q.1
/-- **x is a String of the n chars f 0 .. f (n - 1)**, Latin-1 or UTF-16; its array at t has the cell V -/
def Txt (x t : Addr) (V : Cell) (cd : Int32) (n : Nat) (f : Nat → Int32) (U : State) : Prop := Exact "java/lang/String" x U ∧ Has x "java/lang/String" "value" "[B" (.ref t) U ∧ Has x "java/lang/String" "coder" "B" (.int cd) U ∧ XT.Arr .byte t V U ∧ Cod cd n f V ∧ ∀ j, j < n → ¬ f j < 0 ∧ ¬ 65535 < f j
theorem Txt.mv {x t : Addr} {V : Cell} {cd : Int32} {n : Nat} {f : Nat → Int32} {U U' : State} (h : Txt x t V cd n f U) (hal : U.vm.Alike U'.vm) (hh : U'.heap = U.heap) : Txt x t V cd n f U' := ⟨h.1.mv hal hh, h.2.1.mv hal hh, h.2.2.1.mv hal hh, h.2.2.2.1.mv hal hh, h.2.2.2.2⟩
namespace IsL
def yN : MethodName := ⟨"java/lang/String", "isLatin1", "()Z"⟩
abbrev yB : ByteArray := jdk_42_method_154_code
theorem d0 : decode yB 0 = .ok (.getstatic 38, 3) := by decide +kernel
theorem d3 : decode yB 3 = .ok (.ifCond (.eq) 14, 3) := by decide +kernel
theorem d6 : decode yB 6 = .ok (.aload_n 0, 1) := by decide +kernel
theorem d7 : decode yB 7 = .ok (.getfield 15, 3) := by decide +kernel
theorem d10 : decode yB 10 = .ok (.ifCond (.ne) 7, 3) := by decide +kernel
theorem d13 : decode yB 13 = .ok (.iconst 1, 1) := by decide +kernel
theorem d14 : decode yB 14 = .ok (.goto 4, 3) := by decide +kernel
theorem d17 : decode yB 17 = .ok (.iconst 0, 1) := by decide +kernel
theorem d18 : decode yB 18 = .ok (.ireturn, 1) := by decide +kernel
def site : List Cond := [.fieldLink "java/lang/String" 38 "java/lang/String" "COMPACT_STRINGS" "Z", .fieldLink "java/lang/String" 15 "java/lang/String" "coder" "B"]
def tab : Cond := tabOf yN yB 1 (some .boolean) site
def P (x : Addr) (cd z : Int32) (args : Array Value) (s : State) : Prop := args = #[.ref x] ∧ Has x "java/lang/String" "coder" "B" (.int cd) s ∧ (cd = 0 ∨ cd = 1) ∧ StaticIs s "java/lang/String" "COMPACT_STRINGS" "Z" (.int z) ∧ ¬ z = 0
def E (cd : Int32) (r : Option Value) (s u : State) : Prop := XT.PureE (some (.int (1 - cd))) r s u
theorem law (l : Launch) (x : Addr) (cd z : Int32) : Law l yN 1 0 0 0 yB 1 (some .boolean) site (P x cd z) (E cd) [] 0 0 := by
  refine Law.of_walk (plainFor_of_name (by decide +kernel)) (by decide +kernel) (by decide +kernel) (by decide) (fun _ _ h => by rw [h.1]; rfl) (fun _ U U' hal hh h => ⟨h.1, h.2.1.mv hal hh, h.2.2.1, h.2.2.2.1.there hal hh, h.2.2.2.2⟩) (fun r U U' V V' h1 hal h2 h => XT.PureE.mv r U U' V V' h1 hal h2 h) ?_
  intro p e s m args below meth c s₁ X0 hexec hbytes hml hret hlk hnm hown hh0 W hP
  obtain ⟨rfl, hx, hc, s1, hz⟩ := hP
  have c1 : Steps p.tables e below (s₁.setTop (entryFrame m #[.ref x] 1)) (s₁.setTop (mkF m 0 #[.val (.ref x)] [])) := entry rfl
  obtain ⟨T2, X2, q2, st2⟩ := X0.sget hexec hown (wk W (.fieldLink "java/lang/String" 38 "java/lang/String" "COMPACT_STRINGS" "Z")) s1 (fun _ _ h => by rw [hh0]; exact h) (g := (mkF m 0 #[.val (.ref x)] [])) rfl (hb hbytes d0)
  have hh2 := q2.trans hh0
  have c3 : Steps p.tables e below (s₁.setTop (entryFrame m #[.ref x] 1)) (T2.setTop (mkF m 7 #[.val (.ref x)] [.ref x])) := (c1.trans (st2 _ (Steps.refl _))).trans (by
    refine XS.ifNo X2.here hexec rfl (hb hbytes d3) rfl (i0_eq_f hz) ?_
    refine XS.aloadN X2.here hexec rfl (hb hbytes d6) rfl rfl ?_
    exact Steps.refl _)
  obtain ⟨T4, X4, q4, st4⟩ := X2.hget hexec hown (wk W (.fieldLink "java/lang/String" 15 "java/lang/String" "coder" "B")) (hx.mv X2.warmed.alike hh2) (g := (mkF m 7 #[.val (.ref x)] [.ref x])) rfl (rest := []) rfl (hb hbytes d7)
  have c5 : Steps p.tables e below (s₁.setTop (entryFrame m #[.ref x] 1)) (T4.setTop (mkF m 10 #[.val (.ref x)] [.int cd])) := c3.trans (st4 _ (Steps.refl _))
  have c6 : Steps p.tables e below (s₁.setTop (entryFrame m #[.ref x] 1)) (T4.setTop (mkF m 18 #[.val (.ref x)] [.int (1 - cd)])) := by
    rcases hc with rfl | rfl
    · exact c5.trans (by
        refine XS.ifNo X4.here hexec rfl (hb hbytes d10) rfl (i0_ne_f rfl) ?_
        refine iconstV X4.here hexec rfl 1 (hb hbytes d13) (by decide) ?_
        refine XS.goto X4.here hexec rfl (pc0 := 14) rfl (hb hbytes d14) (by decide) rfl ?_
        exact Steps.refl _)
    · exact c5.trans (by
        refine XS.ifYes X4.here hexec rfl (pc0 := 10) rfl (hb hbytes d10) rfl (i0_ne_t (by decide)) (by decide) rfl ?_
        refine iconstV X4.here hexec rfl 0 (hb hbytes d17) (by decide) ?_
        exact Steps.refl _)
  exact ⟨T4, some (.int (1 - cd)), _, _, _, X4, rfl, rfl, rfl, (fun h => by cases h), ⟨rfl, q4.trans hh2⟩, fun fs hl => c6.trans (X4.ireturnOut hexec hret (by rcases hc with rfl | rfl <;> rfl) (Or.inr (Or.inl rfl)) (hb hbytes d18) hl)⟩
end IsL
namespace LChA
def yN : MethodName := ⟨"java/lang/StringLatin1", "charAt", "([BI)C"⟩
abbrev yB : ByteArray := jdk_43_method_2_code
theorem d0 : decode yB 0 = .ok (.iload_n 1, 1) := by decide +kernel
theorem d1 : decode yB 1 = .ok (.aload_n 0, 1) := by decide +kernel
theorem d2 : decode yB 2 = .ok (.arraylength, 1) := by decide +kernel
theorem d3 : decode yB 3 = .ok (.invokestatic 9, 3) := by decide +kernel
theorem d6 : decode yB 6 = .ok (.aload_n 0, 1) := by decide +kernel
theorem d7 : decode yB 7 = .ok (.iload_n 1, 1) := by decide +kernel
theorem d8 : decode yB 8 = .ok (.baload, 1) := by decide +kernel
theorem d9 : decode yB 9 = .ok (.sipush 255, 3) := by decide +kernel
theorem d12 : decode yB 12 = .ok (.iand, 1) := by decide +kernel
theorem d13 : decode yB 13 = .ok (.i2c, 1) := by decide +kernel
theorem d14 : decode yB 14 = .ok (.ireturn, 1) := by decide +kernel
def site : List Cond := [JO.Str_checkIndex.tab] ++ staticW "java/lang/StringLatin1" 9 JO.Str_checkIndex.yN
def tab : Cond := tabOf yN yB 2 (some .char) site
def P (t : Addr) (V : Cell) (i : Nat) (u : Int32) (fm : Value) (args : Array Value) (s : State) : Prop := args = #[.ref t, .int (Int32.ofNat i)] ∧ XT.Arr .byte t V s ∧ V.slots[i]? = some (.int u) ∧ (StaticIs s "jdk/internal/util/Preconditions" "SIOOBE_FORMATTER" "Ljava/util/function/BiFunction;" fm ∧ fm.isRef = true)
def E (u : Int32) (r : Option Value) (s w : State) : Prop := XT.PureE (some (.int (chr8 u))) r s w
theorem law (l : Launch) (t : Addr) (V : Cell) (i : Nat) (u : Int32) (fm : Value) : Law l yN 2 2 2 27 yB 2 (some .char) site (P t V i u fm) (E u) [] 0 0 := by
  refine Law.of_walk (plainFor_of_name (by decide +kernel)) (by decide +kernel) (by decide +kernel) (by decide) (fun _ _ h => by rw [h.1]; rfl) (fun _ U U' hal hh h => ⟨h.1, h.2.1.mv hal hh, h.2.2.1, h.2.2.2.1.there hal hh, h.2.2.2.2⟩) (fun r U U' V V' h1 hal h2 h => XT.PureE.mv r U U' V V' h1 hal h2 h) ?_
  intro p e s m args below meth c s₁ X0 hexec hbytes hml hret hlk hnm hown hh0 W hP
  obtain ⟨rfl, hV, hu, s1, rf⟩ := hP
  have v31 := hV.2.2.2
  have hi : i < V.slots.size := (Array.getElem?_eq_some_iff.mp hu).1
  have c1 : Steps p.tables e below (s₁.setTop (entryFrame m #[.ref t, .int (Int32.ofNat i)] 2)) (s₁.setTop (mkF m 0 #[.val (.ref t), .val (.int (Int32.ofNat i))] [])) := entry rfl
  have c2 : Steps p.tables e below (s₁.setTop (entryFrame m #[.ref t, .int (Int32.ofNat i)] 2)) (s₁.setTop (mkF m 3 #[.val (.ref t), .val (.int (Int32.ofNat i))] [.int (Int32.ofNat V.slots.size), .int (Int32.ofNat i)])) := c1.trans (by
    refine XS.iloadN X0.here hexec rfl (hb hbytes d0) rfl ?_
    refine XS.aloadN X0.here hexec rfl (hb hbytes d1) rfl rfl ?_
    refine X0.alen hexec (hV.mv X0.warmed.alike hh0) rfl rfl (hb hbytes d2) ?_
    exact Steps.refl _)
  obtain ⟨v3, T3, X3, E3, g3⟩ := X0.callS hexec (JO.Str_checkIndex.law l (Int32.ofNat i) (Int32.ofNat V.slots.size) fm) hown (wks W (staticW "java/lang/StringLatin1" 9 JO.Str_checkIndex.yN)) (wk W JO.Str_checkIndex.tab) (W := 0) (Nat.le_of_ble_eq_true rfl) (Nat.le_of_ble_eq_true rfl) (Nat.le_refl _) (Nat.le_refl _) (g := (mkF m 3 #[.val (.ref t), .val (.int (Int32.ofNat i))] [.int (Int32.ofNat V.slots.size), .int (Int32.ofNat i)])) rfl (by rw [hml]; rfl) c2 (argsL := [.int (Int32.ofNat i), .int (Int32.ofNat V.slots.size)]) (rest := []) rfl rfl (by show 2 * 0 + 0 ≤ _; decide) (hb hbytes d3) (⟨rfl, rf, s1.there X0.warmed.alike hh0, Int32.ofNat_not_neg (by omega), lt32 v31 hi⟩)
  obtain ⟨rfl, q3⟩ := E3
  have hh3 := q3.trans hh0
  have c4 : Steps p.tables e below (s₁.setTop (entryFrame m #[.ref t, .int (Int32.ofNat i)] 2)) (T3.setTop (mkF m 14 #[.val (.ref t), .val (.int (Int32.ofNat i))] [.int (chr8 u)])) := Steps.trans g3 (by
    refine XS.aloadN X3.here hexec rfl (hb hbytes d6) rfl rfl ?_
    refine XS.iloadN X3.here hexec rfl (hb hbytes d7) rfl ?_
    refine X3.aget hexec (hV.mv X3.warmed.alike hh3) rfl hu rfl rfl (hb hbytes d8) ?_
    refine sipushV X3.here hexec rfl 255 (hb hbytes d9) (by decide) ?_
    refine XS.iand X3.here hexec rfl (hb hbytes d12) rfl ?_
    refine i2c X3.here hexec rfl (hb hbytes d13) rfl ?_
    exact Steps.refl _)
  exact ⟨T3, some (.int (chr8 u)), _, _, _, X3, rfl, rfl, rfl, (fun h => by cases h), ⟨rfl, hh3⟩, fun fs hl => c4.trans (X3.ireturnOut hexec hret (narrow_c _) (Or.inr (Or.inr (Or.inr (Or.inl rfl)))) (hb hbytes d14) hl)⟩
end LChA
end StrChars
namespace StrChars.Road
open Jvm Sem ClassFile Op Lib Jvm.Stand Jvm.Free Jvm.Free.XT
open Jvm.Lib.Cold (StaticIs)
theorem consq {a : Array Value} {s : State} {c : Jvm.Cond} {L : List Jvm.Cond} (h0 : c.before a s = true) (h : ∀ w ∈ L, w.before a s = true) : ∀ w ∈ c :: L, w.before a s = true := fun w hw => (List.mem_cons.mp hw).elim (fun e => e ▸ h0) (h w)
/-- the bytes of the chars cs, low before high -/
def wideBytes : List Int32 → List Value
  | [] => []
  | c :: cs => .int (lo8 c) :: .int (hi8 c) :: wideBytes cs
theorem wide_lo (d : Value) : ∀ (cs : List Int32) (j : Nat), j < cs.length → (wideBytes cs).getD (2 * j) d = .int (lo8 (cs.getD j 0))
  | [], j, h => absurd h (Nat.not_lt_zero j)
  | c :: cs, 0, _ => rfl
  | c :: cs, j + 1, h => by
    have q := wide_lo d cs j (by simpa using h)
    rw [show 2 * (j + 1) = 2 * j + 1 + 1 from by omega]
    simpa [wideBytes] using q
theorem wide_hi (d : Value) : ∀ (cs : List Int32) (j : Nat), j < cs.length → (wideBytes cs).getD (2 * j + 1) d = .int (hi8 (cs.getD j 0))
  | [], j, h => absurd h (Nat.not_lt_zero j)
  | c :: cs, 0, _ => rfl
  | c :: cs, j + 1, h => by
    have q := wide_hi d cs j (by simpa using h)
    rw [show 2 * (j + 1) + 1 = 2 * j + 1 + 1 + 1 from by omega]
    simpa [wideBytes] using q
theorem low_at (d : Value) (cs : List Int32) (j : Nat) (h : j < cs.length) : (cs.map fun c => Value.int (lo8 c)).getD j d = .int (lo8 (cs.getD j 0)) := by
  simp [List.getD_eq_getElem?_getD, h]
/-- an array of N2 bytes vs codes the chars cs by the coder cd -/
def CodA (cs : List Int32) (cd N2 : Int32) (vs : List Value) : Prop := (cd = 0 ∧ N2 = Int32.ofNat cs.length ∧ vs = (cs.map fun c => Value.int (lo8 c)) ∧ ∀ c ∈ cs, ¬ 255 < c) ∨ (cd = 1 ∧ N2 = Int32.ofNat (2 * cs.length) ∧ vs = wideBytes cs ∧ ∃ c ∈ cs, 255 < c)
theorem CodA.cod {cs : List Int32} {cd N2 : Int32} {vs : List Value} {V : Cell} (h : CodA cs cd N2 vs) (hn : 2 * cs.length < 2 ^ 31) (hs : V.slots.size = N2.toNatClampNeg) (hv : RoadKit.Has V vs (.int 0)) : Cod cd cs.length (fun j => cs.getD j 0) V := by
  rcases h with ⟨rfl, rfl, rfl, h⟩ | ⟨rfl, rfl, rfl, c, hc, hw⟩
  · rw [n32 (by omega)] at hs
    exact Or.inl ⟨rfl, hs, fun j hj => ⟨by rw [hv j (by omega), low_at _ _ _ hj], by
      have e : cs.getD j 0 = cs[j] := by simp [List.getD_eq_getElem?_getD, hj]
      show ¬ 255 < cs.getD j 0
      rw [e]; exact h _ (List.getElem_mem _)⟩⟩
  · rw [n32 (by omega)] at hs
    obtain ⟨j, hj, rfl⟩ := List.getElem_of_mem hc
    exact Or.inr ⟨rfl, hs, fun j hj => ⟨by rw [hv _ (by omega), wide_lo _ _ _ hj], by rw [hv _ (by omega), wide_hi _ _ _ hj]⟩, j, hj, by
      have e : cs.getD j 0 = cs[j] := by simp [List.getD_eq_getElem?_getD, hj]
      show 255 < cs.getD j 0
      rw [e]; exact hw⟩
/-- an object of exactly java/lang/String, its two fields found: as the laws ask it -/
theorem strObj {Z U : State} {a0 : Array Value} {kI : Nat} (wi : (Jvm.Cond.instantiable ST kI).before a0 Z = true) (al : Z.vm.Alike U.vm) {x : Addr} {v0 c0 : Value} (E : RoadKit.Exa Z U.heap x ST) (V : RoadKit.Fld Z U.heap x ST "value" "[B" v0) (C : RoadKit.Fld Z U.heap x ST "coder" "B" c0) :
    ∃ (D : Cell) (fV fC : Field), Blank ST x D U ∧ Found ST "value" "[B" fV U ∧ Found ST "coder" "B" fC U ∧ D.slots[fV.slot]? = some v0 ∧ D.slots[fC.slot]? = some c0 ∧ RoadKit.slotOf Z ST "value" "[B" = fV.slot ∧ RoadKit.slotOf Z ST "coder" "B" = fC.slot := by
  obtain ⟨D, cfV, kV, iV, fV, hD, gV, stV, knV, obV, asV, slV⟩ := V
  obtain ⟨D', cfC, kC, iC, fC, hD', gC, stC, -, -, asC, slC⟩ := C
  cases hD.symm.trans hD'
  obtain ⟨D2, kD, e1, e2, e3, e4, e5⟩ := E
  cases hD.symm.trans e1
  obtain ⟨c2, k2, i1, i2, i3, -⟩ := Cond.instantiable_spec wi
  cases e2.symm.trans i1
  cases e3.symm.trans i2
  obtain ⟨kU, u1, u2⟩ := al.2.2 _ _ e3
  exact ⟨D, fV, fC, ⟨hD, ⟨knV, fun q hq => by rw [hq] at obV; cases obV⟩, by rw [al.findClass]; exact e2, kU, u1, by rw [u2]; exact i3, by rw [u2]; exact e5 i3⟩, ⟨SBG.found_only al ⟨cfV, kV, iV, gV⟩, stV⟩, ⟨SBG.found_only al ⟨cfC, kC, iC, gC⟩, stC⟩, slV, slC, by simp [RoadKit.slotOf, gV], by simp [RoadKit.slotOf, gC]⟩
theorem sta_is {Z U : State} (al : Z.vm.Alike U.vm) {C n d : String} {v : Value} (S : RoadKit.Sta Z U.heap C n d v) : StaticIs U C n d v := by
  obtain ⟨cfS, iS, kS, fS, st, cS, t1, t2, t3, t4, t5, t6, t7⟩ := S
  exact StaticIs.there (s := { Z with heap := U.heap }) ⟨cfS, iS, kS, fS, st, cS, t1, t2, t3, t4, t5, (fun q => by rw [q] at t6; cases t6), t7⟩ al rfl
end StrChars.Road
namespace StrChars.Road
open Jvm Sem ClassFile Op Lib Jvm.Stand Jvm.Free Jvm.Free.XT
open Jvm.Lib.Cold (StaticIs)
/-- the road's facts of a String, as the laws ask it -/
theorem txt_of {Z U : State} {a0 : Array Value} {kI : Nat} (wi : (Jvm.Cond.instantiable ST kI).before a0 Z = true) (al : Z.vm.Alike U.vm) {x t : Addr} {kb : ClassId} {cs : List Int32} {cd N2 : Int32} {vs : List Value} (E : RoadKit.Exa Z U.heap x ST) (V : RoadKit.Fld Z U.heap x ST "value" "[B" (.ref t)) (C : RoadKit.Fld Z U.heap x ST "coder" "B" (.int cd)) (K : RoadKit.Arv Z U.heap t kb .byte N2 vs (.int 0)) (hc : CodA cs cd N2 vs) (hb : ∀ c ∈ cs, ¬ c < 0 ∧ ¬ (65535 : Int32) < c) (l2 : cs.length ≤ 4000) :
    ∃ A, Txt x t A cd cs.length (fun j => cs.getD j 0) U := by
  obtain ⟨A, K1, K2, K3, K4, K5, K6⟩ := K
  have hcod := hc.cod (by omega) K3 K5
  obtain ⟨D, fV, fC, hB, F1, F2, g1, g2, -, -⟩ := strObj wi al E V C
  exact ⟨A, ⟨_, hB.2.2.1, D, hB.1, rfl, by cases q : D.vm <;> first | rfl | exact absurd q (hB.2.1.2 _)⟩, Has.of hB F1 g1, Has.of hB F2 g2, ⟨K1.1, State.isArrayOf_alike al K1.2.1, K1.2.2, by rcases hcod with ⟨-, q, -⟩ | ⟨-, q, -⟩ <;> omega⟩, hcod, fun j hj => by
    have e : cs.getD j 0 = cs[j] := by simp [List.getD_eq_getElem?_getD, hj]
    show ¬ cs.getD j 0 < 0 ∧ ¬ 65535 < cs.getD j 0
    rw [e]; exact hb _ (List.getElem_mem _)⟩
end StrChars.Road
namespace StrChars
open Jvm Sem ClassFile Op Lib Jvm.Stand Jvm.Free.XT Jvm.Free.ALB Jvm.Free.JM Jvm.Free
open Jvm.Lib.Cold (StaticIs)
namespace ChN
def yN : MethodName := ⟨"java/lang/String", "charAt", "(I)C"⟩
abbrev yB : ByteArray := jdk_42_method_56_code
theorem d0 : decode yB 0 = .ok (.aload_n 0, 1) := by decide +kernel
theorem d1 : decode yB 1 = .ok (.invokevirtual 492, 3) := by decide +kernel
theorem d4 : decode yB 4 = .ok (.ifCond (.eq) 12, 3) := by decide +kernel
theorem d7 : decode yB 7 = .ok (.aload_n 0, 1) := by decide +kernel
theorem d8 : decode yB 8 = .ok (.getfield 9, 3) := by decide +kernel
theorem d11 : decode yB 11 = .ok (.iload_n 1, 1) := by decide +kernel
theorem d12 : decode yB 12 = .ok (.invokestatic 495, 3) := by decide +kernel
theorem d15 : decode yB 15 = .ok (.ireturn, 1) := by decide +kernel
def site : List Cond := [.fieldLink "java/lang/String" 9 "java/lang/String" "value" "[B", IsL.tab, LChA.tab] ++ virtW "java/lang/String" 492 "java/lang/String" IsL.yN IsL.yN ++ staticW "java/lang/String" 495 LChA.yN
def tab : Cond := tabOf yN yB 2 (some .char) site
def P (x t : Addr) (V : Cell) (n : Nat) (f : Nat → Int32) (z : Int32) (fm : Value) (i : Nat) (args : Array Value) (s : State) : Prop := args = #[.ref x, .int (Int32.ofNat i)] ∧ Txt x t V 0 n f s ∧ i < n ∧ StaticIs s "java/lang/String" "COMPACT_STRINGS" "Z" (.int z) ∧ ¬ z = 0 ∧ StaticIs s "jdk/internal/util/Preconditions" "SIOOBE_FORMATTER" "Ljava/util/function/BiFunction;" fm ∧ fm.isRef = true
def E (f : Nat → Int32) (i : Nat) (r : Option Value) (s u : State) : Prop := XT.PureE (some (.int (f i))) r s u
/-- charAt(i) of a Latin-1 String of n chars, i < n: f i -/
theorem law (l : Launch) (x t : Addr) (V : Cell) (n : Nat) (f : Nat → Int32) (z : Int32) (fm : Value) (i : Nat) : Law l yN 2 1 3 40 yB 2 (some .char) site (P x t V n f z fm i) (E f i) [] 0 0 := by
  refine Law.of_walk (plainFor_of_name (by decide +kernel)) (by decide +kernel) (by decide +kernel) (by decide) (fun _ _ h => by rw [h.1]; rfl) (fun _ U U' hal hh h => ⟨h.1, h.2.1.mv hal hh, h.2.2.1, h.2.2.2.1.there hal hh, h.2.2.2.2.1, h.2.2.2.2.2.1.there hal hh, h.2.2.2.2.2.2⟩) (fun r U U' V V' h1 hal h2 h => XT.PureE.mv r U U' V V' h1 hal h2 h) ?_
  intro p e s m args below meth c s₁ X0 hexec hbytes hml hret hlk hnm hown hh0 W hP
  obtain ⟨rfl, hx, hi, s1, hz, s3, rf⟩ := hP
  have v31 := hx.2.2.2.1.2.2.2
  have hr := hx.2.2.2.2.2 i hi
  have hx0 := hx.mv X0.warmed.alike hh0
  have c1 : Steps p.tables e below (s₁.setTop (entryFrame m #[.ref x, .int (Int32.ofNat i)] 2)) (s₁.setTop (mkF m 1 #[.val (.ref x), .val (.int (Int32.ofNat i))] [.ref x])) := Steps.trans (entry rfl) (by
    show Steps p.tables e below (s₁.setTop (mkF m 0 #[.val (.ref x), .val (.int (Int32.ofNat i))] [])) _
    refine XS.aloadN X0.here hexec rfl (hb hbytes d0) rfl rfl ?_
    exact Steps.refl _)
  obtain ⟨v2, T2, X2, E2, g2⟩ := X0.callV hexec (IsL.law l x 0 z) hown (wks W (virtW "java/lang/String" 492 "java/lang/String" IsL.yN IsL.yN)) rfl (by decide) (wk W IsL.tab) (W := 0) (Nat.le_of_ble_eq_true rfl) (Nat.le_of_ble_eq_true rfl) (Nat.le_refl _) (Nat.le_refl _) (hx0.1.fc X0.warmed.alike) hx0.1.is (g := (mkF m 1 #[.val (.ref x), .val (.int (Int32.ofNat i))] [.ref x])) rfl (by rw [hml]; rfl) c1 (argsL := []) (rest := []) rfl rfl (by show 2 * 0 + 0 ≤ _; decide) (hb hbytes d1) (⟨rfl, hx0.2.2.1, hx.2.2.2.2.1.cd, s1.there X0.warmed.alike hh0, hz⟩)
  obtain ⟨rfl, q2⟩ := E2
  have hh2 := q2.trans hh0
  have hx2 := hx.mv X2.warmed.alike hh2
  obtain ⟨-, k1, k2⟩ | ⟨k0, -⟩ := hx.2.2.2.2.1
  · have c3 : Steps p.tables e below (s₁.setTop (entryFrame m #[.ref x, .int (Int32.ofNat i)] 2)) (T2.setTop (mkF m 8 #[.val (.ref x), .val (.int (Int32.ofNat i))] [.ref x])) := Steps.trans g2 (by
      refine XS.ifNo X2.here hexec rfl (hb hbytes d4) rfl (i0_eq_f (by decide)) ?_
      refine XS.aloadN X2.here hexec rfl (hb hbytes d7) rfl rfl ?_
      exact Steps.refl _)
    obtain ⟨T4, X4, q4, st4⟩ := X2.hget hexec hown (wk W (.fieldLink "java/lang/String" 9 "java/lang/String" "value" "[B")) hx2.2.1 (g := (mkF m 8 #[.val (.ref x), .val (.int (Int32.ofNat i))] [.ref x])) rfl (rest := []) rfl (hb hbytes d8)
    have hh4 := q4.trans hh2
    have c5 : Steps p.tables e below (s₁.setTop (entryFrame m #[.ref x, .int (Int32.ofNat i)] 2)) (T4.setTop (mkF m 12 #[.val (.ref x), .val (.int (Int32.ofNat i))] [.int (Int32.ofNat i), .ref t])) := (c3.trans (st4 _ (Steps.refl _))).trans (by
      refine XS.iloadN X4.here hexec rfl (hb hbytes d11) rfl ?_
      exact Steps.refl _)
    obtain ⟨v6, T6, X6, E6, g6⟩ := X4.callS hexec (LChA.law l t V i (lo8 (f i)) fm) hown (wks W (staticW "java/lang/String" 495 LChA.yN)) (wk W LChA.tab) (W := 0) (Nat.le_of_ble_eq_true rfl) (Nat.le_of_ble_eq_true rfl) (Nat.le_refl _) (Nat.le_refl _) (g := (mkF m 12 #[.val (.ref x), .val (.int (Int32.ofNat i))] [.int (Int32.ofNat i), .ref t])) rfl (by rw [hml]; rfl) c5 (argsL := [.ref t, .int (Int32.ofNat i)]) (rest := []) rfl rfl (by show 2 * 0 + 0 ≤ _; decide) (hb hbytes d12) (⟨rfl, hx.2.2.2.1.mv X4.warmed.alike hh4, (k2 i hi).1, s3.there X4.warmed.alike hh4, rf⟩)
    obtain ⟨rfl, q6⟩ := E6
    rw [chr8_lo8 hr.1 (k2 i hi).2] at g6
    exact ⟨T6, some (.int (f i)), _, _, _, X6, rfl, rfl, rfl, (fun h => by cases h), ⟨rfl, q6.trans hh4⟩, fun fs hl => Steps.trans g6 (X6.ireturnOut hexec hret (narrow_ch hr.1 hr.2) (Or.inr (Or.inr (Or.inr (Or.inl rfl)))) (hb hbytes d15) hl)⟩
  · exact absurd k0 (by decide)
theorem pays {l : Launch} {R : Room} {p : Program} {e : Env} {below : List Frame} {s : State} {sargs : Array Value} {len W : Nat} (x t : Addr) (V : Cell) (n : Nat) (f : Nat → Int32) (z : Int32) (fm : Value) (i : Nat) (htab : tab.before sargs s = true) (hfr : 4 ≤ R.frames) (hlo : W + 53 ≤ R.locals) :
    Back l R p e below s sargs yN len W (fun A₁ a₁ => A₁.cells + 0 ≤ R.cells ∧ A₁.slots + 0 ≤ R.slots ∧ P x t V n f z fm i a₁ A₁.U) (fun A₁ _ v₁ B₁ => E f i v₁ A₁.U B₁.U ∧ B₁.locs = A₁.locs ++ [] ∧ B₁.cells = A₁.cells + 0 ∧ B₁.slots = A₁.slots + 0) :=
  (law l x t V n f z fm i).pays htab hfr (by omega)
end ChN
end StrChars
namespace StrChars.Road
open Jvm Sem ClassFile Op Lib Jvm.Stand Jvm.Free Jvm.Free.XT
open Jvm.Lib.Cold (StaticIs)
/-- the words of String.charAt(int), the Latin-1 road alone -/
abbrev wordsChN : List Jvm.Cond := [.code ChN.yN ChN.yB 2 (some .char), .initialized ST, .fieldLink ST 9 ST "value" "[B", .fieldLink ST 38 ST "COMPACT_STRINGS" "Z", .fieldLink ST 15 ST "coder" "B", .code IsL.yN IsL.yB 1 (some .boolean), .methodLink ST 492 IsL.yN, .declares IsL.yN, .selects ST IsL.yN IsL.yN, .instanceMethod IsL.yN,
  .methodLink ST 495 LChA.yN, .static LChA.yN, .code LChA.yN LChA.yB 2 (some .char), .initialized "java/lang/StringLatin1", .methodLink "java/lang/StringLatin1" 9 JO.Str_checkIndex.yN, .static JO.Str_checkIndex.yN, .code JO.Str_checkIndex.yN JO.Str_checkIndex.yB 2 none,
  .fieldLink ST 1053 "jdk/internal/util/Preconditions" "SIOOBE_FORMATTER" "Ljava/util/function/BiFunction;", .methodLink ST 1059 JC.PreCheck.yN, .static JC.PreCheck.yN, .code JC.PreCheck.yN JC.PreCheck.yB 3 (some .int), .initialized "jdk/internal/util/Preconditions"]
theorem tabChN_of {a : Array Value} {s : State} (h : ∀ w ∈ wordsChN, w.before a s = true) : ChN.tab.before a s = true := by
  have hp : JC.PreCheck.tab.before a s = true := unparts (wk h (.code JC.PreCheck.yN JC.PreCheck.yB 3 (some .int))) (wks h (.initialized JC.PreCheck.yN.cls :: JC.PreCheck.site))
  have qk := consq hp h
  have hk : JO.Str_checkIndex.tab.before a s = true := unparts (wk qk (.code JO.Str_checkIndex.yN JO.Str_checkIndex.yB 2 none)) (wks qk (.initialized JO.Str_checkIndex.yN.cls :: JO.Str_checkIndex.site))
  have ql := consq hk h
  have hl : LChA.tab.before a s = true := unparts (wk ql (.code LChA.yN LChA.yB 2 (some .char))) (wks ql (.initialized LChA.yN.cls :: LChA.site))
  have hi : IsL.tab.before a s = true := unparts (wk h (.code IsL.yN IsL.yB 1 (some .boolean))) (wks h (.initialized IsL.yN.cls :: IsL.site))
  have q := consq hi (consq hl h)
  exact unparts (wk q (.code ChN.yN ChN.yB 2 (some .char))) (wks q (.initialized ChN.yN.cls :: ChN.site))
theorem movedChN {Z s : State} {a0 args : Array Value} (hZ : Z.Warmed39 s.vm) (hw : ∀ d ∈ wordsChN, d.before a0 Z = true) : ∀ d ∈ wordsChN, d.before args s = true := fun d hd => by
  have t : ∀ d ∈ wordsChN, (d.onTables && d.keepsFace) = true := by decide +kernel
  exact RoadKit.mv hZ (hw d hd) (t d hd)
/-- **charAt(i) OF A LATIN-1 STRING**, i < n: the char -/
theorem chN {p : Program} {l : Launch} {e : Env} {R : Room} {s : State} {args : Array Value} {below : List Frame} {len W : Nat} {Z : State} {a0 : Array Value} {h : Heap} (hZ : Z.Warmed39 s.vm) (hw : ∀ d ∈ wordsChN, d.before a0 Z = true) {kI : Nat} (wi : (Jvm.Cond.instantiable ST kI).before a0 Z = true)
    {x t : Addr} {kb : ClassId} {cs : List Int32} {N2 z : Int32} {vs : List Value} {fm : Value} {i : Nat} {j : Int32} (E : RoadKit.Exa Z h x ST) (V : RoadKit.Fld Z h x ST "value" "[B" (.ref t)) (C : RoadKit.Fld Z h x ST "coder" "B" (.int 0)) (K : RoadKit.Arv Z h t kb .byte N2 vs (.int 0)) (hc : CodA cs 0 N2 vs) (hb : ∀ c ∈ cs, ¬ c < 0 ∧ ¬ (65535 : Int32) < c)
    (S : RoadKit.Sta Z h ST "COMPACT_STRINGS" "Z" (.int z)) (hz : ¬ z = 0) (F : RoadKit.Sta Z h "jdk/internal/util/Preconditions" "SIOOBE_FORMATTER" "Ljava/util/function/BiFunction;" fm) (rf : fm.isRef = true) (l2 : cs.length ≤ 4000) (hi : i < cs.length) (hj : j = Int32.ofNat i) (hfr : 4 ≤ R.frames) (hlo : W + 53 ≤ R.locals) :
    Back l R p e below s args (⟨"java/lang/String", "charAt", "(I)C"⟩ : MethodName) len W (fun P a => a = #[.ref x, .int j] ∧ P.U.heap = h ∧ P.cells + 0 ≤ R.cells ∧ P.slots + 0 ≤ R.slots)
      (fun P _ v B => ∃ L, (v = some (.int (cs.getD i 0)) ∧ L = [] ∧ B.U.heap = h) ∧ B.locs = P.locs ++ L ∧ B.cells = P.cells + 0 ∧ B.slots = P.slots + 0) := by
  subst hj
  intro m meth c P g ig mk a X hg hsize hdg hW hn hp'
  obtain ⟨rfl, rfl, r1, r2⟩ := hp'
  have al : Z.vm.Alike P.U.vm := hZ.alike.trans X.warmed.alike
  obtain ⟨A, hx⟩ := txt_of wi al E V C K hc hb l2
  obtain ⟨v, B, X', ⟨⟨hv, hh⟩, hl, hk, hs⟩, st⟩ := ChN.pays x t A cs.length (fun j => cs.getD j 0) z fm i (tabChN_of (movedChN hZ hw)) hfr hlo m meth c P g ig mk _ X hg hsize hdg hW hn ⟨r1, r2, rfl, hx, hi, sta_is al S, hz, sta_is al F, rf⟩
  exact ⟨v, B, X', ⟨[], ⟨hv, rfl, hh⟩, hl, hk, hs⟩, st⟩
end StrChars.Road
end Jvm.Pilot.@@N@@

namespace Jvm.Pilot.@@N@@
open Jvm Jvm.ClassFile Sem Op Lib Jvm.Free Jvm.Stand Jvm.LawKit Jvm.RoadKit Bundle Jvm.Pilot.@@N@@.Jvm.D
/-! the goal of a body's walk, closed under steps that lead to where it holds -/
def Gl (p : Program) (e : Env) (below : List Frame) (s : State) (Q : Option Value → Heap → List Loc → Prop) (k n : Nat) (S0 : State) : Prop :=
  ∃ s₂ o, Steps p.tables e below S0 s₂ ∧ s₂.status = .running ∧ Ended s₂ below o ∧ ∃ v L, o = .returned v ∧ Q v s₂.heap L ∧ FrameEnd s o s₂ L k n
theorem Gl.back {p : Program} {e : Env} {below : List Frame} {s : State} {Q : Option Value → Heap → List Loc → Prop} {k n : Nat} {S0 S1 : State} (h : ∀ t, Steps p.tables e below S1 t → Steps p.tables e below S0 t) (g : Gl p e below s Q k n S1) : Gl p e below s Q k n S0 := by
  obtain ⟨s₂, o, h1, r⟩ := g; exact ⟨s₂, o, h _ h1, r⟩
theorem Gl.ret {p : Program} {l : Launch} {e : Env} {R : Room} {s : State} {m : MethodId} {args : Array Value} {below : List Frame} {meth : Method} {c : Code} {T : State} {locs : List Loc} {cells slots : Nat} (X : Stand p l e R s m args below meth c T locs cells slots) {h : Heap} (eT : T.heap = h)
    {v : Option Value} (hv : meth.sig.returnType = none → v = none) (hlocks : meth.locks = false) {S0 : State} (st : ∀ fs, (∀ (f : JFrame) (acts : List Action), f.method = m → f.locked = none → f.entered = [] → (doReturn e (T.setTop f) acts v).1 = T.setFrames fs) → Steps p.tables e below S0 (T.setFrames fs))
    {Q : Option Value → Heap → List Loc → Prop} {k n : Nat} (hQ : Q v h locs) (hk : cells ≤ k) (hn : slots ≤ n) : Gl p e below s Q k n S0 := by
  obtain ⟨fs, hr, hrun, hended, hW, hsame⟩ := X.leave (v := v) hv hlocks
  exact ⟨_, _, st fs hr, hrun, hended, v, locs, rfl, eT ▸ hQ, ⟨_, rfl⟩, hW, hsame.mono hk hn⟩
def GlW (p : Program) (e : Env) (below : List Frame) (s : State) (Q : Option Value → Heap → List Loc → Prop) (k n : Nat) (S0 : State) : Prop :=
  ∃ s₂ o, Steps p.tables e below S0 s₂ ∧ s₂.status = .running ∧ Ended s₂ below o ∧ ∃ v L, o = .returned v ∧ Q v s₂.heap L ∧ ReturnedEndW s o s₂ L k n
theorem GlW.back {p : Program} {e : Env} {below : List Frame} {s : State} {Q : Option Value → Heap → List Loc → Prop} {k n : Nat} {S0 S1 : State} (h : ∀ t, Steps p.tables e below S1 t → Steps p.tables e below S0 t) (g : GlW p e below s Q k n S1) : GlW p e below s Q k n S0 := by
  obtain ⟨s₂, o, h1, r⟩ := g; exact ⟨s₂, o, h _ h1, r⟩
theorem GlW.ret {p : Program} {l : Launch} {e : Env} {R : Room} {s : State} {vm0 : Vm} {m : MethodId} {args : Array Value} {below : List Frame} {meth : Method} {c : Code} {T : State} {locs : List Loc} {cells slots : Nat} (X : Stand p l e R (s.setVm vm0) m args below meth c T locs cells slots) {h : Heap} (eT : T.heap = h)
    {k0 : Nat} (hS : s.Since vm0 k0) (hk0 : k0 ≤ h.size) {v : Option Value} (hv : meth.sig.returnType = none → v = none) (hlocks : meth.locks = false) {S0 : State} (st : ∀ fs, (∀ (f : JFrame) (acts : List Action), f.method = m → f.locked = none → f.entered = [] → (doReturn e (T.setTop f) acts v).1 = T.setFrames fs) → Steps p.tables e below S0 (T.setFrames fs))
    {Q : Option Value → Heap → List Loc → Prop} {k n : Nat} (hQ : Q v h locs) (hk : cells ≤ k) (hn : slots ≤ n) : GlW p e below s Q k n S0 := by
  obtain ⟨fs, hr, hrun, hended, hE⟩ := X.leaveW hS (by rw [eT]; exact hk0) (v := v) hv hlocks
  exact ⟨_, _, st fs hr, hrun, hended, v, locs, rfl, eT ▸ hQ, hE.1, hE.2.1, hE.2.2.1, hE.2.2.2.mono hk hn⟩
theorem own_lcL {x y : Int64} (h : x < y) : lcmpW x y < 0 := by rw [lcW]; exact (lc_lt x y).mpr h
theorem own_lcLn {x y : Int64} (h : ¬ x < y) : ¬ lcmpW x y < 0 := by rw [lcW]; exact fun q => h ((lc_lt x y).mp q)
theorem own_lcG {x y : Int64} (h : y < x) : 0 < lcmpW x y := by rw [lcW]; exact (lc_gt x y).mpr h
theorem own_lcGn {x y : Int64} (h : ¬ y < x) : ¬ 0 < lcmpW x y := by rw [lcW]; exact fun q => h ((lc_gt x y).mp q)
theorem own_lcE {x y : Int64} (h : x = y) : lcmpW x y = 0 := by rw [lcW]; exact (lc_eq x y).mpr h
theorem own_lcEn {x y : Int64} (h : ¬ x = y) : ¬ lcmpW x y = 0 := by rw [lcW]; exact fun q => h ((lc_eq x y).mp q)
theorem own_fldI {args : Array Value} {s : State} {t : Term} {C n d : String} {k : Int32} {a : Addr} (ev : t.eval args s none [] s = some (.ref a)) (h : (Jvm.Cond.eq (Term.field t C n d) (Term.int k)).value args s none s [] = some true) : Fld s s.heap a C n d (.int k) := by
  have e := fld_at (C := C) (n := n) (dd := d) ev
  obtain ⟨x, y, h1, h2, k1, k2⟩ := cmp_v (Or.inl h)
  obtain rfl : Value.int k = y := Option.some.inj h2
  obtain ⟨z, rfl⟩ := k2
  have q := Jvm.Cond.eq_ints h1 h2
  obtain rfl : z = k := gotT q h
  exact Fld.start (e ▸ h1)
theorem own_and255 (x : Int32) : ¬ (x &&& (255 : Int32)) < 0 ∧ ¬ (255 : Int32) < (x &&& (255 : Int32)) := by
  have h := Jvm.Kit.i32_mask x 255 (k := 8) (by decide) (by decide)
  have e0 : (0 : Int32).toInt = 0 := by decide
  have e1 : (255 : Int32).toInt = 255 := by decide
  rw [Int32.lt_iff_toInt_lt, Int32.lt_iff_toInt_lt, e0, e1]; omega
theorem own_up {c : Int32} (h : ¬ (255 : Int32) < c) : ¬ (65535 : Int32) < c := by
  have e0 : (255 : Int32).toInt = 255 := by decide
  have e1 : (65535 : Int32).toInt = 65535 := by decide
  rw [Int32.lt_iff_toInt_lt, e0] at h; rw [Int32.lt_iff_toInt_lt, e1]; omega
theorem own_lat1 {a : Int32} (h : ¬ a < 0 ∧ ¬ (255 : Int32) < a) : ∀ c ∈ [a], ¬ c < 0 ∧ ¬ (255 : Int32) < c := fun c hc => by
  simp only [List.mem_cons, List.not_mem_nil, or_false] at hc; subst hc; exact h
theorem own_lat2 {a b : Int32} (h : ¬ a < 0 ∧ ¬ (255 : Int32) < a) (h' : ¬ b < 0 ∧ ¬ (255 : Int32) < b) : ∀ c ∈ [a, b], ¬ c < 0 ∧ ¬ (255 : Int32) < c := fun c hc => by
  simp only [List.mem_cons, List.not_mem_nil, or_false] at hc; rcases hc with rfl | rfl
  · exact h
  · exact h'
theorem own_staI {args : Array Value} {s : State} {C n d : String} {k : Int32} (h : (Jvm.Cond.eq (Term.static C n d) (Term.int k)).before args s = true) (hi : (Jvm.Cond.initializedFor C n d).before args s = true ∨ ((Jvm.Cond.initialized C).before args s = true ∧ (Jvm.Cond.laysStatic C n d).before args s = true)) : Sta s s.heap C n d (.int k) := by
  have h0 := Cond.before_iff.mp h
  obtain ⟨x, y, h1, h2, k1, k2⟩ := cmp_v (Or.inl h0)
  obtain rfl : Value.int k = y := Option.some.inj h2
  obtain ⟨z, rfl⟩ := k2
  obtain rfl : z = k := gotT (Jvm.Cond.eq_ints h1 h2) h0
  exact Sta.start h1 hi
def own_b0 (c : Int32) : Int32 := nar .byte ((c >>> ((0 : Int32) &&& 31)).toInt8.toInt32)
def own_b1 (c : Int32) : Int32 := nar .byte ((c >>> ((8 : Int32) &&& 31)).toInt8.toInt32)
def own_gc (x y : Int32) : Int32 := nar .char ((((x &&& (255 : Int32)) <<< ((0 : Int32) &&& 31)) ||| ((y &&& (255 : Int32)) <<< ((8 : Int32) &&& 31))).toUInt32.toUInt16.toUInt32.toInt32)
theorem own_lo8 (x : Int32) : (x.toInt8.toInt32.toInt8.toInt32 &&& (255 : Int32)).toInt = x.toInt % 256 := by
  have h := Jvm.Kit.i32_mask x.toInt8.toInt32.toInt8.toInt32 255 (k := 8) (by decide) (by decide)
  rw [h, Int8.toInt_toInt32]
  have e1 : x.toInt8.toInt32.toInt8 = x.toInt8 := by
    apply Int8.toInt_inj.mp
    rw [Int32.toInt_toInt8, Int8.toInt_toInt32]
    have b1 := x.toInt8.toInt_lt
    have b2 := x.toInt8.le_toInt
    rw [Int.bmod_def]; omega
  rw [e1, Int32.toInt_toInt8, Int.bmod_def]
  omega
theorem own_or8 {a b : Int32} (ha : 0 ≤ a.toInt ∧ a.toInt < 256) (hb : 0 ≤ b.toInt ∧ b.toInt < 65536 ∧ b.toInt % 256 = 0) : (a ||| b).toInt = a.toInt + b.toInt := by
  have na : a.toBitVec.toNat = a.toInt.toNat := by
    have h : a.toInt = a.toBitVec.toInt := rfl
    rw [BitVec.toInt_eq_toNat_cond] at h; have := a.toBitVec.isLt; split at h <;> omega
  have nb : b.toBitVec.toNat = b.toInt.toNat := by
    have h : b.toInt = b.toBitVec.toInt := rfl
    rw [BitVec.toInt_eq_toNat_cond] at h; have := b.toBitVec.isLt; split at h <;> omega
  have hor : (a ||| b).toBitVec.toNat = a.toInt.toNat + b.toInt.toNat := by
    show (a.toBitVec ||| b.toBitVec).toNat = _
    rw [BitVec.toNat_or, na, nb]
    obtain ⟨q, hq⟩ : ∃ q : Nat, b.toInt.toNat = 2 ^ 8 * q := ⟨b.toInt.toNat / 256, by omega⟩
    rw [hq, Nat.or_comm, ← Nat.two_pow_add_eq_or_of_lt (show a.toInt.toNat < 2 ^ 8 by omega)]
    omega
  have h : (a ||| b).toInt = (a ||| b).toBitVec.toInt := rfl
  rw [h, BitVec.toInt_eq_toNat_cond, hor]
  split <;> omega
theorem own_char {x : Int32} (h : ¬ x < 0 ∧ ¬ (65535 : Int32) < x) : x.toUInt32.toUInt16.toUInt32.toInt32 = x := by
  have e0 : (0 : Int32).toInt = 0 := by decide
  have e1 : (65535 : Int32).toInt = 65535 := by decide
  rw [Int32.lt_iff_toInt_lt, Int32.lt_iff_toInt_lt, e0, e1] at h
  have nx : x.toBitVec.toNat = x.toInt.toNat := by
    have h : x.toInt = x.toBitVec.toInt := rfl
    rw [BitVec.toInt_eq_toNat_cond] at h; have := x.toBitVec.isLt; split at h <;> omega
  apply Int32.toBitVec_inj.mp
  apply BitVec.eq_of_toNat_eq
  show x.toUInt32.toUInt16.toUInt32.toNat = _
  rw [UInt16.toNat_toUInt32, UInt32.toNat_toUInt16]
  show x.toBitVec.toNat % 2 ^ 16 = _
  omega
theorem own_gcb {c : Int32} (h : ¬ c < 0 ∧ ¬ (65535 : Int32) < c) : own_gc (own_b0 c) (own_b1 c) = c := by
  have h' := h
  have e0 : (0 : Int32).toInt = 0 := by decide
  have e1 : (65535 : Int32).toInt = 65535 := by decide
  rw [Int32.lt_iff_toInt_lt, Int32.lt_iff_toInt_lt, e0, e1] at h'
  have s0 : c >>> ((0 : Int32) &&& 31) = c := by
    apply Int32.toInt_inj.mp
    rw [Jvm.Kit.i32_shr c _ (k := 0) (by decide)]; omega
  have s8 : (c >>> ((8 : Int32) &&& 31)).toInt = c.toInt / 256 := by rw [Jvm.Kit.i32_shr c _ (k := 8) (by decide)]; rfl
  have a0 := own_lo8 (c >>> ((0 : Int32) &&& 31))
  have a8 := own_lo8 (c >>> ((8 : Int32) &&& 31))
  rw [s0] at a0
  have t0 : ((own_b0 c &&& (255 : Int32)) <<< ((0 : Int32) &&& 31)).toInt = c.toInt % 256 := by
    have q : (own_b0 c &&& (255 : Int32)).toInt = c.toInt % 256 := by unfold own_b0; rw [s0]; exact a0
    rw [Jvm.Kit.i32_shl _ _ (k := 0) (by decide) (by omega) (by omega), q]; omega
  have t8 : ((own_b1 c &&& (255 : Int32)) <<< ((8 : Int32) &&& 31)).toInt = c.toInt / 256 % 256 * 256 := by
    have q : (own_b1 c &&& (255 : Int32)).toInt = c.toInt / 256 % 256 := by unfold own_b1; rw [← s8]; exact a8
    rw [Jvm.Kit.i32_shl _ _ (k := 8) (by decide) (by omega) (by omega), q]; rfl
  have t := own_or8 (a := (own_b0 c &&& (255 : Int32)) <<< ((0 : Int32) &&& 31)) (b := (own_b1 c &&& (255 : Int32)) <<< ((8 : Int32) &&& 31)) (by omega) (by omega)
  have tt : ((own_b0 c &&& (255 : Int32)) <<< ((0 : Int32) &&& 31) ||| (own_b1 c &&& (255 : Int32)) <<< ((8 : Int32) &&& 31)) = c := by
    apply Int32.toInt_inj.mp; rw [t, t0, t8]; omega
  unfold own_gc
  rw [tt]
  show (c.toUInt32.toUInt16.toUInt32.toInt32).toUInt32.toUInt16.toUInt32.toInt32 = c
  rw [own_char h, own_char h]

theorem own_chr (x : Int32) : (¬ x.toUInt32.toUInt16.toUInt32.toInt32 < 0 ∧ ¬ (65535 : Int32) < x.toUInt32.toUInt16.toUInt32.toInt32) ∧ nar .char (x.toUInt32.toUInt16.toUInt32.toInt32) = x.toUInt32.toUInt16.toUInt32.toInt32 := by
  have h := fits_nar_char x
  have h2 : ¬ x.toUInt32.toUInt16.toUInt32.toInt32 < 0 ∧ ¬ (65535 : Int32) < x.toUInt32.toUInt16.toUInt32.toInt32 := by
    have h' : fits .char (.int (x.toUInt32.toUInt16.toUInt32.toInt32)) = true := h
    simp only [fits, Bool.and_eq_true, decide_eq_true_eq] at h'
    exact ⟨Int32.not_lt.mpr h'.1, Int32.not_lt.mpr h'.2⟩
  exact ⟨h2, own_char h2⟩
theorem own_gc2 {c : Int32} (h : ¬ c < 0 ∧ ¬ (65535 : Int32) < c) : nar .char (nar .char (own_gc (own_b0 c) (own_b1 c))) = c := by
  rw [own_gcb h]
  show (c.toUInt32.toUInt16.toUInt32.toInt32).toUInt32.toUInt16.toUInt32.toInt32 = c
  rw [own_char h, own_char h]
theorem d18_0 : decode jdk_52_method_3_code 0 = .ok (.iload_n 0, 1) := by decide +kernel
theorem d18_1 : decode jdk_52_method_3_code 1 = .ok (.ifCond .ge 11, 3) := by decide +kernel
theorem d18_12 : decode jdk_52_method_3_code 12 = .ok (.iload_n 0, 1) := by decide +kernel
theorem d18_13 : decode jdk_52_method_3_code 13 = .ok (.ldc 20, 2) := by decide +kernel
theorem d18_15 : decode jdk_52_method_3_code 15 = .ok (.if_icmp .lt 40, 3) := by decide +kernel
theorem d18_55 : decode jdk_52_method_3_code 55 = .ok (.iload_n 0, 1) := by decide +kernel
theorem d18_56 : decode jdk_52_method_3_code 56 = .ok (.iconst 1, 1) := by decide +kernel
theorem d18_57 : decode jdk_52_method_3_code 57 = .ok (.ishl, 1) := by decide +kernel
theorem d18_58 : decode jdk_52_method_3_code 58 = .ok (.ireturn, 1) := by decide +kernel
theorem pn_java_lang_StringUTF16 : plainName "java/lang/StringUTF16" = true := by first | (simp [plainName, overriddenIn]; done) | decide +kernel
theorem ef_nbl_1 (m : MethodId)  : entryFrame m #[(.int (1 : Int32))] 1 = mkF m 0 #[.val (.int (1 : Int32))] [] := by first | (simp [entryFrame, mkF, argsToLocals, Value.category]; done) | rfl
def Qnbl_1 (Z : State)  (h0 : Heap) (n0 : Nat) (v : Option Value) (h : Heap) (L : List Loc) : Prop := Fr n0 L ∧ (v = some (.int 2) ∧ h = h0)
set_option maxRecDepth 65536 in
set_option maxHeartbeats 40000000 in
theorem rmnbl_1 (l : Launch) (Z : State) (a0 : Array Value) (hw : ∀ d ∈ tables_1, d.before a0 Z = true) (ws : List Jvm.Cond)  (h0 : Heap) (n0 : Nat) (Z0 : n0 ≤ h0.size) :
    MetFree l (⟨"java/lang/StringUTF16", "newBytesLength", "(I)I"⟩ : MethodName) (head1 (Jvm.Cond.code (⟨"java/lang/StringUTF16", "newBytesLength", "(I)I"⟩ : MethodName) jdk_52_method_3_code 1 (some .int) :: ws) ({ frames := 0, cells := 0, slots := 0, locals := 0 } : Room)) (fun as0 U => as0 = #[(.int (1 : Int32))] ∧ Z.Warmed39 U.vm ∧ U.heap = h0) (fun _ _ _ _ _ => True) (fun _ U oc0 U' => ∃ v L, oc0 = .returned v ∧ Qnbl_1 Z  h0 n0 v U'.heap L ∧ FrameEnd U oc0 U' L ({ frames := 0, cells := 0, slots := 0, locals := 0 } : Room).cells ({ frames := 0, cells := 0, slots := 0, locals := 0 } : Room).slots) := by
  refine MetFree.of_bodySF (plainFor_of_name pn_java_lang_StringUTF16) hisR ?_
  intro p e s m args below meth c s₁ Bd hml0 hP hK
  obtain ⟨rfl, hZ, hh⟩ := hP
  have hx := Bd.exec
  have hby := Bd.bytes
  have hml : c.maxLocals = 1 := hml0
  have hown : s.vm.findClass "java/lang/StringUTF16" = some m.cls := findClass_of_methodNamed Bd.named
  have hnm := (name_of_methodNamed Bd.named Bd.method).1
  have X0 : Stand p l e ({ frames := 0, cells := 0, slots := 0, locals := 0 } : Room) s m #[(.int (1 : Int32))] below meth c s₁ [] 0 0 := Stand.of_body Bd
  have e0 : s₁.heap = h0 := by rw [← hh, Bd.state]; rfl
  have N0 := Fr.nil n0
  show Gl p e below s (Qnbl_1 Z  h0 n0) ({ frames := 0, cells := 0, slots := 0, locals := 0 } : Room).cells ({ frames := 0, cells := 0, slots := 0, locals := 0 } : Room).slots (s₁.setTop (entryFrame m #[(.int (1 : Int32))] 1))
  refine Gl.back (fun _ k => castTop (ef_nbl_1 m ) k) ?_
  show Gl _ _ _ _ _ _ _ (s₁.setTop (mkF m 0 #[.val (.int (1 : Int32))] []))
  refine Gl.back (fun _ k => XS.iloadN X0.here hx rfl (hb hby d18_0) rfl k) ?_
  show Gl _ _ _ _ _ _ _ (s₁.setTop (mkF m 1 #[.val (.int (1 : Int32))] [(.int (1 : Int32))]))
  refine Gl.back (fun _ k => XS.ifYes X0.here hx rfl (pc0 := 1) (pc' := 12) rfl (hb hby d18_1) rfl ((if0 _ _).trans (flt (by decide : ¬ (1 : Int32) < (0 : Int32))).2.1) (by decide) (by decide) k) ?_
  show Gl _ _ _ _ _ _ _ (s₁.setTop (mkF m 12 #[.val (.int (1 : Int32))] []))
  refine Gl.back (fun _ k => XS.iloadN X0.here hx rfl (hb hby d18_12) rfl k) ?_
  show Gl _ _ _ _ _ _ _ (s₁.setTop (mkF m 13 #[.val (.int (1 : Int32))] [(.int (1 : Int32))]))
  refine Gl.back (fun _ k => X0.ldcInt hx hown (mvT hZ (hw _ (List.mem_of_getElem? (i := 101) rfl))) (g := (mkF m 13 #[.val (.int (1 : Int32))] [(.int (1 : Int32))])) rfl (hb hby d18_13) _ k) ?_
  show Gl _ _ _ _ _ _ _ (s₁.setTop (mkF m 15 #[.val (.int (1 : Int32))] [(.int (1073741823 : Int32)), (.int (1 : Int32))]))
  refine Gl.back (fun _ k => XS.icmpYes X0.here hx rfl (pc0 := 15) (pc' := 55) rfl (hb hby d18_15) rfl (tlt (by decide : (1 : Int32) < (1073741823 : Int32))).1 (by decide) (by decide) k) ?_
  show Gl _ _ _ _ _ _ _ (s₁.setTop (mkF m 55 #[.val (.int (1 : Int32))] []))
  refine Gl.back (fun _ k => XS.iloadN X0.here hx rfl (hb hby d18_55) rfl k) ?_
  show Gl _ _ _ _ _ _ _ (s₁.setTop (mkF m 56 #[.val (.int (1 : Int32))] [(.int (1 : Int32))]))
  refine Gl.back (fun _ k => XS.iconst X0.here hx rfl (hb hby d18_56) k) ?_
  show Gl _ _ _ _ _ _ _ (s₁.setTop (mkF m 57 #[.val (.int (1 : Int32))] [(.int (1 : Int32)), (.int (1 : Int32))]))
  refine Gl.back (fun _ k => XS.ishl X0.here hx rfl (hb hby d18_57) rfl k) ?_
  show Gl _ _ _ _ _ _ _ (s₁.setTop (mkF m 58 #[.val (.int (1 : Int32))] [(.int (2 : Int32))]))
  exact Gl.ret X0 e0 (v := (some (.int (2 : Int32)))) (fun h => by rw [Bd.returns] at h; cases h) Bd.notSynchronized (fun fs hr => retOut X0 hx (w := (.int (2 : Int32))) Bd.returns rfl (Or.inl ⟨rfl, Or.inl rfl, _, rfl⟩) (hb hby d18_58) hr) ⟨N0, rfl, rfl⟩ (by decide) (by decide)
theorem d17_0 : decode jdk_52_method_2_code 0 = .ok (.iload_n 0, 1) := by decide +kernel
theorem d17_1 : decode jdk_52_method_2_code 1 = .ok (.invokestatic 11, 3) := by decide +kernel
theorem pd__I_I : parseMethodDescriptor "(I)I" = some ⟨[.int], some .int⟩ := by decide +kernel
theorem d17_4 : decode jdk_52_method_2_code 4 = .ok (.newarray .byte, 2) := by decide +kernel
theorem d17_6 : decode jdk_52_method_2_code 6 = .ok (.areturn, 1) := by decide +kernel
theorem ef_nbf_1 (m : MethodId)  : entryFrame m #[(.int (1 : Int32))] 1 = mkF m 0 #[.val (.int (1 : Int32))] [] := by first | (simp [entryFrame, mkF, argsToLocals, Value.category]; done) | rfl
def Qnbf_1 (Z : State)  (h0 : Heap) (n0 : Nat) (v : Option Value) (h : Heap) (L : List Loc) : Prop := Fr n0 L ∧ (∃ (t : Addr) (k : ClassId), v = some (.ref t) ∧ Keep h0 h [] ∧ h0.size ≤ t ∧ n0 ≤ t ∧ Arv Z h t k .byte (2 : Int32) [(.int (0 : Int32)), (.int (0 : Int32))] (.int (0 : Int32)))
set_option maxRecDepth 65536 in
set_option maxHeartbeats 40000000 in
theorem rmnbf_1 (l : Launch) (Z : State) (a0 : Array Value) (hw : ∀ d ∈ tables_1, d.before a0 Z = true) (ws : List Jvm.Cond)  (h0 : Heap) (n0 : Nat) (Z0 : n0 ≤ h0.size) :
    MetFree l (⟨"java/lang/StringUTF16", "newBytesFor", "(I)[B"⟩ : MethodName) (head1 (Jvm.Cond.code (⟨"java/lang/StringUTF16", "newBytesFor", "(I)[B"⟩ : MethodName) jdk_52_method_2_code 1 (some (.array .byte)) :: ws) ({ frames := 1, cells := 1, slots := 2, locals := 12 } : Room)) (fun as0 U => as0 = #[(.int (1 : Int32))] ∧ Z.Warmed39 U.vm ∧ U.heap = h0) (fun _ _ _ _ _ => True) (fun _ U oc0 U' => ∃ v L, oc0 = .returned v ∧ Qnbf_1 Z  h0 n0 v U'.heap L ∧ FrameEnd U oc0 U' L ({ frames := 1, cells := 1, slots := 2, locals := 12 } : Room).cells ({ frames := 1, cells := 1, slots := 2, locals := 12 } : Room).slots) := by
  refine MetFree.of_bodySF (plainFor_of_name pn_java_lang_StringUTF16) hisR ?_
  intro p e s m args below meth c s₁ Bd hml0 hP hK
  obtain ⟨rfl, hZ, hh⟩ := hP
  have hx := Bd.exec
  have hby := Bd.bytes
  have hml : c.maxLocals = 1 := hml0
  have hown : s.vm.findClass "java/lang/StringUTF16" = some m.cls := findClass_of_methodNamed Bd.named
  have hnm := (name_of_methodNamed Bd.named Bd.method).1
  have X0 : Stand p l e ({ frames := 1, cells := 1, slots := 2, locals := 12 } : Room) s m #[(.int (1 : Int32))] below meth c s₁ [] 0 0 := Stand.of_body Bd
  have e0 : s₁.heap = h0 := by rw [← hh, Bd.state]; rfl
  have N0 := Fr.nil n0
  show Gl p e below s (Qnbf_1 Z  h0 n0) ({ frames := 1, cells := 1, slots := 2, locals := 12 } : Room).cells ({ frames := 1, cells := 1, slots := 2, locals := 12 } : Room).slots (s₁.setTop (entryFrame m #[(.int (1 : Int32))] 1))
  refine Gl.back (fun _ k => castTop (ef_nbf_1 m ) k) ?_
  show Gl _ _ _ _ _ _ _ (s₁.setTop (mkF m 0 #[.val (.int (1 : Int32))] []))
  refine Gl.back (fun _ k => XS.iloadN X0.here hx rfl (hb hby d17_0) rfl k) ?_
  show Gl _ _ _ _ _ _ _ (s₁.setTop (mkF m 1 #[.val (.int (1 : Int32))] [(.int (1 : Int32))]))
  obtain ⟨_, _, ⟨T1, L1, k1, n1⟩, -, X1, ⟨Lc1, hQ1, l1, y1, z1⟩, st1⟩ := Jvm.LawKit.callS X0 hx (y := (⟨"java/lang/StringUTF16", "newBytesLength", "(I)I"⟩ : MethodName)) hown (mvT hZ (hw _ (List.mem_of_getElem? (i := 98) rfl))) (mvT hZ (hw _ (List.mem_of_getElem? (i := 99) rfl))) (mvT hZ (hw _ (List.mem_of_getElem? (i := 18) rfl))) (mvT hZ (hw _ (List.mem_of_getElem? (i := 100) rfl))) (by decide) (backOf (W := 0) (rmnbl_1 l Z a0 hw []   h0 n0 Z0 ) hZ (hw _ (List.mem_of_getElem? (i := 100) rfl)) (hw _ (List.mem_of_getElem? (i := 18) rfl)) (by decide) (by decide)) (g := (mkF m 1 #[.val (.int (1 : Int32))] [(.int (1 : Int32))])) rfl (by rw [hml]; rfl) (argsL := [(.int (1 : Int32))]) (rest := []) (lenOf pd__I_I rfl) rfl (by show 2 * 0 + _ ≤ _; exact Nat.le_of_eq rfl) (hb hby d17_1) (fun _ _ => ⟨rfl, e0, (by decide : 0 + 0 ≤ _), (by decide : 0 + 0 ≤ _)⟩)
  dsimp only [Pt.U, Pt.locs, Pt.cells, Pt.slots] at X1 l1 y1 z1 st1 hQ1
  replace l1 := Eq.symm l1
  replace y1 := Eq.symm y1
  replace z1 := Eq.symm z1
  subst l1 y1 z1
  obtain ⟨Nq1, rfl, eh1⟩ := hQ1
  have N1 := Fr.app N0 Nq1
  refine Gl.back (fun _ k => st1 _ k) ?_
  show Gl _ _ _ _ _ _ _ (T1.setTop (mkF m 4 #[.val (.int (1 : Int32))] [(.int (2 : Int32))]))
  obtain ⟨T2, h2, k2, X2, e2, E2, A2, st2⟩ := newP X1 hx hZ (hw _ (List.mem_of_getElem? (i := 20) rfl)) eh1 (g := (mkF m 4 #[.val (.int (1 : Int32))] [(.int (2 : Int32))])) rfl (hb hby d17_4) rfl (by decide) (cap := 2) (by decide) (by decide) (by decide) (by decide)
  obtain ⟨b2, g2⟩ : ∃ z, z = h0.size := ⟨_, rfl⟩
  rw [← g2] at A2 st2
  have V2 : Arv Z h2 b2 k2 .byte (2 : Int32) [(.int (0 : Int32)), (.int (0 : Int32))] (.int (0 : Int32)) := (Arv.new A2 (by decide)).pad (pad_rep [] (.int (0 : Int32)) 2)
  have g_b2 : n0 ≤ b2 := Nat.le_trans Z0 (Nat.le_of_eq g2.symm)
  have sz_b2 : h0.size ≤ b2 := Nat.le_trans (Keep.refl h0 []).1 (Nat.le_of_eq g2.symm)
  have Z2 : n0 ≤ h2.size := Nat.le_trans Z0 E2.1
  have K2 := Keep.ext (Keep.refl h0 []) E2
  refine Gl.back (fun _ k => st2 _ k) ?_
  show Gl _ _ _ _ _ _ _ (T2.setTop (mkF m 6 #[.val (.int (1 : Int32))] [(.ref b2)]))
  exact Gl.ret X2 e2 (v := (some (.ref b2))) (fun h => by rw [Bd.returns] at h; cases h) Bd.notSynchronized (fun fs hr => retOut X2 hx (w := (.ref b2)) Bd.returns rfl (Or.inr (Or.inr (Or.inr (Or.inr ⟨rfl, rfl, rfl⟩)))) (hb hby d17_6) hr) ⟨N1, b2, k2, rfl, K2, sz_b2, g_b2, V2⟩ (by decide) (by decide)
theorem d19_0 : decode jdk_52_method_4_code 0 = .ok (.getstatic 44, 3) := by decide +kernel
theorem d19_3 : decode jdk_52_method_4_code 3 = .ok (.ifCond .ne 25, 3) := by decide +kernel
theorem d19_28 : decode jdk_52_method_4_code 28 = .ok (.iload_n 1, 1) := by decide +kernel
theorem d19_29 : decode jdk_52_method_4_code 29 = .ok (.iconst 1, 1) := by decide +kernel
theorem d19_30 : decode jdk_52_method_4_code 30 = .ok (.ishl, 1) := by decide +kernel
theorem d19_31 : decode jdk_52_method_4_code 31 = .ok (.istore_n 1, 1) := by decide +kernel
theorem d19_32 : decode jdk_52_method_4_code 32 = .ok (.aload_n 0, 1) := by decide +kernel
theorem d19_33 : decode jdk_52_method_4_code 33 = .ok (.iload_n 1, 1) := by decide +kernel
theorem d19_34 : decode jdk_52_method_4_code 34 = .ok (.iinc 1 1, 3) := by decide +kernel
theorem d19_37 : decode jdk_52_method_4_code 37 = .ok (.iload_n 2, 1) := by decide +kernel
theorem d19_38 : decode jdk_52_method_4_code 38 = .ok (.getstatic 59, 3) := by decide +kernel
theorem d19_41 : decode jdk_52_method_4_code 41 = .ok (.ishr, 1) := by decide +kernel
theorem d19_42 : decode jdk_52_method_4_code 42 = .ok (.i2b, 1) := by decide +kernel
theorem d19_43 : decode jdk_52_method_4_code 43 = .ok (.bastore, 1) := by decide +kernel
theorem d19_44 : decode jdk_52_method_4_code 44 = .ok (.aload_n 0, 1) := by decide +kernel
theorem d19_45 : decode jdk_52_method_4_code 45 = .ok (.iload_n 1, 1) := by decide +kernel
theorem d19_46 : decode jdk_52_method_4_code 46 = .ok (.iload_n 2, 1) := by decide +kernel
theorem d19_47 : decode jdk_52_method_4_code 47 = .ok (.getstatic 63, 3) := by decide +kernel
theorem d19_50 : decode jdk_52_method_4_code 50 = .ok (.ishr, 1) := by decide +kernel
theorem d19_51 : decode jdk_52_method_4_code 51 = .ok (.i2b, 1) := by decide +kernel
theorem d19_52 : decode jdk_52_method_4_code 52 = .ok (.bastore, 1) := by decide +kernel
theorem d19_53 : decode jdk_52_method_4_code 53 = .ok (.return_, 1) := by decide +kernel
theorem ef_put_1_0 (m : MethodId) (x0 : Addr) (x2 : Int32) : entryFrame m #[(.ref x0), (.int (0 : Int32)), (.int x2)] 3 = mkF m 0 #[.val (.ref x0), .val (.int (0 : Int32)), .val (.int x2)] [] := by first | (simp [entryFrame, mkF, argsToLocals, Value.category]; done) | rfl
def Qput_1_0 (Z : State) (t : Addr) (cc : Int32) (k_t : ClassId) (h0 : Heap) (n0 : Nat) (v : Option Value) (h : Heap) (L : List Loc) : Prop := Fr n0 L ∧ (v = none ∧ Keep h0 h [t] ∧ Arv Z h t k_t .byte (2 : Int32) [(.int (own_b0 cc)), (.int (own_b1 cc))] (.int (0 : Int32)))
set_option maxRecDepth 65536 in
set_option maxHeartbeats 40000000 in
theorem rmput_1_0 (l : Launch) (Z : State) (a0 : Array Value) (hw : ∀ d ∈ tables_1, d.before a0 Z = true) (ws : List Jvm.Cond) (t : Addr) (cc : Int32) (k_t : ClassId) (h0 : Heap) (n0 : Nat) (Z0 : n0 ≤ h0.size) (O0 : Old Z n0 h0) (S_AD : Sta Z Z.heap "java/lang/StringUTF16" "$assertionsDisabled" "Z" (.int 1)) (S_HI : Sta Z Z.heap "java/lang/StringUTF16" "HI_BYTE_SHIFT" "I" (.int 0)) (S_LO : Sta Z Z.heap "java/lang/StringUTF16" "LO_BYTE_SHIFT" "I" (.int 8)) (g_t : n0 ≤ t) (V_t : Arv Z h0 t k_t .byte (2 : Int32) [(.int (0 : Int32)), (.int (0 : Int32))] (.int (0 : Int32))) :
    MetFree l (⟨"java/lang/StringUTF16", "putChar", "([BII)V"⟩ : MethodName) (head1 (Jvm.Cond.code (⟨"java/lang/StringUTF16", "putChar", "([BII)V"⟩ : MethodName) jdk_52_method_4_code 3 none :: ws) ({ frames := 0, cells := 0, slots := 0, locals := 0 } : Room)) (fun as0 U => as0 = #[(.ref t), (.int (0 : Int32)), (.int cc)] ∧ Z.Warmed39 U.vm ∧ U.heap = h0) (fun _ _ _ _ _ => True) (fun _ U oc0 U' => ∃ v L, oc0 = .returned v ∧ Qput_1_0 Z t cc k_t h0 n0 v U'.heap L ∧ FrameEnd U oc0 U' L ({ frames := 0, cells := 0, slots := 0, locals := 0 } : Room).cells ({ frames := 0, cells := 0, slots := 0, locals := 0 } : Room).slots) := by
  refine MetFree.of_bodySF (plainFor_of_name pn_java_lang_StringUTF16) hisR ?_
  intro p e s m args below meth c s₁ Bd hml0 hP hK
  obtain ⟨rfl, hZ, hh⟩ := hP
  have hx := Bd.exec
  have hby := Bd.bytes
  have hml : c.maxLocals = 3 := hml0
  have hown : s.vm.findClass "java/lang/StringUTF16" = some m.cls := findClass_of_methodNamed Bd.named
  have hnm := (name_of_methodNamed Bd.named Bd.method).1
  have X0 : Stand p l e ({ frames := 0, cells := 0, slots := 0, locals := 0 } : Room) s m #[(.ref t), (.int (0 : Int32)), (.int cc)] below meth c s₁ [] 0 0 := Stand.of_body Bd
  have e0 : s₁.heap = h0 := by rw [← hh, Bd.state]; rfl
  have N0 := Fr.nil n0
  show Gl p e below s (Qput_1_0 Z t cc k_t h0 n0) ({ frames := 0, cells := 0, slots := 0, locals := 0 } : Room).cells ({ frames := 0, cells := 0, slots := 0, locals := 0 } : Room).slots (s₁.setTop (entryFrame m #[(.ref t), (.int (0 : Int32)), (.int cc)] 3))
  refine Gl.back (fun _ k => castTop (ef_put_1_0 m t cc) k) ?_
  show Gl _ _ _ _ _ _ _ (s₁.setTop (mkF m 0 #[.val (.ref t), .val (.int (0 : Int32)), .val (.int cc)] []))
  obtain ⟨T3, X3, e3, st3⟩ := getS2 X0 hx hZ hown (host := "") (Or.inl (hw _ (List.mem_of_getElem? (i := 105) rfl))) Via.refl e0 (S_AD.ext O0.2) (g := (mkF m 0 #[.val (.ref t), .val (.int (0 : Int32)), .val (.int cc)] [])) rfl (hb hby d19_0)
  refine Gl.back (fun _ k => st3 _ k) ?_
  show Gl _ _ _ _ _ _ _ (T3.setTop (mkF m 3 #[.val (.ref t), .val (.int (0 : Int32)), .val (.int cc)] [(.int (1 : Int32))]))
  refine Gl.back (fun _ k => XS.ifYes X3.here hx rfl (pc0 := 3) (pc' := 28) rfl (hb hby d19_3) rfl ((if0 _ _).trans (feq (by decide : ¬ (1 : Int32) = (0 : Int32))).2) (by decide) (by decide) k) ?_
  show Gl _ _ _ _ _ _ _ (T3.setTop (mkF m 28 #[.val (.ref t), .val (.int (0 : Int32)), .val (.int cc)] []))
  refine Gl.back (fun _ k => XS.iloadN X3.here hx rfl (hb hby d19_28) rfl k) ?_
  show Gl _ _ _ _ _ _ _ (T3.setTop (mkF m 29 #[.val (.ref t), .val (.int (0 : Int32)), .val (.int cc)] [(.int (0 : Int32))]))
  refine Gl.back (fun _ k => XS.iconst X3.here hx rfl (hb hby d19_29) k) ?_
  show Gl _ _ _ _ _ _ _ (T3.setTop (mkF m 30 #[.val (.ref t), .val (.int (0 : Int32)), .val (.int cc)] [(.int (1 : Int32)), (.int (0 : Int32))]))
  refine Gl.back (fun _ k => XS.ishl X3.here hx rfl (hb hby d19_30) rfl k) ?_
  show Gl _ _ _ _ _ _ _ (T3.setTop (mkF m 31 #[.val (.ref t), .val (.int (0 : Int32)), .val (.int cc)] [(.int (0 : Int32))]))
  refine Gl.back (fun _ k => XS.istoreN X3.here hx rfl (hb hby d19_31) rfl (l' := #[.val (.ref t), .val (.int (0 : Int32)), .val (.int cc)]) rfl k) ?_
  show Gl _ _ _ _ _ _ _ (T3.setTop (mkF m 32 #[.val (.ref t), .val (.int (0 : Int32)), .val (.int cc)] []))
  refine Gl.back (fun _ k => XS.aloadN X3.here hx rfl (hb hby d19_32) rfl rfl k) ?_
  show Gl _ _ _ _ _ _ _ (T3.setTop (mkF m 33 #[.val (.ref t), .val (.int (0 : Int32)), .val (.int cc)] [(.ref t)]))
  refine Gl.back (fun _ k => XS.iloadN X3.here hx rfl (hb hby d19_33) rfl k) ?_
  show Gl _ _ _ _ _ _ _ (T3.setTop (mkF m 34 #[.val (.ref t), .val (.int (0 : Int32)), .val (.int cc)] [(.int (0 : Int32)), (.ref t)]))
  refine Gl.back (fun _ k => XS.iinc X3.here hx rfl (hb hby d19_34) rfl (l' := #[.val (.ref t), .val (.int (1 : Int32)), .val (.int cc)]) rfl k) ?_
  show Gl _ _ _ _ _ _ _ (T3.setTop (mkF m 37 #[.val (.ref t), .val (.int (1 : Int32)), .val (.int cc)] [(.int (0 : Int32)), (.ref t)]))
  refine Gl.back (fun _ k => XS.iloadN X3.here hx rfl (hb hby d19_37) rfl k) ?_
  show Gl _ _ _ _ _ _ _ (T3.setTop (mkF m 38 #[.val (.ref t), .val (.int (1 : Int32)), .val (.int cc)] [(.int cc), (.int (0 : Int32)), (.ref t)]))
  obtain ⟨T4, X4, e4, st4⟩ := getS2 X3 hx hZ hown (host := "") (Or.inl (hw _ (List.mem_of_getElem? (i := 106) rfl))) Via.refl e3 (S_HI.ext O0.2) (g := (mkF m 38 #[.val (.ref t), .val (.int (1 : Int32)), .val (.int cc)] [(.int cc), (.int (0 : Int32)), (.ref t)])) rfl (hb hby d19_38)
  refine Gl.back (fun _ k => st4 _ k) ?_
  show Gl _ _ _ _ _ _ _ (T4.setTop (mkF m 41 #[.val (.ref t), .val (.int (1 : Int32)), .val (.int cc)] [(.int (0 : Int32)), (.int cc), (.int (0 : Int32)), (.ref t)]))
  refine Gl.back (fun _ k => XS.ishr X4.here hx rfl (hb hby d19_41) rfl k) ?_
  show Gl _ _ _ _ _ _ _ (T4.setTop (mkF m 42 #[.val (.ref t), .val (.int (1 : Int32)), .val (.int cc)] [(.int (cc >>> ((0 : Int32) &&& 31))), (.int (0 : Int32)), (.ref t)]))
  refine Gl.back (fun _ k => XS.i2b X4.here hx rfl (hb hby d19_42) rfl k) ?_
  show Gl _ _ _ _ _ _ _ (T4.setTop (mkF m 43 #[.val (.ref t), .val (.int (1 : Int32)), .val (.int cc)] [(.int ((cc >>> ((0 : Int32) &&& 31)).toInt8.toInt32)), (.int (0 : Int32)), (.ref t)]))
  obtain ⟨cl5, Ar5, q5, Sz5, Nn5, Hs5, Gf5⟩ := id V_t
  have hin5 : ¬ ((0 : Int32) < 0 ∨ cl5.slots.size ≤ ((0 : Int32)).toNatClampNeg) := inb_of Sz5 ⟨by decide, by decide⟩
  obtain ⟨T6, h6, X6, e6, W6, st6⟩ := stB X4 hx hZ e4 Ar5 (j := (0 : Int32)) hin5 (g := (mkF m 43 #[.val (.ref t), .val (.int (1 : Int32)), .val (.int cc)] [(.int ((cc >>> ((0 : Int32) &&& 31)).toInt8.toInt32)), (.int (0 : Int32)), (.ref t)])) rfl rfl (hb hby d19_43)
  have V6 := Arv.set Ar5 q5 Sz5 Nn5 Hs5 Gf5 (fits_nar_byte _) W6 0 rfl (Nat.le_of_ble_eq_true rfl)
  replace V6 : Arv Z h6 t k_t .byte (2 : Int32) [(.int (nar .byte ((cc >>> ((0 : Int32) &&& 31)).toInt8.toInt32))), (.int (0 : Int32))] (.int (0 : Int32)) := V6
  have K6 := Keep.wr (Keep.refl h0 [t]) W6 (Or.inl (List.mem_of_getElem? (i := 0) rfl))
  have O6 := Old.wr O0 W6 g_t
  have Z6 : n0 ≤ h6.size := Nat.le_trans Z0 (Keep.of_wr W6).1
  have N6 := Fr.snoc X6 N0 g_t
  refine Gl.back (fun _ k => st6 _ k) ?_
  show Gl _ _ _ _ _ _ _ (T6.setTop (mkF m 44 #[.val (.ref t), .val (.int (1 : Int32)), .val (.int cc)] []))
  refine Gl.back (fun _ k => XS.aloadN X6.here hx rfl (hb hby d19_44) rfl rfl k) ?_
  show Gl _ _ _ _ _ _ _ (T6.setTop (mkF m 45 #[.val (.ref t), .val (.int (1 : Int32)), .val (.int cc)] [(.ref t)]))
  refine Gl.back (fun _ k => XS.iloadN X6.here hx rfl (hb hby d19_45) rfl k) ?_
  show Gl _ _ _ _ _ _ _ (T6.setTop (mkF m 46 #[.val (.ref t), .val (.int (1 : Int32)), .val (.int cc)] [(.int (1 : Int32)), (.ref t)]))
  refine Gl.back (fun _ k => XS.iloadN X6.here hx rfl (hb hby d19_46) rfl k) ?_
  show Gl _ _ _ _ _ _ _ (T6.setTop (mkF m 47 #[.val (.ref t), .val (.int (1 : Int32)), .val (.int cc)] [(.int cc), (.int (1 : Int32)), (.ref t)]))
  obtain ⟨T7, X7, e7, st7⟩ := getS2 X6 hx hZ hown (host := "") (Or.inl (hw _ (List.mem_of_getElem? (i := 107) rfl))) Via.refl e6 (S_LO.ext O6.2) (g := (mkF m 47 #[.val (.ref t), .val (.int (1 : Int32)), .val (.int cc)] [(.int cc), (.int (1 : Int32)), (.ref t)])) rfl (hb hby d19_47)
  refine Gl.back (fun _ k => st7 _ k) ?_
  show Gl _ _ _ _ _ _ _ (T7.setTop (mkF m 50 #[.val (.ref t), .val (.int (1 : Int32)), .val (.int cc)] [(.int (8 : Int32)), (.int cc), (.int (1 : Int32)), (.ref t)]))
  refine Gl.back (fun _ k => XS.ishr X7.here hx rfl (hb hby d19_50) rfl k) ?_
  show Gl _ _ _ _ _ _ _ (T7.setTop (mkF m 51 #[.val (.ref t), .val (.int (1 : Int32)), .val (.int cc)] [(.int (cc >>> ((8 : Int32) &&& 31))), (.int (1 : Int32)), (.ref t)]))
  refine Gl.back (fun _ k => XS.i2b X7.here hx rfl (hb hby d19_51) rfl k) ?_
  show Gl _ _ _ _ _ _ _ (T7.setTop (mkF m 52 #[.val (.ref t), .val (.int (1 : Int32)), .val (.int cc)] [(.int ((cc >>> ((8 : Int32) &&& 31)).toInt8.toInt32)), (.int (1 : Int32)), (.ref t)]))
  obtain ⟨cl8, Ar8, q8, Sz8, Nn8, Hs8, Gf8⟩ := id V6
  have hin8 : ¬ ((1 : Int32) < 0 ∨ cl8.slots.size ≤ ((1 : Int32)).toNatClampNeg) := inb_of Sz8 ⟨by decide, by decide⟩
  obtain ⟨T9, h9, X9, e9, W9, st9⟩ := stB X7 hx hZ e7 Ar8 (j := (1 : Int32)) hin8 (g := (mkF m 52 #[.val (.ref t), .val (.int (1 : Int32)), .val (.int cc)] [(.int ((cc >>> ((8 : Int32) &&& 31)).toInt8.toInt32)), (.int (1 : Int32)), (.ref t)])) rfl rfl (hb hby d19_52)
  have V9 := Arv.set Ar8 q8 Sz8 Nn8 Hs8 Gf8 (fits_nar_byte _) W9 1 rfl (Nat.le_of_ble_eq_true rfl)
  replace V9 : Arv Z h9 t k_t .byte (2 : Int32) [(.int (nar .byte ((cc >>> ((0 : Int32) &&& 31)).toInt8.toInt32))), (.int (nar .byte ((cc >>> ((8 : Int32) &&& 31)).toInt8.toInt32)))] (.int (0 : Int32)) := V9
  have K9 := Keep.wr K6 W9 (Or.inl (List.mem_of_getElem? (i := 0) rfl))
  have O9 := Old.wr O6 W9 g_t
  have Z9 : n0 ≤ h9.size := Nat.le_trans Z6 (Keep.of_wr W9).1
  have N9 := Fr.snoc X9 N6 g_t
  refine Gl.back (fun _ k => st9 _ k) ?_
  show Gl _ _ _ _ _ _ _ (T9.setTop (mkF m 53 #[.val (.ref t), .val (.int (1 : Int32)), .val (.int cc)] []))
  exact Gl.ret X9 e9 (v := none) (fun _ => rfl) Bd.notSynchronized (fun fs hr => X9.returnOut hx Bd.returns (hb hby d19_53) hr) ⟨N9, rfl, K9, V9⟩ (by decide) (by decide)
theorem d16_0 : decode jdk_52_method_14_code 0 = .ok (.iload_n 2, 1) := by decide +kernel
theorem d16_1 : decode jdk_52_method_14_code 1 = .ok (.invokestatic 107, 3) := by decide +kernel
theorem pd__I__B : parseMethodDescriptor "(I)[B" = some ⟨[.int], some (.array .byte)⟩ := by decide +kernel
theorem d16_4 : decode jdk_52_method_14_code 4 = .ok (.astore_n 3, 1) := by decide +kernel
theorem d16_5 : decode jdk_52_method_14_code 5 = .ok (.iconst 0, 1) := by decide +kernel
theorem d16_6 : decode jdk_52_method_14_code 6 = .ok (.istore 4, 2) := by decide +kernel
theorem d16_8 : decode jdk_52_method_14_code 8 = .ok (.iload 4, 2) := by decide +kernel
theorem d16_10 : decode jdk_52_method_14_code 10 = .ok (.iload_n 2, 1) := by decide +kernel
theorem d16_11 : decode jdk_52_method_14_code 11 = .ok (.if_icmp .ge 21, 3) := by decide +kernel
theorem d16_14 : decode jdk_52_method_14_code 14 = .ok (.aload_n 3, 1) := by decide +kernel
theorem d16_15 : decode jdk_52_method_14_code 15 = .ok (.iload 4, 2) := by decide +kernel
theorem d16_17 : decode jdk_52_method_14_code 17 = .ok (.aload_n 0, 1) := by decide +kernel
theorem d16_18 : decode jdk_52_method_14_code 18 = .ok (.iload_n 1, 1) := by decide +kernel
theorem d16_19 : decode jdk_52_method_14_code 19 = .ok (.caload, 1) := by decide +kernel
theorem d16_20 : decode jdk_52_method_14_code 20 = .ok (.invokestatic 111, 3) := by decide +kernel
theorem pd___BII_V : parseMethodDescriptor "([BII)V" = some ⟨[(.array .byte), .int, .int], none⟩ := by decide +kernel
theorem d16_23 : decode jdk_52_method_14_code 23 = .ok (.iinc 1 1, 3) := by decide +kernel
theorem d16_26 : decode jdk_52_method_14_code 26 = .ok (.iinc 4 1, 3) := by decide +kernel
theorem d16_29 : decode jdk_52_method_14_code 29 = .ok (.goto (-21), 3) := by decide +kernel
theorem d16_32 : decode jdk_52_method_14_code 32 = .ok (.aload_n 3, 1) := by decide +kernel
theorem d16_33 : decode jdk_52_method_14_code 33 = .ok (.areturn, 1) := by decide +kernel
theorem ef_tob_1 (m : MethodId) (x0 : Addr) : entryFrame m #[(.ref x0), (.int (0 : Int32)), (.int (1 : Int32))] 5 = mkF m 0 #[.val (.ref x0), .val (.int (0 : Int32)), .val (.int (1 : Int32)), .unset, .unset] [] := by first | (simp [entryFrame, mkF, argsToLocals, Value.category]; done) | rfl
def Qtob_1 (Z : State) (b : Addr) (k_b : ClassId) (c0 : Int32) (h0 : Heap) (n0 : Nat) (v : Option Value) (h : Heap) (L : List Loc) : Prop := Fr n0 L ∧ (∃ (t : Addr) (k : ClassId), v = some (.ref t) ∧ Keep h0 h [] ∧ h0.size ≤ t ∧ n0 ≤ t ∧ Arv Z h t k .byte (2 : Int32) [(.int (own_b0 c0)), (.int (own_b1 c0))] (.int (0 : Int32)))
set_option maxRecDepth 65536 in
set_option maxHeartbeats 40000000 in
theorem rmtob_1 (l : Launch) (Z : State) (a0 : Array Value) (hw : ∀ d ∈ tables_1, d.before a0 Z = true) (ws : List Jvm.Cond) (b : Addr) (k_b : ClassId) (c0 : Int32) (h0 : Heap) (n0 : Nat) (Z0 : n0 ≤ h0.size) (O0 : Old Z n0 h0) (S_AD : Sta Z Z.heap "java/lang/StringUTF16" "$assertionsDisabled" "Z" (.int 1)) (S_HI : Sta Z Z.heap "java/lang/StringUTF16" "HI_BYTE_SHIFT" "I" (.int 0)) (S_LO : Sta Z Z.heap "java/lang/StringUTF16" "LO_BYTE_SHIFT" "I" (.int 8)) (V_b : Arv Z h0 b k_b .char (1 : Int32) [(.int c0)] (.int (0 : Int32))) :
    MetFree l (⟨"java/lang/StringUTF16", "toBytes", "([CII)[B"⟩ : MethodName) (head1 (Jvm.Cond.code (⟨"java/lang/StringUTF16", "toBytes", "([CII)[B"⟩ : MethodName) jdk_52_method_14_code 5 (some (.array .byte)) :: ws) ({ frames := 2, cells := 1, slots := 2, locals := 24 } : Room)) (fun as0 U => as0 = #[(.ref b), (.int (0 : Int32)), (.int (1 : Int32))] ∧ Z.Warmed39 U.vm ∧ U.heap = h0) (fun _ _ _ _ _ => True) (fun _ U oc0 U' => ∃ v L, oc0 = .returned v ∧ Qtob_1 Z b k_b c0 h0 n0 v U'.heap L ∧ FrameEnd U oc0 U' L ({ frames := 2, cells := 1, slots := 2, locals := 24 } : Room).cells ({ frames := 2, cells := 1, slots := 2, locals := 24 } : Room).slots) := by
  refine MetFree.of_bodySF (plainFor_of_name pn_java_lang_StringUTF16) hisR ?_
  intro p e s m args below meth c s₁ Bd hml0 hP hK
  obtain ⟨rfl, hZ, hh⟩ := hP
  have hx := Bd.exec
  have hby := Bd.bytes
  have hml : c.maxLocals = 5 := hml0
  have hown : s.vm.findClass "java/lang/StringUTF16" = some m.cls := findClass_of_methodNamed Bd.named
  have hnm := (name_of_methodNamed Bd.named Bd.method).1
  have X0 : Stand p l e ({ frames := 2, cells := 1, slots := 2, locals := 24 } : Room) s m #[(.ref b), (.int (0 : Int32)), (.int (1 : Int32))] below meth c s₁ [] 0 0 := Stand.of_body Bd
  have e0 : s₁.heap = h0 := by rw [← hh, Bd.state]; rfl
  have N0 := Fr.nil n0
  show Gl p e below s (Qtob_1 Z b k_b c0 h0 n0) ({ frames := 2, cells := 1, slots := 2, locals := 24 } : Room).cells ({ frames := 2, cells := 1, slots := 2, locals := 24 } : Room).slots (s₁.setTop (entryFrame m #[(.ref b), (.int (0 : Int32)), (.int (1 : Int32))] 5))
  refine Gl.back (fun _ k => castTop (ef_tob_1 m b) k) ?_
  show Gl _ _ _ _ _ _ _ (s₁.setTop (mkF m 0 #[.val (.ref b), .val (.int (0 : Int32)), .val (.int (1 : Int32)), .unset, .unset] []))
  refine Gl.back (fun _ k => XS.iloadN X0.here hx rfl (hb hby d16_0) rfl k) ?_
  show Gl _ _ _ _ _ _ _ (s₁.setTop (mkF m 1 #[.val (.ref b), .val (.int (0 : Int32)), .val (.int (1 : Int32)), .unset, .unset] [(.int (1 : Int32))]))
  obtain ⟨_, _, ⟨T10, L10, k10, n10⟩, -, X10, ⟨Lc10, hQ10, l10, y10, z10⟩, st10⟩ := Jvm.LawKit.callS X0 hx (y := (⟨"java/lang/StringUTF16", "newBytesFor", "(I)[B"⟩ : MethodName)) hown (mvT hZ (hw _ (List.mem_of_getElem? (i := 95) rfl))) (mvT hZ (hw _ (List.mem_of_getElem? (i := 96) rfl))) (mvT hZ (hw _ (List.mem_of_getElem? (i := 18) rfl))) (mvT hZ (hw _ (List.mem_of_getElem? (i := 97) rfl))) (by decide) (backOf (W := 0) (rmnbf_1 l Z a0 hw []   h0 n0 Z0 ) hZ (hw _ (List.mem_of_getElem? (i := 97) rfl)) (hw _ (List.mem_of_getElem? (i := 18) rfl)) (by decide) (by decide)) (g := (mkF m 1 #[.val (.ref b), .val (.int (0 : Int32)), .val (.int (1 : Int32)), .unset, .unset] [(.int (1 : Int32))])) rfl (by rw [hml]; rfl) (argsL := [(.int (1 : Int32))]) (rest := []) (lenOf pd__I__B rfl) rfl (by show 2 * 0 + _ ≤ _; exact Nat.le_of_eq rfl) (hb hby d16_1) (fun _ _ => ⟨rfl, e0, (by decide : 0 + 1 ≤ _), (by decide : 0 + 2 ≤ _)⟩)
  dsimp only [Pt.U, Pt.locs, Pt.cells, Pt.slots] at X10 l10 y10 z10 st10 hQ10
  replace l10 := Eq.symm l10
  replace y10 := Eq.symm y10
  replace z10 := Eq.symm z10
  subst l10 y10 z10
  obtain ⟨Nq10, t10, k010, rfl, Kq10, Sz10, Gz10, V10⟩ := hQ10
  have N10 := Fr.app N0 Nq10
  have Kc10 := Keep.trans (Keep.refl h0 []) Kq10 all0
  have Zc10 : n0 ≤ T10.heap.size := Nat.le_trans Z0 Kq10.1
  have Oc10 := Old.keep O0 Kq10 all0
  have ne_b_t10 : b ≠ t10 := Nat.ne_of_lt (Nat.lt_of_lt_of_le (V_b).lt Sz10)
  have sz_t10 : h0.size ≤ t10 := Nat.le_trans (Keep.refl h0 []).1 Sz10
  refine Gl.back (fun _ k => st10 _ k) ?_
  show Gl _ _ _ _ _ _ _ (T10.setTop (mkF m 4 #[.val (.ref b), .val (.int (0 : Int32)), .val (.int (1 : Int32)), .unset, .unset] [(.ref t10)]))
  refine Gl.back (fun _ k => XS.astoreN X10.here hx rfl (hb hby d16_4) rfl rfl (l' := #[.val (.ref b), .val (.int (0 : Int32)), .val (.int (1 : Int32)), .val (.ref t10), .unset]) rfl k) ?_
  show Gl _ _ _ _ _ _ _ (T10.setTop (mkF m 5 #[.val (.ref b), .val (.int (0 : Int32)), .val (.int (1 : Int32)), .val (.ref t10), .unset] []))
  refine Gl.back (fun _ k => XS.iconst X10.here hx rfl (hb hby d16_5) k) ?_
  show Gl _ _ _ _ _ _ _ (T10.setTop (mkF m 6 #[.val (.ref b), .val (.int (0 : Int32)), .val (.int (1 : Int32)), .val (.ref t10), .unset] [(.int (0 : Int32))]))
  refine Gl.back (fun _ k => XS.istore X10.here hx rfl (hb hby d16_6) rfl (l' := #[.val (.ref b), .val (.int (0 : Int32)), .val (.int (1 : Int32)), .val (.ref t10), .val (.int (0 : Int32))]) rfl k) ?_
  show Gl _ _ _ _ _ _ _ (T10.setTop (mkF m 8 #[.val (.ref b), .val (.int (0 : Int32)), .val (.int (1 : Int32)), .val (.ref t10), .val (.int (0 : Int32))] []))
  refine Gl.back (fun _ k => XS.iload X10.here hx rfl (hb hby d16_8) rfl k) ?_
  show Gl _ _ _ _ _ _ _ (T10.setTop (mkF m 10 #[.val (.ref b), .val (.int (0 : Int32)), .val (.int (1 : Int32)), .val (.ref t10), .val (.int (0 : Int32))] [(.int (0 : Int32))]))
  refine Gl.back (fun _ k => XS.iloadN X10.here hx rfl (hb hby d16_10) rfl k) ?_
  show Gl _ _ _ _ _ _ _ (T10.setTop (mkF m 11 #[.val (.ref b), .val (.int (0 : Int32)), .val (.int (1 : Int32)), .val (.ref t10), .val (.int (0 : Int32))] [(.int (1 : Int32)), (.int (0 : Int32))]))
  refine Gl.back (fun _ k => XS.icmpNo X10.here hx rfl (hb hby d16_11) rfl (tlt (by decide : (0 : Int32) < (1 : Int32))).2.1 k) ?_
  show Gl _ _ _ _ _ _ _ (T10.setTop (mkF m 14 #[.val (.ref b), .val (.int (0 : Int32)), .val (.int (1 : Int32)), .val (.ref t10), .val (.int (0 : Int32))] []))
  refine Gl.back (fun _ k => XS.aloadN X10.here hx rfl (hb hby d16_14) rfl rfl k) ?_
  show Gl _ _ _ _ _ _ _ (T10.setTop (mkF m 15 #[.val (.ref b), .val (.int (0 : Int32)), .val (.int (1 : Int32)), .val (.ref t10), .val (.int (0 : Int32))] [(.ref t10)]))
  refine Gl.back (fun _ k => XS.iload X10.here hx rfl (hb hby d16_15) rfl k) ?_
  show Gl _ _ _ _ _ _ _ (T10.setTop (mkF m 17 #[.val (.ref b), .val (.int (0 : Int32)), .val (.int (1 : Int32)), .val (.ref t10), .val (.int (0 : Int32))] [(.int (0 : Int32)), (.ref t10)]))
  refine Gl.back (fun _ k => XS.aloadN X10.here hx rfl (hb hby d16_17) rfl rfl k) ?_
  show Gl _ _ _ _ _ _ _ (T10.setTop (mkF m 18 #[.val (.ref b), .val (.int (0 : Int32)), .val (.int (1 : Int32)), .val (.ref t10), .val (.int (0 : Int32))] [(.ref b), (.int (0 : Int32)), (.ref t10)]))
  refine Gl.back (fun _ k => XS.iloadN X10.here hx rfl (hb hby d16_18) rfl k) ?_
  show Gl _ _ _ _ _ _ _ (T10.setTop (mkF m 19 #[.val (.ref b), .val (.int (0 : Int32)), .val (.int (1 : Int32)), .val (.ref t10), .val (.int (0 : Int32))] [(.int (0 : Int32)), (.ref b), (.int (0 : Int32)), (.ref t10)]))
  have f11 := (V_b.keep Kq10 nin0)
  obtain ⟨cl12, Ar12, q12, Sz12, Nn12, Hs12, Gf12⟩ := id f11
  have hin12 : ¬ ((0 : Int32) < 0 ∨ cl12.slots.size ≤ ((0 : Int32)).toNatClampNeg) := inb_of Sz12 ⟨by decide, by decide⟩
  have hat12 : cl12.slots[((0 : Int32)).toNatClampNeg]? = some (.int c0) := Hs12.at hin12 (rfl)
  refine Gl.back (fun _ k => X10.caload hx (j := (0 : Int32)) (v := (.int c0)) (by exact Ar12.1) (State.isArrayOf_alike hZ.alike Ar12.2.1) Ar12.2.2 hin12 hat12 (g := (mkF m 19 #[.val (.ref b), .val (.int (0 : Int32)), .val (.int (1 : Int32)), .val (.ref t10), .val (.int (0 : Int32))] [(.int (0 : Int32)), (.ref b), (.int (0 : Int32)), (.ref t10)])) rfl rfl (hb hby d16_19) _ k) ?_
  show Gl _ _ _ _ _ _ _ (T10.setTop (mkF m 20 #[.val (.ref b), .val (.int (0 : Int32)), .val (.int (1 : Int32)), .val (.ref t10), .val (.int (0 : Int32))] [(.int c0), (.int (0 : Int32)), (.ref t10)]))
  obtain ⟨_, _, ⟨T13, L13, k13, n13⟩, -, X13, ⟨Lc13, hQ13, l13, y13, z13⟩, st13⟩ := Jvm.LawKit.callS X10 hx (y := (⟨"java/lang/StringUTF16", "putChar", "([BII)V"⟩ : MethodName)) hown (mvT hZ (hw _ (List.mem_of_getElem? (i := 102) rfl))) (mvT hZ (hw _ (List.mem_of_getElem? (i := 103) rfl))) (mvT hZ (hw _ (List.mem_of_getElem? (i := 18) rfl))) (mvT hZ (hw _ (List.mem_of_getElem? (i := 104) rfl))) (by decide) (backOf (W := 0) (rmput_1_0 l Z a0 hw [] t10 c0 k010  T10.heap n0 Zc10 Oc10 S_AD S_HI S_LO Gz10 V10) hZ (hw _ (List.mem_of_getElem? (i := 104) rfl)) (hw _ (List.mem_of_getElem? (i := 18) rfl)) (by decide) (by decide)) (g := (mkF m 20 #[.val (.ref b), .val (.int (0 : Int32)), .val (.int (1 : Int32)), .val (.ref t10), .val (.int (0 : Int32))] [(.int c0), (.int (0 : Int32)), (.ref t10)])) rfl (by rw [hml]; rfl) (argsL := [(.ref t10), (.int (0 : Int32)), (.int c0)]) (rest := []) (lenOf pd___BII_V rfl) rfl (by show 2 * 0 + _ ≤ _; exact Nat.le_of_eq rfl) (hb hby d16_20) (fun _ _ => ⟨rfl, rfl, (by decide : 1 + 0 ≤ _), (by decide : 2 + 0 ≤ _)⟩)
  dsimp only [Pt.U, Pt.locs, Pt.cells, Pt.slots] at X13 l13 y13 z13 st13 hQ13
  replace l13 := Eq.symm l13
  replace y13 := Eq.symm y13
  replace z13 := Eq.symm z13
  subst l13 y13 z13
  obtain ⟨Nq13, rfl, Kq13, V13⟩ := hQ13
  have N13 := Fr.app N10 Nq13
  have Kc13 := Keep.trans Kc10 Kq13 (allS (Or.inr sz_t10) all0)
  have Zc13 : n0 ≤ T13.heap.size := Nat.le_trans Zc10 Kq13.1
  have Oc13 := Old.keep Oc10 Kq13 (allS Gz10 all0)
  refine Gl.back (fun _ k => st13 _ k) ?_
  show Gl _ _ _ _ _ _ _ (T13.setTop (mkF m 23 #[.val (.ref b), .val (.int (0 : Int32)), .val (.int (1 : Int32)), .val (.ref t10), .val (.int (0 : Int32))] []))
  refine Gl.back (fun _ k => XS.iinc X13.here hx rfl (hb hby d16_23) rfl (l' := #[.val (.ref b), .val (.int (1 : Int32)), .val (.int (1 : Int32)), .val (.ref t10), .val (.int (0 : Int32))]) rfl k) ?_
  show Gl _ _ _ _ _ _ _ (T13.setTop (mkF m 26 #[.val (.ref b), .val (.int (1 : Int32)), .val (.int (1 : Int32)), .val (.ref t10), .val (.int (0 : Int32))] []))
  refine Gl.back (fun _ k => XS.iinc X13.here hx rfl (hb hby d16_26) rfl (l' := #[.val (.ref b), .val (.int (1 : Int32)), .val (.int (1 : Int32)), .val (.ref t10), .val (.int (1 : Int32))]) rfl k) ?_
  show Gl _ _ _ _ _ _ _ (T13.setTop (mkF m 29 #[.val (.ref b), .val (.int (1 : Int32)), .val (.int (1 : Int32)), .val (.ref t10), .val (.int (1 : Int32))] []))
  refine Gl.back (fun _ k => XS.goto X13.here hx rfl (pc0 := 29) (pc' := 8) rfl (hb hby d16_29) (by decide) (by decide) k) ?_
  show Gl _ _ _ _ _ _ _ (T13.setTop (mkF m 8 #[.val (.ref b), .val (.int (1 : Int32)), .val (.int (1 : Int32)), .val (.ref t10), .val (.int (1 : Int32))] []))
  refine Gl.back (fun _ k => XS.iload X13.here hx rfl (hb hby d16_8) rfl k) ?_
  show Gl _ _ _ _ _ _ _ (T13.setTop (mkF m 10 #[.val (.ref b), .val (.int (1 : Int32)), .val (.int (1 : Int32)), .val (.ref t10), .val (.int (1 : Int32))] [(.int (1 : Int32))]))
  refine Gl.back (fun _ k => XS.iloadN X13.here hx rfl (hb hby d16_10) rfl k) ?_
  show Gl _ _ _ _ _ _ _ (T13.setTop (mkF m 11 #[.val (.ref b), .val (.int (1 : Int32)), .val (.int (1 : Int32)), .val (.ref t10), .val (.int (1 : Int32))] [(.int (1 : Int32)), (.int (1 : Int32))]))
  refine Gl.back (fun _ k => XS.icmpYes X13.here hx rfl (pc0 := 11) (pc' := 32) rfl (hb hby d16_11) rfl (flt (by decide : ¬ (1 : Int32) < (1 : Int32))).2.1 (by decide) (by decide) k) ?_
  show Gl _ _ _ _ _ _ _ (T13.setTop (mkF m 32 #[.val (.ref b), .val (.int (1 : Int32)), .val (.int (1 : Int32)), .val (.ref t10), .val (.int (1 : Int32))] []))
  refine Gl.back (fun _ k => XS.aloadN X13.here hx rfl (hb hby d16_32) rfl rfl k) ?_
  show Gl _ _ _ _ _ _ _ (T13.setTop (mkF m 33 #[.val (.ref b), .val (.int (1 : Int32)), .val (.int (1 : Int32)), .val (.ref t10), .val (.int (1 : Int32))] [(.ref t10)]))
  exact Gl.ret X13 rfl (v := (some (.ref t10))) (fun h => by rw [Bd.returns] at h; cases h) Bd.notSynchronized (fun fs hr => retOut X13 hx (w := (.ref t10)) Bd.returns rfl (Or.inr (Or.inr (Or.inr (Or.inr ⟨rfl, rfl, rfl⟩)))) (hb hby d16_33) hr) ⟨N13, t10, k010, rfl, Kc13, sz_t10, Gz10, V13⟩ (by decide) (by decide)
theorem d20_0 : decode jdk_52_method_5_code 0 = .ok (.getstatic 44, 3) := by decide +kernel
theorem d20_3 : decode jdk_52_method_5_code 3 = .ok (.ifCond .ne 25, 3) := by decide +kernel
theorem d20_28 : decode jdk_52_method_5_code 28 = .ok (.iload_n 1, 1) := by decide +kernel
theorem d20_29 : decode jdk_52_method_5_code 29 = .ok (.iconst 1, 1) := by decide +kernel
theorem d20_30 : decode jdk_52_method_5_code 30 = .ok (.ishl, 1) := by decide +kernel
theorem d20_31 : decode jdk_52_method_5_code 31 = .ok (.istore_n 1, 1) := by decide +kernel
theorem d20_32 : decode jdk_52_method_5_code 32 = .ok (.aload_n 0, 1) := by decide +kernel
theorem d20_33 : decode jdk_52_method_5_code 33 = .ok (.iload_n 1, 1) := by decide +kernel
theorem d20_34 : decode jdk_52_method_5_code 34 = .ok (.iinc 1 1, 3) := by decide +kernel
theorem d20_37 : decode jdk_52_method_5_code 37 = .ok (.baload, 1) := by decide +kernel
theorem d20_38 : decode jdk_52_method_5_code 38 = .ok (.sipush 255, 3) := by decide +kernel
theorem d20_41 : decode jdk_52_method_5_code 41 = .ok (.iand, 1) := by decide +kernel
theorem d20_42 : decode jdk_52_method_5_code 42 = .ok (.getstatic 59, 3) := by decide +kernel
theorem d20_45 : decode jdk_52_method_5_code 45 = .ok (.ishl, 1) := by decide +kernel
theorem d20_46 : decode jdk_52_method_5_code 46 = .ok (.aload_n 0, 1) := by decide +kernel
theorem d20_47 : decode jdk_52_method_5_code 47 = .ok (.iload_n 1, 1) := by decide +kernel
theorem d20_48 : decode jdk_52_method_5_code 48 = .ok (.baload, 1) := by decide +kernel
theorem d20_49 : decode jdk_52_method_5_code 49 = .ok (.sipush 255, 3) := by decide +kernel
theorem d20_52 : decode jdk_52_method_5_code 52 = .ok (.iand, 1) := by decide +kernel
theorem d20_53 : decode jdk_52_method_5_code 53 = .ok (.getstatic 63, 3) := by decide +kernel
theorem d20_56 : decode jdk_52_method_5_code 56 = .ok (.ishl, 1) := by decide +kernel
theorem d20_57 : decode jdk_52_method_5_code 57 = .ok (.ior, 1) := by decide +kernel
theorem d20_58 : decode jdk_52_method_5_code 58 = .ok (.i2c, 1) := by decide +kernel
theorem d20_59 : decode jdk_52_method_5_code 59 = .ok (.ireturn, 1) := by decide +kernel
theorem ef_gch_1_0 (m : MethodId) (x0 : Addr) : entryFrame m #[(.ref x0), (.int (0 : Int32))] 2 = mkF m 0 #[.val (.ref x0), .val (.int (0 : Int32))] [] := by first | (simp [entryFrame, mkF, argsToLocals, Value.category]; done) | rfl
def Qgch_1_0 (Z : State) (t : Addr) (k_t : ClassId) (x0 x1 : Int32) (h0 : Heap) (n0 : Nat) (v : Option Value) (h : Heap) (L : List Loc) : Prop := Fr n0 L ∧ (v = some (.int (own_gc x0 x1)) ∧ h = h0)
set_option maxRecDepth 65536 in
set_option maxHeartbeats 40000000 in
theorem rmgch_1_0 (l : Launch) (Z : State) (a0 : Array Value) (hw : ∀ d ∈ tables_1, d.before a0 Z = true) (ws : List Jvm.Cond) (t : Addr) (k_t : ClassId) (x0 x1 : Int32) (h0 : Heap) (n0 : Nat) (Z0 : n0 ≤ h0.size) (O0 : Old Z n0 h0) (S_AD : Sta Z Z.heap "java/lang/StringUTF16" "$assertionsDisabled" "Z" (.int 1)) (S_HI : Sta Z Z.heap "java/lang/StringUTF16" "HI_BYTE_SHIFT" "I" (.int 0)) (S_LO : Sta Z Z.heap "java/lang/StringUTF16" "LO_BYTE_SHIFT" "I" (.int 8)) (V_t : Arv Z h0 t k_t .byte (2 : Int32) [(.int x0), (.int x1)] (.int (0 : Int32))) :
    MetFree l (⟨"java/lang/StringUTF16", "getChar", "([BI)C"⟩ : MethodName) (head1 (Jvm.Cond.code (⟨"java/lang/StringUTF16", "getChar", "([BI)C"⟩ : MethodName) jdk_52_method_5_code 2 (some .char) :: ws) ({ frames := 0, cells := 0, slots := 0, locals := 0 } : Room)) (fun as0 U => as0 = #[(.ref t), (.int (0 : Int32))] ∧ Z.Warmed39 U.vm ∧ U.heap = h0) (fun _ _ _ _ _ => True) (fun _ U oc0 U' => ∃ v L, oc0 = .returned v ∧ Qgch_1_0 Z t k_t x0 x1 h0 n0 v U'.heap L ∧ FrameEnd U oc0 U' L ({ frames := 0, cells := 0, slots := 0, locals := 0 } : Room).cells ({ frames := 0, cells := 0, slots := 0, locals := 0 } : Room).slots) := by
  refine MetFree.of_bodySF (plainFor_of_name pn_java_lang_StringUTF16) hisR ?_
  intro p e s m args below meth c s₁ Bd hml0 hP hK
  obtain ⟨rfl, hZ, hh⟩ := hP
  have hx := Bd.exec
  have hby := Bd.bytes
  have hml : c.maxLocals = 2 := hml0
  have hown : s.vm.findClass "java/lang/StringUTF16" = some m.cls := findClass_of_methodNamed Bd.named
  have hnm := (name_of_methodNamed Bd.named Bd.method).1
  have X0 : Stand p l e ({ frames := 0, cells := 0, slots := 0, locals := 0 } : Room) s m #[(.ref t), (.int (0 : Int32))] below meth c s₁ [] 0 0 := Stand.of_body Bd
  have e0 : s₁.heap = h0 := by rw [← hh, Bd.state]; rfl
  have N0 := Fr.nil n0
  show Gl p e below s (Qgch_1_0 Z t k_t x0 x1 h0 n0) ({ frames := 0, cells := 0, slots := 0, locals := 0 } : Room).cells ({ frames := 0, cells := 0, slots := 0, locals := 0 } : Room).slots (s₁.setTop (entryFrame m #[(.ref t), (.int (0 : Int32))] 2))
  refine Gl.back (fun _ k => castTop (ef_gch_1_0 m t) k) ?_
  show Gl _ _ _ _ _ _ _ (s₁.setTop (mkF m 0 #[.val (.ref t), .val (.int (0 : Int32))] []))
  obtain ⟨T14, X14, e14, st14⟩ := getS2 X0 hx hZ hown (host := "") (Or.inl (hw _ (List.mem_of_getElem? (i := 105) rfl))) Via.refl e0 (S_AD.ext O0.2) (g := (mkF m 0 #[.val (.ref t), .val (.int (0 : Int32))] [])) rfl (hb hby d20_0)
  refine Gl.back (fun _ k => st14 _ k) ?_
  show Gl _ _ _ _ _ _ _ (T14.setTop (mkF m 3 #[.val (.ref t), .val (.int (0 : Int32))] [(.int (1 : Int32))]))
  refine Gl.back (fun _ k => XS.ifYes X14.here hx rfl (pc0 := 3) (pc' := 28) rfl (hb hby d20_3) rfl ((if0 _ _).trans (feq (by decide : ¬ (1 : Int32) = (0 : Int32))).2) (by decide) (by decide) k) ?_
  show Gl _ _ _ _ _ _ _ (T14.setTop (mkF m 28 #[.val (.ref t), .val (.int (0 : Int32))] []))
  refine Gl.back (fun _ k => XS.iloadN X14.here hx rfl (hb hby d20_28) rfl k) ?_
  show Gl _ _ _ _ _ _ _ (T14.setTop (mkF m 29 #[.val (.ref t), .val (.int (0 : Int32))] [(.int (0 : Int32))]))
  refine Gl.back (fun _ k => XS.iconst X14.here hx rfl (hb hby d20_29) k) ?_
  show Gl _ _ _ _ _ _ _ (T14.setTop (mkF m 30 #[.val (.ref t), .val (.int (0 : Int32))] [(.int (1 : Int32)), (.int (0 : Int32))]))
  refine Gl.back (fun _ k => XS.ishl X14.here hx rfl (hb hby d20_30) rfl k) ?_
  show Gl _ _ _ _ _ _ _ (T14.setTop (mkF m 31 #[.val (.ref t), .val (.int (0 : Int32))] [(.int (0 : Int32))]))
  refine Gl.back (fun _ k => XS.istoreN X14.here hx rfl (hb hby d20_31) rfl (l' := #[.val (.ref t), .val (.int (0 : Int32))]) rfl k) ?_
  show Gl _ _ _ _ _ _ _ (T14.setTop (mkF m 32 #[.val (.ref t), .val (.int (0 : Int32))] []))
  refine Gl.back (fun _ k => XS.aloadN X14.here hx rfl (hb hby d20_32) rfl rfl k) ?_
  show Gl _ _ _ _ _ _ _ (T14.setTop (mkF m 33 #[.val (.ref t), .val (.int (0 : Int32))] [(.ref t)]))
  refine Gl.back (fun _ k => XS.iloadN X14.here hx rfl (hb hby d20_33) rfl k) ?_
  show Gl _ _ _ _ _ _ _ (T14.setTop (mkF m 34 #[.val (.ref t), .val (.int (0 : Int32))] [(.int (0 : Int32)), (.ref t)]))
  refine Gl.back (fun _ k => XS.iinc X14.here hx rfl (hb hby d20_34) rfl (l' := #[.val (.ref t), .val (.int (1 : Int32))]) rfl k) ?_
  show Gl _ _ _ _ _ _ _ (T14.setTop (mkF m 37 #[.val (.ref t), .val (.int (1 : Int32))] [(.int (0 : Int32)), (.ref t)]))
  obtain ⟨cl15, Ar15, q15, Sz15, Nn15, Hs15, Gf15⟩ := id V_t
  have hin15 : ¬ ((0 : Int32) < 0 ∨ cl15.slots.size ≤ ((0 : Int32)).toNatClampNeg) := inb_of Sz15 ⟨by decide, by decide⟩
  have hat15 : cl15.slots[((0 : Int32)).toNatClampNeg]? = some (.int x0) := Hs15.at hin15 (rfl)
  refine Gl.back (fun _ k => X14.baloadBytes hx (j := (0 : Int32)) (v := (.int x0)) (by rw [e14]; exact Ar15.1) (State.isArrayOf_alike hZ.alike Ar15.2.1) Ar15.2.2 hin15 hat15 (g := (mkF m 37 #[.val (.ref t), .val (.int (1 : Int32))] [(.int (0 : Int32)), (.ref t)])) rfl rfl (hb hby d20_37) _ k) ?_
  show Gl _ _ _ _ _ _ _ (T14.setTop (mkF m 38 #[.val (.ref t), .val (.int (1 : Int32))] [(.int x0)]))
  refine Gl.back (fun _ k => XS.sipush X14.here hx rfl (hb hby d20_38) k) ?_
  show Gl _ _ _ _ _ _ _ (T14.setTop (mkF m 41 #[.val (.ref t), .val (.int (1 : Int32))] [(.int (255 : Int32)), (.int x0)]))
  refine Gl.back (fun _ k => XS.iand X14.here hx rfl (hb hby d20_41) rfl k) ?_
  show Gl _ _ _ _ _ _ _ (T14.setTop (mkF m 42 #[.val (.ref t), .val (.int (1 : Int32))] [(.int (x0 &&& (255 : Int32)))]))
  obtain ⟨T16, X16, e16, st16⟩ := getS2 X14 hx hZ hown (host := "") (Or.inl (hw _ (List.mem_of_getElem? (i := 106) rfl))) Via.refl e14 (S_HI.ext O0.2) (g := (mkF m 42 #[.val (.ref t), .val (.int (1 : Int32))] [(.int (x0 &&& (255 : Int32)))])) rfl (hb hby d20_42)
  refine Gl.back (fun _ k => st16 _ k) ?_
  show Gl _ _ _ _ _ _ _ (T16.setTop (mkF m 45 #[.val (.ref t), .val (.int (1 : Int32))] [(.int (0 : Int32)), (.int (x0 &&& (255 : Int32)))]))
  refine Gl.back (fun _ k => XS.ishl X16.here hx rfl (hb hby d20_45) rfl k) ?_
  show Gl _ _ _ _ _ _ _ (T16.setTop (mkF m 46 #[.val (.ref t), .val (.int (1 : Int32))] [(.int ((x0 &&& (255 : Int32)) <<< ((0 : Int32) &&& 31)))]))
  refine Gl.back (fun _ k => XS.aloadN X16.here hx rfl (hb hby d20_46) rfl rfl k) ?_
  show Gl _ _ _ _ _ _ _ (T16.setTop (mkF m 47 #[.val (.ref t), .val (.int (1 : Int32))] [(.ref t), (.int ((x0 &&& (255 : Int32)) <<< ((0 : Int32) &&& 31)))]))
  refine Gl.back (fun _ k => XS.iloadN X16.here hx rfl (hb hby d20_47) rfl k) ?_
  show Gl _ _ _ _ _ _ _ (T16.setTop (mkF m 48 #[.val (.ref t), .val (.int (1 : Int32))] [(.int (1 : Int32)), (.ref t), (.int ((x0 &&& (255 : Int32)) <<< ((0 : Int32) &&& 31)))]))
  obtain ⟨cl17, Ar17, q17, Sz17, Nn17, Hs17, Gf17⟩ := id V_t
  have hin17 : ¬ ((1 : Int32) < 0 ∨ cl17.slots.size ≤ ((1 : Int32)).toNatClampNeg) := inb_of Sz17 ⟨by decide, by decide⟩
  have hat17 : cl17.slots[((1 : Int32)).toNatClampNeg]? = some (.int x1) := Hs17.at hin17 (rfl)
  refine Gl.back (fun _ k => X16.baloadBytes hx (j := (1 : Int32)) (v := (.int x1)) (by rw [e16]; exact Ar17.1) (State.isArrayOf_alike hZ.alike Ar17.2.1) Ar17.2.2 hin17 hat17 (g := (mkF m 48 #[.val (.ref t), .val (.int (1 : Int32))] [(.int (1 : Int32)), (.ref t), (.int ((x0 &&& (255 : Int32)) <<< ((0 : Int32) &&& 31)))])) rfl rfl (hb hby d20_48) _ k) ?_
  show Gl _ _ _ _ _ _ _ (T16.setTop (mkF m 49 #[.val (.ref t), .val (.int (1 : Int32))] [(.int x1), (.int ((x0 &&& (255 : Int32)) <<< ((0 : Int32) &&& 31)))]))
  refine Gl.back (fun _ k => XS.sipush X16.here hx rfl (hb hby d20_49) k) ?_
  show Gl _ _ _ _ _ _ _ (T16.setTop (mkF m 52 #[.val (.ref t), .val (.int (1 : Int32))] [(.int (255 : Int32)), (.int x1), (.int ((x0 &&& (255 : Int32)) <<< ((0 : Int32) &&& 31)))]))
  refine Gl.back (fun _ k => XS.iand X16.here hx rfl (hb hby d20_52) rfl k) ?_
  show Gl _ _ _ _ _ _ _ (T16.setTop (mkF m 53 #[.val (.ref t), .val (.int (1 : Int32))] [(.int (x1 &&& (255 : Int32))), (.int ((x0 &&& (255 : Int32)) <<< ((0 : Int32) &&& 31)))]))
  obtain ⟨T18, X18, e18, st18⟩ := getS2 X16 hx hZ hown (host := "") (Or.inl (hw _ (List.mem_of_getElem? (i := 107) rfl))) Via.refl e16 (S_LO.ext O0.2) (g := (mkF m 53 #[.val (.ref t), .val (.int (1 : Int32))] [(.int (x1 &&& (255 : Int32))), (.int ((x0 &&& (255 : Int32)) <<< ((0 : Int32) &&& 31)))])) rfl (hb hby d20_53)
  refine Gl.back (fun _ k => st18 _ k) ?_
  show Gl _ _ _ _ _ _ _ (T18.setTop (mkF m 56 #[.val (.ref t), .val (.int (1 : Int32))] [(.int (8 : Int32)), (.int (x1 &&& (255 : Int32))), (.int ((x0 &&& (255 : Int32)) <<< ((0 : Int32) &&& 31)))]))
  refine Gl.back (fun _ k => XS.ishl X18.here hx rfl (hb hby d20_56) rfl k) ?_
  show Gl _ _ _ _ _ _ _ (T18.setTop (mkF m 57 #[.val (.ref t), .val (.int (1 : Int32))] [(.int ((x1 &&& (255 : Int32)) <<< ((8 : Int32) &&& 31))), (.int ((x0 &&& (255 : Int32)) <<< ((0 : Int32) &&& 31)))]))
  refine Gl.back (fun _ k => XS.ior X18.here hx rfl (hb hby d20_57) rfl k) ?_
  show Gl _ _ _ _ _ _ _ (T18.setTop (mkF m 58 #[.val (.ref t), .val (.int (1 : Int32))] [(.int (((x0 &&& (255 : Int32)) <<< ((0 : Int32) &&& 31)) ||| ((x1 &&& (255 : Int32)) <<< ((8 : Int32) &&& 31))))]))
  refine Gl.back (fun _ k => XS.i2c X18.here hx rfl (hb hby d20_58) rfl k) ?_
  show Gl _ _ _ _ _ _ _ (T18.setTop (mkF m 59 #[.val (.ref t), .val (.int (1 : Int32))] [(.int ((((x0 &&& (255 : Int32)) <<< ((0 : Int32) &&& 31)) ||| ((x1 &&& (255 : Int32)) <<< ((8 : Int32) &&& 31))).toUInt32.toUInt16.toUInt32.toInt32))]))
  exact Gl.ret X18 e18 (v := (some (.int (nar .char ((((x0 &&& (255 : Int32)) <<< ((0 : Int32) &&& 31)) ||| ((x1 &&& (255 : Int32)) <<< ((8 : Int32) &&& 31))).toUInt32.toUInt16.toUInt32.toInt32))))) (fun h => by rw [Bd.returns] at h; cases h) Bd.notSynchronized (fun fs hr => retN X18 hx (t := .char) (z := ((((x0 &&& (255 : Int32)) <<< ((0 : Int32) &&& 31)) ||| ((x1 &&& (255 : Int32)) <<< ((8 : Int32) &&& 31))).toUInt32.toUInt16.toUInt32.toInt32)) Bd.returns (by simp) (hb hby d20_59) hr) ⟨N0, rfl, rfl⟩ (by decide) (by decide)
theorem d6_0 : decode jdk_52_method_15_code 0 = .ok (.iload_n 1, 1) := by decide +kernel
theorem d6_1 : decode jdk_52_method_15_code 1 = .ok (.aload_n 0, 1) := by decide +kernel
theorem d6_2 : decode jdk_52_method_15_code 2 = .ok (.arraylength, 1) := by decide +kernel
theorem d6_3 : decode jdk_52_method_15_code 3 = .ok (.isub, 1) := by decide +kernel
theorem d6_4 : decode jdk_52_method_15_code 4 = .ok (.bipush 31, 2) := by decide +kernel
theorem d6_6 : decode jdk_52_method_15_code 6 = .ok (.iushr, 1) := by decide +kernel
theorem d6_7 : decode jdk_52_method_15_code 7 = .ok (.i2b, 1) := by decide +kernel
theorem d6_8 : decode jdk_52_method_15_code 8 = .ok (.ireturn, 1) := by decide +kernel
theorem ef_cod_1 (m : MethodId) (x0 : Addr) : entryFrame m #[(.ref x0), (.int (1 : Int32))] 2 = mkF m 0 #[.val (.ref x0), .val (.int (1 : Int32))] [] := by first | (simp [entryFrame, mkF, argsToLocals, Value.category]; done) | rfl
def Qcod_1 (Z : State) (t : Addr) (k_t : ClassId) (vs_ : List Value) (h0 : Heap) (n0 : Nat) (v : Option Value) (h : Heap) (L : List Loc) : Prop := Fr n0 L ∧ (v = some (.int 1) ∧ h = h0)
set_option maxRecDepth 65536 in
set_option maxHeartbeats 40000000 in
theorem rmcod_1 (l : Launch) (Z : State) (a0 : Array Value) (hw : ∀ d ∈ tables_1, d.before a0 Z = true) (ws : List Jvm.Cond) (t : Addr) (k_t : ClassId) (vs_ : List Value) (h0 : Heap) (n0 : Nat) (Z0 : n0 ≤ h0.size) (V_t : Arv Z h0 t k_t .byte (2 : Int32) vs_ (.int (0 : Int32))) :
    MetFree l (⟨"java/lang/StringUTF16", "coderFromArrayLen", "([BI)B"⟩ : MethodName) (head1 (Jvm.Cond.code (⟨"java/lang/StringUTF16", "coderFromArrayLen", "([BI)B"⟩ : MethodName) jdk_52_method_15_code 2 (some .byte) :: ws) ({ frames := 0, cells := 0, slots := 0, locals := 0 } : Room)) (fun as0 U => as0 = #[(.ref t), (.int (1 : Int32))] ∧ Z.Warmed39 U.vm ∧ U.heap = h0) (fun _ _ _ _ _ => True) (fun _ U oc0 U' => ∃ v L, oc0 = .returned v ∧ Qcod_1 Z t k_t vs_ h0 n0 v U'.heap L ∧ FrameEnd U oc0 U' L ({ frames := 0, cells := 0, slots := 0, locals := 0 } : Room).cells ({ frames := 0, cells := 0, slots := 0, locals := 0 } : Room).slots) := by
  refine MetFree.of_bodySF (plainFor_of_name pn_java_lang_StringUTF16) hisR ?_
  intro p e s m args below meth c s₁ Bd hml0 hP hK
  obtain ⟨rfl, hZ, hh⟩ := hP
  have hx := Bd.exec
  have hby := Bd.bytes
  have hml : c.maxLocals = 2 := hml0
  have hown : s.vm.findClass "java/lang/StringUTF16" = some m.cls := findClass_of_methodNamed Bd.named
  have hnm := (name_of_methodNamed Bd.named Bd.method).1
  have X0 : Stand p l e ({ frames := 0, cells := 0, slots := 0, locals := 0 } : Room) s m #[(.ref t), (.int (1 : Int32))] below meth c s₁ [] 0 0 := Stand.of_body Bd
  have e0 : s₁.heap = h0 := by rw [← hh, Bd.state]; rfl
  have N0 := Fr.nil n0
  show Gl p e below s (Qcod_1 Z t k_t vs_ h0 n0) ({ frames := 0, cells := 0, slots := 0, locals := 0 } : Room).cells ({ frames := 0, cells := 0, slots := 0, locals := 0 } : Room).slots (s₁.setTop (entryFrame m #[(.ref t), (.int (1 : Int32))] 2))
  refine Gl.back (fun _ k => castTop (ef_cod_1 m t) k) ?_
  show Gl _ _ _ _ _ _ _ (s₁.setTop (mkF m 0 #[.val (.ref t), .val (.int (1 : Int32))] []))
  refine Gl.back (fun _ k => XS.iloadN X0.here hx rfl (hb hby d6_0) rfl k) ?_
  show Gl _ _ _ _ _ _ _ (s₁.setTop (mkF m 1 #[.val (.ref t), .val (.int (1 : Int32))] [(.int (1 : Int32))]))
  refine Gl.back (fun _ k => XS.aloadN X0.here hx rfl (hb hby d6_1) rfl rfl k) ?_
  show Gl _ _ _ _ _ _ _ (s₁.setTop (mkF m 2 #[.val (.ref t), .val (.int (1 : Int32))] [(.ref t), (.int (1 : Int32))]))
  obtain ⟨cl19, Ar19, -, Sz19, Nn19, -, -⟩ := id V_t
  refine Gl.back (fun _ k => X0.arraylength hx (by rw [e0]; exact Ar19.1) (State.isArrayOf_alike hZ.alike Ar19.2.1) (g := (mkF m 2 #[.val (.ref t), .val (.int (1 : Int32))] [(.ref t), (.int (1 : Int32))])) rfl rfl (hb hby d6_2) _ k) ?_
  rw [len_of Sz19 Nn19]
  show Gl _ _ _ _ _ _ _ (s₁.setTop (mkF m 3 #[.val (.ref t), .val (.int (1 : Int32))] [(.int (2 : Int32)), (.int (1 : Int32))]))
  refine Gl.back (fun _ k => XS.isub X0.here hx rfl (hb hby d6_3) rfl k) ?_
  show Gl _ _ _ _ _ _ _ (s₁.setTop (mkF m 4 #[.val (.ref t), .val (.int (1 : Int32))] [(.int (-1 : Int32))]))
  refine Gl.back (fun _ k => XS.bipush X0.here hx rfl (hb hby d6_4) k) ?_
  show Gl _ _ _ _ _ _ _ (s₁.setTop (mkF m 6 #[.val (.ref t), .val (.int (1 : Int32))] [(.int (31 : Int32)), (.int (-1 : Int32))]))
  refine Gl.back (fun _ k => XS.iushr X0.here hx rfl (hb hby d6_6) rfl k) ?_
  show Gl _ _ _ _ _ _ _ (s₁.setTop (mkF m 7 #[.val (.ref t), .val (.int (1 : Int32))] [(.int (1 : Int32))]))
  refine Gl.back (fun _ k => XS.i2b X0.here hx rfl (hb hby d6_7) rfl k) ?_
  show Gl _ _ _ _ _ _ _ (s₁.setTop (mkF m 8 #[.val (.ref t), .val (.int (1 : Int32))] [(.int (1 : Int32))]))
  exact Gl.ret X0 e0 (v := (some (.int (1 : Int32)))) (fun h => by rw [Bd.returns] at h; cases h) Bd.notSynchronized (fun fs hr => retN X0 hx (t := .byte) (z := (1 : Int32)) Bd.returns (by simp) (hb hby d6_8) hr) ⟨N0, rfl, rfl⟩ (by decide) (by decide)
theorem ef_nbl_2 (m : MethodId)  : entryFrame m #[(.int (2 : Int32))] 1 = mkF m 0 #[.val (.int (2 : Int32))] [] := by first | (simp [entryFrame, mkF, argsToLocals, Value.category]; done) | rfl
def Qnbl_2 (Z : State)  (h0 : Heap) (n0 : Nat) (v : Option Value) (h : Heap) (L : List Loc) : Prop := Fr n0 L ∧ (v = some (.int 4) ∧ h = h0)
set_option maxRecDepth 65536 in
set_option maxHeartbeats 40000000 in
theorem rmnbl_2 (l : Launch) (Z : State) (a0 : Array Value) (hw : ∀ d ∈ tables_1, d.before a0 Z = true) (ws : List Jvm.Cond)  (h0 : Heap) (n0 : Nat) (Z0 : n0 ≤ h0.size) :
    MetFree l (⟨"java/lang/StringUTF16", "newBytesLength", "(I)I"⟩ : MethodName) (head1 (Jvm.Cond.code (⟨"java/lang/StringUTF16", "newBytesLength", "(I)I"⟩ : MethodName) jdk_52_method_3_code 1 (some .int) :: ws) ({ frames := 0, cells := 0, slots := 0, locals := 0 } : Room)) (fun as0 U => as0 = #[(.int (2 : Int32))] ∧ Z.Warmed39 U.vm ∧ U.heap = h0) (fun _ _ _ _ _ => True) (fun _ U oc0 U' => ∃ v L, oc0 = .returned v ∧ Qnbl_2 Z  h0 n0 v U'.heap L ∧ FrameEnd U oc0 U' L ({ frames := 0, cells := 0, slots := 0, locals := 0 } : Room).cells ({ frames := 0, cells := 0, slots := 0, locals := 0 } : Room).slots) := by
  refine MetFree.of_bodySF (plainFor_of_name pn_java_lang_StringUTF16) hisR ?_
  intro p e s m args below meth c s₁ Bd hml0 hP hK
  obtain ⟨rfl, hZ, hh⟩ := hP
  have hx := Bd.exec
  have hby := Bd.bytes
  have hml : c.maxLocals = 1 := hml0
  have hown : s.vm.findClass "java/lang/StringUTF16" = some m.cls := findClass_of_methodNamed Bd.named
  have hnm := (name_of_methodNamed Bd.named Bd.method).1
  have X0 : Stand p l e ({ frames := 0, cells := 0, slots := 0, locals := 0 } : Room) s m #[(.int (2 : Int32))] below meth c s₁ [] 0 0 := Stand.of_body Bd
  have e0 : s₁.heap = h0 := by rw [← hh, Bd.state]; rfl
  have N0 := Fr.nil n0
  show Gl p e below s (Qnbl_2 Z  h0 n0) ({ frames := 0, cells := 0, slots := 0, locals := 0 } : Room).cells ({ frames := 0, cells := 0, slots := 0, locals := 0 } : Room).slots (s₁.setTop (entryFrame m #[(.int (2 : Int32))] 1))
  refine Gl.back (fun _ k => castTop (ef_nbl_2 m ) k) ?_
  show Gl _ _ _ _ _ _ _ (s₁.setTop (mkF m 0 #[.val (.int (2 : Int32))] []))
  refine Gl.back (fun _ k => XS.iloadN X0.here hx rfl (hb hby d18_0) rfl k) ?_
  show Gl _ _ _ _ _ _ _ (s₁.setTop (mkF m 1 #[.val (.int (2 : Int32))] [(.int (2 : Int32))]))
  refine Gl.back (fun _ k => XS.ifYes X0.here hx rfl (pc0 := 1) (pc' := 12) rfl (hb hby d18_1) rfl ((if0 _ _).trans (flt (by decide : ¬ (2 : Int32) < (0 : Int32))).2.1) (by decide) (by decide) k) ?_
  show Gl _ _ _ _ _ _ _ (s₁.setTop (mkF m 12 #[.val (.int (2 : Int32))] []))
  refine Gl.back (fun _ k => XS.iloadN X0.here hx rfl (hb hby d18_12) rfl k) ?_
  show Gl _ _ _ _ _ _ _ (s₁.setTop (mkF m 13 #[.val (.int (2 : Int32))] [(.int (2 : Int32))]))
  refine Gl.back (fun _ k => X0.ldcInt hx hown (mvT hZ (hw _ (List.mem_of_getElem? (i := 101) rfl))) (g := (mkF m 13 #[.val (.int (2 : Int32))] [(.int (2 : Int32))])) rfl (hb hby d18_13) _ k) ?_
  show Gl _ _ _ _ _ _ _ (s₁.setTop (mkF m 15 #[.val (.int (2 : Int32))] [(.int (1073741823 : Int32)), (.int (2 : Int32))]))
  refine Gl.back (fun _ k => XS.icmpYes X0.here hx rfl (pc0 := 15) (pc' := 55) rfl (hb hby d18_15) rfl (tlt (by decide : (2 : Int32) < (1073741823 : Int32))).1 (by decide) (by decide) k) ?_
  show Gl _ _ _ _ _ _ _ (s₁.setTop (mkF m 55 #[.val (.int (2 : Int32))] []))
  refine Gl.back (fun _ k => XS.iloadN X0.here hx rfl (hb hby d18_55) rfl k) ?_
  show Gl _ _ _ _ _ _ _ (s₁.setTop (mkF m 56 #[.val (.int (2 : Int32))] [(.int (2 : Int32))]))
  refine Gl.back (fun _ k => XS.iconst X0.here hx rfl (hb hby d18_56) k) ?_
  show Gl _ _ _ _ _ _ _ (s₁.setTop (mkF m 57 #[.val (.int (2 : Int32))] [(.int (1 : Int32)), (.int (2 : Int32))]))
  refine Gl.back (fun _ k => XS.ishl X0.here hx rfl (hb hby d18_57) rfl k) ?_
  show Gl _ _ _ _ _ _ _ (s₁.setTop (mkF m 58 #[.val (.int (2 : Int32))] [(.int (4 : Int32))]))
  exact Gl.ret X0 e0 (v := (some (.int (4 : Int32)))) (fun h => by rw [Bd.returns] at h; cases h) Bd.notSynchronized (fun fs hr => retOut X0 hx (w := (.int (4 : Int32))) Bd.returns rfl (Or.inl ⟨rfl, Or.inl rfl, _, rfl⟩) (hb hby d18_58) hr) ⟨N0, rfl, rfl⟩ (by decide) (by decide)
theorem ef_nbf_2 (m : MethodId)  : entryFrame m #[(.int (2 : Int32))] 1 = mkF m 0 #[.val (.int (2 : Int32))] [] := by first | (simp [entryFrame, mkF, argsToLocals, Value.category]; done) | rfl
def Qnbf_2 (Z : State)  (h0 : Heap) (n0 : Nat) (v : Option Value) (h : Heap) (L : List Loc) : Prop := Fr n0 L ∧ (∃ (t : Addr) (k : ClassId), v = some (.ref t) ∧ Keep h0 h [] ∧ h0.size ≤ t ∧ n0 ≤ t ∧ Arv Z h t k .byte (4 : Int32) [(.int (0 : Int32)), (.int (0 : Int32)), (.int (0 : Int32)), (.int (0 : Int32))] (.int (0 : Int32)))
set_option maxRecDepth 65536 in
set_option maxHeartbeats 40000000 in
theorem rmnbf_2 (l : Launch) (Z : State) (a0 : Array Value) (hw : ∀ d ∈ tables_1, d.before a0 Z = true) (ws : List Jvm.Cond)  (h0 : Heap) (n0 : Nat) (Z0 : n0 ≤ h0.size) :
    MetFree l (⟨"java/lang/StringUTF16", "newBytesFor", "(I)[B"⟩ : MethodName) (head1 (Jvm.Cond.code (⟨"java/lang/StringUTF16", "newBytesFor", "(I)[B"⟩ : MethodName) jdk_52_method_2_code 1 (some (.array .byte)) :: ws) ({ frames := 1, cells := 1, slots := 4, locals := 12 } : Room)) (fun as0 U => as0 = #[(.int (2 : Int32))] ∧ Z.Warmed39 U.vm ∧ U.heap = h0) (fun _ _ _ _ _ => True) (fun _ U oc0 U' => ∃ v L, oc0 = .returned v ∧ Qnbf_2 Z  h0 n0 v U'.heap L ∧ FrameEnd U oc0 U' L ({ frames := 1, cells := 1, slots := 4, locals := 12 } : Room).cells ({ frames := 1, cells := 1, slots := 4, locals := 12 } : Room).slots) := by
  refine MetFree.of_bodySF (plainFor_of_name pn_java_lang_StringUTF16) hisR ?_
  intro p e s m args below meth c s₁ Bd hml0 hP hK
  obtain ⟨rfl, hZ, hh⟩ := hP
  have hx := Bd.exec
  have hby := Bd.bytes
  have hml : c.maxLocals = 1 := hml0
  have hown : s.vm.findClass "java/lang/StringUTF16" = some m.cls := findClass_of_methodNamed Bd.named
  have hnm := (name_of_methodNamed Bd.named Bd.method).1
  have X0 : Stand p l e ({ frames := 1, cells := 1, slots := 4, locals := 12 } : Room) s m #[(.int (2 : Int32))] below meth c s₁ [] 0 0 := Stand.of_body Bd
  have e0 : s₁.heap = h0 := by rw [← hh, Bd.state]; rfl
  have N0 := Fr.nil n0
  show Gl p e below s (Qnbf_2 Z  h0 n0) ({ frames := 1, cells := 1, slots := 4, locals := 12 } : Room).cells ({ frames := 1, cells := 1, slots := 4, locals := 12 } : Room).slots (s₁.setTop (entryFrame m #[(.int (2 : Int32))] 1))
  refine Gl.back (fun _ k => castTop (ef_nbf_2 m ) k) ?_
  show Gl _ _ _ _ _ _ _ (s₁.setTop (mkF m 0 #[.val (.int (2 : Int32))] []))
  refine Gl.back (fun _ k => XS.iloadN X0.here hx rfl (hb hby d17_0) rfl k) ?_
  show Gl _ _ _ _ _ _ _ (s₁.setTop (mkF m 1 #[.val (.int (2 : Int32))] [(.int (2 : Int32))]))
  obtain ⟨_, _, ⟨T20, L20, k20, n20⟩, -, X20, ⟨Lc20, hQ20, l20, y20, z20⟩, st20⟩ := Jvm.LawKit.callS X0 hx (y := (⟨"java/lang/StringUTF16", "newBytesLength", "(I)I"⟩ : MethodName)) hown (mvT hZ (hw _ (List.mem_of_getElem? (i := 98) rfl))) (mvT hZ (hw _ (List.mem_of_getElem? (i := 99) rfl))) (mvT hZ (hw _ (List.mem_of_getElem? (i := 18) rfl))) (mvT hZ (hw _ (List.mem_of_getElem? (i := 100) rfl))) (by decide) (backOf (W := 0) (rmnbl_2 l Z a0 hw []   h0 n0 Z0 ) hZ (hw _ (List.mem_of_getElem? (i := 100) rfl)) (hw _ (List.mem_of_getElem? (i := 18) rfl)) (by decide) (by decide)) (g := (mkF m 1 #[.val (.int (2 : Int32))] [(.int (2 : Int32))])) rfl (by rw [hml]; rfl) (argsL := [(.int (2 : Int32))]) (rest := []) (lenOf pd__I_I rfl) rfl (by show 2 * 0 + _ ≤ _; exact Nat.le_of_eq rfl) (hb hby d17_1) (fun _ _ => ⟨rfl, e0, (by decide : 0 + 0 ≤ _), (by decide : 0 + 0 ≤ _)⟩)
  dsimp only [Pt.U, Pt.locs, Pt.cells, Pt.slots] at X20 l20 y20 z20 st20 hQ20
  replace l20 := Eq.symm l20
  replace y20 := Eq.symm y20
  replace z20 := Eq.symm z20
  subst l20 y20 z20
  obtain ⟨Nq20, rfl, eh20⟩ := hQ20
  have N20 := Fr.app N0 Nq20
  refine Gl.back (fun _ k => st20 _ k) ?_
  show Gl _ _ _ _ _ _ _ (T20.setTop (mkF m 4 #[.val (.int (2 : Int32))] [(.int (4 : Int32))]))
  obtain ⟨T21, h21, k21, X21, e21, E21, A21, st21⟩ := newP X20 hx hZ (hw _ (List.mem_of_getElem? (i := 20) rfl)) eh20 (g := (mkF m 4 #[.val (.int (2 : Int32))] [(.int (4 : Int32))])) rfl (hb hby d17_4) rfl (by decide) (cap := 4) (by decide) (by decide) (by decide) (by decide)
  obtain ⟨b21, g21⟩ : ∃ z, z = h0.size := ⟨_, rfl⟩
  rw [← g21] at A21 st21
  have V21 : Arv Z h21 b21 k21 .byte (4 : Int32) [(.int (0 : Int32)), (.int (0 : Int32)), (.int (0 : Int32)), (.int (0 : Int32))] (.int (0 : Int32)) := (Arv.new A21 (by decide)).pad (pad_rep [] (.int (0 : Int32)) 4)
  have g_b21 : n0 ≤ b21 := Nat.le_trans Z0 (Nat.le_of_eq g21.symm)
  have sz_b21 : h0.size ≤ b21 := Nat.le_trans (Keep.refl h0 []).1 (Nat.le_of_eq g21.symm)
  have Z21 : n0 ≤ h21.size := Nat.le_trans Z0 E21.1
  have K21 := Keep.ext (Keep.refl h0 []) E21
  refine Gl.back (fun _ k => st21 _ k) ?_
  show Gl _ _ _ _ _ _ _ (T21.setTop (mkF m 6 #[.val (.int (2 : Int32))] [(.ref b21)]))
  exact Gl.ret X21 e21 (v := (some (.ref b21))) (fun h => by rw [Bd.returns] at h; cases h) Bd.notSynchronized (fun fs hr => retOut X21 hx (w := (.ref b21)) Bd.returns rfl (Or.inr (Or.inr (Or.inr (Or.inr ⟨rfl, rfl, rfl⟩)))) (hb hby d17_6) hr) ⟨N20, b21, k21, rfl, K21, sz_b21, g_b21, V21⟩ (by decide) (by decide)
theorem ef_put_2_0 (m : MethodId) (x0 : Addr) (x2 : Int32) : entryFrame m #[(.ref x0), (.int (0 : Int32)), (.int x2)] 3 = mkF m 0 #[.val (.ref x0), .val (.int (0 : Int32)), .val (.int x2)] [] := by first | (simp [entryFrame, mkF, argsToLocals, Value.category]; done) | rfl
def Qput_2_0 (Z : State) (t : Addr) (cc : Int32) (k_t : ClassId) (h0 : Heap) (n0 : Nat) (v : Option Value) (h : Heap) (L : List Loc) : Prop := Fr n0 L ∧ (v = none ∧ Keep h0 h [t] ∧ Arv Z h t k_t .byte (4 : Int32) [(.int (own_b0 cc)), (.int (own_b1 cc)), (.int (0 : Int32)), (.int (0 : Int32))] (.int (0 : Int32)))
set_option maxRecDepth 65536 in
set_option maxHeartbeats 40000000 in
theorem rmput_2_0 (l : Launch) (Z : State) (a0 : Array Value) (hw : ∀ d ∈ tables_1, d.before a0 Z = true) (ws : List Jvm.Cond) (t : Addr) (cc : Int32) (k_t : ClassId) (h0 : Heap) (n0 : Nat) (Z0 : n0 ≤ h0.size) (O0 : Old Z n0 h0) (S_AD : Sta Z Z.heap "java/lang/StringUTF16" "$assertionsDisabled" "Z" (.int 1)) (S_HI : Sta Z Z.heap "java/lang/StringUTF16" "HI_BYTE_SHIFT" "I" (.int 0)) (S_LO : Sta Z Z.heap "java/lang/StringUTF16" "LO_BYTE_SHIFT" "I" (.int 8)) (g_t : n0 ≤ t) (V_t : Arv Z h0 t k_t .byte (4 : Int32) [(.int (0 : Int32)), (.int (0 : Int32)), (.int (0 : Int32)), (.int (0 : Int32))] (.int (0 : Int32))) :
    MetFree l (⟨"java/lang/StringUTF16", "putChar", "([BII)V"⟩ : MethodName) (head1 (Jvm.Cond.code (⟨"java/lang/StringUTF16", "putChar", "([BII)V"⟩ : MethodName) jdk_52_method_4_code 3 none :: ws) ({ frames := 0, cells := 0, slots := 0, locals := 0 } : Room)) (fun as0 U => as0 = #[(.ref t), (.int (0 : Int32)), (.int cc)] ∧ Z.Warmed39 U.vm ∧ U.heap = h0) (fun _ _ _ _ _ => True) (fun _ U oc0 U' => ∃ v L, oc0 = .returned v ∧ Qput_2_0 Z t cc k_t h0 n0 v U'.heap L ∧ FrameEnd U oc0 U' L ({ frames := 0, cells := 0, slots := 0, locals := 0 } : Room).cells ({ frames := 0, cells := 0, slots := 0, locals := 0 } : Room).slots) := by
  refine MetFree.of_bodySF (plainFor_of_name pn_java_lang_StringUTF16) hisR ?_
  intro p e s m args below meth c s₁ Bd hml0 hP hK
  obtain ⟨rfl, hZ, hh⟩ := hP
  have hx := Bd.exec
  have hby := Bd.bytes
  have hml : c.maxLocals = 3 := hml0
  have hown : s.vm.findClass "java/lang/StringUTF16" = some m.cls := findClass_of_methodNamed Bd.named
  have hnm := (name_of_methodNamed Bd.named Bd.method).1
  have X0 : Stand p l e ({ frames := 0, cells := 0, slots := 0, locals := 0 } : Room) s m #[(.ref t), (.int (0 : Int32)), (.int cc)] below meth c s₁ [] 0 0 := Stand.of_body Bd
  have e0 : s₁.heap = h0 := by rw [← hh, Bd.state]; rfl
  have N0 := Fr.nil n0
  show Gl p e below s (Qput_2_0 Z t cc k_t h0 n0) ({ frames := 0, cells := 0, slots := 0, locals := 0 } : Room).cells ({ frames := 0, cells := 0, slots := 0, locals := 0 } : Room).slots (s₁.setTop (entryFrame m #[(.ref t), (.int (0 : Int32)), (.int cc)] 3))
  refine Gl.back (fun _ k => castTop (ef_put_2_0 m t cc) k) ?_
  show Gl _ _ _ _ _ _ _ (s₁.setTop (mkF m 0 #[.val (.ref t), .val (.int (0 : Int32)), .val (.int cc)] []))
  obtain ⟨T22, X22, e22, st22⟩ := getS2 X0 hx hZ hown (host := "") (Or.inl (hw _ (List.mem_of_getElem? (i := 105) rfl))) Via.refl e0 (S_AD.ext O0.2) (g := (mkF m 0 #[.val (.ref t), .val (.int (0 : Int32)), .val (.int cc)] [])) rfl (hb hby d19_0)
  refine Gl.back (fun _ k => st22 _ k) ?_
  show Gl _ _ _ _ _ _ _ (T22.setTop (mkF m 3 #[.val (.ref t), .val (.int (0 : Int32)), .val (.int cc)] [(.int (1 : Int32))]))
  refine Gl.back (fun _ k => XS.ifYes X22.here hx rfl (pc0 := 3) (pc' := 28) rfl (hb hby d19_3) rfl ((if0 _ _).trans (feq (by decide : ¬ (1 : Int32) = (0 : Int32))).2) (by decide) (by decide) k) ?_
  show Gl _ _ _ _ _ _ _ (T22.setTop (mkF m 28 #[.val (.ref t), .val (.int (0 : Int32)), .val (.int cc)] []))
  refine Gl.back (fun _ k => XS.iloadN X22.here hx rfl (hb hby d19_28) rfl k) ?_
  show Gl _ _ _ _ _ _ _ (T22.setTop (mkF m 29 #[.val (.ref t), .val (.int (0 : Int32)), .val (.int cc)] [(.int (0 : Int32))]))
  refine Gl.back (fun _ k => XS.iconst X22.here hx rfl (hb hby d19_29) k) ?_
  show Gl _ _ _ _ _ _ _ (T22.setTop (mkF m 30 #[.val (.ref t), .val (.int (0 : Int32)), .val (.int cc)] [(.int (1 : Int32)), (.int (0 : Int32))]))
  refine Gl.back (fun _ k => XS.ishl X22.here hx rfl (hb hby d19_30) rfl k) ?_
  show Gl _ _ _ _ _ _ _ (T22.setTop (mkF m 31 #[.val (.ref t), .val (.int (0 : Int32)), .val (.int cc)] [(.int (0 : Int32))]))
  refine Gl.back (fun _ k => XS.istoreN X22.here hx rfl (hb hby d19_31) rfl (l' := #[.val (.ref t), .val (.int (0 : Int32)), .val (.int cc)]) rfl k) ?_
  show Gl _ _ _ _ _ _ _ (T22.setTop (mkF m 32 #[.val (.ref t), .val (.int (0 : Int32)), .val (.int cc)] []))
  refine Gl.back (fun _ k => XS.aloadN X22.here hx rfl (hb hby d19_32) rfl rfl k) ?_
  show Gl _ _ _ _ _ _ _ (T22.setTop (mkF m 33 #[.val (.ref t), .val (.int (0 : Int32)), .val (.int cc)] [(.ref t)]))
  refine Gl.back (fun _ k => XS.iloadN X22.here hx rfl (hb hby d19_33) rfl k) ?_
  show Gl _ _ _ _ _ _ _ (T22.setTop (mkF m 34 #[.val (.ref t), .val (.int (0 : Int32)), .val (.int cc)] [(.int (0 : Int32)), (.ref t)]))
  refine Gl.back (fun _ k => XS.iinc X22.here hx rfl (hb hby d19_34) rfl (l' := #[.val (.ref t), .val (.int (1 : Int32)), .val (.int cc)]) rfl k) ?_
  show Gl _ _ _ _ _ _ _ (T22.setTop (mkF m 37 #[.val (.ref t), .val (.int (1 : Int32)), .val (.int cc)] [(.int (0 : Int32)), (.ref t)]))
  refine Gl.back (fun _ k => XS.iloadN X22.here hx rfl (hb hby d19_37) rfl k) ?_
  show Gl _ _ _ _ _ _ _ (T22.setTop (mkF m 38 #[.val (.ref t), .val (.int (1 : Int32)), .val (.int cc)] [(.int cc), (.int (0 : Int32)), (.ref t)]))
  obtain ⟨T23, X23, e23, st23⟩ := getS2 X22 hx hZ hown (host := "") (Or.inl (hw _ (List.mem_of_getElem? (i := 106) rfl))) Via.refl e22 (S_HI.ext O0.2) (g := (mkF m 38 #[.val (.ref t), .val (.int (1 : Int32)), .val (.int cc)] [(.int cc), (.int (0 : Int32)), (.ref t)])) rfl (hb hby d19_38)
  refine Gl.back (fun _ k => st23 _ k) ?_
  show Gl _ _ _ _ _ _ _ (T23.setTop (mkF m 41 #[.val (.ref t), .val (.int (1 : Int32)), .val (.int cc)] [(.int (0 : Int32)), (.int cc), (.int (0 : Int32)), (.ref t)]))
  refine Gl.back (fun _ k => XS.ishr X23.here hx rfl (hb hby d19_41) rfl k) ?_
  show Gl _ _ _ _ _ _ _ (T23.setTop (mkF m 42 #[.val (.ref t), .val (.int (1 : Int32)), .val (.int cc)] [(.int (cc >>> ((0 : Int32) &&& 31))), (.int (0 : Int32)), (.ref t)]))
  refine Gl.back (fun _ k => XS.i2b X23.here hx rfl (hb hby d19_42) rfl k) ?_
  show Gl _ _ _ _ _ _ _ (T23.setTop (mkF m 43 #[.val (.ref t), .val (.int (1 : Int32)), .val (.int cc)] [(.int ((cc >>> ((0 : Int32) &&& 31)).toInt8.toInt32)), (.int (0 : Int32)), (.ref t)]))
  obtain ⟨cl24, Ar24, q24, Sz24, Nn24, Hs24, Gf24⟩ := id V_t
  have hin24 : ¬ ((0 : Int32) < 0 ∨ cl24.slots.size ≤ ((0 : Int32)).toNatClampNeg) := inb_of Sz24 ⟨by decide, by decide⟩
  obtain ⟨T25, h25, X25, e25, W25, st25⟩ := stB X23 hx hZ e23 Ar24 (j := (0 : Int32)) hin24 (g := (mkF m 43 #[.val (.ref t), .val (.int (1 : Int32)), .val (.int cc)] [(.int ((cc >>> ((0 : Int32) &&& 31)).toInt8.toInt32)), (.int (0 : Int32)), (.ref t)])) rfl rfl (hb hby d19_43)
  have V25 := Arv.set Ar24 q24 Sz24 Nn24 Hs24 Gf24 (fits_nar_byte _) W25 0 rfl (Nat.le_of_ble_eq_true rfl)
  replace V25 : Arv Z h25 t k_t .byte (4 : Int32) [(.int (nar .byte ((cc >>> ((0 : Int32) &&& 31)).toInt8.toInt32))), (.int (0 : Int32)), (.int (0 : Int32)), (.int (0 : Int32))] (.int (0 : Int32)) := V25
  have K25 := Keep.wr (Keep.refl h0 [t]) W25 (Or.inl (List.mem_of_getElem? (i := 0) rfl))
  have O25 := Old.wr O0 W25 g_t
  have Z25 : n0 ≤ h25.size := Nat.le_trans Z0 (Keep.of_wr W25).1
  have N25 := Fr.snoc X25 N0 g_t
  refine Gl.back (fun _ k => st25 _ k) ?_
  show Gl _ _ _ _ _ _ _ (T25.setTop (mkF m 44 #[.val (.ref t), .val (.int (1 : Int32)), .val (.int cc)] []))
  refine Gl.back (fun _ k => XS.aloadN X25.here hx rfl (hb hby d19_44) rfl rfl k) ?_
  show Gl _ _ _ _ _ _ _ (T25.setTop (mkF m 45 #[.val (.ref t), .val (.int (1 : Int32)), .val (.int cc)] [(.ref t)]))
  refine Gl.back (fun _ k => XS.iloadN X25.here hx rfl (hb hby d19_45) rfl k) ?_
  show Gl _ _ _ _ _ _ _ (T25.setTop (mkF m 46 #[.val (.ref t), .val (.int (1 : Int32)), .val (.int cc)] [(.int (1 : Int32)), (.ref t)]))
  refine Gl.back (fun _ k => XS.iloadN X25.here hx rfl (hb hby d19_46) rfl k) ?_
  show Gl _ _ _ _ _ _ _ (T25.setTop (mkF m 47 #[.val (.ref t), .val (.int (1 : Int32)), .val (.int cc)] [(.int cc), (.int (1 : Int32)), (.ref t)]))
  obtain ⟨T26, X26, e26, st26⟩ := getS2 X25 hx hZ hown (host := "") (Or.inl (hw _ (List.mem_of_getElem? (i := 107) rfl))) Via.refl e25 (S_LO.ext O25.2) (g := (mkF m 47 #[.val (.ref t), .val (.int (1 : Int32)), .val (.int cc)] [(.int cc), (.int (1 : Int32)), (.ref t)])) rfl (hb hby d19_47)
  refine Gl.back (fun _ k => st26 _ k) ?_
  show Gl _ _ _ _ _ _ _ (T26.setTop (mkF m 50 #[.val (.ref t), .val (.int (1 : Int32)), .val (.int cc)] [(.int (8 : Int32)), (.int cc), (.int (1 : Int32)), (.ref t)]))
  refine Gl.back (fun _ k => XS.ishr X26.here hx rfl (hb hby d19_50) rfl k) ?_
  show Gl _ _ _ _ _ _ _ (T26.setTop (mkF m 51 #[.val (.ref t), .val (.int (1 : Int32)), .val (.int cc)] [(.int (cc >>> ((8 : Int32) &&& 31))), (.int (1 : Int32)), (.ref t)]))
  refine Gl.back (fun _ k => XS.i2b X26.here hx rfl (hb hby d19_51) rfl k) ?_
  show Gl _ _ _ _ _ _ _ (T26.setTop (mkF m 52 #[.val (.ref t), .val (.int (1 : Int32)), .val (.int cc)] [(.int ((cc >>> ((8 : Int32) &&& 31)).toInt8.toInt32)), (.int (1 : Int32)), (.ref t)]))
  obtain ⟨cl27, Ar27, q27, Sz27, Nn27, Hs27, Gf27⟩ := id V25
  have hin27 : ¬ ((1 : Int32) < 0 ∨ cl27.slots.size ≤ ((1 : Int32)).toNatClampNeg) := inb_of Sz27 ⟨by decide, by decide⟩
  obtain ⟨T28, h28, X28, e28, W28, st28⟩ := stB X26 hx hZ e26 Ar27 (j := (1 : Int32)) hin27 (g := (mkF m 52 #[.val (.ref t), .val (.int (1 : Int32)), .val (.int cc)] [(.int ((cc >>> ((8 : Int32) &&& 31)).toInt8.toInt32)), (.int (1 : Int32)), (.ref t)])) rfl rfl (hb hby d19_52)
  have V28 := Arv.set Ar27 q27 Sz27 Nn27 Hs27 Gf27 (fits_nar_byte _) W28 1 rfl (Nat.le_of_ble_eq_true rfl)
  replace V28 : Arv Z h28 t k_t .byte (4 : Int32) [(.int (nar .byte ((cc >>> ((0 : Int32) &&& 31)).toInt8.toInt32))), (.int (nar .byte ((cc >>> ((8 : Int32) &&& 31)).toInt8.toInt32))), (.int (0 : Int32)), (.int (0 : Int32))] (.int (0 : Int32)) := V28
  have K28 := Keep.wr K25 W28 (Or.inl (List.mem_of_getElem? (i := 0) rfl))
  have O28 := Old.wr O25 W28 g_t
  have Z28 : n0 ≤ h28.size := Nat.le_trans Z25 (Keep.of_wr W28).1
  have N28 := Fr.snoc X28 N25 g_t
  refine Gl.back (fun _ k => st28 _ k) ?_
  show Gl _ _ _ _ _ _ _ (T28.setTop (mkF m 53 #[.val (.ref t), .val (.int (1 : Int32)), .val (.int cc)] []))
  exact Gl.ret X28 e28 (v := none) (fun _ => rfl) Bd.notSynchronized (fun fs hr => X28.returnOut hx Bd.returns (hb hby d19_53) hr) ⟨N28, rfl, K28, V28⟩ (by decide) (by decide)
theorem ef_put_2_1 (m : MethodId) (x0 : Addr) (x2 : Int32) : entryFrame m #[(.ref x0), (.int (1 : Int32)), (.int x2)] 3 = mkF m 0 #[.val (.ref x0), .val (.int (1 : Int32)), .val (.int x2)] [] := by first | (simp [entryFrame, mkF, argsToLocals, Value.category]; done) | rfl
def Qput_2_1 (Z : State) (t : Addr) (cc : Int32) (k_t : ClassId) (x0 x1 : Int32) (h0 : Heap) (n0 : Nat) (v : Option Value) (h : Heap) (L : List Loc) : Prop := Fr n0 L ∧ (v = none ∧ Keep h0 h [t] ∧ Arv Z h t k_t .byte (4 : Int32) [(.int x0), (.int x1), (.int (own_b0 cc)), (.int (own_b1 cc))] (.int (0 : Int32)))
set_option maxRecDepth 65536 in
set_option maxHeartbeats 40000000 in
theorem rmput_2_1 (l : Launch) (Z : State) (a0 : Array Value) (hw : ∀ d ∈ tables_1, d.before a0 Z = true) (ws : List Jvm.Cond) (t : Addr) (cc : Int32) (k_t : ClassId) (x0 x1 : Int32) (h0 : Heap) (n0 : Nat) (Z0 : n0 ≤ h0.size) (O0 : Old Z n0 h0) (S_AD : Sta Z Z.heap "java/lang/StringUTF16" "$assertionsDisabled" "Z" (.int 1)) (S_HI : Sta Z Z.heap "java/lang/StringUTF16" "HI_BYTE_SHIFT" "I" (.int 0)) (S_LO : Sta Z Z.heap "java/lang/StringUTF16" "LO_BYTE_SHIFT" "I" (.int 8)) (g_t : n0 ≤ t) (V_t : Arv Z h0 t k_t .byte (4 : Int32) [(.int x0), (.int x1), (.int (0 : Int32)), (.int (0 : Int32))] (.int (0 : Int32))) :
    MetFree l (⟨"java/lang/StringUTF16", "putChar", "([BII)V"⟩ : MethodName) (head1 (Jvm.Cond.code (⟨"java/lang/StringUTF16", "putChar", "([BII)V"⟩ : MethodName) jdk_52_method_4_code 3 none :: ws) ({ frames := 0, cells := 0, slots := 0, locals := 0 } : Room)) (fun as0 U => as0 = #[(.ref t), (.int (1 : Int32)), (.int cc)] ∧ Z.Warmed39 U.vm ∧ U.heap = h0) (fun _ _ _ _ _ => True) (fun _ U oc0 U' => ∃ v L, oc0 = .returned v ∧ Qput_2_1 Z t cc k_t x0 x1 h0 n0 v U'.heap L ∧ FrameEnd U oc0 U' L ({ frames := 0, cells := 0, slots := 0, locals := 0 } : Room).cells ({ frames := 0, cells := 0, slots := 0, locals := 0 } : Room).slots) := by
  refine MetFree.of_bodySF (plainFor_of_name pn_java_lang_StringUTF16) hisR ?_
  intro p e s m args below meth c s₁ Bd hml0 hP hK
  obtain ⟨rfl, hZ, hh⟩ := hP
  have hx := Bd.exec
  have hby := Bd.bytes
  have hml : c.maxLocals = 3 := hml0
  have hown : s.vm.findClass "java/lang/StringUTF16" = some m.cls := findClass_of_methodNamed Bd.named
  have hnm := (name_of_methodNamed Bd.named Bd.method).1
  have X0 : Stand p l e ({ frames := 0, cells := 0, slots := 0, locals := 0 } : Room) s m #[(.ref t), (.int (1 : Int32)), (.int cc)] below meth c s₁ [] 0 0 := Stand.of_body Bd
  have e0 : s₁.heap = h0 := by rw [← hh, Bd.state]; rfl
  have N0 := Fr.nil n0
  show Gl p e below s (Qput_2_1 Z t cc k_t x0 x1 h0 n0) ({ frames := 0, cells := 0, slots := 0, locals := 0 } : Room).cells ({ frames := 0, cells := 0, slots := 0, locals := 0 } : Room).slots (s₁.setTop (entryFrame m #[(.ref t), (.int (1 : Int32)), (.int cc)] 3))
  refine Gl.back (fun _ k => castTop (ef_put_2_1 m t cc) k) ?_
  show Gl _ _ _ _ _ _ _ (s₁.setTop (mkF m 0 #[.val (.ref t), .val (.int (1 : Int32)), .val (.int cc)] []))
  obtain ⟨T29, X29, e29, st29⟩ := getS2 X0 hx hZ hown (host := "") (Or.inl (hw _ (List.mem_of_getElem? (i := 105) rfl))) Via.refl e0 (S_AD.ext O0.2) (g := (mkF m 0 #[.val (.ref t), .val (.int (1 : Int32)), .val (.int cc)] [])) rfl (hb hby d19_0)
  refine Gl.back (fun _ k => st29 _ k) ?_
  show Gl _ _ _ _ _ _ _ (T29.setTop (mkF m 3 #[.val (.ref t), .val (.int (1 : Int32)), .val (.int cc)] [(.int (1 : Int32))]))
  refine Gl.back (fun _ k => XS.ifYes X29.here hx rfl (pc0 := 3) (pc' := 28) rfl (hb hby d19_3) rfl ((if0 _ _).trans (feq (by decide : ¬ (1 : Int32) = (0 : Int32))).2) (by decide) (by decide) k) ?_
  show Gl _ _ _ _ _ _ _ (T29.setTop (mkF m 28 #[.val (.ref t), .val (.int (1 : Int32)), .val (.int cc)] []))
  refine Gl.back (fun _ k => XS.iloadN X29.here hx rfl (hb hby d19_28) rfl k) ?_
  show Gl _ _ _ _ _ _ _ (T29.setTop (mkF m 29 #[.val (.ref t), .val (.int (1 : Int32)), .val (.int cc)] [(.int (1 : Int32))]))
  refine Gl.back (fun _ k => XS.iconst X29.here hx rfl (hb hby d19_29) k) ?_
  show Gl _ _ _ _ _ _ _ (T29.setTop (mkF m 30 #[.val (.ref t), .val (.int (1 : Int32)), .val (.int cc)] [(.int (1 : Int32)), (.int (1 : Int32))]))
  refine Gl.back (fun _ k => XS.ishl X29.here hx rfl (hb hby d19_30) rfl k) ?_
  show Gl _ _ _ _ _ _ _ (T29.setTop (mkF m 31 #[.val (.ref t), .val (.int (1 : Int32)), .val (.int cc)] [(.int (2 : Int32))]))
  refine Gl.back (fun _ k => XS.istoreN X29.here hx rfl (hb hby d19_31) rfl (l' := #[.val (.ref t), .val (.int (2 : Int32)), .val (.int cc)]) rfl k) ?_
  show Gl _ _ _ _ _ _ _ (T29.setTop (mkF m 32 #[.val (.ref t), .val (.int (2 : Int32)), .val (.int cc)] []))
  refine Gl.back (fun _ k => XS.aloadN X29.here hx rfl (hb hby d19_32) rfl rfl k) ?_
  show Gl _ _ _ _ _ _ _ (T29.setTop (mkF m 33 #[.val (.ref t), .val (.int (2 : Int32)), .val (.int cc)] [(.ref t)]))
  refine Gl.back (fun _ k => XS.iloadN X29.here hx rfl (hb hby d19_33) rfl k) ?_
  show Gl _ _ _ _ _ _ _ (T29.setTop (mkF m 34 #[.val (.ref t), .val (.int (2 : Int32)), .val (.int cc)] [(.int (2 : Int32)), (.ref t)]))
  refine Gl.back (fun _ k => XS.iinc X29.here hx rfl (hb hby d19_34) rfl (l' := #[.val (.ref t), .val (.int (3 : Int32)), .val (.int cc)]) rfl k) ?_
  show Gl _ _ _ _ _ _ _ (T29.setTop (mkF m 37 #[.val (.ref t), .val (.int (3 : Int32)), .val (.int cc)] [(.int (2 : Int32)), (.ref t)]))
  refine Gl.back (fun _ k => XS.iloadN X29.here hx rfl (hb hby d19_37) rfl k) ?_
  show Gl _ _ _ _ _ _ _ (T29.setTop (mkF m 38 #[.val (.ref t), .val (.int (3 : Int32)), .val (.int cc)] [(.int cc), (.int (2 : Int32)), (.ref t)]))
  obtain ⟨T30, X30, e30, st30⟩ := getS2 X29 hx hZ hown (host := "") (Or.inl (hw _ (List.mem_of_getElem? (i := 106) rfl))) Via.refl e29 (S_HI.ext O0.2) (g := (mkF m 38 #[.val (.ref t), .val (.int (3 : Int32)), .val (.int cc)] [(.int cc), (.int (2 : Int32)), (.ref t)])) rfl (hb hby d19_38)
  refine Gl.back (fun _ k => st30 _ k) ?_
  show Gl _ _ _ _ _ _ _ (T30.setTop (mkF m 41 #[.val (.ref t), .val (.int (3 : Int32)), .val (.int cc)] [(.int (0 : Int32)), (.int cc), (.int (2 : Int32)), (.ref t)]))
  refine Gl.back (fun _ k => XS.ishr X30.here hx rfl (hb hby d19_41) rfl k) ?_
  show Gl _ _ _ _ _ _ _ (T30.setTop (mkF m 42 #[.val (.ref t), .val (.int (3 : Int32)), .val (.int cc)] [(.int (cc >>> ((0 : Int32) &&& 31))), (.int (2 : Int32)), (.ref t)]))
  refine Gl.back (fun _ k => XS.i2b X30.here hx rfl (hb hby d19_42) rfl k) ?_
  show Gl _ _ _ _ _ _ _ (T30.setTop (mkF m 43 #[.val (.ref t), .val (.int (3 : Int32)), .val (.int cc)] [(.int ((cc >>> ((0 : Int32) &&& 31)).toInt8.toInt32)), (.int (2 : Int32)), (.ref t)]))
  obtain ⟨cl31, Ar31, q31, Sz31, Nn31, Hs31, Gf31⟩ := id V_t
  have hin31 : ¬ ((2 : Int32) < 0 ∨ cl31.slots.size ≤ ((2 : Int32)).toNatClampNeg) := inb_of Sz31 ⟨by decide, by decide⟩
  obtain ⟨T32, h32, X32, e32, W32, st32⟩ := stB X30 hx hZ e30 Ar31 (j := (2 : Int32)) hin31 (g := (mkF m 43 #[.val (.ref t), .val (.int (3 : Int32)), .val (.int cc)] [(.int ((cc >>> ((0 : Int32) &&& 31)).toInt8.toInt32)), (.int (2 : Int32)), (.ref t)])) rfl rfl (hb hby d19_43)
  have V32 := Arv.set Ar31 q31 Sz31 Nn31 Hs31 Gf31 (fits_nar_byte _) W32 2 rfl (Nat.le_of_ble_eq_true rfl)
  replace V32 : Arv Z h32 t k_t .byte (4 : Int32) [(.int x0), (.int x1), (.int (nar .byte ((cc >>> ((0 : Int32) &&& 31)).toInt8.toInt32))), (.int (0 : Int32))] (.int (0 : Int32)) := V32
  have K32 := Keep.wr (Keep.refl h0 [t]) W32 (Or.inl (List.mem_of_getElem? (i := 0) rfl))
  have O32 := Old.wr O0 W32 g_t
  have Z32 : n0 ≤ h32.size := Nat.le_trans Z0 (Keep.of_wr W32).1
  have N32 := Fr.snoc X32 N0 g_t
  refine Gl.back (fun _ k => st32 _ k) ?_
  show Gl _ _ _ _ _ _ _ (T32.setTop (mkF m 44 #[.val (.ref t), .val (.int (3 : Int32)), .val (.int cc)] []))
  refine Gl.back (fun _ k => XS.aloadN X32.here hx rfl (hb hby d19_44) rfl rfl k) ?_
  show Gl _ _ _ _ _ _ _ (T32.setTop (mkF m 45 #[.val (.ref t), .val (.int (3 : Int32)), .val (.int cc)] [(.ref t)]))
  refine Gl.back (fun _ k => XS.iloadN X32.here hx rfl (hb hby d19_45) rfl k) ?_
  show Gl _ _ _ _ _ _ _ (T32.setTop (mkF m 46 #[.val (.ref t), .val (.int (3 : Int32)), .val (.int cc)] [(.int (3 : Int32)), (.ref t)]))
  refine Gl.back (fun _ k => XS.iloadN X32.here hx rfl (hb hby d19_46) rfl k) ?_
  show Gl _ _ _ _ _ _ _ (T32.setTop (mkF m 47 #[.val (.ref t), .val (.int (3 : Int32)), .val (.int cc)] [(.int cc), (.int (3 : Int32)), (.ref t)]))
  obtain ⟨T33, X33, e33, st33⟩ := getS2 X32 hx hZ hown (host := "") (Or.inl (hw _ (List.mem_of_getElem? (i := 107) rfl))) Via.refl e32 (S_LO.ext O32.2) (g := (mkF m 47 #[.val (.ref t), .val (.int (3 : Int32)), .val (.int cc)] [(.int cc), (.int (3 : Int32)), (.ref t)])) rfl (hb hby d19_47)
  refine Gl.back (fun _ k => st33 _ k) ?_
  show Gl _ _ _ _ _ _ _ (T33.setTop (mkF m 50 #[.val (.ref t), .val (.int (3 : Int32)), .val (.int cc)] [(.int (8 : Int32)), (.int cc), (.int (3 : Int32)), (.ref t)]))
  refine Gl.back (fun _ k => XS.ishr X33.here hx rfl (hb hby d19_50) rfl k) ?_
  show Gl _ _ _ _ _ _ _ (T33.setTop (mkF m 51 #[.val (.ref t), .val (.int (3 : Int32)), .val (.int cc)] [(.int (cc >>> ((8 : Int32) &&& 31))), (.int (3 : Int32)), (.ref t)]))
  refine Gl.back (fun _ k => XS.i2b X33.here hx rfl (hb hby d19_51) rfl k) ?_
  show Gl _ _ _ _ _ _ _ (T33.setTop (mkF m 52 #[.val (.ref t), .val (.int (3 : Int32)), .val (.int cc)] [(.int ((cc >>> ((8 : Int32) &&& 31)).toInt8.toInt32)), (.int (3 : Int32)), (.ref t)]))
  obtain ⟨cl34, Ar34, q34, Sz34, Nn34, Hs34, Gf34⟩ := id V32
  have hin34 : ¬ ((3 : Int32) < 0 ∨ cl34.slots.size ≤ ((3 : Int32)).toNatClampNeg) := inb_of Sz34 ⟨by decide, by decide⟩
  obtain ⟨T35, h35, X35, e35, W35, st35⟩ := stB X33 hx hZ e33 Ar34 (j := (3 : Int32)) hin34 (g := (mkF m 52 #[.val (.ref t), .val (.int (3 : Int32)), .val (.int cc)] [(.int ((cc >>> ((8 : Int32) &&& 31)).toInt8.toInt32)), (.int (3 : Int32)), (.ref t)])) rfl rfl (hb hby d19_52)
  have V35 := Arv.set Ar34 q34 Sz34 Nn34 Hs34 Gf34 (fits_nar_byte _) W35 3 rfl (Nat.le_of_ble_eq_true rfl)
  replace V35 : Arv Z h35 t k_t .byte (4 : Int32) [(.int x0), (.int x1), (.int (nar .byte ((cc >>> ((0 : Int32) &&& 31)).toInt8.toInt32))), (.int (nar .byte ((cc >>> ((8 : Int32) &&& 31)).toInt8.toInt32)))] (.int (0 : Int32)) := V35
  have K35 := Keep.wr K32 W35 (Or.inl (List.mem_of_getElem? (i := 0) rfl))
  have O35 := Old.wr O32 W35 g_t
  have Z35 : n0 ≤ h35.size := Nat.le_trans Z32 (Keep.of_wr W35).1
  have N35 := Fr.snoc X35 N32 g_t
  refine Gl.back (fun _ k => st35 _ k) ?_
  show Gl _ _ _ _ _ _ _ (T35.setTop (mkF m 53 #[.val (.ref t), .val (.int (3 : Int32)), .val (.int cc)] []))
  exact Gl.ret X35 e35 (v := none) (fun _ => rfl) Bd.notSynchronized (fun fs hr => X35.returnOut hx Bd.returns (hb hby d19_53) hr) ⟨N35, rfl, K35, V35⟩ (by decide) (by decide)
theorem ef_tob_2 (m : MethodId) (x0 : Addr) : entryFrame m #[(.ref x0), (.int (0 : Int32)), (.int (2 : Int32))] 5 = mkF m 0 #[.val (.ref x0), .val (.int (0 : Int32)), .val (.int (2 : Int32)), .unset, .unset] [] := by first | (simp [entryFrame, mkF, argsToLocals, Value.category]; done) | rfl
def Qtob_2 (Z : State) (b : Addr) (k_b : ClassId) (c0 c1 : Int32) (h0 : Heap) (n0 : Nat) (v : Option Value) (h : Heap) (L : List Loc) : Prop := Fr n0 L ∧ (∃ (t : Addr) (k : ClassId), v = some (.ref t) ∧ Keep h0 h [] ∧ h0.size ≤ t ∧ n0 ≤ t ∧ Arv Z h t k .byte (4 : Int32) [(.int (own_b0 c0)), (.int (own_b1 c0)), (.int (own_b0 c1)), (.int (own_b1 c1))] (.int (0 : Int32)))
set_option maxRecDepth 65536 in
set_option maxHeartbeats 40000000 in
theorem rmtob_2 (l : Launch) (Z : State) (a0 : Array Value) (hw : ∀ d ∈ tables_1, d.before a0 Z = true) (ws : List Jvm.Cond) (b : Addr) (k_b : ClassId) (c0 c1 : Int32) (h0 : Heap) (n0 : Nat) (Z0 : n0 ≤ h0.size) (O0 : Old Z n0 h0) (S_AD : Sta Z Z.heap "java/lang/StringUTF16" "$assertionsDisabled" "Z" (.int 1)) (S_HI : Sta Z Z.heap "java/lang/StringUTF16" "HI_BYTE_SHIFT" "I" (.int 0)) (S_LO : Sta Z Z.heap "java/lang/StringUTF16" "LO_BYTE_SHIFT" "I" (.int 8)) (V_b : Arv Z h0 b k_b .char (2 : Int32) [(.int c0), (.int c1)] (.int (0 : Int32))) :
    MetFree l (⟨"java/lang/StringUTF16", "toBytes", "([CII)[B"⟩ : MethodName) (head1 (Jvm.Cond.code (⟨"java/lang/StringUTF16", "toBytes", "([CII)[B"⟩ : MethodName) jdk_52_method_14_code 5 (some (.array .byte)) :: ws) ({ frames := 2, cells := 1, slots := 4, locals := 24 } : Room)) (fun as0 U => as0 = #[(.ref b), (.int (0 : Int32)), (.int (2 : Int32))] ∧ Z.Warmed39 U.vm ∧ U.heap = h0) (fun _ _ _ _ _ => True) (fun _ U oc0 U' => ∃ v L, oc0 = .returned v ∧ Qtob_2 Z b k_b c0 c1 h0 n0 v U'.heap L ∧ FrameEnd U oc0 U' L ({ frames := 2, cells := 1, slots := 4, locals := 24 } : Room).cells ({ frames := 2, cells := 1, slots := 4, locals := 24 } : Room).slots) := by
  refine MetFree.of_bodySF (plainFor_of_name pn_java_lang_StringUTF16) hisR ?_
  intro p e s m args below meth c s₁ Bd hml0 hP hK
  obtain ⟨rfl, hZ, hh⟩ := hP
  have hx := Bd.exec
  have hby := Bd.bytes
  have hml : c.maxLocals = 5 := hml0
  have hown : s.vm.findClass "java/lang/StringUTF16" = some m.cls := findClass_of_methodNamed Bd.named
  have hnm := (name_of_methodNamed Bd.named Bd.method).1
  have X0 : Stand p l e ({ frames := 2, cells := 1, slots := 4, locals := 24 } : Room) s m #[(.ref b), (.int (0 : Int32)), (.int (2 : Int32))] below meth c s₁ [] 0 0 := Stand.of_body Bd
  have e0 : s₁.heap = h0 := by rw [← hh, Bd.state]; rfl
  have N0 := Fr.nil n0
  show Gl p e below s (Qtob_2 Z b k_b c0 c1 h0 n0) ({ frames := 2, cells := 1, slots := 4, locals := 24 } : Room).cells ({ frames := 2, cells := 1, slots := 4, locals := 24 } : Room).slots (s₁.setTop (entryFrame m #[(.ref b), (.int (0 : Int32)), (.int (2 : Int32))] 5))
  refine Gl.back (fun _ k => castTop (ef_tob_2 m b) k) ?_
  show Gl _ _ _ _ _ _ _ (s₁.setTop (mkF m 0 #[.val (.ref b), .val (.int (0 : Int32)), .val (.int (2 : Int32)), .unset, .unset] []))
  refine Gl.back (fun _ k => XS.iloadN X0.here hx rfl (hb hby d16_0) rfl k) ?_
  show Gl _ _ _ _ _ _ _ (s₁.setTop (mkF m 1 #[.val (.ref b), .val (.int (0 : Int32)), .val (.int (2 : Int32)), .unset, .unset] [(.int (2 : Int32))]))
  obtain ⟨_, _, ⟨T36, L36, k36, n36⟩, -, X36, ⟨Lc36, hQ36, l36, y36, z36⟩, st36⟩ := Jvm.LawKit.callS X0 hx (y := (⟨"java/lang/StringUTF16", "newBytesFor", "(I)[B"⟩ : MethodName)) hown (mvT hZ (hw _ (List.mem_of_getElem? (i := 95) rfl))) (mvT hZ (hw _ (List.mem_of_getElem? (i := 96) rfl))) (mvT hZ (hw _ (List.mem_of_getElem? (i := 18) rfl))) (mvT hZ (hw _ (List.mem_of_getElem? (i := 97) rfl))) (by decide) (backOf (W := 0) (rmnbf_2 l Z a0 hw []   h0 n0 Z0 ) hZ (hw _ (List.mem_of_getElem? (i := 97) rfl)) (hw _ (List.mem_of_getElem? (i := 18) rfl)) (by decide) (by decide)) (g := (mkF m 1 #[.val (.ref b), .val (.int (0 : Int32)), .val (.int (2 : Int32)), .unset, .unset] [(.int (2 : Int32))])) rfl (by rw [hml]; rfl) (argsL := [(.int (2 : Int32))]) (rest := []) (lenOf pd__I__B rfl) rfl (by show 2 * 0 + _ ≤ _; exact Nat.le_of_eq rfl) (hb hby d16_1) (fun _ _ => ⟨rfl, e0, (by decide : 0 + 1 ≤ _), (by decide : 0 + 4 ≤ _)⟩)
  dsimp only [Pt.U, Pt.locs, Pt.cells, Pt.slots] at X36 l36 y36 z36 st36 hQ36
  replace l36 := Eq.symm l36
  replace y36 := Eq.symm y36
  replace z36 := Eq.symm z36
  subst l36 y36 z36
  obtain ⟨Nq36, t36, k036, rfl, Kq36, Sz36, Gz36, V36⟩ := hQ36
  have N36 := Fr.app N0 Nq36
  have Kc36 := Keep.trans (Keep.refl h0 []) Kq36 all0
  have Zc36 : n0 ≤ T36.heap.size := Nat.le_trans Z0 Kq36.1
  have Oc36 := Old.keep O0 Kq36 all0
  have ne_b_t36 : b ≠ t36 := Nat.ne_of_lt (Nat.lt_of_lt_of_le (V_b).lt Sz36)
  have sz_t36 : h0.size ≤ t36 := Nat.le_trans (Keep.refl h0 []).1 Sz36
  refine Gl.back (fun _ k => st36 _ k) ?_
  show Gl _ _ _ _ _ _ _ (T36.setTop (mkF m 4 #[.val (.ref b), .val (.int (0 : Int32)), .val (.int (2 : Int32)), .unset, .unset] [(.ref t36)]))
  refine Gl.back (fun _ k => XS.astoreN X36.here hx rfl (hb hby d16_4) rfl rfl (l' := #[.val (.ref b), .val (.int (0 : Int32)), .val (.int (2 : Int32)), .val (.ref t36), .unset]) rfl k) ?_
  show Gl _ _ _ _ _ _ _ (T36.setTop (mkF m 5 #[.val (.ref b), .val (.int (0 : Int32)), .val (.int (2 : Int32)), .val (.ref t36), .unset] []))
  refine Gl.back (fun _ k => XS.iconst X36.here hx rfl (hb hby d16_5) k) ?_
  show Gl _ _ _ _ _ _ _ (T36.setTop (mkF m 6 #[.val (.ref b), .val (.int (0 : Int32)), .val (.int (2 : Int32)), .val (.ref t36), .unset] [(.int (0 : Int32))]))
  refine Gl.back (fun _ k => XS.istore X36.here hx rfl (hb hby d16_6) rfl (l' := #[.val (.ref b), .val (.int (0 : Int32)), .val (.int (2 : Int32)), .val (.ref t36), .val (.int (0 : Int32))]) rfl k) ?_
  show Gl _ _ _ _ _ _ _ (T36.setTop (mkF m 8 #[.val (.ref b), .val (.int (0 : Int32)), .val (.int (2 : Int32)), .val (.ref t36), .val (.int (0 : Int32))] []))
  refine Gl.back (fun _ k => XS.iload X36.here hx rfl (hb hby d16_8) rfl k) ?_
  show Gl _ _ _ _ _ _ _ (T36.setTop (mkF m 10 #[.val (.ref b), .val (.int (0 : Int32)), .val (.int (2 : Int32)), .val (.ref t36), .val (.int (0 : Int32))] [(.int (0 : Int32))]))
  refine Gl.back (fun _ k => XS.iloadN X36.here hx rfl (hb hby d16_10) rfl k) ?_
  show Gl _ _ _ _ _ _ _ (T36.setTop (mkF m 11 #[.val (.ref b), .val (.int (0 : Int32)), .val (.int (2 : Int32)), .val (.ref t36), .val (.int (0 : Int32))] [(.int (2 : Int32)), (.int (0 : Int32))]))
  refine Gl.back (fun _ k => XS.icmpNo X36.here hx rfl (hb hby d16_11) rfl (tlt (by decide : (0 : Int32) < (2 : Int32))).2.1 k) ?_
  show Gl _ _ _ _ _ _ _ (T36.setTop (mkF m 14 #[.val (.ref b), .val (.int (0 : Int32)), .val (.int (2 : Int32)), .val (.ref t36), .val (.int (0 : Int32))] []))
  refine Gl.back (fun _ k => XS.aloadN X36.here hx rfl (hb hby d16_14) rfl rfl k) ?_
  show Gl _ _ _ _ _ _ _ (T36.setTop (mkF m 15 #[.val (.ref b), .val (.int (0 : Int32)), .val (.int (2 : Int32)), .val (.ref t36), .val (.int (0 : Int32))] [(.ref t36)]))
  refine Gl.back (fun _ k => XS.iload X36.here hx rfl (hb hby d16_15) rfl k) ?_
  show Gl _ _ _ _ _ _ _ (T36.setTop (mkF m 17 #[.val (.ref b), .val (.int (0 : Int32)), .val (.int (2 : Int32)), .val (.ref t36), .val (.int (0 : Int32))] [(.int (0 : Int32)), (.ref t36)]))
  refine Gl.back (fun _ k => XS.aloadN X36.here hx rfl (hb hby d16_17) rfl rfl k) ?_
  show Gl _ _ _ _ _ _ _ (T36.setTop (mkF m 18 #[.val (.ref b), .val (.int (0 : Int32)), .val (.int (2 : Int32)), .val (.ref t36), .val (.int (0 : Int32))] [(.ref b), (.int (0 : Int32)), (.ref t36)]))
  refine Gl.back (fun _ k => XS.iloadN X36.here hx rfl (hb hby d16_18) rfl k) ?_
  show Gl _ _ _ _ _ _ _ (T36.setTop (mkF m 19 #[.val (.ref b), .val (.int (0 : Int32)), .val (.int (2 : Int32)), .val (.ref t36), .val (.int (0 : Int32))] [(.int (0 : Int32)), (.ref b), (.int (0 : Int32)), (.ref t36)]))
  have f37 := (V_b.keep Kq36 nin0)
  obtain ⟨cl38, Ar38, q38, Sz38, Nn38, Hs38, Gf38⟩ := id f37
  have hin38 : ¬ ((0 : Int32) < 0 ∨ cl38.slots.size ≤ ((0 : Int32)).toNatClampNeg) := inb_of Sz38 ⟨by decide, by decide⟩
  have hat38 : cl38.slots[((0 : Int32)).toNatClampNeg]? = some (.int c0) := Hs38.at hin38 (rfl)
  refine Gl.back (fun _ k => X36.caload hx (j := (0 : Int32)) (v := (.int c0)) (by exact Ar38.1) (State.isArrayOf_alike hZ.alike Ar38.2.1) Ar38.2.2 hin38 hat38 (g := (mkF m 19 #[.val (.ref b), .val (.int (0 : Int32)), .val (.int (2 : Int32)), .val (.ref t36), .val (.int (0 : Int32))] [(.int (0 : Int32)), (.ref b), (.int (0 : Int32)), (.ref t36)])) rfl rfl (hb hby d16_19) _ k) ?_
  show Gl _ _ _ _ _ _ _ (T36.setTop (mkF m 20 #[.val (.ref b), .val (.int (0 : Int32)), .val (.int (2 : Int32)), .val (.ref t36), .val (.int (0 : Int32))] [(.int c0), (.int (0 : Int32)), (.ref t36)]))
  obtain ⟨_, _, ⟨T39, L39, k39, n39⟩, -, X39, ⟨Lc39, hQ39, l39, y39, z39⟩, st39⟩ := Jvm.LawKit.callS X36 hx (y := (⟨"java/lang/StringUTF16", "putChar", "([BII)V"⟩ : MethodName)) hown (mvT hZ (hw _ (List.mem_of_getElem? (i := 102) rfl))) (mvT hZ (hw _ (List.mem_of_getElem? (i := 103) rfl))) (mvT hZ (hw _ (List.mem_of_getElem? (i := 18) rfl))) (mvT hZ (hw _ (List.mem_of_getElem? (i := 104) rfl))) (by decide) (backOf (W := 0) (rmput_2_0 l Z a0 hw [] t36 c0 k036  T36.heap n0 Zc36 Oc36 S_AD S_HI S_LO Gz36 V36) hZ (hw _ (List.mem_of_getElem? (i := 104) rfl)) (hw _ (List.mem_of_getElem? (i := 18) rfl)) (by decide) (by decide)) (g := (mkF m 20 #[.val (.ref b), .val (.int (0 : Int32)), .val (.int (2 : Int32)), .val (.ref t36), .val (.int (0 : Int32))] [(.int c0), (.int (0 : Int32)), (.ref t36)])) rfl (by rw [hml]; rfl) (argsL := [(.ref t36), (.int (0 : Int32)), (.int c0)]) (rest := []) (lenOf pd___BII_V rfl) rfl (by show 2 * 0 + _ ≤ _; exact Nat.le_of_eq rfl) (hb hby d16_20) (fun _ _ => ⟨rfl, rfl, (by decide : 1 + 0 ≤ _), (by decide : 4 + 0 ≤ _)⟩)
  dsimp only [Pt.U, Pt.locs, Pt.cells, Pt.slots] at X39 l39 y39 z39 st39 hQ39
  replace l39 := Eq.symm l39
  replace y39 := Eq.symm y39
  replace z39 := Eq.symm z39
  subst l39 y39 z39
  obtain ⟨Nq39, rfl, Kq39, V39⟩ := hQ39
  have N39 := Fr.app N36 Nq39
  have Kc39 := Keep.trans Kc36 Kq39 (allS (Or.inr sz_t36) all0)
  have Zc39 : n0 ≤ T39.heap.size := Nat.le_trans Zc36 Kq39.1
  have Oc39 := Old.keep Oc36 Kq39 (allS Gz36 all0)
  refine Gl.back (fun _ k => st39 _ k) ?_
  show Gl _ _ _ _ _ _ _ (T39.setTop (mkF m 23 #[.val (.ref b), .val (.int (0 : Int32)), .val (.int (2 : Int32)), .val (.ref t36), .val (.int (0 : Int32))] []))
  refine Gl.back (fun _ k => XS.iinc X39.here hx rfl (hb hby d16_23) rfl (l' := #[.val (.ref b), .val (.int (1 : Int32)), .val (.int (2 : Int32)), .val (.ref t36), .val (.int (0 : Int32))]) rfl k) ?_
  show Gl _ _ _ _ _ _ _ (T39.setTop (mkF m 26 #[.val (.ref b), .val (.int (1 : Int32)), .val (.int (2 : Int32)), .val (.ref t36), .val (.int (0 : Int32))] []))
  refine Gl.back (fun _ k => XS.iinc X39.here hx rfl (hb hby d16_26) rfl (l' := #[.val (.ref b), .val (.int (1 : Int32)), .val (.int (2 : Int32)), .val (.ref t36), .val (.int (1 : Int32))]) rfl k) ?_
  show Gl _ _ _ _ _ _ _ (T39.setTop (mkF m 29 #[.val (.ref b), .val (.int (1 : Int32)), .val (.int (2 : Int32)), .val (.ref t36), .val (.int (1 : Int32))] []))
  refine Gl.back (fun _ k => XS.goto X39.here hx rfl (pc0 := 29) (pc' := 8) rfl (hb hby d16_29) (by decide) (by decide) k) ?_
  show Gl _ _ _ _ _ _ _ (T39.setTop (mkF m 8 #[.val (.ref b), .val (.int (1 : Int32)), .val (.int (2 : Int32)), .val (.ref t36), .val (.int (1 : Int32))] []))
  refine Gl.back (fun _ k => XS.iload X39.here hx rfl (hb hby d16_8) rfl k) ?_
  show Gl _ _ _ _ _ _ _ (T39.setTop (mkF m 10 #[.val (.ref b), .val (.int (1 : Int32)), .val (.int (2 : Int32)), .val (.ref t36), .val (.int (1 : Int32))] [(.int (1 : Int32))]))
  refine Gl.back (fun _ k => XS.iloadN X39.here hx rfl (hb hby d16_10) rfl k) ?_
  show Gl _ _ _ _ _ _ _ (T39.setTop (mkF m 11 #[.val (.ref b), .val (.int (1 : Int32)), .val (.int (2 : Int32)), .val (.ref t36), .val (.int (1 : Int32))] [(.int (2 : Int32)), (.int (1 : Int32))]))
  refine Gl.back (fun _ k => XS.icmpNo X39.here hx rfl (hb hby d16_11) rfl (tlt (by decide : (1 : Int32) < (2 : Int32))).2.1 k) ?_
  show Gl _ _ _ _ _ _ _ (T39.setTop (mkF m 14 #[.val (.ref b), .val (.int (1 : Int32)), .val (.int (2 : Int32)), .val (.ref t36), .val (.int (1 : Int32))] []))
  refine Gl.back (fun _ k => XS.aloadN X39.here hx rfl (hb hby d16_14) rfl rfl k) ?_
  show Gl _ _ _ _ _ _ _ (T39.setTop (mkF m 15 #[.val (.ref b), .val (.int (1 : Int32)), .val (.int (2 : Int32)), .val (.ref t36), .val (.int (1 : Int32))] [(.ref t36)]))
  refine Gl.back (fun _ k => XS.iload X39.here hx rfl (hb hby d16_15) rfl k) ?_
  show Gl _ _ _ _ _ _ _ (T39.setTop (mkF m 17 #[.val (.ref b), .val (.int (1 : Int32)), .val (.int (2 : Int32)), .val (.ref t36), .val (.int (1 : Int32))] [(.int (1 : Int32)), (.ref t36)]))
  refine Gl.back (fun _ k => XS.aloadN X39.here hx rfl (hb hby d16_17) rfl rfl k) ?_
  show Gl _ _ _ _ _ _ _ (T39.setTop (mkF m 18 #[.val (.ref b), .val (.int (1 : Int32)), .val (.int (2 : Int32)), .val (.ref t36), .val (.int (1 : Int32))] [(.ref b), (.int (1 : Int32)), (.ref t36)]))
  refine Gl.back (fun _ k => XS.iloadN X39.here hx rfl (hb hby d16_18) rfl k) ?_
  show Gl _ _ _ _ _ _ _ (T39.setTop (mkF m 19 #[.val (.ref b), .val (.int (1 : Int32)), .val (.int (2 : Int32)), .val (.ref t36), .val (.int (1 : Int32))] [(.int (1 : Int32)), (.ref b), (.int (1 : Int32)), (.ref t36)]))
  have f40 := (f37.keep Kq39 (ninS ne_b_t36 nin0))
  obtain ⟨cl41, Ar41, q41, Sz41, Nn41, Hs41, Gf41⟩ := id f40
  have hin41 : ¬ ((1 : Int32) < 0 ∨ cl41.slots.size ≤ ((1 : Int32)).toNatClampNeg) := inb_of Sz41 ⟨by decide, by decide⟩
  have hat41 : cl41.slots[((1 : Int32)).toNatClampNeg]? = some (.int c1) := Hs41.at hin41 (rfl)
  refine Gl.back (fun _ k => X39.caload hx (j := (1 : Int32)) (v := (.int c1)) (by exact Ar41.1) (State.isArrayOf_alike hZ.alike Ar41.2.1) Ar41.2.2 hin41 hat41 (g := (mkF m 19 #[.val (.ref b), .val (.int (1 : Int32)), .val (.int (2 : Int32)), .val (.ref t36), .val (.int (1 : Int32))] [(.int (1 : Int32)), (.ref b), (.int (1 : Int32)), (.ref t36)])) rfl rfl (hb hby d16_19) _ k) ?_
  show Gl _ _ _ _ _ _ _ (T39.setTop (mkF m 20 #[.val (.ref b), .val (.int (1 : Int32)), .val (.int (2 : Int32)), .val (.ref t36), .val (.int (1 : Int32))] [(.int c1), (.int (1 : Int32)), (.ref t36)]))
  obtain ⟨_, _, ⟨T42, L42, k42, n42⟩, -, X42, ⟨Lc42, hQ42, l42, y42, z42⟩, st42⟩ := Jvm.LawKit.callS X39 hx (y := (⟨"java/lang/StringUTF16", "putChar", "([BII)V"⟩ : MethodName)) hown (mvT hZ (hw _ (List.mem_of_getElem? (i := 102) rfl))) (mvT hZ (hw _ (List.mem_of_getElem? (i := 103) rfl))) (mvT hZ (hw _ (List.mem_of_getElem? (i := 18) rfl))) (mvT hZ (hw _ (List.mem_of_getElem? (i := 104) rfl))) (by decide) (backOf (W := 0) (rmput_2_1 l Z a0 hw [] t36 c1 k036 (own_b0 c0) (own_b1 c0) T39.heap n0 Zc39 Oc39 S_AD S_HI S_LO Gz36 V39) hZ (hw _ (List.mem_of_getElem? (i := 104) rfl)) (hw _ (List.mem_of_getElem? (i := 18) rfl)) (by decide) (by decide)) (g := (mkF m 20 #[.val (.ref b), .val (.int (1 : Int32)), .val (.int (2 : Int32)), .val (.ref t36), .val (.int (1 : Int32))] [(.int c1), (.int (1 : Int32)), (.ref t36)])) rfl (by rw [hml]; rfl) (argsL := [(.ref t36), (.int (1 : Int32)), (.int c1)]) (rest := []) (lenOf pd___BII_V rfl) rfl (by show 2 * 0 + _ ≤ _; exact Nat.le_of_eq rfl) (hb hby d16_20) (fun _ _ => ⟨rfl, rfl, (by decide : 1 + 0 ≤ _), (by decide : 4 + 0 ≤ _)⟩)
  dsimp only [Pt.U, Pt.locs, Pt.cells, Pt.slots] at X42 l42 y42 z42 st42 hQ42
  replace l42 := Eq.symm l42
  replace y42 := Eq.symm y42
  replace z42 := Eq.symm z42
  subst l42 y42 z42
  obtain ⟨Nq42, rfl, Kq42, V42⟩ := hQ42
  have N42 := Fr.app N39 Nq42
  have Kc42 := Keep.trans Kc39 Kq42 (allS (Or.inr sz_t36) all0)
  have Zc42 : n0 ≤ T42.heap.size := Nat.le_trans Zc39 Kq42.1
  have Oc42 := Old.keep Oc39 Kq42 (allS Gz36 all0)
  refine Gl.back (fun _ k => st42 _ k) ?_
  show Gl _ _ _ _ _ _ _ (T42.setTop (mkF m 23 #[.val (.ref b), .val (.int (1 : Int32)), .val (.int (2 : Int32)), .val (.ref t36), .val (.int (1 : Int32))] []))
  refine Gl.back (fun _ k => XS.iinc X42.here hx rfl (hb hby d16_23) rfl (l' := #[.val (.ref b), .val (.int (2 : Int32)), .val (.int (2 : Int32)), .val (.ref t36), .val (.int (1 : Int32))]) rfl k) ?_
  show Gl _ _ _ _ _ _ _ (T42.setTop (mkF m 26 #[.val (.ref b), .val (.int (2 : Int32)), .val (.int (2 : Int32)), .val (.ref t36), .val (.int (1 : Int32))] []))
  refine Gl.back (fun _ k => XS.iinc X42.here hx rfl (hb hby d16_26) rfl (l' := #[.val (.ref b), .val (.int (2 : Int32)), .val (.int (2 : Int32)), .val (.ref t36), .val (.int (2 : Int32))]) rfl k) ?_
  show Gl _ _ _ _ _ _ _ (T42.setTop (mkF m 29 #[.val (.ref b), .val (.int (2 : Int32)), .val (.int (2 : Int32)), .val (.ref t36), .val (.int (2 : Int32))] []))
  refine Gl.back (fun _ k => XS.goto X42.here hx rfl (pc0 := 29) (pc' := 8) rfl (hb hby d16_29) (by decide) (by decide) k) ?_
  show Gl _ _ _ _ _ _ _ (T42.setTop (mkF m 8 #[.val (.ref b), .val (.int (2 : Int32)), .val (.int (2 : Int32)), .val (.ref t36), .val (.int (2 : Int32))] []))
  refine Gl.back (fun _ k => XS.iload X42.here hx rfl (hb hby d16_8) rfl k) ?_
  show Gl _ _ _ _ _ _ _ (T42.setTop (mkF m 10 #[.val (.ref b), .val (.int (2 : Int32)), .val (.int (2 : Int32)), .val (.ref t36), .val (.int (2 : Int32))] [(.int (2 : Int32))]))
  refine Gl.back (fun _ k => XS.iloadN X42.here hx rfl (hb hby d16_10) rfl k) ?_
  show Gl _ _ _ _ _ _ _ (T42.setTop (mkF m 11 #[.val (.ref b), .val (.int (2 : Int32)), .val (.int (2 : Int32)), .val (.ref t36), .val (.int (2 : Int32))] [(.int (2 : Int32)), (.int (2 : Int32))]))
  refine Gl.back (fun _ k => XS.icmpYes X42.here hx rfl (pc0 := 11) (pc' := 32) rfl (hb hby d16_11) rfl (flt (by decide : ¬ (2 : Int32) < (2 : Int32))).2.1 (by decide) (by decide) k) ?_
  show Gl _ _ _ _ _ _ _ (T42.setTop (mkF m 32 #[.val (.ref b), .val (.int (2 : Int32)), .val (.int (2 : Int32)), .val (.ref t36), .val (.int (2 : Int32))] []))
  refine Gl.back (fun _ k => XS.aloadN X42.here hx rfl (hb hby d16_32) rfl rfl k) ?_
  show Gl _ _ _ _ _ _ _ (T42.setTop (mkF m 33 #[.val (.ref b), .val (.int (2 : Int32)), .val (.int (2 : Int32)), .val (.ref t36), .val (.int (2 : Int32))] [(.ref t36)]))
  exact Gl.ret X42 rfl (v := (some (.ref t36))) (fun h => by rw [Bd.returns] at h; cases h) Bd.notSynchronized (fun fs hr => retOut X42 hx (w := (.ref t36)) Bd.returns rfl (Or.inr (Or.inr (Or.inr (Or.inr ⟨rfl, rfl, rfl⟩)))) (hb hby d16_33) hr) ⟨N42, t36, k036, rfl, Kc42, sz_t36, Gz36, V42⟩ (by decide) (by decide)
theorem ef_gch_2_0 (m : MethodId) (x0 : Addr) : entryFrame m #[(.ref x0), (.int (0 : Int32))] 2 = mkF m 0 #[.val (.ref x0), .val (.int (0 : Int32))] [] := by first | (simp [entryFrame, mkF, argsToLocals, Value.category]; done) | rfl
def Qgch_2_0 (Z : State) (t : Addr) (k_t : ClassId) (x0 x1 x2 x3 : Int32) (h0 : Heap) (n0 : Nat) (v : Option Value) (h : Heap) (L : List Loc) : Prop := Fr n0 L ∧ (v = some (.int (own_gc x0 x1)) ∧ h = h0)
set_option maxRecDepth 65536 in
set_option maxHeartbeats 40000000 in
theorem rmgch_2_0 (l : Launch) (Z : State) (a0 : Array Value) (hw : ∀ d ∈ tables_1, d.before a0 Z = true) (ws : List Jvm.Cond) (t : Addr) (k_t : ClassId) (x0 x1 x2 x3 : Int32) (h0 : Heap) (n0 : Nat) (Z0 : n0 ≤ h0.size) (O0 : Old Z n0 h0) (S_AD : Sta Z Z.heap "java/lang/StringUTF16" "$assertionsDisabled" "Z" (.int 1)) (S_HI : Sta Z Z.heap "java/lang/StringUTF16" "HI_BYTE_SHIFT" "I" (.int 0)) (S_LO : Sta Z Z.heap "java/lang/StringUTF16" "LO_BYTE_SHIFT" "I" (.int 8)) (V_t : Arv Z h0 t k_t .byte (4 : Int32) [(.int x0), (.int x1), (.int x2), (.int x3)] (.int (0 : Int32))) :
    MetFree l (⟨"java/lang/StringUTF16", "getChar", "([BI)C"⟩ : MethodName) (head1 (Jvm.Cond.code (⟨"java/lang/StringUTF16", "getChar", "([BI)C"⟩ : MethodName) jdk_52_method_5_code 2 (some .char) :: ws) ({ frames := 0, cells := 0, slots := 0, locals := 0 } : Room)) (fun as0 U => as0 = #[(.ref t), (.int (0 : Int32))] ∧ Z.Warmed39 U.vm ∧ U.heap = h0) (fun _ _ _ _ _ => True) (fun _ U oc0 U' => ∃ v L, oc0 = .returned v ∧ Qgch_2_0 Z t k_t x0 x1 x2 x3 h0 n0 v U'.heap L ∧ FrameEnd U oc0 U' L ({ frames := 0, cells := 0, slots := 0, locals := 0 } : Room).cells ({ frames := 0, cells := 0, slots := 0, locals := 0 } : Room).slots) := by
  refine MetFree.of_bodySF (plainFor_of_name pn_java_lang_StringUTF16) hisR ?_
  intro p e s m args below meth c s₁ Bd hml0 hP hK
  obtain ⟨rfl, hZ, hh⟩ := hP
  have hx := Bd.exec
  have hby := Bd.bytes
  have hml : c.maxLocals = 2 := hml0
  have hown : s.vm.findClass "java/lang/StringUTF16" = some m.cls := findClass_of_methodNamed Bd.named
  have hnm := (name_of_methodNamed Bd.named Bd.method).1
  have X0 : Stand p l e ({ frames := 0, cells := 0, slots := 0, locals := 0 } : Room) s m #[(.ref t), (.int (0 : Int32))] below meth c s₁ [] 0 0 := Stand.of_body Bd
  have e0 : s₁.heap = h0 := by rw [← hh, Bd.state]; rfl
  have N0 := Fr.nil n0
  show Gl p e below s (Qgch_2_0 Z t k_t x0 x1 x2 x3 h0 n0) ({ frames := 0, cells := 0, slots := 0, locals := 0 } : Room).cells ({ frames := 0, cells := 0, slots := 0, locals := 0 } : Room).slots (s₁.setTop (entryFrame m #[(.ref t), (.int (0 : Int32))] 2))
  refine Gl.back (fun _ k => castTop (ef_gch_2_0 m t) k) ?_
  show Gl _ _ _ _ _ _ _ (s₁.setTop (mkF m 0 #[.val (.ref t), .val (.int (0 : Int32))] []))
  obtain ⟨T43, X43, e43, st43⟩ := getS2 X0 hx hZ hown (host := "") (Or.inl (hw _ (List.mem_of_getElem? (i := 105) rfl))) Via.refl e0 (S_AD.ext O0.2) (g := (mkF m 0 #[.val (.ref t), .val (.int (0 : Int32))] [])) rfl (hb hby d20_0)
  refine Gl.back (fun _ k => st43 _ k) ?_
  show Gl _ _ _ _ _ _ _ (T43.setTop (mkF m 3 #[.val (.ref t), .val (.int (0 : Int32))] [(.int (1 : Int32))]))
  refine Gl.back (fun _ k => XS.ifYes X43.here hx rfl (pc0 := 3) (pc' := 28) rfl (hb hby d20_3) rfl ((if0 _ _).trans (feq (by decide : ¬ (1 : Int32) = (0 : Int32))).2) (by decide) (by decide) k) ?_
  show Gl _ _ _ _ _ _ _ (T43.setTop (mkF m 28 #[.val (.ref t), .val (.int (0 : Int32))] []))
  refine Gl.back (fun _ k => XS.iloadN X43.here hx rfl (hb hby d20_28) rfl k) ?_
  show Gl _ _ _ _ _ _ _ (T43.setTop (mkF m 29 #[.val (.ref t), .val (.int (0 : Int32))] [(.int (0 : Int32))]))
  refine Gl.back (fun _ k => XS.iconst X43.here hx rfl (hb hby d20_29) k) ?_
  show Gl _ _ _ _ _ _ _ (T43.setTop (mkF m 30 #[.val (.ref t), .val (.int (0 : Int32))] [(.int (1 : Int32)), (.int (0 : Int32))]))
  refine Gl.back (fun _ k => XS.ishl X43.here hx rfl (hb hby d20_30) rfl k) ?_
  show Gl _ _ _ _ _ _ _ (T43.setTop (mkF m 31 #[.val (.ref t), .val (.int (0 : Int32))] [(.int (0 : Int32))]))
  refine Gl.back (fun _ k => XS.istoreN X43.here hx rfl (hb hby d20_31) rfl (l' := #[.val (.ref t), .val (.int (0 : Int32))]) rfl k) ?_
  show Gl _ _ _ _ _ _ _ (T43.setTop (mkF m 32 #[.val (.ref t), .val (.int (0 : Int32))] []))
  refine Gl.back (fun _ k => XS.aloadN X43.here hx rfl (hb hby d20_32) rfl rfl k) ?_
  show Gl _ _ _ _ _ _ _ (T43.setTop (mkF m 33 #[.val (.ref t), .val (.int (0 : Int32))] [(.ref t)]))
  refine Gl.back (fun _ k => XS.iloadN X43.here hx rfl (hb hby d20_33) rfl k) ?_
  show Gl _ _ _ _ _ _ _ (T43.setTop (mkF m 34 #[.val (.ref t), .val (.int (0 : Int32))] [(.int (0 : Int32)), (.ref t)]))
  refine Gl.back (fun _ k => XS.iinc X43.here hx rfl (hb hby d20_34) rfl (l' := #[.val (.ref t), .val (.int (1 : Int32))]) rfl k) ?_
  show Gl _ _ _ _ _ _ _ (T43.setTop (mkF m 37 #[.val (.ref t), .val (.int (1 : Int32))] [(.int (0 : Int32)), (.ref t)]))
  obtain ⟨cl44, Ar44, q44, Sz44, Nn44, Hs44, Gf44⟩ := id V_t
  have hin44 : ¬ ((0 : Int32) < 0 ∨ cl44.slots.size ≤ ((0 : Int32)).toNatClampNeg) := inb_of Sz44 ⟨by decide, by decide⟩
  have hat44 : cl44.slots[((0 : Int32)).toNatClampNeg]? = some (.int x0) := Hs44.at hin44 (rfl)
  refine Gl.back (fun _ k => X43.baloadBytes hx (j := (0 : Int32)) (v := (.int x0)) (by rw [e43]; exact Ar44.1) (State.isArrayOf_alike hZ.alike Ar44.2.1) Ar44.2.2 hin44 hat44 (g := (mkF m 37 #[.val (.ref t), .val (.int (1 : Int32))] [(.int (0 : Int32)), (.ref t)])) rfl rfl (hb hby d20_37) _ k) ?_
  show Gl _ _ _ _ _ _ _ (T43.setTop (mkF m 38 #[.val (.ref t), .val (.int (1 : Int32))] [(.int x0)]))
  refine Gl.back (fun _ k => XS.sipush X43.here hx rfl (hb hby d20_38) k) ?_
  show Gl _ _ _ _ _ _ _ (T43.setTop (mkF m 41 #[.val (.ref t), .val (.int (1 : Int32))] [(.int (255 : Int32)), (.int x0)]))
  refine Gl.back (fun _ k => XS.iand X43.here hx rfl (hb hby d20_41) rfl k) ?_
  show Gl _ _ _ _ _ _ _ (T43.setTop (mkF m 42 #[.val (.ref t), .val (.int (1 : Int32))] [(.int (x0 &&& (255 : Int32)))]))
  obtain ⟨T45, X45, e45, st45⟩ := getS2 X43 hx hZ hown (host := "") (Or.inl (hw _ (List.mem_of_getElem? (i := 106) rfl))) Via.refl e43 (S_HI.ext O0.2) (g := (mkF m 42 #[.val (.ref t), .val (.int (1 : Int32))] [(.int (x0 &&& (255 : Int32)))])) rfl (hb hby d20_42)
  refine Gl.back (fun _ k => st45 _ k) ?_
  show Gl _ _ _ _ _ _ _ (T45.setTop (mkF m 45 #[.val (.ref t), .val (.int (1 : Int32))] [(.int (0 : Int32)), (.int (x0 &&& (255 : Int32)))]))
  refine Gl.back (fun _ k => XS.ishl X45.here hx rfl (hb hby d20_45) rfl k) ?_
  show Gl _ _ _ _ _ _ _ (T45.setTop (mkF m 46 #[.val (.ref t), .val (.int (1 : Int32))] [(.int ((x0 &&& (255 : Int32)) <<< ((0 : Int32) &&& 31)))]))
  refine Gl.back (fun _ k => XS.aloadN X45.here hx rfl (hb hby d20_46) rfl rfl k) ?_
  show Gl _ _ _ _ _ _ _ (T45.setTop (mkF m 47 #[.val (.ref t), .val (.int (1 : Int32))] [(.ref t), (.int ((x0 &&& (255 : Int32)) <<< ((0 : Int32) &&& 31)))]))
  refine Gl.back (fun _ k => XS.iloadN X45.here hx rfl (hb hby d20_47) rfl k) ?_
  show Gl _ _ _ _ _ _ _ (T45.setTop (mkF m 48 #[.val (.ref t), .val (.int (1 : Int32))] [(.int (1 : Int32)), (.ref t), (.int ((x0 &&& (255 : Int32)) <<< ((0 : Int32) &&& 31)))]))
  obtain ⟨cl46, Ar46, q46, Sz46, Nn46, Hs46, Gf46⟩ := id V_t
  have hin46 : ¬ ((1 : Int32) < 0 ∨ cl46.slots.size ≤ ((1 : Int32)).toNatClampNeg) := inb_of Sz46 ⟨by decide, by decide⟩
  have hat46 : cl46.slots[((1 : Int32)).toNatClampNeg]? = some (.int x1) := Hs46.at hin46 (rfl)
  refine Gl.back (fun _ k => X45.baloadBytes hx (j := (1 : Int32)) (v := (.int x1)) (by rw [e45]; exact Ar46.1) (State.isArrayOf_alike hZ.alike Ar46.2.1) Ar46.2.2 hin46 hat46 (g := (mkF m 48 #[.val (.ref t), .val (.int (1 : Int32))] [(.int (1 : Int32)), (.ref t), (.int ((x0 &&& (255 : Int32)) <<< ((0 : Int32) &&& 31)))])) rfl rfl (hb hby d20_48) _ k) ?_
  show Gl _ _ _ _ _ _ _ (T45.setTop (mkF m 49 #[.val (.ref t), .val (.int (1 : Int32))] [(.int x1), (.int ((x0 &&& (255 : Int32)) <<< ((0 : Int32) &&& 31)))]))
  refine Gl.back (fun _ k => XS.sipush X45.here hx rfl (hb hby d20_49) k) ?_
  show Gl _ _ _ _ _ _ _ (T45.setTop (mkF m 52 #[.val (.ref t), .val (.int (1 : Int32))] [(.int (255 : Int32)), (.int x1), (.int ((x0 &&& (255 : Int32)) <<< ((0 : Int32) &&& 31)))]))
  refine Gl.back (fun _ k => XS.iand X45.here hx rfl (hb hby d20_52) rfl k) ?_
  show Gl _ _ _ _ _ _ _ (T45.setTop (mkF m 53 #[.val (.ref t), .val (.int (1 : Int32))] [(.int (x1 &&& (255 : Int32))), (.int ((x0 &&& (255 : Int32)) <<< ((0 : Int32) &&& 31)))]))
  obtain ⟨T47, X47, e47, st47⟩ := getS2 X45 hx hZ hown (host := "") (Or.inl (hw _ (List.mem_of_getElem? (i := 107) rfl))) Via.refl e45 (S_LO.ext O0.2) (g := (mkF m 53 #[.val (.ref t), .val (.int (1 : Int32))] [(.int (x1 &&& (255 : Int32))), (.int ((x0 &&& (255 : Int32)) <<< ((0 : Int32) &&& 31)))])) rfl (hb hby d20_53)
  refine Gl.back (fun _ k => st47 _ k) ?_
  show Gl _ _ _ _ _ _ _ (T47.setTop (mkF m 56 #[.val (.ref t), .val (.int (1 : Int32))] [(.int (8 : Int32)), (.int (x1 &&& (255 : Int32))), (.int ((x0 &&& (255 : Int32)) <<< ((0 : Int32) &&& 31)))]))
  refine Gl.back (fun _ k => XS.ishl X47.here hx rfl (hb hby d20_56) rfl k) ?_
  show Gl _ _ _ _ _ _ _ (T47.setTop (mkF m 57 #[.val (.ref t), .val (.int (1 : Int32))] [(.int ((x1 &&& (255 : Int32)) <<< ((8 : Int32) &&& 31))), (.int ((x0 &&& (255 : Int32)) <<< ((0 : Int32) &&& 31)))]))
  refine Gl.back (fun _ k => XS.ior X47.here hx rfl (hb hby d20_57) rfl k) ?_
  show Gl _ _ _ _ _ _ _ (T47.setTop (mkF m 58 #[.val (.ref t), .val (.int (1 : Int32))] [(.int (((x0 &&& (255 : Int32)) <<< ((0 : Int32) &&& 31)) ||| ((x1 &&& (255 : Int32)) <<< ((8 : Int32) &&& 31))))]))
  refine Gl.back (fun _ k => XS.i2c X47.here hx rfl (hb hby d20_58) rfl k) ?_
  show Gl _ _ _ _ _ _ _ (T47.setTop (mkF m 59 #[.val (.ref t), .val (.int (1 : Int32))] [(.int ((((x0 &&& (255 : Int32)) <<< ((0 : Int32) &&& 31)) ||| ((x1 &&& (255 : Int32)) <<< ((8 : Int32) &&& 31))).toUInt32.toUInt16.toUInt32.toInt32))]))
  exact Gl.ret X47 e47 (v := (some (.int (nar .char ((((x0 &&& (255 : Int32)) <<< ((0 : Int32) &&& 31)) ||| ((x1 &&& (255 : Int32)) <<< ((8 : Int32) &&& 31))).toUInt32.toUInt16.toUInt32.toInt32))))) (fun h => by rw [Bd.returns] at h; cases h) Bd.notSynchronized (fun fs hr => retN X47 hx (t := .char) (z := ((((x0 &&& (255 : Int32)) <<< ((0 : Int32) &&& 31)) ||| ((x1 &&& (255 : Int32)) <<< ((8 : Int32) &&& 31))).toUInt32.toUInt16.toUInt32.toInt32)) Bd.returns (by simp) (hb hby d20_59) hr) ⟨N0, rfl, rfl⟩ (by decide) (by decide)
theorem ef_gch_2_1 (m : MethodId) (x0 : Addr) : entryFrame m #[(.ref x0), (.int (1 : Int32))] 2 = mkF m 0 #[.val (.ref x0), .val (.int (1 : Int32))] [] := by first | (simp [entryFrame, mkF, argsToLocals, Value.category]; done) | rfl
def Qgch_2_1 (Z : State) (t : Addr) (k_t : ClassId) (x0 x1 x2 x3 : Int32) (h0 : Heap) (n0 : Nat) (v : Option Value) (h : Heap) (L : List Loc) : Prop := Fr n0 L ∧ (v = some (.int (own_gc x2 x3)) ∧ h = h0)
set_option maxRecDepth 65536 in
set_option maxHeartbeats 40000000 in
theorem rmgch_2_1 (l : Launch) (Z : State) (a0 : Array Value) (hw : ∀ d ∈ tables_1, d.before a0 Z = true) (ws : List Jvm.Cond) (t : Addr) (k_t : ClassId) (x0 x1 x2 x3 : Int32) (h0 : Heap) (n0 : Nat) (Z0 : n0 ≤ h0.size) (O0 : Old Z n0 h0) (S_AD : Sta Z Z.heap "java/lang/StringUTF16" "$assertionsDisabled" "Z" (.int 1)) (S_HI : Sta Z Z.heap "java/lang/StringUTF16" "HI_BYTE_SHIFT" "I" (.int 0)) (S_LO : Sta Z Z.heap "java/lang/StringUTF16" "LO_BYTE_SHIFT" "I" (.int 8)) (V_t : Arv Z h0 t k_t .byte (4 : Int32) [(.int x0), (.int x1), (.int x2), (.int x3)] (.int (0 : Int32))) :
    MetFree l (⟨"java/lang/StringUTF16", "getChar", "([BI)C"⟩ : MethodName) (head1 (Jvm.Cond.code (⟨"java/lang/StringUTF16", "getChar", "([BI)C"⟩ : MethodName) jdk_52_method_5_code 2 (some .char) :: ws) ({ frames := 0, cells := 0, slots := 0, locals := 0 } : Room)) (fun as0 U => as0 = #[(.ref t), (.int (1 : Int32))] ∧ Z.Warmed39 U.vm ∧ U.heap = h0) (fun _ _ _ _ _ => True) (fun _ U oc0 U' => ∃ v L, oc0 = .returned v ∧ Qgch_2_1 Z t k_t x0 x1 x2 x3 h0 n0 v U'.heap L ∧ FrameEnd U oc0 U' L ({ frames := 0, cells := 0, slots := 0, locals := 0 } : Room).cells ({ frames := 0, cells := 0, slots := 0, locals := 0 } : Room).slots) := by
  refine MetFree.of_bodySF (plainFor_of_name pn_java_lang_StringUTF16) hisR ?_
  intro p e s m args below meth c s₁ Bd hml0 hP hK
  obtain ⟨rfl, hZ, hh⟩ := hP
  have hx := Bd.exec
  have hby := Bd.bytes
  have hml : c.maxLocals = 2 := hml0
  have hown : s.vm.findClass "java/lang/StringUTF16" = some m.cls := findClass_of_methodNamed Bd.named
  have hnm := (name_of_methodNamed Bd.named Bd.method).1
  have X0 : Stand p l e ({ frames := 0, cells := 0, slots := 0, locals := 0 } : Room) s m #[(.ref t), (.int (1 : Int32))] below meth c s₁ [] 0 0 := Stand.of_body Bd
  have e0 : s₁.heap = h0 := by rw [← hh, Bd.state]; rfl
  have N0 := Fr.nil n0
  show Gl p e below s (Qgch_2_1 Z t k_t x0 x1 x2 x3 h0 n0) ({ frames := 0, cells := 0, slots := 0, locals := 0 } : Room).cells ({ frames := 0, cells := 0, slots := 0, locals := 0 } : Room).slots (s₁.setTop (entryFrame m #[(.ref t), (.int (1 : Int32))] 2))
  refine Gl.back (fun _ k => castTop (ef_gch_2_1 m t) k) ?_
  show Gl _ _ _ _ _ _ _ (s₁.setTop (mkF m 0 #[.val (.ref t), .val (.int (1 : Int32))] []))
  obtain ⟨T48, X48, e48, st48⟩ := getS2 X0 hx hZ hown (host := "") (Or.inl (hw _ (List.mem_of_getElem? (i := 105) rfl))) Via.refl e0 (S_AD.ext O0.2) (g := (mkF m 0 #[.val (.ref t), .val (.int (1 : Int32))] [])) rfl (hb hby d20_0)
  refine Gl.back (fun _ k => st48 _ k) ?_
  show Gl _ _ _ _ _ _ _ (T48.setTop (mkF m 3 #[.val (.ref t), .val (.int (1 : Int32))] [(.int (1 : Int32))]))
  refine Gl.back (fun _ k => XS.ifYes X48.here hx rfl (pc0 := 3) (pc' := 28) rfl (hb hby d20_3) rfl ((if0 _ _).trans (feq (by decide : ¬ (1 : Int32) = (0 : Int32))).2) (by decide) (by decide) k) ?_
  show Gl _ _ _ _ _ _ _ (T48.setTop (mkF m 28 #[.val (.ref t), .val (.int (1 : Int32))] []))
  refine Gl.back (fun _ k => XS.iloadN X48.here hx rfl (hb hby d20_28) rfl k) ?_
  show Gl _ _ _ _ _ _ _ (T48.setTop (mkF m 29 #[.val (.ref t), .val (.int (1 : Int32))] [(.int (1 : Int32))]))
  refine Gl.back (fun _ k => XS.iconst X48.here hx rfl (hb hby d20_29) k) ?_
  show Gl _ _ _ _ _ _ _ (T48.setTop (mkF m 30 #[.val (.ref t), .val (.int (1 : Int32))] [(.int (1 : Int32)), (.int (1 : Int32))]))
  refine Gl.back (fun _ k => XS.ishl X48.here hx rfl (hb hby d20_30) rfl k) ?_
  show Gl _ _ _ _ _ _ _ (T48.setTop (mkF m 31 #[.val (.ref t), .val (.int (1 : Int32))] [(.int (2 : Int32))]))
  refine Gl.back (fun _ k => XS.istoreN X48.here hx rfl (hb hby d20_31) rfl (l' := #[.val (.ref t), .val (.int (2 : Int32))]) rfl k) ?_
  show Gl _ _ _ _ _ _ _ (T48.setTop (mkF m 32 #[.val (.ref t), .val (.int (2 : Int32))] []))
  refine Gl.back (fun _ k => XS.aloadN X48.here hx rfl (hb hby d20_32) rfl rfl k) ?_
  show Gl _ _ _ _ _ _ _ (T48.setTop (mkF m 33 #[.val (.ref t), .val (.int (2 : Int32))] [(.ref t)]))
  refine Gl.back (fun _ k => XS.iloadN X48.here hx rfl (hb hby d20_33) rfl k) ?_
  show Gl _ _ _ _ _ _ _ (T48.setTop (mkF m 34 #[.val (.ref t), .val (.int (2 : Int32))] [(.int (2 : Int32)), (.ref t)]))
  refine Gl.back (fun _ k => XS.iinc X48.here hx rfl (hb hby d20_34) rfl (l' := #[.val (.ref t), .val (.int (3 : Int32))]) rfl k) ?_
  show Gl _ _ _ _ _ _ _ (T48.setTop (mkF m 37 #[.val (.ref t), .val (.int (3 : Int32))] [(.int (2 : Int32)), (.ref t)]))
  obtain ⟨cl49, Ar49, q49, Sz49, Nn49, Hs49, Gf49⟩ := id V_t
  have hin49 : ¬ ((2 : Int32) < 0 ∨ cl49.slots.size ≤ ((2 : Int32)).toNatClampNeg) := inb_of Sz49 ⟨by decide, by decide⟩
  have hat49 : cl49.slots[((2 : Int32)).toNatClampNeg]? = some (.int x2) := Hs49.at hin49 (rfl)
  refine Gl.back (fun _ k => X48.baloadBytes hx (j := (2 : Int32)) (v := (.int x2)) (by rw [e48]; exact Ar49.1) (State.isArrayOf_alike hZ.alike Ar49.2.1) Ar49.2.2 hin49 hat49 (g := (mkF m 37 #[.val (.ref t), .val (.int (3 : Int32))] [(.int (2 : Int32)), (.ref t)])) rfl rfl (hb hby d20_37) _ k) ?_
  show Gl _ _ _ _ _ _ _ (T48.setTop (mkF m 38 #[.val (.ref t), .val (.int (3 : Int32))] [(.int x2)]))
  refine Gl.back (fun _ k => XS.sipush X48.here hx rfl (hb hby d20_38) k) ?_
  show Gl _ _ _ _ _ _ _ (T48.setTop (mkF m 41 #[.val (.ref t), .val (.int (3 : Int32))] [(.int (255 : Int32)), (.int x2)]))
  refine Gl.back (fun _ k => XS.iand X48.here hx rfl (hb hby d20_41) rfl k) ?_
  show Gl _ _ _ _ _ _ _ (T48.setTop (mkF m 42 #[.val (.ref t), .val (.int (3 : Int32))] [(.int (x2 &&& (255 : Int32)))]))
  obtain ⟨T50, X50, e50, st50⟩ := getS2 X48 hx hZ hown (host := "") (Or.inl (hw _ (List.mem_of_getElem? (i := 106) rfl))) Via.refl e48 (S_HI.ext O0.2) (g := (mkF m 42 #[.val (.ref t), .val (.int (3 : Int32))] [(.int (x2 &&& (255 : Int32)))])) rfl (hb hby d20_42)
  refine Gl.back (fun _ k => st50 _ k) ?_
  show Gl _ _ _ _ _ _ _ (T50.setTop (mkF m 45 #[.val (.ref t), .val (.int (3 : Int32))] [(.int (0 : Int32)), (.int (x2 &&& (255 : Int32)))]))
  refine Gl.back (fun _ k => XS.ishl X50.here hx rfl (hb hby d20_45) rfl k) ?_
  show Gl _ _ _ _ _ _ _ (T50.setTop (mkF m 46 #[.val (.ref t), .val (.int (3 : Int32))] [(.int ((x2 &&& (255 : Int32)) <<< ((0 : Int32) &&& 31)))]))
  refine Gl.back (fun _ k => XS.aloadN X50.here hx rfl (hb hby d20_46) rfl rfl k) ?_
  show Gl _ _ _ _ _ _ _ (T50.setTop (mkF m 47 #[.val (.ref t), .val (.int (3 : Int32))] [(.ref t), (.int ((x2 &&& (255 : Int32)) <<< ((0 : Int32) &&& 31)))]))
  refine Gl.back (fun _ k => XS.iloadN X50.here hx rfl (hb hby d20_47) rfl k) ?_
  show Gl _ _ _ _ _ _ _ (T50.setTop (mkF m 48 #[.val (.ref t), .val (.int (3 : Int32))] [(.int (3 : Int32)), (.ref t), (.int ((x2 &&& (255 : Int32)) <<< ((0 : Int32) &&& 31)))]))
  obtain ⟨cl51, Ar51, q51, Sz51, Nn51, Hs51, Gf51⟩ := id V_t
  have hin51 : ¬ ((3 : Int32) < 0 ∨ cl51.slots.size ≤ ((3 : Int32)).toNatClampNeg) := inb_of Sz51 ⟨by decide, by decide⟩
  have hat51 : cl51.slots[((3 : Int32)).toNatClampNeg]? = some (.int x3) := Hs51.at hin51 (rfl)
  refine Gl.back (fun _ k => X50.baloadBytes hx (j := (3 : Int32)) (v := (.int x3)) (by rw [e50]; exact Ar51.1) (State.isArrayOf_alike hZ.alike Ar51.2.1) Ar51.2.2 hin51 hat51 (g := (mkF m 48 #[.val (.ref t), .val (.int (3 : Int32))] [(.int (3 : Int32)), (.ref t), (.int ((x2 &&& (255 : Int32)) <<< ((0 : Int32) &&& 31)))])) rfl rfl (hb hby d20_48) _ k) ?_
  show Gl _ _ _ _ _ _ _ (T50.setTop (mkF m 49 #[.val (.ref t), .val (.int (3 : Int32))] [(.int x3), (.int ((x2 &&& (255 : Int32)) <<< ((0 : Int32) &&& 31)))]))
  refine Gl.back (fun _ k => XS.sipush X50.here hx rfl (hb hby d20_49) k) ?_
  show Gl _ _ _ _ _ _ _ (T50.setTop (mkF m 52 #[.val (.ref t), .val (.int (3 : Int32))] [(.int (255 : Int32)), (.int x3), (.int ((x2 &&& (255 : Int32)) <<< ((0 : Int32) &&& 31)))]))
  refine Gl.back (fun _ k => XS.iand X50.here hx rfl (hb hby d20_52) rfl k) ?_
  show Gl _ _ _ _ _ _ _ (T50.setTop (mkF m 53 #[.val (.ref t), .val (.int (3 : Int32))] [(.int (x3 &&& (255 : Int32))), (.int ((x2 &&& (255 : Int32)) <<< ((0 : Int32) &&& 31)))]))
  obtain ⟨T52, X52, e52, st52⟩ := getS2 X50 hx hZ hown (host := "") (Or.inl (hw _ (List.mem_of_getElem? (i := 107) rfl))) Via.refl e50 (S_LO.ext O0.2) (g := (mkF m 53 #[.val (.ref t), .val (.int (3 : Int32))] [(.int (x3 &&& (255 : Int32))), (.int ((x2 &&& (255 : Int32)) <<< ((0 : Int32) &&& 31)))])) rfl (hb hby d20_53)
  refine Gl.back (fun _ k => st52 _ k) ?_
  show Gl _ _ _ _ _ _ _ (T52.setTop (mkF m 56 #[.val (.ref t), .val (.int (3 : Int32))] [(.int (8 : Int32)), (.int (x3 &&& (255 : Int32))), (.int ((x2 &&& (255 : Int32)) <<< ((0 : Int32) &&& 31)))]))
  refine Gl.back (fun _ k => XS.ishl X52.here hx rfl (hb hby d20_56) rfl k) ?_
  show Gl _ _ _ _ _ _ _ (T52.setTop (mkF m 57 #[.val (.ref t), .val (.int (3 : Int32))] [(.int ((x3 &&& (255 : Int32)) <<< ((8 : Int32) &&& 31))), (.int ((x2 &&& (255 : Int32)) <<< ((0 : Int32) &&& 31)))]))
  refine Gl.back (fun _ k => XS.ior X52.here hx rfl (hb hby d20_57) rfl k) ?_
  show Gl _ _ _ _ _ _ _ (T52.setTop (mkF m 58 #[.val (.ref t), .val (.int (3 : Int32))] [(.int (((x2 &&& (255 : Int32)) <<< ((0 : Int32) &&& 31)) ||| ((x3 &&& (255 : Int32)) <<< ((8 : Int32) &&& 31))))]))
  refine Gl.back (fun _ k => XS.i2c X52.here hx rfl (hb hby d20_58) rfl k) ?_
  show Gl _ _ _ _ _ _ _ (T52.setTop (mkF m 59 #[.val (.ref t), .val (.int (3 : Int32))] [(.int ((((x2 &&& (255 : Int32)) <<< ((0 : Int32) &&& 31)) ||| ((x3 &&& (255 : Int32)) <<< ((8 : Int32) &&& 31))).toUInt32.toUInt16.toUInt32.toInt32))]))
  exact Gl.ret X52 e52 (v := (some (.int (nar .char ((((x2 &&& (255 : Int32)) <<< ((0 : Int32) &&& 31)) ||| ((x3 &&& (255 : Int32)) <<< ((8 : Int32) &&& 31))).toUInt32.toUInt16.toUInt32.toInt32))))) (fun h => by rw [Bd.returns] at h; cases h) Bd.notSynchronized (fun fs hr => retN X52 hx (t := .char) (z := ((((x2 &&& (255 : Int32)) <<< ((0 : Int32) &&& 31)) ||| ((x3 &&& (255 : Int32)) <<< ((8 : Int32) &&& 31))).toUInt32.toUInt16.toUInt32.toInt32)) Bd.returns (by simp) (hb hby d20_59) hr) ⟨N0, rfl, rfl⟩ (by decide) (by decide)
theorem ef_cod_2 (m : MethodId) (x0 : Addr) : entryFrame m #[(.ref x0), (.int (2 : Int32))] 2 = mkF m 0 #[.val (.ref x0), .val (.int (2 : Int32))] [] := by first | (simp [entryFrame, mkF, argsToLocals, Value.category]; done) | rfl
def Qcod_2 (Z : State) (t : Addr) (k_t : ClassId) (vs_ : List Value) (h0 : Heap) (n0 : Nat) (v : Option Value) (h : Heap) (L : List Loc) : Prop := Fr n0 L ∧ (v = some (.int 1) ∧ h = h0)
set_option maxRecDepth 65536 in
set_option maxHeartbeats 40000000 in
theorem rmcod_2 (l : Launch) (Z : State) (a0 : Array Value) (hw : ∀ d ∈ tables_1, d.before a0 Z = true) (ws : List Jvm.Cond) (t : Addr) (k_t : ClassId) (vs_ : List Value) (h0 : Heap) (n0 : Nat) (Z0 : n0 ≤ h0.size) (V_t : Arv Z h0 t k_t .byte (4 : Int32) vs_ (.int (0 : Int32))) :
    MetFree l (⟨"java/lang/StringUTF16", "coderFromArrayLen", "([BI)B"⟩ : MethodName) (head1 (Jvm.Cond.code (⟨"java/lang/StringUTF16", "coderFromArrayLen", "([BI)B"⟩ : MethodName) jdk_52_method_15_code 2 (some .byte) :: ws) ({ frames := 0, cells := 0, slots := 0, locals := 0 } : Room)) (fun as0 U => as0 = #[(.ref t), (.int (2 : Int32))] ∧ Z.Warmed39 U.vm ∧ U.heap = h0) (fun _ _ _ _ _ => True) (fun _ U oc0 U' => ∃ v L, oc0 = .returned v ∧ Qcod_2 Z t k_t vs_ h0 n0 v U'.heap L ∧ FrameEnd U oc0 U' L ({ frames := 0, cells := 0, slots := 0, locals := 0 } : Room).cells ({ frames := 0, cells := 0, slots := 0, locals := 0 } : Room).slots) := by
  refine MetFree.of_bodySF (plainFor_of_name pn_java_lang_StringUTF16) hisR ?_
  intro p e s m args below meth c s₁ Bd hml0 hP hK
  obtain ⟨rfl, hZ, hh⟩ := hP
  have hx := Bd.exec
  have hby := Bd.bytes
  have hml : c.maxLocals = 2 := hml0
  have hown : s.vm.findClass "java/lang/StringUTF16" = some m.cls := findClass_of_methodNamed Bd.named
  have hnm := (name_of_methodNamed Bd.named Bd.method).1
  have X0 : Stand p l e ({ frames := 0, cells := 0, slots := 0, locals := 0 } : Room) s m #[(.ref t), (.int (2 : Int32))] below meth c s₁ [] 0 0 := Stand.of_body Bd
  have e0 : s₁.heap = h0 := by rw [← hh, Bd.state]; rfl
  have N0 := Fr.nil n0
  show Gl p e below s (Qcod_2 Z t k_t vs_ h0 n0) ({ frames := 0, cells := 0, slots := 0, locals := 0 } : Room).cells ({ frames := 0, cells := 0, slots := 0, locals := 0 } : Room).slots (s₁.setTop (entryFrame m #[(.ref t), (.int (2 : Int32))] 2))
  refine Gl.back (fun _ k => castTop (ef_cod_2 m t) k) ?_
  show Gl _ _ _ _ _ _ _ (s₁.setTop (mkF m 0 #[.val (.ref t), .val (.int (2 : Int32))] []))
  refine Gl.back (fun _ k => XS.iloadN X0.here hx rfl (hb hby d6_0) rfl k) ?_
  show Gl _ _ _ _ _ _ _ (s₁.setTop (mkF m 1 #[.val (.ref t), .val (.int (2 : Int32))] [(.int (2 : Int32))]))
  refine Gl.back (fun _ k => XS.aloadN X0.here hx rfl (hb hby d6_1) rfl rfl k) ?_
  show Gl _ _ _ _ _ _ _ (s₁.setTop (mkF m 2 #[.val (.ref t), .val (.int (2 : Int32))] [(.ref t), (.int (2 : Int32))]))
  obtain ⟨cl53, Ar53, -, Sz53, Nn53, -, -⟩ := id V_t
  refine Gl.back (fun _ k => X0.arraylength hx (by rw [e0]; exact Ar53.1) (State.isArrayOf_alike hZ.alike Ar53.2.1) (g := (mkF m 2 #[.val (.ref t), .val (.int (2 : Int32))] [(.ref t), (.int (2 : Int32))])) rfl rfl (hb hby d6_2) _ k) ?_
  rw [len_of Sz53 Nn53]
  show Gl _ _ _ _ _ _ _ (s₁.setTop (mkF m 3 #[.val (.ref t), .val (.int (2 : Int32))] [(.int (4 : Int32)), (.int (2 : Int32))]))
  refine Gl.back (fun _ k => XS.isub X0.here hx rfl (hb hby d6_3) rfl k) ?_
  show Gl _ _ _ _ _ _ _ (s₁.setTop (mkF m 4 #[.val (.ref t), .val (.int (2 : Int32))] [(.int (-2 : Int32))]))
  refine Gl.back (fun _ k => XS.bipush X0.here hx rfl (hb hby d6_4) k) ?_
  show Gl _ _ _ _ _ _ _ (s₁.setTop (mkF m 6 #[.val (.ref t), .val (.int (2 : Int32))] [(.int (31 : Int32)), (.int (-2 : Int32))]))
  refine Gl.back (fun _ k => XS.iushr X0.here hx rfl (hb hby d6_6) rfl k) ?_
  show Gl _ _ _ _ _ _ _ (s₁.setTop (mkF m 7 #[.val (.ref t), .val (.int (2 : Int32))] [(.int (1 : Int32))]))
  refine Gl.back (fun _ k => XS.i2b X0.here hx rfl (hb hby d6_7) rfl k) ?_
  show Gl _ _ _ _ _ _ _ (s₁.setTop (mkF m 8 #[.val (.ref t), .val (.int (2 : Int32))] [(.int (1 : Int32))]))
  exact Gl.ret X0 e0 (v := (some (.int (1 : Int32)))) (fun h => by rw [Bd.returns] at h; cases h) Bd.notSynchronized (fun fs hr => retN X0 hx (t := .byte) (z := (1 : Int32)) Bd.returns (by simp) (hb hby d6_8) hr) ⟨N0, rfl, rfl⟩ (by decide) (by decide)
theorem d5_0 : decode jdk_52_method_21_code 0 = .ok (.iconst 0, 1) := by decide +kernel
theorem d5_1 : decode jdk_52_method_21_code 1 = .ok (.istore 5, 2) := by decide +kernel
theorem d5_3 : decode jdk_52_method_21_code 3 = .ok (.iload 5, 2) := by decide +kernel
theorem d5_5 : decode jdk_52_method_21_code 5 = .ok (.iload 4, 2) := by decide +kernel
theorem d5_7 : decode jdk_52_method_21_code 7 = .ok (.if_icmp .ge 37, 3) := by decide +kernel
theorem d5_10 : decode jdk_52_method_21_code 10 = .ok (.aload_n 0, 1) := by decide +kernel
theorem d5_11 : decode jdk_52_method_21_code 11 = .ok (.iload_n 1, 1) := by decide +kernel
theorem d5_12 : decode jdk_52_method_21_code 12 = .ok (.caload, 1) := by decide +kernel
theorem d5_13 : decode jdk_52_method_21_code 13 = .ok (.istore 6, 2) := by decide +kernel
theorem d5_15 : decode jdk_52_method_21_code 15 = .ok (.iload 6, 2) := by decide +kernel
theorem d5_17 : decode jdk_52_method_21_code 17 = .ok (.sipush 255, 3) := by decide +kernel
theorem d5_20 : decode jdk_52_method_21_code 20 = .ok (.if_icmp .le 6, 3) := by decide +kernel
theorem d5_23 : decode jdk_52_method_21_code 23 = .ok (.iload 5, 2) := by decide +kernel
theorem d5_25 : decode jdk_52_method_21_code 25 = .ok (.ireturn, 1) := by decide +kernel
theorem ef_cp5_1_0 (m : MethodId) (x0 : Addr) (x2 : Addr) : entryFrame m #[(.ref x0), (.int (0 : Int32)), (.ref x2), (.int (0 : Int32)), (.int (1 : Int32))] 7 = mkF m 0 #[.val (.ref x0), .val (.int (0 : Int32)), .val (.ref x2), .val (.int (0 : Int32)), .val (.int (1 : Int32)), .unset, .unset] [] := by first | (simp [entryFrame, mkF, argsToLocals, Value.category]; done) | rfl
def Qcp5_1_0 (Z : State) (b : Addr) (d : Addr) (k_b k_d : ClassId) (c0 : Int32) (h0 : Heap) (n0 : Nat) (v : Option Value) (h : Heap) (L : List Loc) : Prop := Fr n0 L ∧ (v = some (.int 0) ∧ Keep h0 h [d])
set_option maxRecDepth 65536 in
set_option maxHeartbeats 40000000 in
theorem rmcp5_1_0 (l : Launch) (Z : State) (a0 : Array Value) (hw : ∀ d ∈ tables_1, d.before a0 Z = true) (ws : List Jvm.Cond) (b : Addr) (d : Addr) (k_b k_d : ClassId) (c0 : Int32) (h0 : Heap) (n0 : Nat) (Z0 : n0 ≤ h0.size) (g_d : n0 ≤ d) (V_b : Arv Z h0 b k_b .char (1 : Int32) [(.int c0)] (.int (0 : Int32))) (V_d : Arv Z h0 d k_d .byte (1 : Int32) [(.int (0 : Int32))] (.int (0 : Int32))) (hbd : b ≠ d) (hb0 : (255 : Int32) < c0) :
    MetFree l (⟨"java/lang/StringUTF16", "compress", "([CI[BII)I"⟩ : MethodName) (head1 (Jvm.Cond.code (⟨"java/lang/StringUTF16", "compress", "([CI[BII)I"⟩ : MethodName) jdk_52_method_21_code 7 (some .int) :: ws) ({ frames := 0, cells := 0, slots := 0, locals := 0 } : Room)) (fun as0 U => as0 = #[(.ref b), (.int (0 : Int32)), (.ref d), (.int (0 : Int32)), (.int (1 : Int32))] ∧ Z.Warmed39 U.vm ∧ U.heap = h0) (fun _ _ _ _ _ => True) (fun _ U oc0 U' => ∃ v L, oc0 = .returned v ∧ Qcp5_1_0 Z b d k_b k_d c0 h0 n0 v U'.heap L ∧ FrameEnd U oc0 U' L ({ frames := 0, cells := 0, slots := 0, locals := 0 } : Room).cells ({ frames := 0, cells := 0, slots := 0, locals := 0 } : Room).slots) := by
  refine MetFree.of_bodySF (plainFor_of_name pn_java_lang_StringUTF16) hisR ?_
  intro p e s m args below meth c s₁ Bd hml0 hP hK
  obtain ⟨rfl, hZ, hh⟩ := hP
  have hx := Bd.exec
  have hby := Bd.bytes
  have hml : c.maxLocals = 7 := hml0
  have hown : s.vm.findClass "java/lang/StringUTF16" = some m.cls := findClass_of_methodNamed Bd.named
  have hnm := (name_of_methodNamed Bd.named Bd.method).1
  have X0 : Stand p l e ({ frames := 0, cells := 0, slots := 0, locals := 0 } : Room) s m #[(.ref b), (.int (0 : Int32)), (.ref d), (.int (0 : Int32)), (.int (1 : Int32))] below meth c s₁ [] 0 0 := Stand.of_body Bd
  have e0 : s₁.heap = h0 := by rw [← hh, Bd.state]; rfl
  have N0 := Fr.nil n0
  show Gl p e below s (Qcp5_1_0 Z b d k_b k_d c0 h0 n0) ({ frames := 0, cells := 0, slots := 0, locals := 0 } : Room).cells ({ frames := 0, cells := 0, slots := 0, locals := 0 } : Room).slots (s₁.setTop (entryFrame m #[(.ref b), (.int (0 : Int32)), (.ref d), (.int (0 : Int32)), (.int (1 : Int32))] 7))
  refine Gl.back (fun _ k => castTop (ef_cp5_1_0 m b d) k) ?_
  show Gl _ _ _ _ _ _ _ (s₁.setTop (mkF m 0 #[.val (.ref b), .val (.int (0 : Int32)), .val (.ref d), .val (.int (0 : Int32)), .val (.int (1 : Int32)), .unset, .unset] []))
  refine Gl.back (fun _ k => XS.iconst X0.here hx rfl (hb hby d5_0) k) ?_
  show Gl _ _ _ _ _ _ _ (s₁.setTop (mkF m 1 #[.val (.ref b), .val (.int (0 : Int32)), .val (.ref d), .val (.int (0 : Int32)), .val (.int (1 : Int32)), .unset, .unset] [(.int (0 : Int32))]))
  refine Gl.back (fun _ k => XS.istore X0.here hx rfl (hb hby d5_1) rfl (l' := #[.val (.ref b), .val (.int (0 : Int32)), .val (.ref d), .val (.int (0 : Int32)), .val (.int (1 : Int32)), .val (.int (0 : Int32)), .unset]) rfl k) ?_
  show Gl _ _ _ _ _ _ _ (s₁.setTop (mkF m 3 #[.val (.ref b), .val (.int (0 : Int32)), .val (.ref d), .val (.int (0 : Int32)), .val (.int (1 : Int32)), .val (.int (0 : Int32)), .unset] []))
  refine Gl.back (fun _ k => XS.iload X0.here hx rfl (hb hby d5_3) rfl k) ?_
  show Gl _ _ _ _ _ _ _ (s₁.setTop (mkF m 5 #[.val (.ref b), .val (.int (0 : Int32)), .val (.ref d), .val (.int (0 : Int32)), .val (.int (1 : Int32)), .val (.int (0 : Int32)), .unset] [(.int (0 : Int32))]))
  refine Gl.back (fun _ k => XS.iload X0.here hx rfl (hb hby d5_5) rfl k) ?_
  show Gl _ _ _ _ _ _ _ (s₁.setTop (mkF m 7 #[.val (.ref b), .val (.int (0 : Int32)), .val (.ref d), .val (.int (0 : Int32)), .val (.int (1 : Int32)), .val (.int (0 : Int32)), .unset] [(.int (1 : Int32)), (.int (0 : Int32))]))
  refine Gl.back (fun _ k => XS.icmpNo X0.here hx rfl (hb hby d5_7) rfl (tlt (by decide : (0 : Int32) < (1 : Int32))).2.1 k) ?_
  show Gl _ _ _ _ _ _ _ (s₁.setTop (mkF m 10 #[.val (.ref b), .val (.int (0 : Int32)), .val (.ref d), .val (.int (0 : Int32)), .val (.int (1 : Int32)), .val (.int (0 : Int32)), .unset] []))
  refine Gl.back (fun _ k => XS.aloadN X0.here hx rfl (hb hby d5_10) rfl rfl k) ?_
  show Gl _ _ _ _ _ _ _ (s₁.setTop (mkF m 11 #[.val (.ref b), .val (.int (0 : Int32)), .val (.ref d), .val (.int (0 : Int32)), .val (.int (1 : Int32)), .val (.int (0 : Int32)), .unset] [(.ref b)]))
  refine Gl.back (fun _ k => XS.iloadN X0.here hx rfl (hb hby d5_11) rfl k) ?_
  show Gl _ _ _ _ _ _ _ (s₁.setTop (mkF m 12 #[.val (.ref b), .val (.int (0 : Int32)), .val (.ref d), .val (.int (0 : Int32)), .val (.int (1 : Int32)), .val (.int (0 : Int32)), .unset] [(.int (0 : Int32)), (.ref b)]))
  obtain ⟨cl54, Ar54, q54, Sz54, Nn54, Hs54, Gf54⟩ := id V_b
  have hin54 : ¬ ((0 : Int32) < 0 ∨ cl54.slots.size ≤ ((0 : Int32)).toNatClampNeg) := inb_of Sz54 ⟨by decide, by decide⟩
  have hat54 : cl54.slots[((0 : Int32)).toNatClampNeg]? = some (.int c0) := Hs54.at hin54 (rfl)
  refine Gl.back (fun _ k => X0.caload hx (j := (0 : Int32)) (v := (.int c0)) (by rw [e0]; exact Ar54.1) (State.isArrayOf_alike hZ.alike Ar54.2.1) Ar54.2.2 hin54 hat54 (g := (mkF m 12 #[.val (.ref b), .val (.int (0 : Int32)), .val (.ref d), .val (.int (0 : Int32)), .val (.int (1 : Int32)), .val (.int (0 : Int32)), .unset] [(.int (0 : Int32)), (.ref b)])) rfl rfl (hb hby d5_12) _ k) ?_
  show Gl _ _ _ _ _ _ _ (s₁.setTop (mkF m 13 #[.val (.ref b), .val (.int (0 : Int32)), .val (.ref d), .val (.int (0 : Int32)), .val (.int (1 : Int32)), .val (.int (0 : Int32)), .unset] [(.int c0)]))
  refine Gl.back (fun _ k => XS.istore X0.here hx rfl (hb hby d5_13) rfl (l' := #[.val (.ref b), .val (.int (0 : Int32)), .val (.ref d), .val (.int (0 : Int32)), .val (.int (1 : Int32)), .val (.int (0 : Int32)), .val (.int c0)]) rfl k) ?_
  show Gl _ _ _ _ _ _ _ (s₁.setTop (mkF m 15 #[.val (.ref b), .val (.int (0 : Int32)), .val (.ref d), .val (.int (0 : Int32)), .val (.int (1 : Int32)), .val (.int (0 : Int32)), .val (.int c0)] []))
  refine Gl.back (fun _ k => XS.iload X0.here hx rfl (hb hby d5_15) rfl k) ?_
  show Gl _ _ _ _ _ _ _ (s₁.setTop (mkF m 17 #[.val (.ref b), .val (.int (0 : Int32)), .val (.ref d), .val (.int (0 : Int32)), .val (.int (1 : Int32)), .val (.int (0 : Int32)), .val (.int c0)] [(.int c0)]))
  refine Gl.back (fun _ k => XS.sipush X0.here hx rfl (hb hby d5_17) k) ?_
  show Gl _ _ _ _ _ _ _ (s₁.setTop (mkF m 20 #[.val (.ref b), .val (.int (0 : Int32)), .val (.ref d), .val (.int (0 : Int32)), .val (.int (1 : Int32)), .val (.int (0 : Int32)), .val (.int c0)] [(.int (255 : Int32)), (.int c0)]))
  refine Gl.back (fun _ k => XS.icmpNo X0.here hx rfl (hb hby d5_20) rfl (tlt (hb0 : (255 : Int32) < c0)).2.2.2 k) ?_
  show Gl _ _ _ _ _ _ _ (s₁.setTop (mkF m 23 #[.val (.ref b), .val (.int (0 : Int32)), .val (.ref d), .val (.int (0 : Int32)), .val (.int (1 : Int32)), .val (.int (0 : Int32)), .val (.int c0)] []))
  refine Gl.back (fun _ k => XS.iload X0.here hx rfl (hb hby d5_23) rfl k) ?_
  show Gl _ _ _ _ _ _ _ (s₁.setTop (mkF m 25 #[.val (.ref b), .val (.int (0 : Int32)), .val (.ref d), .val (.int (0 : Int32)), .val (.int (1 : Int32)), .val (.int (0 : Int32)), .val (.int c0)] [(.int (0 : Int32))]))
  exact Gl.ret X0 e0 (v := (some (.int (0 : Int32)))) (fun h => by rw [Bd.returns] at h; cases h) Bd.notSynchronized (fun fs hr => retOut X0 hx (w := (.int (0 : Int32))) Bd.returns rfl (Or.inl ⟨rfl, Or.inl rfl, _, rfl⟩) (hb hby d5_25) hr) ⟨N0, rfl, (Keep.refl h0 [d])⟩ (by decide) (by decide)
theorem d4_0 : decode jdk_52_method_16_code 0 = .ok (.iload_n 2, 1) := by decide +kernel
theorem d4_1 : decode jdk_52_method_16_code 1 = .ok (.newarray .byte, 2) := by decide +kernel
theorem d4_3 : decode jdk_52_method_16_code 3 = .ok (.astore_n 3, 1) := by decide +kernel
theorem d4_4 : decode jdk_52_method_16_code 4 = .ok (.aload_n 0, 1) := by decide +kernel
theorem d4_5 : decode jdk_52_method_16_code 5 = .ok (.iload_n 1, 1) := by decide +kernel
theorem d4_6 : decode jdk_52_method_16_code 6 = .ok (.aload_n 3, 1) := by decide +kernel
theorem d4_7 : decode jdk_52_method_16_code 7 = .ok (.iconst 0, 1) := by decide +kernel
theorem d4_8 : decode jdk_52_method_16_code 8 = .ok (.iload_n 2, 1) := by decide +kernel
theorem d4_9 : decode jdk_52_method_16_code 9 = .ok (.invokestatic 115, 3) := by decide +kernel
theorem pd___CI_BII_I : parseMethodDescriptor "([CI[BII)I" = some ⟨[(.array .char), .int, (.array .byte), .int, .int], some .int⟩ := by decide +kernel
theorem d4_12 : decode jdk_52_method_16_code 12 = .ok (.istore 4, 2) := by decide +kernel
theorem d4_14 : decode jdk_52_method_16_code 14 = .ok (.iload 4, 2) := by decide +kernel
theorem d4_16 : decode jdk_52_method_16_code 16 = .ok (.iload_n 2, 1) := by decide +kernel
theorem d4_17 : decode jdk_52_method_16_code 17 = .ok (.if_icmp .eq 40, 3) := by decide +kernel
theorem d4_20 : decode jdk_52_method_16_code 20 = .ok (.aload_n 0, 1) := by decide +kernel
theorem d4_21 : decode jdk_52_method_16_code 21 = .ok (.iload_n 1, 1) := by decide +kernel
theorem d4_22 : decode jdk_52_method_16_code 22 = .ok (.iload_n 2, 1) := by decide +kernel
theorem d4_23 : decode jdk_52_method_16_code 23 = .ok (.invokestatic 119, 3) := by decide +kernel
theorem pd___CII__B : parseMethodDescriptor "([CII)[B" = some ⟨[(.array .char), .int, .int], some (.array .byte)⟩ := by decide +kernel
theorem d4_26 : decode jdk_52_method_16_code 26 = .ok (.astore 5, 2) := by decide +kernel
theorem d4_28 : decode jdk_52_method_16_code 28 = .ok (.aload 5, 2) := by decide +kernel
theorem d4_30 : decode jdk_52_method_16_code 30 = .ok (.iload 4, 2) := by decide +kernel
theorem d4_32 : decode jdk_52_method_16_code 32 = .ok (.invokestatic 71, 3) := by decide +kernel
theorem pd___BI_C : parseMethodDescriptor "([BI)C" = some ⟨[(.array .byte), .int], some .char⟩ := by decide +kernel
theorem d4_35 : decode jdk_52_method_16_code 35 = .ok (.sipush 255, 3) := by decide +kernel
theorem d4_38 : decode jdk_52_method_16_code 38 = .ok (.if_icmp .gt 16, 3) := by decide +kernel
theorem d4_54 : decode jdk_52_method_16_code 54 = .ok (.aload 5, 2) := by decide +kernel
theorem d4_56 : decode jdk_52_method_16_code 56 = .ok (.areturn, 1) := by decide +kernel
theorem ef_cp3_1_0 (m : MethodId) (x0 : Addr) : entryFrame m #[(.ref x0), (.int (0 : Int32)), (.int (1 : Int32))] 6 = mkF m 0 #[.val (.ref x0), .val (.int (0 : Int32)), .val (.int (1 : Int32)), .unset, .unset, .unset] [] := by first | (simp [entryFrame, mkF, argsToLocals, Value.category]; done) | rfl
def Qcp3_1_0 (Z : State) (b : Addr) (k_b : ClassId) (c0 : Int32) (h0 : Heap) (n0 : Nat) (v : Option Value) (h : Heap) (L : List Loc) : Prop := Fr n0 L ∧ (∃ (t : Addr) (k : ClassId), v = some (.ref t) ∧ Keep h0 h [] ∧ h0.size ≤ t ∧ n0 ≤ t ∧ Arv Z h t k .byte (2 : Int32) [(.int (own_b0 c0)), (.int (own_b1 c0))] (.int (0 : Int32)))
set_option maxRecDepth 65536 in
set_option maxHeartbeats 40000000 in
theorem rmcp3_1_0 (l : Launch) (Z : State) (a0 : Array Value) (hw : ∀ d ∈ tables_1, d.before a0 Z = true) (ws : List Jvm.Cond) (b : Addr) (k_b : ClassId) (c0 : Int32) (h0 : Heap) (n0 : Nat) (Z0 : n0 ≤ h0.size) (O0 : Old Z n0 h0) (S_AD : Sta Z Z.heap "java/lang/StringUTF16" "$assertionsDisabled" "Z" (.int 1)) (S_HI : Sta Z Z.heap "java/lang/StringUTF16" "HI_BYTE_SHIFT" "I" (.int 0)) (S_LO : Sta Z Z.heap "java/lang/StringUTF16" "LO_BYTE_SHIFT" "I" (.int 8)) (V_b : Arv Z h0 b k_b .char (1 : Int32) [(.int c0)] (.int (0 : Int32))) (hb0 : (255 : Int32) < c0) (hc0 : ¬ c0 < 0 ∧ ¬ (65535 : Int32) < c0) :
    MetFree l (⟨"java/lang/StringUTF16", "compress", "([CII)[B"⟩ : MethodName) (head1 (Jvm.Cond.code (⟨"java/lang/StringUTF16", "compress", "([CII)[B"⟩ : MethodName) jdk_52_method_16_code 6 (some (.array .byte)) :: ws) ({ frames := 3, cells := 2, slots := 3, locals := 40 } : Room)) (fun as0 U => as0 = #[(.ref b), (.int (0 : Int32)), (.int (1 : Int32))] ∧ Z.Warmed39 U.vm ∧ U.heap = h0) (fun _ _ _ _ _ => True) (fun _ U oc0 U' => ∃ v L, oc0 = .returned v ∧ Qcp3_1_0 Z b k_b c0 h0 n0 v U'.heap L ∧ FrameEnd U oc0 U' L ({ frames := 3, cells := 2, slots := 3, locals := 40 } : Room).cells ({ frames := 3, cells := 2, slots := 3, locals := 40 } : Room).slots) := by
  refine MetFree.of_bodySF (plainFor_of_name pn_java_lang_StringUTF16) hisR ?_
  intro p e s m args below meth c s₁ Bd hml0 hP hK
  obtain ⟨rfl, hZ, hh⟩ := hP
  have hx := Bd.exec
  have hby := Bd.bytes
  have hml : c.maxLocals = 6 := hml0
  have hown : s.vm.findClass "java/lang/StringUTF16" = some m.cls := findClass_of_methodNamed Bd.named
  have hnm := (name_of_methodNamed Bd.named Bd.method).1
  have X0 : Stand p l e ({ frames := 3, cells := 2, slots := 3, locals := 40 } : Room) s m #[(.ref b), (.int (0 : Int32)), (.int (1 : Int32))] below meth c s₁ [] 0 0 := Stand.of_body Bd
  have e0 : s₁.heap = h0 := by rw [← hh, Bd.state]; rfl
  have N0 := Fr.nil n0
  show Gl p e below s (Qcp3_1_0 Z b k_b c0 h0 n0) ({ frames := 3, cells := 2, slots := 3, locals := 40 } : Room).cells ({ frames := 3, cells := 2, slots := 3, locals := 40 } : Room).slots (s₁.setTop (entryFrame m #[(.ref b), (.int (0 : Int32)), (.int (1 : Int32))] 6))
  refine Gl.back (fun _ k => castTop (ef_cp3_1_0 m b) k) ?_
  show Gl _ _ _ _ _ _ _ (s₁.setTop (mkF m 0 #[.val (.ref b), .val (.int (0 : Int32)), .val (.int (1 : Int32)), .unset, .unset, .unset] []))
  refine Gl.back (fun _ k => XS.iloadN X0.here hx rfl (hb hby d4_0) rfl k) ?_
  show Gl _ _ _ _ _ _ _ (s₁.setTop (mkF m 1 #[.val (.ref b), .val (.int (0 : Int32)), .val (.int (1 : Int32)), .unset, .unset, .unset] [(.int (1 : Int32))]))
  obtain ⟨T55, h55, k55, X55, e55, E55, A55, st55⟩ := newP X0 hx hZ (hw _ (List.mem_of_getElem? (i := 20) rfl)) e0 (g := (mkF m 1 #[.val (.ref b), .val (.int (0 : Int32)), .val (.int (1 : Int32)), .unset, .unset, .unset] [(.int (1 : Int32))])) rfl (hb hby d4_1) rfl (by decide) (cap := 1) (by decide) (by decide) (by decide) (by decide)
  obtain ⟨b55, g55⟩ : ∃ z, z = h0.size := ⟨_, rfl⟩
  rw [← g55] at A55 st55
  have V55 : Arv Z h55 b55 k55 .byte (1 : Int32) [(.int (0 : Int32))] (.int (0 : Int32)) := (Arv.new A55 (by decide)).pad (pad_rep [] (.int (0 : Int32)) 1)
  have ne_b_b55 : b ≠ b55 := Nat.ne_of_lt (Nat.lt_of_lt_of_le V_b.lt (Nat.le_of_eq g55.symm))
  have g_b55 : n0 ≤ b55 := Nat.le_trans Z0 (Nat.le_of_eq g55.symm)
  have sz_b55 : h0.size ≤ b55 := Nat.le_trans (Keep.refl h0 []).1 (Nat.le_of_eq g55.symm)
  have Z55 : n0 ≤ h55.size := Nat.le_trans Z0 E55.1
  have K55 := Keep.ext (Keep.refl h0 []) E55
  have O55 := Old.ext O0 E55
  refine Gl.back (fun _ k => st55 _ k) ?_
  show Gl _ _ _ _ _ _ _ (T55.setTop (mkF m 3 #[.val (.ref b), .val (.int (0 : Int32)), .val (.int (1 : Int32)), .unset, .unset, .unset] [(.ref b55)]))
  refine Gl.back (fun _ k => XS.astoreN X55.here hx rfl (hb hby d4_3) rfl rfl (l' := #[.val (.ref b), .val (.int (0 : Int32)), .val (.int (1 : Int32)), .val (.ref b55), .unset, .unset]) rfl k) ?_
  show Gl _ _ _ _ _ _ _ (T55.setTop (mkF m 4 #[.val (.ref b), .val (.int (0 : Int32)), .val (.int (1 : Int32)), .val (.ref b55), .unset, .unset] []))
  refine Gl.back (fun _ k => XS.aloadN X55.here hx rfl (hb hby d4_4) rfl rfl k) ?_
  show Gl _ _ _ _ _ _ _ (T55.setTop (mkF m 5 #[.val (.ref b), .val (.int (0 : Int32)), .val (.int (1 : Int32)), .val (.ref b55), .unset, .unset] [(.ref b)]))
  refine Gl.back (fun _ k => XS.iloadN X55.here hx rfl (hb hby d4_5) rfl k) ?_
  show Gl _ _ _ _ _ _ _ (T55.setTop (mkF m 6 #[.val (.ref b), .val (.int (0 : Int32)), .val (.int (1 : Int32)), .val (.ref b55), .unset, .unset] [(.int (0 : Int32)), (.ref b)]))
  refine Gl.back (fun _ k => XS.aloadN X55.here hx rfl (hb hby d4_6) rfl rfl k) ?_
  show Gl _ _ _ _ _ _ _ (T55.setTop (mkF m 7 #[.val (.ref b), .val (.int (0 : Int32)), .val (.int (1 : Int32)), .val (.ref b55), .unset, .unset] [(.ref b55), (.int (0 : Int32)), (.ref b)]))
  refine Gl.back (fun _ k => XS.iconst X55.here hx rfl (hb hby d4_7) k) ?_
  show Gl _ _ _ _ _ _ _ (T55.setTop (mkF m 8 #[.val (.ref b), .val (.int (0 : Int32)), .val (.int (1 : Int32)), .val (.ref b55), .unset, .unset] [(.int (0 : Int32)), (.ref b55), (.int (0 : Int32)), (.ref b)]))
  refine Gl.back (fun _ k => XS.iloadN X55.here hx rfl (hb hby d4_8) rfl k) ?_
  show Gl _ _ _ _ _ _ _ (T55.setTop (mkF m 9 #[.val (.ref b), .val (.int (0 : Int32)), .val (.int (1 : Int32)), .val (.ref b55), .unset, .unset] [(.int (1 : Int32)), (.int (0 : Int32)), (.ref b55), (.int (0 : Int32)), (.ref b)]))
  have f57 := (V_b.ext E55)
  obtain ⟨_, _, ⟨T56, L56, k56, n56⟩, -, X56, ⟨Lc56, hQ56, l56, y56, z56⟩, st56⟩ := Jvm.LawKit.callS X55 hx (y := (⟨"java/lang/StringUTF16", "compress", "([CI[BII)I"⟩ : MethodName)) hown (mvT hZ (hw _ (List.mem_of_getElem? (i := 21) rfl))) (mvT hZ (hw _ (List.mem_of_getElem? (i := 22) rfl))) (mvT hZ (hw _ (List.mem_of_getElem? (i := 18) rfl))) (mvT hZ (hw _ (List.mem_of_getElem? (i := 23) rfl))) (by decide) (backOf (W := 0) (rmcp5_1_0 l Z a0 hw [] b b55 k_b k55 c0 h55 n0 Z55 g_b55 f57 V55 ne_b_b55 hb0) hZ (hw _ (List.mem_of_getElem? (i := 23) rfl)) (hw _ (List.mem_of_getElem? (i := 18) rfl)) (by decide) (by decide)) (g := (mkF m 9 #[.val (.ref b), .val (.int (0 : Int32)), .val (.int (1 : Int32)), .val (.ref b55), .unset, .unset] [(.int (1 : Int32)), (.int (0 : Int32)), (.ref b55), (.int (0 : Int32)), (.ref b)])) rfl (by rw [hml]; rfl) (argsL := [(.ref b), (.int (0 : Int32)), (.ref b55), (.int (0 : Int32)), (.int (1 : Int32))]) (rest := []) (lenOf pd___CI_BII_I rfl) rfl (by show 2 * 0 + _ ≤ _; exact Nat.le_of_eq rfl) (hb hby d4_9) (fun _ _ => ⟨rfl, e55, (by decide : 1 + 0 ≤ _), (by decide : 1 + 0 ≤ _)⟩)
  dsimp only [Pt.U, Pt.locs, Pt.cells, Pt.slots] at X56 l56 y56 z56 st56 hQ56
  replace l56 := Eq.symm l56
  replace y56 := Eq.symm y56
  replace z56 := Eq.symm z56
  subst l56 y56 z56
  obtain ⟨Nq56, rfl, Kq56⟩ := hQ56
  have N56 := Fr.app N0 Nq56
  have Kc56 := Keep.trans K55 Kq56 (allS (Or.inr sz_b55) all0)
  have Zc56 : n0 ≤ T56.heap.size := Nat.le_trans Z55 Kq56.1
  have Oc56 := Old.keep O55 Kq56 (allS g_b55 all0)
  refine Gl.back (fun _ k => st56 _ k) ?_
  show Gl _ _ _ _ _ _ _ (T56.setTop (mkF m 12 #[.val (.ref b), .val (.int (0 : Int32)), .val (.int (1 : Int32)), .val (.ref b55), .unset, .unset] [(.int (0 : Int32))]))
  refine Gl.back (fun _ k => XS.istore X56.here hx rfl (hb hby d4_12) rfl (l' := #[.val (.ref b), .val (.int (0 : Int32)), .val (.int (1 : Int32)), .val (.ref b55), .val (.int (0 : Int32)), .unset]) rfl k) ?_
  show Gl _ _ _ _ _ _ _ (T56.setTop (mkF m 14 #[.val (.ref b), .val (.int (0 : Int32)), .val (.int (1 : Int32)), .val (.ref b55), .val (.int (0 : Int32)), .unset] []))
  refine Gl.back (fun _ k => XS.iload X56.here hx rfl (hb hby d4_14) rfl k) ?_
  show Gl _ _ _ _ _ _ _ (T56.setTop (mkF m 16 #[.val (.ref b), .val (.int (0 : Int32)), .val (.int (1 : Int32)), .val (.ref b55), .val (.int (0 : Int32)), .unset] [(.int (0 : Int32))]))
  refine Gl.back (fun _ k => XS.iloadN X56.here hx rfl (hb hby d4_16) rfl k) ?_
  show Gl _ _ _ _ _ _ _ (T56.setTop (mkF m 17 #[.val (.ref b), .val (.int (0 : Int32)), .val (.int (1 : Int32)), .val (.ref b55), .val (.int (0 : Int32)), .unset] [(.int (1 : Int32)), (.int (0 : Int32))]))
  refine Gl.back (fun _ k => XS.icmpNo X56.here hx rfl (hb hby d4_17) rfl (feq (by decide : ¬ (0 : Int32) = (1 : Int32))).1 k) ?_
  show Gl _ _ _ _ _ _ _ (T56.setTop (mkF m 20 #[.val (.ref b), .val (.int (0 : Int32)), .val (.int (1 : Int32)), .val (.ref b55), .val (.int (0 : Int32)), .unset] []))
  refine Gl.back (fun _ k => XS.aloadN X56.here hx rfl (hb hby d4_20) rfl rfl k) ?_
  show Gl _ _ _ _ _ _ _ (T56.setTop (mkF m 21 #[.val (.ref b), .val (.int (0 : Int32)), .val (.int (1 : Int32)), .val (.ref b55), .val (.int (0 : Int32)), .unset] [(.ref b)]))
  refine Gl.back (fun _ k => XS.iloadN X56.here hx rfl (hb hby d4_21) rfl k) ?_
  show Gl _ _ _ _ _ _ _ (T56.setTop (mkF m 22 #[.val (.ref b), .val (.int (0 : Int32)), .val (.int (1 : Int32)), .val (.ref b55), .val (.int (0 : Int32)), .unset] [(.int (0 : Int32)), (.ref b)]))
  refine Gl.back (fun _ k => XS.iloadN X56.here hx rfl (hb hby d4_22) rfl k) ?_
  show Gl _ _ _ _ _ _ _ (T56.setTop (mkF m 23 #[.val (.ref b), .val (.int (0 : Int32)), .val (.int (1 : Int32)), .val (.ref b55), .val (.int (0 : Int32)), .unset] [(.int (1 : Int32)), (.int (0 : Int32)), (.ref b)]))
  have f59 := (f57.keep Kq56 (ninS ne_b_b55 nin0))
  obtain ⟨_, _, ⟨T58, L58, k58, n58⟩, -, X58, ⟨Lc58, hQ58, l58, y58, z58⟩, st58⟩ := Jvm.LawKit.callS X56 hx (y := (⟨"java/lang/StringUTF16", "toBytes", "([CII)[B"⟩ : MethodName)) hown (mvT hZ (hw _ (List.mem_of_getElem? (i := 92) rfl))) (mvT hZ (hw _ (List.mem_of_getElem? (i := 93) rfl))) (mvT hZ (hw _ (List.mem_of_getElem? (i := 18) rfl))) (mvT hZ (hw _ (List.mem_of_getElem? (i := 94) rfl))) (by decide) (backOf (W := 0) (rmtob_1 l Z a0 hw [] b k_b c0 T56.heap n0 Zc56 Oc56 S_AD S_HI S_LO f59) hZ (hw _ (List.mem_of_getElem? (i := 94) rfl)) (hw _ (List.mem_of_getElem? (i := 18) rfl)) (by decide) (by decide)) (g := (mkF m 23 #[.val (.ref b), .val (.int (0 : Int32)), .val (.int (1 : Int32)), .val (.ref b55), .val (.int (0 : Int32)), .unset] [(.int (1 : Int32)), (.int (0 : Int32)), (.ref b)])) rfl (by rw [hml]; rfl) (argsL := [(.ref b), (.int (0 : Int32)), (.int (1 : Int32))]) (rest := []) (lenOf pd___CII__B rfl) rfl (by show 2 * 0 + _ ≤ _; exact Nat.le_of_eq rfl) (hb hby d4_23) (fun _ _ => ⟨rfl, rfl, (by decide : 1 + 1 ≤ _), (by decide : 1 + 2 ≤ _)⟩)
  dsimp only [Pt.U, Pt.locs, Pt.cells, Pt.slots] at X58 l58 y58 z58 st58 hQ58
  replace l58 := Eq.symm l58
  replace y58 := Eq.symm y58
  replace z58 := Eq.symm z58
  subst l58 y58 z58
  obtain ⟨Nq58, t58, k058, rfl, Kq58, Sz58, Gz58, V58⟩ := hQ58
  have N58 := Fr.app N56 Nq58
  have Kc58 := Keep.trans Kc56 Kq58 all0
  have Zc58 : n0 ≤ T58.heap.size := Nat.le_trans Zc56 Kq58.1
  have Oc58 := Old.keep Oc56 Kq58 all0
  have ne_b_t58 : b ≠ t58 := Nat.ne_of_lt (Nat.lt_of_lt_of_le (f59).lt Sz58)
  have sz_t58 : h0.size ≤ t58 := Nat.le_trans Kc56.1 Sz58
  refine Gl.back (fun _ k => st58 _ k) ?_
  show Gl _ _ _ _ _ _ _ (T58.setTop (mkF m 26 #[.val (.ref b), .val (.int (0 : Int32)), .val (.int (1 : Int32)), .val (.ref b55), .val (.int (0 : Int32)), .unset] [(.ref t58)]))
  refine Gl.back (fun _ k => XS.astore X58.here hx rfl (hb hby d4_26) rfl rfl (l' := #[.val (.ref b), .val (.int (0 : Int32)), .val (.int (1 : Int32)), .val (.ref b55), .val (.int (0 : Int32)), .val (.ref t58)]) rfl k) ?_
  show Gl _ _ _ _ _ _ _ (T58.setTop (mkF m 28 #[.val (.ref b), .val (.int (0 : Int32)), .val (.int (1 : Int32)), .val (.ref b55), .val (.int (0 : Int32)), .val (.ref t58)] []))
  refine Gl.back (fun _ k => XS.aload X58.here hx rfl (hb hby d4_28) rfl rfl k) ?_
  show Gl _ _ _ _ _ _ _ (T58.setTop (mkF m 30 #[.val (.ref b), .val (.int (0 : Int32)), .val (.int (1 : Int32)), .val (.ref b55), .val (.int (0 : Int32)), .val (.ref t58)] [(.ref t58)]))
  refine Gl.back (fun _ k => XS.iload X58.here hx rfl (hb hby d4_30) rfl k) ?_
  show Gl _ _ _ _ _ _ _ (T58.setTop (mkF m 32 #[.val (.ref b), .val (.int (0 : Int32)), .val (.int (1 : Int32)), .val (.ref b55), .val (.int (0 : Int32)), .val (.ref t58)] [(.int (0 : Int32)), (.ref t58)]))
  obtain ⟨_, _, ⟨T60, L60, k60, n60⟩, -, X60, ⟨Lc60, hQ60, l60, y60, z60⟩, st60⟩ := Jvm.LawKit.callS X58 hx (y := (⟨"java/lang/StringUTF16", "getChar", "([BI)C"⟩ : MethodName)) hown (mvT hZ (hw _ (List.mem_of_getElem? (i := 108) rfl))) (mvT hZ (hw _ (List.mem_of_getElem? (i := 109) rfl))) (mvT hZ (hw _ (List.mem_of_getElem? (i := 18) rfl))) (mvT hZ (hw _ (List.mem_of_getElem? (i := 110) rfl))) (by decide) (backOf (W := 0) (rmgch_1_0 l Z a0 hw [] t58 k058 (own_b0 c0) (own_b1 c0) T58.heap n0 Zc58 Oc58 S_AD S_HI S_LO V58) hZ (hw _ (List.mem_of_getElem? (i := 110) rfl)) (hw _ (List.mem_of_getElem? (i := 18) rfl)) (by decide) (by decide)) (g := (mkF m 32 #[.val (.ref b), .val (.int (0 : Int32)), .val (.int (1 : Int32)), .val (.ref b55), .val (.int (0 : Int32)), .val (.ref t58)] [(.int (0 : Int32)), (.ref t58)])) rfl (by rw [hml]; rfl) (argsL := [(.ref t58), (.int (0 : Int32))]) (rest := []) (lenOf pd___BI_C rfl) rfl (by show 2 * 0 + _ ≤ _; exact Nat.le_of_eq rfl) (hb hby d4_32) (fun _ _ => ⟨rfl, rfl, (by decide : 2 + 0 ≤ _), (by decide : 3 + 0 ≤ _)⟩)
  dsimp only [Pt.U, Pt.locs, Pt.cells, Pt.slots] at X60 l60 y60 z60 st60 hQ60
  replace l60 := Eq.symm l60
  replace y60 := Eq.symm y60
  replace z60 := Eq.symm z60
  subst l60 y60 z60
  obtain ⟨Nq60, rfl, eh60⟩ := hQ60
  have N60 := Fr.app N58 Nq60
  refine Gl.back (fun _ k => st60 _ k) ?_
  show Gl _ _ _ _ _ _ _ (T60.setTop (mkF m 35 #[.val (.ref b), .val (.int (0 : Int32)), .val (.int (1 : Int32)), .val (.ref b55), .val (.int (0 : Int32)), .val (.ref t58)] [(.int (own_gc (own_b0 c0) (own_b1 c0)))]))
  refine Gl.back (fun _ k => XS.sipush X60.here hx rfl (hb hby d4_35) k) ?_
  show Gl _ _ _ _ _ _ _ (T60.setTop (mkF m 38 #[.val (.ref b), .val (.int (0 : Int32)), .val (.int (1 : Int32)), .val (.ref b55), .val (.int (0 : Int32)), .val (.ref t58)] [(.int (255 : Int32)), (.int (own_gc (own_b0 c0) (own_b1 c0)))]))
  refine Gl.back (fun _ k => XS.icmpYes X60.here hx rfl (pc0 := 38) (pc' := 54) rfl (hb hby d4_38) rfl (tlt ((by rw [own_gcb hc0]; exact hb0) : (255 : Int32) < (own_gc (own_b0 c0) (own_b1 c0)))).2.2.1 (by decide) (by decide) k) ?_
  show Gl _ _ _ _ _ _ _ (T60.setTop (mkF m 54 #[.val (.ref b), .val (.int (0 : Int32)), .val (.int (1 : Int32)), .val (.ref b55), .val (.int (0 : Int32)), .val (.ref t58)] []))
  refine Gl.back (fun _ k => XS.aload X60.here hx rfl (hb hby d4_54) rfl rfl k) ?_
  show Gl _ _ _ _ _ _ _ (T60.setTop (mkF m 56 #[.val (.ref b), .val (.int (0 : Int32)), .val (.int (1 : Int32)), .val (.ref b55), .val (.int (0 : Int32)), .val (.ref t58)] [(.ref t58)]))
  exact Gl.ret X60 eh60 (v := (some (.ref t58))) (fun h => by rw [Bd.returns] at h; cases h) Bd.notSynchronized (fun fs hr => retOut X60 hx (w := (.ref t58)) Bd.returns rfl (Or.inr (Or.inr (Or.inr (Or.inr ⟨rfl, rfl, rfl⟩)))) (hb hby d4_56) hr) ⟨N60, t58, k058, rfl, Kc58, sz_t58, Gz58, V58⟩ (by decide) (by decide)
theorem d2_0 : decode jdk_42_method_149_code 0 = .ok (.aload_n 0, 1) := by decide +kernel
theorem d2_1 : decode jdk_42_method_149_code 1 = .ok (.invokespecial 1, 3) := by decide +kernel
theorem d2_4 : decode jdk_42_method_149_code 4 = .ok (.iload_n 3, 1) := by decide +kernel
theorem d2_5 : decode jdk_42_method_149_code 5 = .ok (.ifCond .ne 22, 3) := by decide +kernel
theorem d2_27 : decode jdk_42_method_149_code 27 = .ok (.getstatic 38, 3) := by decide +kernel
theorem d2_30 : decode jdk_42_method_149_code 30 = .ok (.ifCond .eq 28, 3) := by decide +kernel
theorem d2_33 : decode jdk_42_method_149_code 33 = .ok (.aload_n 1, 1) := by decide +kernel
theorem d2_34 : decode jdk_42_method_149_code 34 = .ok (.iload_n 2, 1) := by decide +kernel
theorem d2_35 : decode jdk_42_method_149_code 35 = .ok (.iload_n 3, 1) := by decide +kernel
theorem d2_36 : decode jdk_42_method_149_code 36 = .ok (.invokestatic 177, 3) := by decide +kernel
theorem d2_39 : decode jdk_42_method_149_code 39 = .ok (.astore 5, 2) := by decide +kernel
theorem d2_41 : decode jdk_42_method_149_code 41 = .ok (.aload_n 0, 1) := by decide +kernel
theorem d2_42 : decode jdk_42_method_149_code 42 = .ok (.aload 5, 2) := by decide +kernel
theorem d2_44 : decode jdk_42_method_149_code 44 = .ok (.iload_n 3, 1) := by decide +kernel
theorem d2_45 : decode jdk_42_method_149_code 45 = .ok (.invokestatic 47, 3) := by decide +kernel
theorem pd___BI_B : parseMethodDescriptor "([BI)B" = some ⟨[(.array .byte), .int], some .byte⟩ := by decide +kernel
theorem d2_48 : decode jdk_42_method_149_code 48 = .ok (.putfield 15, 3) := by decide +kernel
theorem d2_51 : decode jdk_42_method_149_code 51 = .ok (.aload_n 0, 1) := by decide +kernel
theorem d2_52 : decode jdk_42_method_149_code 52 = .ok (.aload 5, 2) := by decide +kernel
theorem d2_54 : decode jdk_42_method_149_code 54 = .ok (.putfield 9, 3) := by decide +kernel
theorem d2_57 : decode jdk_42_method_149_code 57 = .ok (.return_, 1) := by decide +kernel
theorem pn_java_lang_String : plainName "java/lang/String" = true := by first | (simp [plainName, overriddenIn]; done) | decide +kernel
theorem ef_new4_1_0 (m : MethodId) (x0 : Addr) (x1 : Addr) : entryFrame m #[(.ref x0), (.ref x1), (.int (0 : Int32)), (.int (1 : Int32)), .null] 6 = mkF m 0 #[.val (.ref x0), .val (.ref x1), .val (.int (0 : Int32)), .val (.int (1 : Int32)), .val .null, .unset] [] := by first | (simp [entryFrame, mkF, argsToLocals, Value.category]; done) | rfl
def Qnew4_1_0 (Z : State) (xs : Addr) (b : Addr) (k_b : ClassId) (c0 zc : Int32) (h0 : Heap) (n0 : Nat) (v : Option Value) (h : Heap) (L : List Loc) : Prop := Fr n0 L ∧ (v = none ∧ Keep h0 h [xs] ∧ ∃ (t : Addr) (k : ClassId), h0.size ≤ t ∧ n0 ≤ t ∧ Fld Z h xs "java/lang/String" "coder" "B" (.int 1) ∧ Fld Z h xs "java/lang/String" "value" "[B" (.ref t) ∧ Arv Z h t k .byte (2 : Int32) [(.int (own_b0 c0)), (.int (own_b1 c0))] (.int (0 : Int32)))
set_option maxRecDepth 65536 in
set_option maxHeartbeats 40000000 in
theorem rmnew4_1_0 (l : Launch) (Z : State) (a0 : Array Value) (hw : ∀ d ∈ tables_1, d.before a0 Z = true) (ws : List Jvm.Cond) (xs : Addr) (b : Addr) (k_b : ClassId) (c0 zc : Int32) (h0 : Heap) (n0 : Nat) (Z0 : n0 ≤ h0.size) (O0 : Old Z n0 h0) (S_AD : Sta Z Z.heap "java/lang/StringUTF16" "$assertionsDisabled" "Z" (.int 1)) (S_HI : Sta Z Z.heap "java/lang/StringUTF16" "HI_BYTE_SHIFT" "I" (.int 0)) (S_LO : Sta Z Z.heap "java/lang/StringUTF16" "LO_BYTE_SHIFT" "I" (.int 8)) (S_C : Sta Z Z.heap "java/lang/String" "COMPACT_STRINGS" "Z" (.int zc)) (P0 : ¬ zc = 0) (g_x : n0 ≤ xs) (E_x : Exa Z h0 xs "java/lang/String") (F_v : Fld Z h0 xs "java/lang/String" "value" "[B" .null) (F_c : Fld Z h0 xs "java/lang/String" "coder" "B" (.int 0)) (V_b : Arv Z h0 b k_b .char (1 : Int32) [(.int c0)] (.int (0 : Int32))) (hxb : xs ≠ b) (hb0 : (255 : Int32) < c0) (hc0 : ¬ c0 < 0 ∧ ¬ (65535 : Int32) < c0) :
    MetFree l (⟨"java/lang/String", "<init>", "([CIILjava/lang/Void;)V"⟩ : MethodName) (head1 (Jvm.Cond.code (⟨"java/lang/String", "<init>", "([CIILjava/lang/Void;)V"⟩ : MethodName) jdk_42_method_149_code 6 none :: ws) ({ frames := 4, cells := 2, slots := 3, locals := 57 } : Room)) (fun as0 U => as0 = #[(.ref xs), (.ref b), (.int (0 : Int32)), (.int (1 : Int32)), .null] ∧ Z.Warmed39 U.vm ∧ U.heap = h0) (fun _ _ _ _ _ => True) (fun _ U oc0 U' => ∃ v L, oc0 = .returned v ∧ Qnew4_1_0 Z xs b k_b c0 zc h0 n0 v U'.heap L ∧ FrameEnd U oc0 U' L ({ frames := 4, cells := 2, slots := 3, locals := 57 } : Room).cells ({ frames := 4, cells := 2, slots := 3, locals := 57 } : Room).slots) := by
  refine MetFree.of_bodySF (plainFor_of_name pn_java_lang_String) hisR ?_
  intro p e s m args below meth c s₁ Bd hml0 hP hK
  obtain ⟨rfl, hZ, hh⟩ := hP
  have hx := Bd.exec
  have hby := Bd.bytes
  have hml : c.maxLocals = 6 := hml0
  have hown : s.vm.findClass "java/lang/String" = some m.cls := findClass_of_methodNamed Bd.named
  have hnm := (name_of_methodNamed Bd.named Bd.method).1
  have X0 : Stand p l e ({ frames := 4, cells := 2, slots := 3, locals := 57 } : Room) s m #[(.ref xs), (.ref b), (.int (0 : Int32)), (.int (1 : Int32)), .null] below meth c s₁ [] 0 0 := Stand.of_body Bd
  have e0 : s₁.heap = h0 := by rw [← hh, Bd.state]; rfl
  have N0 := Fr.nil n0
  show Gl p e below s (Qnew4_1_0 Z xs b k_b c0 zc h0 n0) ({ frames := 4, cells := 2, slots := 3, locals := 57 } : Room).cells ({ frames := 4, cells := 2, slots := 3, locals := 57 } : Room).slots (s₁.setTop (entryFrame m #[(.ref xs), (.ref b), (.int (0 : Int32)), (.int (1 : Int32)), .null] 6))
  refine Gl.back (fun _ k => castTop (ef_new4_1_0 m xs b) k) ?_
  show Gl _ _ _ _ _ _ _ (s₁.setTop (mkF m 0 #[.val (.ref xs), .val (.ref b), .val (.int (0 : Int32)), .val (.int (1 : Int32)), .val .null, .unset] []))
  refine Gl.back (fun _ k => XS.aloadN X0.here hx rfl (hb hby d2_0) rfl rfl k) ?_
  show Gl _ _ _ _ _ _ _ (s₁.setTop (mkF m 1 #[.val (.ref xs), .val (.ref b), .val (.int (0 : Int32)), .val (.int (1 : Int32)), .val .null, .unset] [(.ref xs)]))
  obtain ⟨T61, X61, e61, st61⟩ := initO X0 hx hZ hown (hw _ (List.mem_of_getElem? (i := 12) rfl)) (hw _ (List.mem_of_getElem? (i := 13) rfl)) (hw _ (List.mem_of_getElem? (i := 14) rfl)) e0 (g := (mkF m 1 #[.val (.ref xs), .val (.ref b), .val (.int (0 : Int32)), .val (.int (1 : Int32)), .val .null, .unset] [(.ref xs)])) rfl (by rw [hml]; rfl) rfl (hb hby d2_1) (by decide) (W := 0) (by show 2 * 0 + _ ≤ _; exact Nat.le_of_eq rfl) (by decide)
  refine Gl.back (fun _ k => st61 _ k) ?_
  show Gl _ _ _ _ _ _ _ (T61.setTop (mkF m 4 #[.val (.ref xs), .val (.ref b), .val (.int (0 : Int32)), .val (.int (1 : Int32)), .val .null, .unset] []))
  refine Gl.back (fun _ k => XS.iloadN X61.here hx rfl (hb hby d2_4) rfl k) ?_
  show Gl _ _ _ _ _ _ _ (T61.setTop (mkF m 5 #[.val (.ref xs), .val (.ref b), .val (.int (0 : Int32)), .val (.int (1 : Int32)), .val .null, .unset] [(.int (1 : Int32))]))
  refine Gl.back (fun _ k => XS.ifYes X61.here hx rfl (pc0 := 5) (pc' := 27) rfl (hb hby d2_5) rfl ((if0 _ _).trans (feq (by decide : ¬ (1 : Int32) = (0 : Int32))).2) (by decide) (by decide) k) ?_
  show Gl _ _ _ _ _ _ _ (T61.setTop (mkF m 27 #[.val (.ref xs), .val (.ref b), .val (.int (0 : Int32)), .val (.int (1 : Int32)), .val .null, .unset] []))
  obtain ⟨T62, X62, e62, st62⟩ := getS2 X61 hx hZ hown (host := "") (Or.inl (hw _ (List.mem_of_getElem? (i := 15) rfl))) Via.refl e61 (S_C.ext O0.2) (g := (mkF m 27 #[.val (.ref xs), .val (.ref b), .val (.int (0 : Int32)), .val (.int (1 : Int32)), .val .null, .unset] [])) rfl (hb hby d2_27)
  refine Gl.back (fun _ k => st62 _ k) ?_
  show Gl _ _ _ _ _ _ _ (T62.setTop (mkF m 30 #[.val (.ref xs), .val (.ref b), .val (.int (0 : Int32)), .val (.int (1 : Int32)), .val .null, .unset] [(.int zc)]))
  refine Gl.back (fun _ k => XS.ifNo X62.here hx rfl (hb hby d2_30) rfl ((if0 _ _).trans (feq (P0 : ¬ zc = (0 : Int32))).1) k) ?_
  show Gl _ _ _ _ _ _ _ (T62.setTop (mkF m 33 #[.val (.ref xs), .val (.ref b), .val (.int (0 : Int32)), .val (.int (1 : Int32)), .val .null, .unset] []))
  refine Gl.back (fun _ k => XS.aloadN X62.here hx rfl (hb hby d2_33) rfl rfl k) ?_
  show Gl _ _ _ _ _ _ _ (T62.setTop (mkF m 34 #[.val (.ref xs), .val (.ref b), .val (.int (0 : Int32)), .val (.int (1 : Int32)), .val .null, .unset] [(.ref b)]))
  refine Gl.back (fun _ k => XS.iloadN X62.here hx rfl (hb hby d2_34) rfl k) ?_
  show Gl _ _ _ _ _ _ _ (T62.setTop (mkF m 35 #[.val (.ref xs), .val (.ref b), .val (.int (0 : Int32)), .val (.int (1 : Int32)), .val .null, .unset] [(.int (0 : Int32)), (.ref b)]))
  refine Gl.back (fun _ k => XS.iloadN X62.here hx rfl (hb hby d2_35) rfl k) ?_
  show Gl _ _ _ _ _ _ _ (T62.setTop (mkF m 36 #[.val (.ref xs), .val (.ref b), .val (.int (0 : Int32)), .val (.int (1 : Int32)), .val .null, .unset] [(.int (1 : Int32)), (.int (0 : Int32)), (.ref b)]))
  obtain ⟨_, _, ⟨T63, L63, k63, n63⟩, -, X63, ⟨Lc63, hQ63, l63, y63, z63⟩, st63⟩ := Jvm.LawKit.callS X62 hx (y := (⟨"java/lang/StringUTF16", "compress", "([CII)[B"⟩ : MethodName)) hown (mvT hZ (hw _ (List.mem_of_getElem? (i := 16) rfl))) (mvT hZ (hw _ (List.mem_of_getElem? (i := 17) rfl))) (mvT hZ (hw _ (List.mem_of_getElem? (i := 18) rfl))) (mvT hZ (hw _ (List.mem_of_getElem? (i := 19) rfl))) (by decide) (backOf (W := 0) (rmcp3_1_0 l Z a0 hw [] b k_b c0 h0 n0 Z0 O0 S_AD S_HI S_LO V_b hb0 hc0) hZ (hw _ (List.mem_of_getElem? (i := 19) rfl)) (hw _ (List.mem_of_getElem? (i := 18) rfl)) (by decide) (by decide)) (g := (mkF m 36 #[.val (.ref xs), .val (.ref b), .val (.int (0 : Int32)), .val (.int (1 : Int32)), .val .null, .unset] [(.int (1 : Int32)), (.int (0 : Int32)), (.ref b)])) rfl (by rw [hml]; rfl) (argsL := [(.ref b), (.int (0 : Int32)), (.int (1 : Int32))]) (rest := []) (lenOf pd___CII__B rfl) rfl (by show 2 * 0 + _ ≤ _; exact Nat.le_of_eq rfl) (hb hby d2_36) (fun _ _ => ⟨rfl, e62, (by decide : 0 + 2 ≤ _), (by decide : 0 + 3 ≤ _)⟩)
  dsimp only [Pt.U, Pt.locs, Pt.cells, Pt.slots] at X63 l63 y63 z63 st63 hQ63
  replace l63 := Eq.symm l63
  replace y63 := Eq.symm y63
  replace z63 := Eq.symm z63
  subst l63 y63 z63
  obtain ⟨Nq63, t63, k063, rfl, Kq63, Sz63, Gz63, V63⟩ := hQ63
  have N63 := Fr.app N0 Nq63
  have Kc63 := Keep.trans (Keep.refl h0 [xs]) Kq63 all0
  have Zc63 : n0 ≤ T63.heap.size := Nat.le_trans Z0 Kq63.1
  have Oc63 := Old.keep O0 Kq63 all0
  have ne_xs_t63 : xs ≠ t63 := Nat.ne_of_lt (Nat.lt_of_lt_of_le (E_x).lt Sz63)
  have ne_b_t63 : b ≠ t63 := Nat.ne_of_lt (Nat.lt_of_lt_of_le (V_b).lt Sz63)
  have sz_t63 : h0.size ≤ t63 := Nat.le_trans (Keep.refl h0 [xs]).1 Sz63
  refine Gl.back (fun _ k => st63 _ k) ?_
  show Gl _ _ _ _ _ _ _ (T63.setTop (mkF m 39 #[.val (.ref xs), .val (.ref b), .val (.int (0 : Int32)), .val (.int (1 : Int32)), .val .null, .unset] [(.ref t63)]))
  refine Gl.back (fun _ k => XS.astore X63.here hx rfl (hb hby d2_39) rfl rfl (l' := #[.val (.ref xs), .val (.ref b), .val (.int (0 : Int32)), .val (.int (1 : Int32)), .val .null, .val (.ref t63)]) rfl k) ?_
  show Gl _ _ _ _ _ _ _ (T63.setTop (mkF m 41 #[.val (.ref xs), .val (.ref b), .val (.int (0 : Int32)), .val (.int (1 : Int32)), .val .null, .val (.ref t63)] []))
  refine Gl.back (fun _ k => XS.aloadN X63.here hx rfl (hb hby d2_41) rfl rfl k) ?_
  show Gl _ _ _ _ _ _ _ (T63.setTop (mkF m 42 #[.val (.ref xs), .val (.ref b), .val (.int (0 : Int32)), .val (.int (1 : Int32)), .val .null, .val (.ref t63)] [(.ref xs)]))
  refine Gl.back (fun _ k => XS.aload X63.here hx rfl (hb hby d2_42) rfl rfl k) ?_
  show Gl _ _ _ _ _ _ _ (T63.setTop (mkF m 44 #[.val (.ref xs), .val (.ref b), .val (.int (0 : Int32)), .val (.int (1 : Int32)), .val .null, .val (.ref t63)] [(.ref t63), (.ref xs)]))
  refine Gl.back (fun _ k => XS.iloadN X63.here hx rfl (hb hby d2_44) rfl k) ?_
  show Gl _ _ _ _ _ _ _ (T63.setTop (mkF m 45 #[.val (.ref xs), .val (.ref b), .val (.int (0 : Int32)), .val (.int (1 : Int32)), .val .null, .val (.ref t63)] [(.int (1 : Int32)), (.ref t63), (.ref xs)]))
  obtain ⟨_, _, ⟨T64, L64, k64, n64⟩, -, X64, ⟨Lc64, hQ64, l64, y64, z64⟩, st64⟩ := Jvm.LawKit.callS X63 hx (y := (⟨"java/lang/StringUTF16", "coderFromArrayLen", "([BI)B"⟩ : MethodName)) hown (mvT hZ (hw _ (List.mem_of_getElem? (i := 24) rfl))) (mvT hZ (hw _ (List.mem_of_getElem? (i := 25) rfl))) (mvT hZ (hw _ (List.mem_of_getElem? (i := 18) rfl))) (mvT hZ (hw _ (List.mem_of_getElem? (i := 26) rfl))) (by decide) (backOf (W := 1) (rmcod_1 l Z a0 hw [] t63 k063 [(.int (own_b0 c0)), (.int (own_b1 c0))] T63.heap n0 Zc63 V63) hZ (hw _ (List.mem_of_getElem? (i := 26) rfl)) (hw _ (List.mem_of_getElem? (i := 18) rfl)) (by decide) (by decide)) (g := (mkF m 45 #[.val (.ref xs), .val (.ref b), .val (.int (0 : Int32)), .val (.int (1 : Int32)), .val .null, .val (.ref t63)] [(.int (1 : Int32)), (.ref t63), (.ref xs)])) rfl (by rw [hml]; rfl) (argsL := [(.ref t63), (.int (1 : Int32))]) (rest := [(.ref xs)]) (lenOf pd___BI_B rfl) rfl (by show 2 * 0 + _ ≤ _; exact Nat.le_of_eq rfl) (hb hby d2_45) (fun _ _ => ⟨rfl, rfl, (by decide : 2 + 0 ≤ _), (by decide : 3 + 0 ≤ _)⟩)
  dsimp only [Pt.U, Pt.locs, Pt.cells, Pt.slots] at X64 l64 y64 z64 st64 hQ64
  replace l64 := Eq.symm l64
  replace y64 := Eq.symm y64
  replace z64 := Eq.symm z64
  subst l64 y64 z64
  obtain ⟨Nq64, rfl, eh64⟩ := hQ64
  have N64 := Fr.app N63 Nq64
  refine Gl.back (fun _ k => st64 _ k) ?_
  show Gl _ _ _ _ _ _ _ (T64.setTop (mkF m 48 #[.val (.ref xs), .val (.ref b), .val (.int (0 : Int32)), .val (.int (1 : Int32)), .val .null, .val (.ref t63)] [(.int (1 : Int32)), (.ref xs)]))
  have f65 := (E_x.keep Kq63)
  have f66 := (F_c.keep Kq63 nin0)
  obtain ⟨T67, h67, X67, e67, W67, st67⟩ := putFN X64 hx hZ hown (hw _ (List.mem_of_getElem? (i := 27) rfl)) Via.refl eh64 f66 f65 (Or.inr ⟨(hw _ (List.mem_of_getElem? (i := 28) rfl)), rfl, hnm⟩) (hw _ (List.mem_of_getElem? (i := 3) rfl)) (ty := .byte) (v' := (.int (1 : Int32))) (by decide) rfl (by decide) (g := (mkF m 48 #[.val (.ref xs), .val (.ref b), .val (.int (0 : Int32)), .val (.int (1 : Int32)), .val .null, .val (.ref t63)] [(.int (1 : Int32)), (.ref xs)])) rfl rfl (hb hby d2_48)
  have Fw67 := f66.same W67
  have K67 := Keep.wr Kc63 W67 (Or.inl (List.mem_of_getElem? (i := 0) rfl))
  have O67 := Old.wr Oc63 W67 g_x
  have Z67 : n0 ≤ h67.size := Nat.le_trans Zc63 (Keep.of_wr W67).1
  have N67 := Fr.snoc X67 N64 g_x
  refine Gl.back (fun _ k => st67 _ k) ?_
  show Gl _ _ _ _ _ _ _ (T67.setTop (mkF m 51 #[.val (.ref xs), .val (.ref b), .val (.int (0 : Int32)), .val (.int (1 : Int32)), .val .null, .val (.ref t63)] []))
  refine Gl.back (fun _ k => XS.aloadN X67.here hx rfl (hb hby d2_51) rfl rfl k) ?_
  show Gl _ _ _ _ _ _ _ (T67.setTop (mkF m 52 #[.val (.ref xs), .val (.ref b), .val (.int (0 : Int32)), .val (.int (1 : Int32)), .val .null, .val (.ref t63)] [(.ref xs)]))
  refine Gl.back (fun _ k => XS.aload X67.here hx rfl (hb hby d2_52) rfl rfl k) ?_
  show Gl _ _ _ _ _ _ _ (T67.setTop (mkF m 54 #[.val (.ref xs), .val (.ref b), .val (.int (0 : Int32)), .val (.int (1 : Int32)), .val .null, .val (.ref t63)] [(.ref t63), (.ref xs)]))
  have f68 := (f65.wr W67)
  have f69 := ((F_v.keep Kq63 nin0).other W67 (Or.inr (slot_ne (Or.inr (hw _ (List.mem_of_getElem? (i := 30) rfl))) (Or.inr (hw _ (List.mem_of_getElem? (i := 28) rfl))) (by decide) (t := (.array .byte)) (t' := .byte) (by decide) (by decide))))
  obtain ⟨T70, h70, X70, e70, W70, st70⟩ := putF X67 hx hZ hown (host := "") (Or.inl (hw _ (List.mem_of_getElem? (i := 29) rfl))) Via.refl e67 f69 f68 (Or.inr ⟨(hw _ (List.mem_of_getElem? (i := 30) rfl)), rfl, hnm⟩) (hw _ (List.mem_of_getElem? (i := 3) rfl)) (ty := (.array .byte)) (by decide) rfl rfl (g := (mkF m 54 #[.val (.ref xs), .val (.ref b), .val (.int (0 : Int32)), .val (.int (1 : Int32)), .val .null, .val (.ref t63)] [(.ref t63), (.ref xs)])) rfl rfl (hb hby d2_54)
  have Fw70 := f69.same W70
  have K70 := Keep.wr K67 W70 (Or.inl (List.mem_of_getElem? (i := 0) rfl))
  have O70 := Old.wr O67 W70 g_x
  have Z70 : n0 ≤ h70.size := Nat.le_trans Z67 (Keep.of_wr W70).1
  have N70 := Fr.snoc X70 N67 g_x
  refine Gl.back (fun _ k => st70 _ k) ?_
  show Gl _ _ _ _ _ _ _ (T70.setTop (mkF m 57 #[.val (.ref xs), .val (.ref b), .val (.int (0 : Int32)), .val (.int (1 : Int32)), .val .null, .val (.ref t63)] []))
  have f71 := (Fw67.other W70 (Or.inr (slot_ne (Or.inr (hw _ (List.mem_of_getElem? (i := 28) rfl))) (Or.inr (hw _ (List.mem_of_getElem? (i := 30) rfl))) (by decide) (t := .byte) (t' := (.array .byte)) (by decide) (by decide))))
  have f72 := ((V63.other W67 (Ne.symm ne_xs_t63)).other W70 (Ne.symm ne_xs_t63))
  exact Gl.ret X70 e70 (v := none) (fun _ => rfl) Bd.notSynchronized (fun fs hr => X70.returnOut hx Bd.returns (hb hby d2_57) hr) ⟨N70, rfl, K70, t63, k063, sz_t63, Gz63, f71, Fw70, f72⟩ (by decide) (by decide)
theorem d1_0 : decode jdk_42_method_3_code 0 = .ok (.aload_n 0, 1) := by decide +kernel
theorem d1_1 : decode jdk_42_method_3_code 1 = .ok (.aload_n 1, 1) := by decide +kernel
theorem d1_2 : decode jdk_42_method_3_code 2 = .ok (.iconst 0, 1) := by decide +kernel
theorem d1_3 : decode jdk_42_method_3_code 3 = .ok (.aload_n 1, 1) := by decide +kernel
theorem d1_4 : decode jdk_42_method_3_code 4 = .ok (.arraylength, 1) := by decide +kernel
theorem d1_5 : decode jdk_42_method_3_code 5 = .ok (.aconst_null, 1) := by decide +kernel
theorem d1_6 : decode jdk_42_method_3_code 6 = .ok (.invokespecial 27, 3) := by decide +kernel
theorem pd___CIILjava_lang_Void__V : parseMethodDescriptor "([CIILjava/lang/Void;)V" = some ⟨[(.array .char), .int, .int, (.object "java/lang/Void")], none⟩ := by decide +kernel
theorem d1_9 : decode jdk_42_method_3_code 9 = .ok (.return_, 1) := by decide +kernel
theorem ef_new1_1_0 (m : MethodId) (x0 : Addr) (x1 : Addr) : entryFrame m #[(.ref x0), (.ref x1)] 2 = mkF m 0 #[.val (.ref x0), .val (.ref x1)] [] := by first | (simp [entryFrame, mkF, argsToLocals, Value.category]; done) | rfl
def Qnew1_1_0 (Z : State) (xs : Addr) (b : Addr) (k_b : ClassId) (c0 zc : Int32) (h0 : Heap) (n0 : Nat) (v : Option Value) (h : Heap) (L : List Loc) : Prop := Fr n0 L ∧ (v = none ∧ Keep h0 h [xs] ∧ ∃ (t : Addr) (k : ClassId), h0.size ≤ t ∧ n0 ≤ t ∧ Fld Z h xs "java/lang/String" "coder" "B" (.int 1) ∧ Fld Z h xs "java/lang/String" "value" "[B" (.ref t) ∧ Arv Z h t k .byte (2 : Int32) [(.int (own_b0 c0)), (.int (own_b1 c0))] (.int (0 : Int32)))
set_option maxRecDepth 65536 in
set_option maxHeartbeats 40000000 in
theorem rmnew1_1_0 (l : Launch) (Z : State) (a0 : Array Value) (hw : ∀ d ∈ tables_1, d.before a0 Z = true) (ws : List Jvm.Cond) (xs : Addr) (b : Addr) (k_b : ClassId) (c0 zc : Int32) (h0 : Heap) (n0 : Nat) (Z0 : n0 ≤ h0.size) (O0 : Old Z n0 h0) (S_AD : Sta Z Z.heap "java/lang/StringUTF16" "$assertionsDisabled" "Z" (.int 1)) (S_HI : Sta Z Z.heap "java/lang/StringUTF16" "HI_BYTE_SHIFT" "I" (.int 0)) (S_LO : Sta Z Z.heap "java/lang/StringUTF16" "LO_BYTE_SHIFT" "I" (.int 8)) (S_C : Sta Z Z.heap "java/lang/String" "COMPACT_STRINGS" "Z" (.int zc)) (P0 : ¬ zc = 0) (g_x : n0 ≤ xs) (E_x : Exa Z h0 xs "java/lang/String") (F_v : Fld Z h0 xs "java/lang/String" "value" "[B" .null) (F_c : Fld Z h0 xs "java/lang/String" "coder" "B" (.int 0)) (V_b : Arv Z h0 b k_b .char (1 : Int32) [(.int c0)] (.int (0 : Int32))) (hxb : xs ≠ b) (hb0 : (255 : Int32) < c0) (hc0 : ¬ c0 < 0 ∧ ¬ (65535 : Int32) < c0) :
    MetFree l (⟨"java/lang/String", "<init>", "([C)V"⟩ : MethodName) (head1 (Jvm.Cond.code (⟨"java/lang/String", "<init>", "([C)V"⟩ : MethodName) jdk_42_method_3_code 2 none :: ws) ({ frames := 5, cells := 2, slots := 3, locals := 74 } : Room)) (fun as0 U => as0 = #[(.ref xs), (.ref b)] ∧ Z.Warmed39 U.vm ∧ U.heap = h0) (fun _ _ _ _ _ => True) (fun _ U oc0 U' => ∃ v L, oc0 = .returned v ∧ Qnew1_1_0 Z xs b k_b c0 zc h0 n0 v U'.heap L ∧ FrameEnd U oc0 U' L ({ frames := 5, cells := 2, slots := 3, locals := 74 } : Room).cells ({ frames := 5, cells := 2, slots := 3, locals := 74 } : Room).slots) := by
  refine MetFree.of_bodySF (plainFor_of_name pn_java_lang_String) hisR ?_
  intro p e s m args below meth c s₁ Bd hml0 hP hK
  obtain ⟨rfl, hZ, hh⟩ := hP
  have hx := Bd.exec
  have hby := Bd.bytes
  have hml : c.maxLocals = 2 := hml0
  have hown : s.vm.findClass "java/lang/String" = some m.cls := findClass_of_methodNamed Bd.named
  have hnm := (name_of_methodNamed Bd.named Bd.method).1
  have X0 : Stand p l e ({ frames := 5, cells := 2, slots := 3, locals := 74 } : Room) s m #[(.ref xs), (.ref b)] below meth c s₁ [] 0 0 := Stand.of_body Bd
  have e0 : s₁.heap = h0 := by rw [← hh, Bd.state]; rfl
  have N0 := Fr.nil n0
  show Gl p e below s (Qnew1_1_0 Z xs b k_b c0 zc h0 n0) ({ frames := 5, cells := 2, slots := 3, locals := 74 } : Room).cells ({ frames := 5, cells := 2, slots := 3, locals := 74 } : Room).slots (s₁.setTop (entryFrame m #[(.ref xs), (.ref b)] 2))
  refine Gl.back (fun _ k => castTop (ef_new1_1_0 m xs b) k) ?_
  show Gl _ _ _ _ _ _ _ (s₁.setTop (mkF m 0 #[.val (.ref xs), .val (.ref b)] []))
  refine Gl.back (fun _ k => XS.aloadN X0.here hx rfl (hb hby d1_0) rfl rfl k) ?_
  show Gl _ _ _ _ _ _ _ (s₁.setTop (mkF m 1 #[.val (.ref xs), .val (.ref b)] [(.ref xs)]))
  refine Gl.back (fun _ k => XS.aloadN X0.here hx rfl (hb hby d1_1) rfl rfl k) ?_
  show Gl _ _ _ _ _ _ _ (s₁.setTop (mkF m 2 #[.val (.ref xs), .val (.ref b)] [(.ref b), (.ref xs)]))
  refine Gl.back (fun _ k => XS.iconst X0.here hx rfl (hb hby d1_2) k) ?_
  show Gl _ _ _ _ _ _ _ (s₁.setTop (mkF m 3 #[.val (.ref xs), .val (.ref b)] [(.int (0 : Int32)), (.ref b), (.ref xs)]))
  refine Gl.back (fun _ k => XS.aloadN X0.here hx rfl (hb hby d1_3) rfl rfl k) ?_
  show Gl _ _ _ _ _ _ _ (s₁.setTop (mkF m 4 #[.val (.ref xs), .val (.ref b)] [(.ref b), (.int (0 : Int32)), (.ref b), (.ref xs)]))
  obtain ⟨cl73, Ar73, -, Sz73, Nn73, -, -⟩ := id V_b
  refine Gl.back (fun _ k => X0.arraylength hx (by rw [e0]; exact Ar73.1) (State.isArrayOf_alike hZ.alike Ar73.2.1) (g := (mkF m 4 #[.val (.ref xs), .val (.ref b)] [(.ref b), (.int (0 : Int32)), (.ref b), (.ref xs)])) rfl rfl (hb hby d1_4) _ k) ?_
  rw [len_of Sz73 Nn73]
  show Gl _ _ _ _ _ _ _ (s₁.setTop (mkF m 5 #[.val (.ref xs), .val (.ref b)] [(.int (1 : Int32)), (.int (0 : Int32)), (.ref b), (.ref xs)]))
  refine Gl.back (fun _ k => XS.aconstNull X0.here hx rfl (hb hby d1_5) k) ?_
  show Gl _ _ _ _ _ _ _ (s₁.setTop (mkF m 6 #[.val (.ref xs), .val (.ref b)] [.null, (.int (1 : Int32)), (.int (0 : Int32)), (.ref b), (.ref xs)]))
  obtain ⟨_, _, ⟨T74, L74, k74, n74⟩, -, X74, ⟨Lc74, hQ74, l74, y74, z74⟩, st74⟩ := X0.specialBack hx (y := (⟨"java/lang/String", "<init>", "([CIILjava/lang/Void;)V"⟩ : MethodName)) rfl hown (mvT hZ (hw _ (List.mem_of_getElem? (i := 8) rfl))) (mvT hZ (hw _ (List.mem_of_getElem? (i := 9) rfl))) (mvT hZ (hw _ (List.mem_of_getElem? (i := 11) rfl))) (by decide) (backOf (W := 0) (rmnew4_1_0 l Z a0 hw [] xs b k_b c0 zc h0 n0 Z0 O0 S_AD S_HI S_LO S_C P0 g_x E_x F_v F_c V_b hxb hb0 hc0) hZ (hw _ (List.mem_of_getElem? (i := 11) rfl)) (hw _ (List.mem_of_getElem? (i := 4) rfl)) (by decide) (by decide)) (g := (mkF m 6 #[.val (.ref xs), .val (.ref b)] [.null, (.int (1 : Int32)), (.int (0 : Int32)), (.ref b), (.ref xs)])) rfl (by rw [hml]; rfl) (Steps.refl _) (a := xs) (argsL := [(.ref b), (.int (0 : Int32)), (.int (1 : Int32)), .null]) (rest := []) (lenOf pd___CIILjava_lang_Void__V rfl) rfl (by show 2 * 0 + _ ≤ _; exact Nat.le_of_eq rfl) (hb hby d1_6) (fun _ _ => ⟨rfl, e0, (by decide : 0 + 2 ≤ _), (by decide : 0 + 3 ≤ _)⟩)
  dsimp only [Pt.U, Pt.locs, Pt.cells, Pt.slots] at X74 l74 y74 z74 st74 hQ74
  replace l74 := Eq.symm l74
  replace y74 := Eq.symm y74
  replace z74 := Eq.symm z74
  subst l74 y74 z74
  obtain ⟨Nq74, rfl, Kq74, t74, k074, Sz74, Gz74, Fc74, Fv74, V74⟩ := hQ74
  have N74 := Fr.app N0 Nq74
  have Kc74 := Keep.trans (Keep.refl h0 [xs]) Kq74 (allS (Or.inl (List.mem_of_getElem? (i := 0) rfl)) all0)
  have Zc74 : n0 ≤ T74.heap.size := Nat.le_trans Z0 Kq74.1
  have Oc74 := Old.keep O0 Kq74 (allS g_x all0)
  have ne_xs_t74 : xs ≠ t74 := Nat.ne_of_lt (Nat.lt_of_lt_of_le (E_x).lt Sz74)
  have ne_b_t74 : b ≠ t74 := Nat.ne_of_lt (Nat.lt_of_lt_of_le (V_b).lt Sz74)
  have sz_t74 : h0.size ≤ t74 := Nat.le_trans (Keep.refl h0 [xs]).1 Sz74
  refine Gl.back (fun _ k => st74.trans k) ?_
  show Gl _ _ _ _ _ _ _ (T74.setTop (mkF m 9 #[.val (.ref xs), .val (.ref b)] []))
  exact Gl.ret X74 rfl (v := none) (fun _ => rfl) Bd.notSynchronized (fun fs hr => X74.returnOut hx Bd.returns (hb hby d1_9) hr) ⟨N74, rfl, Kc74, t74, k074, sz_t74, Gz74, Fc74, Fv74, V74⟩ (by decide) (by decide)
theorem ef_cp5_2_0 (m : MethodId) (x0 : Addr) (x2 : Addr) : entryFrame m #[(.ref x0), (.int (0 : Int32)), (.ref x2), (.int (0 : Int32)), (.int (2 : Int32))] 7 = mkF m 0 #[.val (.ref x0), .val (.int (0 : Int32)), .val (.ref x2), .val (.int (0 : Int32)), .val (.int (2 : Int32)), .unset, .unset] [] := by first | (simp [entryFrame, mkF, argsToLocals, Value.category]; done) | rfl
def Qcp5_2_0 (Z : State) (b : Addr) (d : Addr) (k_b k_d : ClassId) (c0 c1 : Int32) (h0 : Heap) (n0 : Nat) (v : Option Value) (h : Heap) (L : List Loc) : Prop := Fr n0 L ∧ (v = some (.int 0) ∧ Keep h0 h [d])
set_option maxRecDepth 65536 in
set_option maxHeartbeats 40000000 in
theorem rmcp5_2_0 (l : Launch) (Z : State) (a0 : Array Value) (hw : ∀ d ∈ tables_1, d.before a0 Z = true) (ws : List Jvm.Cond) (b : Addr) (d : Addr) (k_b k_d : ClassId) (c0 c1 : Int32) (h0 : Heap) (n0 : Nat) (Z0 : n0 ≤ h0.size) (g_d : n0 ≤ d) (V_b : Arv Z h0 b k_b .char (2 : Int32) [(.int c0), (.int c1)] (.int (0 : Int32))) (V_d : Arv Z h0 d k_d .byte (2 : Int32) [(.int (0 : Int32)), (.int (0 : Int32))] (.int (0 : Int32))) (hbd : b ≠ d) (hb0 : (255 : Int32) < c0) :
    MetFree l (⟨"java/lang/StringUTF16", "compress", "([CI[BII)I"⟩ : MethodName) (head1 (Jvm.Cond.code (⟨"java/lang/StringUTF16", "compress", "([CI[BII)I"⟩ : MethodName) jdk_52_method_21_code 7 (some .int) :: ws) ({ frames := 0, cells := 0, slots := 0, locals := 0 } : Room)) (fun as0 U => as0 = #[(.ref b), (.int (0 : Int32)), (.ref d), (.int (0 : Int32)), (.int (2 : Int32))] ∧ Z.Warmed39 U.vm ∧ U.heap = h0) (fun _ _ _ _ _ => True) (fun _ U oc0 U' => ∃ v L, oc0 = .returned v ∧ Qcp5_2_0 Z b d k_b k_d c0 c1 h0 n0 v U'.heap L ∧ FrameEnd U oc0 U' L ({ frames := 0, cells := 0, slots := 0, locals := 0 } : Room).cells ({ frames := 0, cells := 0, slots := 0, locals := 0 } : Room).slots) := by
  refine MetFree.of_bodySF (plainFor_of_name pn_java_lang_StringUTF16) hisR ?_
  intro p e s m args below meth c s₁ Bd hml0 hP hK
  obtain ⟨rfl, hZ, hh⟩ := hP
  have hx := Bd.exec
  have hby := Bd.bytes
  have hml : c.maxLocals = 7 := hml0
  have hown : s.vm.findClass "java/lang/StringUTF16" = some m.cls := findClass_of_methodNamed Bd.named
  have hnm := (name_of_methodNamed Bd.named Bd.method).1
  have X0 : Stand p l e ({ frames := 0, cells := 0, slots := 0, locals := 0 } : Room) s m #[(.ref b), (.int (0 : Int32)), (.ref d), (.int (0 : Int32)), (.int (2 : Int32))] below meth c s₁ [] 0 0 := Stand.of_body Bd
  have e0 : s₁.heap = h0 := by rw [← hh, Bd.state]; rfl
  have N0 := Fr.nil n0
  show Gl p e below s (Qcp5_2_0 Z b d k_b k_d c0 c1 h0 n0) ({ frames := 0, cells := 0, slots := 0, locals := 0 } : Room).cells ({ frames := 0, cells := 0, slots := 0, locals := 0 } : Room).slots (s₁.setTop (entryFrame m #[(.ref b), (.int (0 : Int32)), (.ref d), (.int (0 : Int32)), (.int (2 : Int32))] 7))
  refine Gl.back (fun _ k => castTop (ef_cp5_2_0 m b d) k) ?_
  show Gl _ _ _ _ _ _ _ (s₁.setTop (mkF m 0 #[.val (.ref b), .val (.int (0 : Int32)), .val (.ref d), .val (.int (0 : Int32)), .val (.int (2 : Int32)), .unset, .unset] []))
  refine Gl.back (fun _ k => XS.iconst X0.here hx rfl (hb hby d5_0) k) ?_
  show Gl _ _ _ _ _ _ _ (s₁.setTop (mkF m 1 #[.val (.ref b), .val (.int (0 : Int32)), .val (.ref d), .val (.int (0 : Int32)), .val (.int (2 : Int32)), .unset, .unset] [(.int (0 : Int32))]))
  refine Gl.back (fun _ k => XS.istore X0.here hx rfl (hb hby d5_1) rfl (l' := #[.val (.ref b), .val (.int (0 : Int32)), .val (.ref d), .val (.int (0 : Int32)), .val (.int (2 : Int32)), .val (.int (0 : Int32)), .unset]) rfl k) ?_
  show Gl _ _ _ _ _ _ _ (s₁.setTop (mkF m 3 #[.val (.ref b), .val (.int (0 : Int32)), .val (.ref d), .val (.int (0 : Int32)), .val (.int (2 : Int32)), .val (.int (0 : Int32)), .unset] []))
  refine Gl.back (fun _ k => XS.iload X0.here hx rfl (hb hby d5_3) rfl k) ?_
  show Gl _ _ _ _ _ _ _ (s₁.setTop (mkF m 5 #[.val (.ref b), .val (.int (0 : Int32)), .val (.ref d), .val (.int (0 : Int32)), .val (.int (2 : Int32)), .val (.int (0 : Int32)), .unset] [(.int (0 : Int32))]))
  refine Gl.back (fun _ k => XS.iload X0.here hx rfl (hb hby d5_5) rfl k) ?_
  show Gl _ _ _ _ _ _ _ (s₁.setTop (mkF m 7 #[.val (.ref b), .val (.int (0 : Int32)), .val (.ref d), .val (.int (0 : Int32)), .val (.int (2 : Int32)), .val (.int (0 : Int32)), .unset] [(.int (2 : Int32)), (.int (0 : Int32))]))
  refine Gl.back (fun _ k => XS.icmpNo X0.here hx rfl (hb hby d5_7) rfl (tlt (by decide : (0 : Int32) < (2 : Int32))).2.1 k) ?_
  show Gl _ _ _ _ _ _ _ (s₁.setTop (mkF m 10 #[.val (.ref b), .val (.int (0 : Int32)), .val (.ref d), .val (.int (0 : Int32)), .val (.int (2 : Int32)), .val (.int (0 : Int32)), .unset] []))
  refine Gl.back (fun _ k => XS.aloadN X0.here hx rfl (hb hby d5_10) rfl rfl k) ?_
  show Gl _ _ _ _ _ _ _ (s₁.setTop (mkF m 11 #[.val (.ref b), .val (.int (0 : Int32)), .val (.ref d), .val (.int (0 : Int32)), .val (.int (2 : Int32)), .val (.int (0 : Int32)), .unset] [(.ref b)]))
  refine Gl.back (fun _ k => XS.iloadN X0.here hx rfl (hb hby d5_11) rfl k) ?_
  show Gl _ _ _ _ _ _ _ (s₁.setTop (mkF m 12 #[.val (.ref b), .val (.int (0 : Int32)), .val (.ref d), .val (.int (0 : Int32)), .val (.int (2 : Int32)), .val (.int (0 : Int32)), .unset] [(.int (0 : Int32)), (.ref b)]))
  obtain ⟨cl75, Ar75, q75, Sz75, Nn75, Hs75, Gf75⟩ := id V_b
  have hin75 : ¬ ((0 : Int32) < 0 ∨ cl75.slots.size ≤ ((0 : Int32)).toNatClampNeg) := inb_of Sz75 ⟨by decide, by decide⟩
  have hat75 : cl75.slots[((0 : Int32)).toNatClampNeg]? = some (.int c0) := Hs75.at hin75 (rfl)
  refine Gl.back (fun _ k => X0.caload hx (j := (0 : Int32)) (v := (.int c0)) (by rw [e0]; exact Ar75.1) (State.isArrayOf_alike hZ.alike Ar75.2.1) Ar75.2.2 hin75 hat75 (g := (mkF m 12 #[.val (.ref b), .val (.int (0 : Int32)), .val (.ref d), .val (.int (0 : Int32)), .val (.int (2 : Int32)), .val (.int (0 : Int32)), .unset] [(.int (0 : Int32)), (.ref b)])) rfl rfl (hb hby d5_12) _ k) ?_
  show Gl _ _ _ _ _ _ _ (s₁.setTop (mkF m 13 #[.val (.ref b), .val (.int (0 : Int32)), .val (.ref d), .val (.int (0 : Int32)), .val (.int (2 : Int32)), .val (.int (0 : Int32)), .unset] [(.int c0)]))
  refine Gl.back (fun _ k => XS.istore X0.here hx rfl (hb hby d5_13) rfl (l' := #[.val (.ref b), .val (.int (0 : Int32)), .val (.ref d), .val (.int (0 : Int32)), .val (.int (2 : Int32)), .val (.int (0 : Int32)), .val (.int c0)]) rfl k) ?_
  show Gl _ _ _ _ _ _ _ (s₁.setTop (mkF m 15 #[.val (.ref b), .val (.int (0 : Int32)), .val (.ref d), .val (.int (0 : Int32)), .val (.int (2 : Int32)), .val (.int (0 : Int32)), .val (.int c0)] []))
  refine Gl.back (fun _ k => XS.iload X0.here hx rfl (hb hby d5_15) rfl k) ?_
  show Gl _ _ _ _ _ _ _ (s₁.setTop (mkF m 17 #[.val (.ref b), .val (.int (0 : Int32)), .val (.ref d), .val (.int (0 : Int32)), .val (.int (2 : Int32)), .val (.int (0 : Int32)), .val (.int c0)] [(.int c0)]))
  refine Gl.back (fun _ k => XS.sipush X0.here hx rfl (hb hby d5_17) k) ?_
  show Gl _ _ _ _ _ _ _ (s₁.setTop (mkF m 20 #[.val (.ref b), .val (.int (0 : Int32)), .val (.ref d), .val (.int (0 : Int32)), .val (.int (2 : Int32)), .val (.int (0 : Int32)), .val (.int c0)] [(.int (255 : Int32)), (.int c0)]))
  refine Gl.back (fun _ k => XS.icmpNo X0.here hx rfl (hb hby d5_20) rfl (tlt (hb0 : (255 : Int32) < c0)).2.2.2 k) ?_
  show Gl _ _ _ _ _ _ _ (s₁.setTop (mkF m 23 #[.val (.ref b), .val (.int (0 : Int32)), .val (.ref d), .val (.int (0 : Int32)), .val (.int (2 : Int32)), .val (.int (0 : Int32)), .val (.int c0)] []))
  refine Gl.back (fun _ k => XS.iload X0.here hx rfl (hb hby d5_23) rfl k) ?_
  show Gl _ _ _ _ _ _ _ (s₁.setTop (mkF m 25 #[.val (.ref b), .val (.int (0 : Int32)), .val (.ref d), .val (.int (0 : Int32)), .val (.int (2 : Int32)), .val (.int (0 : Int32)), .val (.int c0)] [(.int (0 : Int32))]))
  exact Gl.ret X0 e0 (v := (some (.int (0 : Int32)))) (fun h => by rw [Bd.returns] at h; cases h) Bd.notSynchronized (fun fs hr => retOut X0 hx (w := (.int (0 : Int32))) Bd.returns rfl (Or.inl ⟨rfl, Or.inl rfl, _, rfl⟩) (hb hby d5_25) hr) ⟨N0, rfl, (Keep.refl h0 [d])⟩ (by decide) (by decide)
theorem ef_cp3_2_0 (m : MethodId) (x0 : Addr) : entryFrame m #[(.ref x0), (.int (0 : Int32)), (.int (2 : Int32))] 6 = mkF m 0 #[.val (.ref x0), .val (.int (0 : Int32)), .val (.int (2 : Int32)), .unset, .unset, .unset] [] := by first | (simp [entryFrame, mkF, argsToLocals, Value.category]; done) | rfl
def Qcp3_2_0 (Z : State) (b : Addr) (k_b : ClassId) (c0 c1 : Int32) (h0 : Heap) (n0 : Nat) (v : Option Value) (h : Heap) (L : List Loc) : Prop := Fr n0 L ∧ (∃ (t : Addr) (k : ClassId), v = some (.ref t) ∧ Keep h0 h [] ∧ h0.size ≤ t ∧ n0 ≤ t ∧ Arv Z h t k .byte (4 : Int32) [(.int (own_b0 c0)), (.int (own_b1 c0)), (.int (own_b0 c1)), (.int (own_b1 c1))] (.int (0 : Int32)))
set_option maxRecDepth 65536 in
set_option maxHeartbeats 40000000 in
theorem rmcp3_2_0 (l : Launch) (Z : State) (a0 : Array Value) (hw : ∀ d ∈ tables_1, d.before a0 Z = true) (ws : List Jvm.Cond) (b : Addr) (k_b : ClassId) (c0 c1 : Int32) (h0 : Heap) (n0 : Nat) (Z0 : n0 ≤ h0.size) (O0 : Old Z n0 h0) (S_AD : Sta Z Z.heap "java/lang/StringUTF16" "$assertionsDisabled" "Z" (.int 1)) (S_HI : Sta Z Z.heap "java/lang/StringUTF16" "HI_BYTE_SHIFT" "I" (.int 0)) (S_LO : Sta Z Z.heap "java/lang/StringUTF16" "LO_BYTE_SHIFT" "I" (.int 8)) (V_b : Arv Z h0 b k_b .char (2 : Int32) [(.int c0), (.int c1)] (.int (0 : Int32))) (hb0 : (255 : Int32) < c0) (hc0 : ¬ c0 < 0 ∧ ¬ (65535 : Int32) < c0) (hc1 : ¬ c1 < 0 ∧ ¬ (65535 : Int32) < c1) :
    MetFree l (⟨"java/lang/StringUTF16", "compress", "([CII)[B"⟩ : MethodName) (head1 (Jvm.Cond.code (⟨"java/lang/StringUTF16", "compress", "([CII)[B"⟩ : MethodName) jdk_52_method_16_code 6 (some (.array .byte)) :: ws) ({ frames := 3, cells := 2, slots := 6, locals := 40 } : Room)) (fun as0 U => as0 = #[(.ref b), (.int (0 : Int32)), (.int (2 : Int32))] ∧ Z.Warmed39 U.vm ∧ U.heap = h0) (fun _ _ _ _ _ => True) (fun _ U oc0 U' => ∃ v L, oc0 = .returned v ∧ Qcp3_2_0 Z b k_b c0 c1 h0 n0 v U'.heap L ∧ FrameEnd U oc0 U' L ({ frames := 3, cells := 2, slots := 6, locals := 40 } : Room).cells ({ frames := 3, cells := 2, slots := 6, locals := 40 } : Room).slots) := by
  refine MetFree.of_bodySF (plainFor_of_name pn_java_lang_StringUTF16) hisR ?_
  intro p e s m args below meth c s₁ Bd hml0 hP hK
  obtain ⟨rfl, hZ, hh⟩ := hP
  have hx := Bd.exec
  have hby := Bd.bytes
  have hml : c.maxLocals = 6 := hml0
  have hown : s.vm.findClass "java/lang/StringUTF16" = some m.cls := findClass_of_methodNamed Bd.named
  have hnm := (name_of_methodNamed Bd.named Bd.method).1
  have X0 : Stand p l e ({ frames := 3, cells := 2, slots := 6, locals := 40 } : Room) s m #[(.ref b), (.int (0 : Int32)), (.int (2 : Int32))] below meth c s₁ [] 0 0 := Stand.of_body Bd
  have e0 : s₁.heap = h0 := by rw [← hh, Bd.state]; rfl
  have N0 := Fr.nil n0
  show Gl p e below s (Qcp3_2_0 Z b k_b c0 c1 h0 n0) ({ frames := 3, cells := 2, slots := 6, locals := 40 } : Room).cells ({ frames := 3, cells := 2, slots := 6, locals := 40 } : Room).slots (s₁.setTop (entryFrame m #[(.ref b), (.int (0 : Int32)), (.int (2 : Int32))] 6))
  refine Gl.back (fun _ k => castTop (ef_cp3_2_0 m b) k) ?_
  show Gl _ _ _ _ _ _ _ (s₁.setTop (mkF m 0 #[.val (.ref b), .val (.int (0 : Int32)), .val (.int (2 : Int32)), .unset, .unset, .unset] []))
  refine Gl.back (fun _ k => XS.iloadN X0.here hx rfl (hb hby d4_0) rfl k) ?_
  show Gl _ _ _ _ _ _ _ (s₁.setTop (mkF m 1 #[.val (.ref b), .val (.int (0 : Int32)), .val (.int (2 : Int32)), .unset, .unset, .unset] [(.int (2 : Int32))]))
  obtain ⟨T76, h76, k76, X76, e76, E76, A76, st76⟩ := newP X0 hx hZ (hw _ (List.mem_of_getElem? (i := 20) rfl)) e0 (g := (mkF m 1 #[.val (.ref b), .val (.int (0 : Int32)), .val (.int (2 : Int32)), .unset, .unset, .unset] [(.int (2 : Int32))])) rfl (hb hby d4_1) rfl (by decide) (cap := 2) (by decide) (by decide) (by decide) (by decide)
  obtain ⟨b76, g76⟩ : ∃ z, z = h0.size := ⟨_, rfl⟩
  rw [← g76] at A76 st76
  have V76 : Arv Z h76 b76 k76 .byte (2 : Int32) [(.int (0 : Int32)), (.int (0 : Int32))] (.int (0 : Int32)) := (Arv.new A76 (by decide)).pad (pad_rep [] (.int (0 : Int32)) 2)
  have ne_b_b76 : b ≠ b76 := Nat.ne_of_lt (Nat.lt_of_lt_of_le V_b.lt (Nat.le_of_eq g76.symm))
  have g_b76 : n0 ≤ b76 := Nat.le_trans Z0 (Nat.le_of_eq g76.symm)
  have sz_b76 : h0.size ≤ b76 := Nat.le_trans (Keep.refl h0 []).1 (Nat.le_of_eq g76.symm)
  have Z76 : n0 ≤ h76.size := Nat.le_trans Z0 E76.1
  have K76 := Keep.ext (Keep.refl h0 []) E76
  have O76 := Old.ext O0 E76
  refine Gl.back (fun _ k => st76 _ k) ?_
  show Gl _ _ _ _ _ _ _ (T76.setTop (mkF m 3 #[.val (.ref b), .val (.int (0 : Int32)), .val (.int (2 : Int32)), .unset, .unset, .unset] [(.ref b76)]))
  refine Gl.back (fun _ k => XS.astoreN X76.here hx rfl (hb hby d4_3) rfl rfl (l' := #[.val (.ref b), .val (.int (0 : Int32)), .val (.int (2 : Int32)), .val (.ref b76), .unset, .unset]) rfl k) ?_
  show Gl _ _ _ _ _ _ _ (T76.setTop (mkF m 4 #[.val (.ref b), .val (.int (0 : Int32)), .val (.int (2 : Int32)), .val (.ref b76), .unset, .unset] []))
  refine Gl.back (fun _ k => XS.aloadN X76.here hx rfl (hb hby d4_4) rfl rfl k) ?_
  show Gl _ _ _ _ _ _ _ (T76.setTop (mkF m 5 #[.val (.ref b), .val (.int (0 : Int32)), .val (.int (2 : Int32)), .val (.ref b76), .unset, .unset] [(.ref b)]))
  refine Gl.back (fun _ k => XS.iloadN X76.here hx rfl (hb hby d4_5) rfl k) ?_
  show Gl _ _ _ _ _ _ _ (T76.setTop (mkF m 6 #[.val (.ref b), .val (.int (0 : Int32)), .val (.int (2 : Int32)), .val (.ref b76), .unset, .unset] [(.int (0 : Int32)), (.ref b)]))
  refine Gl.back (fun _ k => XS.aloadN X76.here hx rfl (hb hby d4_6) rfl rfl k) ?_
  show Gl _ _ _ _ _ _ _ (T76.setTop (mkF m 7 #[.val (.ref b), .val (.int (0 : Int32)), .val (.int (2 : Int32)), .val (.ref b76), .unset, .unset] [(.ref b76), (.int (0 : Int32)), (.ref b)]))
  refine Gl.back (fun _ k => XS.iconst X76.here hx rfl (hb hby d4_7) k) ?_
  show Gl _ _ _ _ _ _ _ (T76.setTop (mkF m 8 #[.val (.ref b), .val (.int (0 : Int32)), .val (.int (2 : Int32)), .val (.ref b76), .unset, .unset] [(.int (0 : Int32)), (.ref b76), (.int (0 : Int32)), (.ref b)]))
  refine Gl.back (fun _ k => XS.iloadN X76.here hx rfl (hb hby d4_8) rfl k) ?_
  show Gl _ _ _ _ _ _ _ (T76.setTop (mkF m 9 #[.val (.ref b), .val (.int (0 : Int32)), .val (.int (2 : Int32)), .val (.ref b76), .unset, .unset] [(.int (2 : Int32)), (.int (0 : Int32)), (.ref b76), (.int (0 : Int32)), (.ref b)]))
  have f78 := (V_b.ext E76)
  obtain ⟨_, _, ⟨T77, L77, k77, n77⟩, -, X77, ⟨Lc77, hQ77, l77, y77, z77⟩, st77⟩ := Jvm.LawKit.callS X76 hx (y := (⟨"java/lang/StringUTF16", "compress", "([CI[BII)I"⟩ : MethodName)) hown (mvT hZ (hw _ (List.mem_of_getElem? (i := 21) rfl))) (mvT hZ (hw _ (List.mem_of_getElem? (i := 22) rfl))) (mvT hZ (hw _ (List.mem_of_getElem? (i := 18) rfl))) (mvT hZ (hw _ (List.mem_of_getElem? (i := 23) rfl))) (by decide) (backOf (W := 0) (rmcp5_2_0 l Z a0 hw [] b b76 k_b k76 c0 c1 h76 n0 Z76 g_b76 f78 V76 ne_b_b76 hb0) hZ (hw _ (List.mem_of_getElem? (i := 23) rfl)) (hw _ (List.mem_of_getElem? (i := 18) rfl)) (by decide) (by decide)) (g := (mkF m 9 #[.val (.ref b), .val (.int (0 : Int32)), .val (.int (2 : Int32)), .val (.ref b76), .unset, .unset] [(.int (2 : Int32)), (.int (0 : Int32)), (.ref b76), (.int (0 : Int32)), (.ref b)])) rfl (by rw [hml]; rfl) (argsL := [(.ref b), (.int (0 : Int32)), (.ref b76), (.int (0 : Int32)), (.int (2 : Int32))]) (rest := []) (lenOf pd___CI_BII_I rfl) rfl (by show 2 * 0 + _ ≤ _; exact Nat.le_of_eq rfl) (hb hby d4_9) (fun _ _ => ⟨rfl, e76, (by decide : 1 + 0 ≤ _), (by decide : 2 + 0 ≤ _)⟩)
  dsimp only [Pt.U, Pt.locs, Pt.cells, Pt.slots] at X77 l77 y77 z77 st77 hQ77
  replace l77 := Eq.symm l77
  replace y77 := Eq.symm y77
  replace z77 := Eq.symm z77
  subst l77 y77 z77
  obtain ⟨Nq77, rfl, Kq77⟩ := hQ77
  have N77 := Fr.app N0 Nq77
  have Kc77 := Keep.trans K76 Kq77 (allS (Or.inr sz_b76) all0)
  have Zc77 : n0 ≤ T77.heap.size := Nat.le_trans Z76 Kq77.1
  have Oc77 := Old.keep O76 Kq77 (allS g_b76 all0)
  refine Gl.back (fun _ k => st77 _ k) ?_
  show Gl _ _ _ _ _ _ _ (T77.setTop (mkF m 12 #[.val (.ref b), .val (.int (0 : Int32)), .val (.int (2 : Int32)), .val (.ref b76), .unset, .unset] [(.int (0 : Int32))]))
  refine Gl.back (fun _ k => XS.istore X77.here hx rfl (hb hby d4_12) rfl (l' := #[.val (.ref b), .val (.int (0 : Int32)), .val (.int (2 : Int32)), .val (.ref b76), .val (.int (0 : Int32)), .unset]) rfl k) ?_
  show Gl _ _ _ _ _ _ _ (T77.setTop (mkF m 14 #[.val (.ref b), .val (.int (0 : Int32)), .val (.int (2 : Int32)), .val (.ref b76), .val (.int (0 : Int32)), .unset] []))
  refine Gl.back (fun _ k => XS.iload X77.here hx rfl (hb hby d4_14) rfl k) ?_
  show Gl _ _ _ _ _ _ _ (T77.setTop (mkF m 16 #[.val (.ref b), .val (.int (0 : Int32)), .val (.int (2 : Int32)), .val (.ref b76), .val (.int (0 : Int32)), .unset] [(.int (0 : Int32))]))
  refine Gl.back (fun _ k => XS.iloadN X77.here hx rfl (hb hby d4_16) rfl k) ?_
  show Gl _ _ _ _ _ _ _ (T77.setTop (mkF m 17 #[.val (.ref b), .val (.int (0 : Int32)), .val (.int (2 : Int32)), .val (.ref b76), .val (.int (0 : Int32)), .unset] [(.int (2 : Int32)), (.int (0 : Int32))]))
  refine Gl.back (fun _ k => XS.icmpNo X77.here hx rfl (hb hby d4_17) rfl (feq (by decide : ¬ (0 : Int32) = (2 : Int32))).1 k) ?_
  show Gl _ _ _ _ _ _ _ (T77.setTop (mkF m 20 #[.val (.ref b), .val (.int (0 : Int32)), .val (.int (2 : Int32)), .val (.ref b76), .val (.int (0 : Int32)), .unset] []))
  refine Gl.back (fun _ k => XS.aloadN X77.here hx rfl (hb hby d4_20) rfl rfl k) ?_
  show Gl _ _ _ _ _ _ _ (T77.setTop (mkF m 21 #[.val (.ref b), .val (.int (0 : Int32)), .val (.int (2 : Int32)), .val (.ref b76), .val (.int (0 : Int32)), .unset] [(.ref b)]))
  refine Gl.back (fun _ k => XS.iloadN X77.here hx rfl (hb hby d4_21) rfl k) ?_
  show Gl _ _ _ _ _ _ _ (T77.setTop (mkF m 22 #[.val (.ref b), .val (.int (0 : Int32)), .val (.int (2 : Int32)), .val (.ref b76), .val (.int (0 : Int32)), .unset] [(.int (0 : Int32)), (.ref b)]))
  refine Gl.back (fun _ k => XS.iloadN X77.here hx rfl (hb hby d4_22) rfl k) ?_
  show Gl _ _ _ _ _ _ _ (T77.setTop (mkF m 23 #[.val (.ref b), .val (.int (0 : Int32)), .val (.int (2 : Int32)), .val (.ref b76), .val (.int (0 : Int32)), .unset] [(.int (2 : Int32)), (.int (0 : Int32)), (.ref b)]))
  have f80 := (f78.keep Kq77 (ninS ne_b_b76 nin0))
  obtain ⟨_, _, ⟨T79, L79, k79, n79⟩, -, X79, ⟨Lc79, hQ79, l79, y79, z79⟩, st79⟩ := Jvm.LawKit.callS X77 hx (y := (⟨"java/lang/StringUTF16", "toBytes", "([CII)[B"⟩ : MethodName)) hown (mvT hZ (hw _ (List.mem_of_getElem? (i := 92) rfl))) (mvT hZ (hw _ (List.mem_of_getElem? (i := 93) rfl))) (mvT hZ (hw _ (List.mem_of_getElem? (i := 18) rfl))) (mvT hZ (hw _ (List.mem_of_getElem? (i := 94) rfl))) (by decide) (backOf (W := 0) (rmtob_2 l Z a0 hw [] b k_b c0 c1 T77.heap n0 Zc77 Oc77 S_AD S_HI S_LO f80) hZ (hw _ (List.mem_of_getElem? (i := 94) rfl)) (hw _ (List.mem_of_getElem? (i := 18) rfl)) (by decide) (by decide)) (g := (mkF m 23 #[.val (.ref b), .val (.int (0 : Int32)), .val (.int (2 : Int32)), .val (.ref b76), .val (.int (0 : Int32)), .unset] [(.int (2 : Int32)), (.int (0 : Int32)), (.ref b)])) rfl (by rw [hml]; rfl) (argsL := [(.ref b), (.int (0 : Int32)), (.int (2 : Int32))]) (rest := []) (lenOf pd___CII__B rfl) rfl (by show 2 * 0 + _ ≤ _; exact Nat.le_of_eq rfl) (hb hby d4_23) (fun _ _ => ⟨rfl, rfl, (by decide : 1 + 1 ≤ _), (by decide : 2 + 4 ≤ _)⟩)
  dsimp only [Pt.U, Pt.locs, Pt.cells, Pt.slots] at X79 l79 y79 z79 st79 hQ79
  replace l79 := Eq.symm l79
  replace y79 := Eq.symm y79
  replace z79 := Eq.symm z79
  subst l79 y79 z79
  obtain ⟨Nq79, t79, k079, rfl, Kq79, Sz79, Gz79, V79⟩ := hQ79
  have N79 := Fr.app N77 Nq79
  have Kc79 := Keep.trans Kc77 Kq79 all0
  have Zc79 : n0 ≤ T79.heap.size := Nat.le_trans Zc77 Kq79.1
  have Oc79 := Old.keep Oc77 Kq79 all0
  have ne_b_t79 : b ≠ t79 := Nat.ne_of_lt (Nat.lt_of_lt_of_le (f80).lt Sz79)
  have sz_t79 : h0.size ≤ t79 := Nat.le_trans Kc77.1 Sz79
  refine Gl.back (fun _ k => st79 _ k) ?_
  show Gl _ _ _ _ _ _ _ (T79.setTop (mkF m 26 #[.val (.ref b), .val (.int (0 : Int32)), .val (.int (2 : Int32)), .val (.ref b76), .val (.int (0 : Int32)), .unset] [(.ref t79)]))
  refine Gl.back (fun _ k => XS.astore X79.here hx rfl (hb hby d4_26) rfl rfl (l' := #[.val (.ref b), .val (.int (0 : Int32)), .val (.int (2 : Int32)), .val (.ref b76), .val (.int (0 : Int32)), .val (.ref t79)]) rfl k) ?_
  show Gl _ _ _ _ _ _ _ (T79.setTop (mkF m 28 #[.val (.ref b), .val (.int (0 : Int32)), .val (.int (2 : Int32)), .val (.ref b76), .val (.int (0 : Int32)), .val (.ref t79)] []))
  refine Gl.back (fun _ k => XS.aload X79.here hx rfl (hb hby d4_28) rfl rfl k) ?_
  show Gl _ _ _ _ _ _ _ (T79.setTop (mkF m 30 #[.val (.ref b), .val (.int (0 : Int32)), .val (.int (2 : Int32)), .val (.ref b76), .val (.int (0 : Int32)), .val (.ref t79)] [(.ref t79)]))
  refine Gl.back (fun _ k => XS.iload X79.here hx rfl (hb hby d4_30) rfl k) ?_
  show Gl _ _ _ _ _ _ _ (T79.setTop (mkF m 32 #[.val (.ref b), .val (.int (0 : Int32)), .val (.int (2 : Int32)), .val (.ref b76), .val (.int (0 : Int32)), .val (.ref t79)] [(.int (0 : Int32)), (.ref t79)]))
  obtain ⟨_, _, ⟨T81, L81, k81, n81⟩, -, X81, ⟨Lc81, hQ81, l81, y81, z81⟩, st81⟩ := Jvm.LawKit.callS X79 hx (y := (⟨"java/lang/StringUTF16", "getChar", "([BI)C"⟩ : MethodName)) hown (mvT hZ (hw _ (List.mem_of_getElem? (i := 108) rfl))) (mvT hZ (hw _ (List.mem_of_getElem? (i := 109) rfl))) (mvT hZ (hw _ (List.mem_of_getElem? (i := 18) rfl))) (mvT hZ (hw _ (List.mem_of_getElem? (i := 110) rfl))) (by decide) (backOf (W := 0) (rmgch_2_0 l Z a0 hw [] t79 k079 (own_b0 c0) (own_b1 c0) (own_b0 c1) (own_b1 c1) T79.heap n0 Zc79 Oc79 S_AD S_HI S_LO V79) hZ (hw _ (List.mem_of_getElem? (i := 110) rfl)) (hw _ (List.mem_of_getElem? (i := 18) rfl)) (by decide) (by decide)) (g := (mkF m 32 #[.val (.ref b), .val (.int (0 : Int32)), .val (.int (2 : Int32)), .val (.ref b76), .val (.int (0 : Int32)), .val (.ref t79)] [(.int (0 : Int32)), (.ref t79)])) rfl (by rw [hml]; rfl) (argsL := [(.ref t79), (.int (0 : Int32))]) (rest := []) (lenOf pd___BI_C rfl) rfl (by show 2 * 0 + _ ≤ _; exact Nat.le_of_eq rfl) (hb hby d4_32) (fun _ _ => ⟨rfl, rfl, (by decide : 2 + 0 ≤ _), (by decide : 6 + 0 ≤ _)⟩)
  dsimp only [Pt.U, Pt.locs, Pt.cells, Pt.slots] at X81 l81 y81 z81 st81 hQ81
  replace l81 := Eq.symm l81
  replace y81 := Eq.symm y81
  replace z81 := Eq.symm z81
  subst l81 y81 z81
  obtain ⟨Nq81, rfl, eh81⟩ := hQ81
  have N81 := Fr.app N79 Nq81
  refine Gl.back (fun _ k => st81 _ k) ?_
  show Gl _ _ _ _ _ _ _ (T81.setTop (mkF m 35 #[.val (.ref b), .val (.int (0 : Int32)), .val (.int (2 : Int32)), .val (.ref b76), .val (.int (0 : Int32)), .val (.ref t79)] [(.int (own_gc (own_b0 c0) (own_b1 c0)))]))
  refine Gl.back (fun _ k => XS.sipush X81.here hx rfl (hb hby d4_35) k) ?_
  show Gl _ _ _ _ _ _ _ (T81.setTop (mkF m 38 #[.val (.ref b), .val (.int (0 : Int32)), .val (.int (2 : Int32)), .val (.ref b76), .val (.int (0 : Int32)), .val (.ref t79)] [(.int (255 : Int32)), (.int (own_gc (own_b0 c0) (own_b1 c0)))]))
  refine Gl.back (fun _ k => XS.icmpYes X81.here hx rfl (pc0 := 38) (pc' := 54) rfl (hb hby d4_38) rfl (tlt ((by rw [own_gcb hc0]; exact hb0) : (255 : Int32) < (own_gc (own_b0 c0) (own_b1 c0)))).2.2.1 (by decide) (by decide) k) ?_
  show Gl _ _ _ _ _ _ _ (T81.setTop (mkF m 54 #[.val (.ref b), .val (.int (0 : Int32)), .val (.int (2 : Int32)), .val (.ref b76), .val (.int (0 : Int32)), .val (.ref t79)] []))
  refine Gl.back (fun _ k => XS.aload X81.here hx rfl (hb hby d4_54) rfl rfl k) ?_
  show Gl _ _ _ _ _ _ _ (T81.setTop (mkF m 56 #[.val (.ref b), .val (.int (0 : Int32)), .val (.int (2 : Int32)), .val (.ref b76), .val (.int (0 : Int32)), .val (.ref t79)] [(.ref t79)]))
  exact Gl.ret X81 eh81 (v := (some (.ref t79))) (fun h => by rw [Bd.returns] at h; cases h) Bd.notSynchronized (fun fs hr => retOut X81 hx (w := (.ref t79)) Bd.returns rfl (Or.inr (Or.inr (Or.inr (Or.inr ⟨rfl, rfl, rfl⟩)))) (hb hby d4_56) hr) ⟨N81, t79, k079, rfl, Kc79, sz_t79, Gz79, V79⟩ (by decide) (by decide)
theorem ef_new4_2_0 (m : MethodId) (x0 : Addr) (x1 : Addr) : entryFrame m #[(.ref x0), (.ref x1), (.int (0 : Int32)), (.int (2 : Int32)), .null] 6 = mkF m 0 #[.val (.ref x0), .val (.ref x1), .val (.int (0 : Int32)), .val (.int (2 : Int32)), .val .null, .unset] [] := by first | (simp [entryFrame, mkF, argsToLocals, Value.category]; done) | rfl
def Qnew4_2_0 (Z : State) (xs : Addr) (b : Addr) (k_b : ClassId) (c0 c1 zc : Int32) (h0 : Heap) (n0 : Nat) (v : Option Value) (h : Heap) (L : List Loc) : Prop := Fr n0 L ∧ (v = none ∧ Keep h0 h [xs] ∧ ∃ (t : Addr) (k : ClassId), h0.size ≤ t ∧ n0 ≤ t ∧ Fld Z h xs "java/lang/String" "coder" "B" (.int 1) ∧ Fld Z h xs "java/lang/String" "value" "[B" (.ref t) ∧ Arv Z h t k .byte (4 : Int32) [(.int (own_b0 c0)), (.int (own_b1 c0)), (.int (own_b0 c1)), (.int (own_b1 c1))] (.int (0 : Int32)))
set_option maxRecDepth 65536 in
set_option maxHeartbeats 40000000 in
theorem rmnew4_2_0 (l : Launch) (Z : State) (a0 : Array Value) (hw : ∀ d ∈ tables_1, d.before a0 Z = true) (ws : List Jvm.Cond) (xs : Addr) (b : Addr) (k_b : ClassId) (c0 c1 zc : Int32) (h0 : Heap) (n0 : Nat) (Z0 : n0 ≤ h0.size) (O0 : Old Z n0 h0) (S_AD : Sta Z Z.heap "java/lang/StringUTF16" "$assertionsDisabled" "Z" (.int 1)) (S_HI : Sta Z Z.heap "java/lang/StringUTF16" "HI_BYTE_SHIFT" "I" (.int 0)) (S_LO : Sta Z Z.heap "java/lang/StringUTF16" "LO_BYTE_SHIFT" "I" (.int 8)) (S_C : Sta Z Z.heap "java/lang/String" "COMPACT_STRINGS" "Z" (.int zc)) (P0 : ¬ zc = 0) (g_x : n0 ≤ xs) (E_x : Exa Z h0 xs "java/lang/String") (F_v : Fld Z h0 xs "java/lang/String" "value" "[B" .null) (F_c : Fld Z h0 xs "java/lang/String" "coder" "B" (.int 0)) (V_b : Arv Z h0 b k_b .char (2 : Int32) [(.int c0), (.int c1)] (.int (0 : Int32))) (hxb : xs ≠ b) (hb0 : (255 : Int32) < c0) (hc0 : ¬ c0 < 0 ∧ ¬ (65535 : Int32) < c0) (hc1 : ¬ c1 < 0 ∧ ¬ (65535 : Int32) < c1) :
    MetFree l (⟨"java/lang/String", "<init>", "([CIILjava/lang/Void;)V"⟩ : MethodName) (head1 (Jvm.Cond.code (⟨"java/lang/String", "<init>", "([CIILjava/lang/Void;)V"⟩ : MethodName) jdk_42_method_149_code 6 none :: ws) ({ frames := 4, cells := 2, slots := 6, locals := 57 } : Room)) (fun as0 U => as0 = #[(.ref xs), (.ref b), (.int (0 : Int32)), (.int (2 : Int32)), .null] ∧ Z.Warmed39 U.vm ∧ U.heap = h0) (fun _ _ _ _ _ => True) (fun _ U oc0 U' => ∃ v L, oc0 = .returned v ∧ Qnew4_2_0 Z xs b k_b c0 c1 zc h0 n0 v U'.heap L ∧ FrameEnd U oc0 U' L ({ frames := 4, cells := 2, slots := 6, locals := 57 } : Room).cells ({ frames := 4, cells := 2, slots := 6, locals := 57 } : Room).slots) := by
  refine MetFree.of_bodySF (plainFor_of_name pn_java_lang_String) hisR ?_
  intro p e s m args below meth c s₁ Bd hml0 hP hK
  obtain ⟨rfl, hZ, hh⟩ := hP
  have hx := Bd.exec
  have hby := Bd.bytes
  have hml : c.maxLocals = 6 := hml0
  have hown : s.vm.findClass "java/lang/String" = some m.cls := findClass_of_methodNamed Bd.named
  have hnm := (name_of_methodNamed Bd.named Bd.method).1
  have X0 : Stand p l e ({ frames := 4, cells := 2, slots := 6, locals := 57 } : Room) s m #[(.ref xs), (.ref b), (.int (0 : Int32)), (.int (2 : Int32)), .null] below meth c s₁ [] 0 0 := Stand.of_body Bd
  have e0 : s₁.heap = h0 := by rw [← hh, Bd.state]; rfl
  have N0 := Fr.nil n0
  show Gl p e below s (Qnew4_2_0 Z xs b k_b c0 c1 zc h0 n0) ({ frames := 4, cells := 2, slots := 6, locals := 57 } : Room).cells ({ frames := 4, cells := 2, slots := 6, locals := 57 } : Room).slots (s₁.setTop (entryFrame m #[(.ref xs), (.ref b), (.int (0 : Int32)), (.int (2 : Int32)), .null] 6))
  refine Gl.back (fun _ k => castTop (ef_new4_2_0 m xs b) k) ?_
  show Gl _ _ _ _ _ _ _ (s₁.setTop (mkF m 0 #[.val (.ref xs), .val (.ref b), .val (.int (0 : Int32)), .val (.int (2 : Int32)), .val .null, .unset] []))
  refine Gl.back (fun _ k => XS.aloadN X0.here hx rfl (hb hby d2_0) rfl rfl k) ?_
  show Gl _ _ _ _ _ _ _ (s₁.setTop (mkF m 1 #[.val (.ref xs), .val (.ref b), .val (.int (0 : Int32)), .val (.int (2 : Int32)), .val .null, .unset] [(.ref xs)]))
  obtain ⟨T82, X82, e82, st82⟩ := initO X0 hx hZ hown (hw _ (List.mem_of_getElem? (i := 12) rfl)) (hw _ (List.mem_of_getElem? (i := 13) rfl)) (hw _ (List.mem_of_getElem? (i := 14) rfl)) e0 (g := (mkF m 1 #[.val (.ref xs), .val (.ref b), .val (.int (0 : Int32)), .val (.int (2 : Int32)), .val .null, .unset] [(.ref xs)])) rfl (by rw [hml]; rfl) rfl (hb hby d2_1) (by decide) (W := 0) (by show 2 * 0 + _ ≤ _; exact Nat.le_of_eq rfl) (by decide)
  refine Gl.back (fun _ k => st82 _ k) ?_
  show Gl _ _ _ _ _ _ _ (T82.setTop (mkF m 4 #[.val (.ref xs), .val (.ref b), .val (.int (0 : Int32)), .val (.int (2 : Int32)), .val .null, .unset] []))
  refine Gl.back (fun _ k => XS.iloadN X82.here hx rfl (hb hby d2_4) rfl k) ?_
  show Gl _ _ _ _ _ _ _ (T82.setTop (mkF m 5 #[.val (.ref xs), .val (.ref b), .val (.int (0 : Int32)), .val (.int (2 : Int32)), .val .null, .unset] [(.int (2 : Int32))]))
  refine Gl.back (fun _ k => XS.ifYes X82.here hx rfl (pc0 := 5) (pc' := 27) rfl (hb hby d2_5) rfl ((if0 _ _).trans (feq (by decide : ¬ (2 : Int32) = (0 : Int32))).2) (by decide) (by decide) k) ?_
  show Gl _ _ _ _ _ _ _ (T82.setTop (mkF m 27 #[.val (.ref xs), .val (.ref b), .val (.int (0 : Int32)), .val (.int (2 : Int32)), .val .null, .unset] []))
  obtain ⟨T83, X83, e83, st83⟩ := getS2 X82 hx hZ hown (host := "") (Or.inl (hw _ (List.mem_of_getElem? (i := 15) rfl))) Via.refl e82 (S_C.ext O0.2) (g := (mkF m 27 #[.val (.ref xs), .val (.ref b), .val (.int (0 : Int32)), .val (.int (2 : Int32)), .val .null, .unset] [])) rfl (hb hby d2_27)
  refine Gl.back (fun _ k => st83 _ k) ?_
  show Gl _ _ _ _ _ _ _ (T83.setTop (mkF m 30 #[.val (.ref xs), .val (.ref b), .val (.int (0 : Int32)), .val (.int (2 : Int32)), .val .null, .unset] [(.int zc)]))
  refine Gl.back (fun _ k => XS.ifNo X83.here hx rfl (hb hby d2_30) rfl ((if0 _ _).trans (feq (P0 : ¬ zc = (0 : Int32))).1) k) ?_
  show Gl _ _ _ _ _ _ _ (T83.setTop (mkF m 33 #[.val (.ref xs), .val (.ref b), .val (.int (0 : Int32)), .val (.int (2 : Int32)), .val .null, .unset] []))
  refine Gl.back (fun _ k => XS.aloadN X83.here hx rfl (hb hby d2_33) rfl rfl k) ?_
  show Gl _ _ _ _ _ _ _ (T83.setTop (mkF m 34 #[.val (.ref xs), .val (.ref b), .val (.int (0 : Int32)), .val (.int (2 : Int32)), .val .null, .unset] [(.ref b)]))
  refine Gl.back (fun _ k => XS.iloadN X83.here hx rfl (hb hby d2_34) rfl k) ?_
  show Gl _ _ _ _ _ _ _ (T83.setTop (mkF m 35 #[.val (.ref xs), .val (.ref b), .val (.int (0 : Int32)), .val (.int (2 : Int32)), .val .null, .unset] [(.int (0 : Int32)), (.ref b)]))
  refine Gl.back (fun _ k => XS.iloadN X83.here hx rfl (hb hby d2_35) rfl k) ?_
  show Gl _ _ _ _ _ _ _ (T83.setTop (mkF m 36 #[.val (.ref xs), .val (.ref b), .val (.int (0 : Int32)), .val (.int (2 : Int32)), .val .null, .unset] [(.int (2 : Int32)), (.int (0 : Int32)), (.ref b)]))
  obtain ⟨_, _, ⟨T84, L84, k84, n84⟩, -, X84, ⟨Lc84, hQ84, l84, y84, z84⟩, st84⟩ := Jvm.LawKit.callS X83 hx (y := (⟨"java/lang/StringUTF16", "compress", "([CII)[B"⟩ : MethodName)) hown (mvT hZ (hw _ (List.mem_of_getElem? (i := 16) rfl))) (mvT hZ (hw _ (List.mem_of_getElem? (i := 17) rfl))) (mvT hZ (hw _ (List.mem_of_getElem? (i := 18) rfl))) (mvT hZ (hw _ (List.mem_of_getElem? (i := 19) rfl))) (by decide) (backOf (W := 0) (rmcp3_2_0 l Z a0 hw [] b k_b c0 c1 h0 n0 Z0 O0 S_AD S_HI S_LO V_b hb0 hc0 hc1) hZ (hw _ (List.mem_of_getElem? (i := 19) rfl)) (hw _ (List.mem_of_getElem? (i := 18) rfl)) (by decide) (by decide)) (g := (mkF m 36 #[.val (.ref xs), .val (.ref b), .val (.int (0 : Int32)), .val (.int (2 : Int32)), .val .null, .unset] [(.int (2 : Int32)), (.int (0 : Int32)), (.ref b)])) rfl (by rw [hml]; rfl) (argsL := [(.ref b), (.int (0 : Int32)), (.int (2 : Int32))]) (rest := []) (lenOf pd___CII__B rfl) rfl (by show 2 * 0 + _ ≤ _; exact Nat.le_of_eq rfl) (hb hby d2_36) (fun _ _ => ⟨rfl, e83, (by decide : 0 + 2 ≤ _), (by decide : 0 + 6 ≤ _)⟩)
  dsimp only [Pt.U, Pt.locs, Pt.cells, Pt.slots] at X84 l84 y84 z84 st84 hQ84
  replace l84 := Eq.symm l84
  replace y84 := Eq.symm y84
  replace z84 := Eq.symm z84
  subst l84 y84 z84
  obtain ⟨Nq84, t84, k084, rfl, Kq84, Sz84, Gz84, V84⟩ := hQ84
  have N84 := Fr.app N0 Nq84
  have Kc84 := Keep.trans (Keep.refl h0 [xs]) Kq84 all0
  have Zc84 : n0 ≤ T84.heap.size := Nat.le_trans Z0 Kq84.1
  have Oc84 := Old.keep O0 Kq84 all0
  have ne_xs_t84 : xs ≠ t84 := Nat.ne_of_lt (Nat.lt_of_lt_of_le (E_x).lt Sz84)
  have ne_b_t84 : b ≠ t84 := Nat.ne_of_lt (Nat.lt_of_lt_of_le (V_b).lt Sz84)
  have sz_t84 : h0.size ≤ t84 := Nat.le_trans (Keep.refl h0 [xs]).1 Sz84
  refine Gl.back (fun _ k => st84 _ k) ?_
  show Gl _ _ _ _ _ _ _ (T84.setTop (mkF m 39 #[.val (.ref xs), .val (.ref b), .val (.int (0 : Int32)), .val (.int (2 : Int32)), .val .null, .unset] [(.ref t84)]))
  refine Gl.back (fun _ k => XS.astore X84.here hx rfl (hb hby d2_39) rfl rfl (l' := #[.val (.ref xs), .val (.ref b), .val (.int (0 : Int32)), .val (.int (2 : Int32)), .val .null, .val (.ref t84)]) rfl k) ?_
  show Gl _ _ _ _ _ _ _ (T84.setTop (mkF m 41 #[.val (.ref xs), .val (.ref b), .val (.int (0 : Int32)), .val (.int (2 : Int32)), .val .null, .val (.ref t84)] []))
  refine Gl.back (fun _ k => XS.aloadN X84.here hx rfl (hb hby d2_41) rfl rfl k) ?_
  show Gl _ _ _ _ _ _ _ (T84.setTop (mkF m 42 #[.val (.ref xs), .val (.ref b), .val (.int (0 : Int32)), .val (.int (2 : Int32)), .val .null, .val (.ref t84)] [(.ref xs)]))
  refine Gl.back (fun _ k => XS.aload X84.here hx rfl (hb hby d2_42) rfl rfl k) ?_
  show Gl _ _ _ _ _ _ _ (T84.setTop (mkF m 44 #[.val (.ref xs), .val (.ref b), .val (.int (0 : Int32)), .val (.int (2 : Int32)), .val .null, .val (.ref t84)] [(.ref t84), (.ref xs)]))
  refine Gl.back (fun _ k => XS.iloadN X84.here hx rfl (hb hby d2_44) rfl k) ?_
  show Gl _ _ _ _ _ _ _ (T84.setTop (mkF m 45 #[.val (.ref xs), .val (.ref b), .val (.int (0 : Int32)), .val (.int (2 : Int32)), .val .null, .val (.ref t84)] [(.int (2 : Int32)), (.ref t84), (.ref xs)]))
  obtain ⟨_, _, ⟨T85, L85, k85, n85⟩, -, X85, ⟨Lc85, hQ85, l85, y85, z85⟩, st85⟩ := Jvm.LawKit.callS X84 hx (y := (⟨"java/lang/StringUTF16", "coderFromArrayLen", "([BI)B"⟩ : MethodName)) hown (mvT hZ (hw _ (List.mem_of_getElem? (i := 24) rfl))) (mvT hZ (hw _ (List.mem_of_getElem? (i := 25) rfl))) (mvT hZ (hw _ (List.mem_of_getElem? (i := 18) rfl))) (mvT hZ (hw _ (List.mem_of_getElem? (i := 26) rfl))) (by decide) (backOf (W := 1) (rmcod_2 l Z a0 hw [] t84 k084 [(.int (own_b0 c0)), (.int (own_b1 c0)), (.int (own_b0 c1)), (.int (own_b1 c1))] T84.heap n0 Zc84 V84) hZ (hw _ (List.mem_of_getElem? (i := 26) rfl)) (hw _ (List.mem_of_getElem? (i := 18) rfl)) (by decide) (by decide)) (g := (mkF m 45 #[.val (.ref xs), .val (.ref b), .val (.int (0 : Int32)), .val (.int (2 : Int32)), .val .null, .val (.ref t84)] [(.int (2 : Int32)), (.ref t84), (.ref xs)])) rfl (by rw [hml]; rfl) (argsL := [(.ref t84), (.int (2 : Int32))]) (rest := [(.ref xs)]) (lenOf pd___BI_B rfl) rfl (by show 2 * 0 + _ ≤ _; exact Nat.le_of_eq rfl) (hb hby d2_45) (fun _ _ => ⟨rfl, rfl, (by decide : 2 + 0 ≤ _), (by decide : 6 + 0 ≤ _)⟩)
  dsimp only [Pt.U, Pt.locs, Pt.cells, Pt.slots] at X85 l85 y85 z85 st85 hQ85
  replace l85 := Eq.symm l85
  replace y85 := Eq.symm y85
  replace z85 := Eq.symm z85
  subst l85 y85 z85
  obtain ⟨Nq85, rfl, eh85⟩ := hQ85
  have N85 := Fr.app N84 Nq85
  refine Gl.back (fun _ k => st85 _ k) ?_
  show Gl _ _ _ _ _ _ _ (T85.setTop (mkF m 48 #[.val (.ref xs), .val (.ref b), .val (.int (0 : Int32)), .val (.int (2 : Int32)), .val .null, .val (.ref t84)] [(.int (1 : Int32)), (.ref xs)]))
  have f86 := (E_x.keep Kq84)
  have f87 := (F_c.keep Kq84 nin0)
  obtain ⟨T88, h88, X88, e88, W88, st88⟩ := putFN X85 hx hZ hown (hw _ (List.mem_of_getElem? (i := 27) rfl)) Via.refl eh85 f87 f86 (Or.inr ⟨(hw _ (List.mem_of_getElem? (i := 28) rfl)), rfl, hnm⟩) (hw _ (List.mem_of_getElem? (i := 3) rfl)) (ty := .byte) (v' := (.int (1 : Int32))) (by decide) rfl (by decide) (g := (mkF m 48 #[.val (.ref xs), .val (.ref b), .val (.int (0 : Int32)), .val (.int (2 : Int32)), .val .null, .val (.ref t84)] [(.int (1 : Int32)), (.ref xs)])) rfl rfl (hb hby d2_48)
  have Fw88 := f87.same W88
  have K88 := Keep.wr Kc84 W88 (Or.inl (List.mem_of_getElem? (i := 0) rfl))
  have O88 := Old.wr Oc84 W88 g_x
  have Z88 : n0 ≤ h88.size := Nat.le_trans Zc84 (Keep.of_wr W88).1
  have N88 := Fr.snoc X88 N85 g_x
  refine Gl.back (fun _ k => st88 _ k) ?_
  show Gl _ _ _ _ _ _ _ (T88.setTop (mkF m 51 #[.val (.ref xs), .val (.ref b), .val (.int (0 : Int32)), .val (.int (2 : Int32)), .val .null, .val (.ref t84)] []))
  refine Gl.back (fun _ k => XS.aloadN X88.here hx rfl (hb hby d2_51) rfl rfl k) ?_
  show Gl _ _ _ _ _ _ _ (T88.setTop (mkF m 52 #[.val (.ref xs), .val (.ref b), .val (.int (0 : Int32)), .val (.int (2 : Int32)), .val .null, .val (.ref t84)] [(.ref xs)]))
  refine Gl.back (fun _ k => XS.aload X88.here hx rfl (hb hby d2_52) rfl rfl k) ?_
  show Gl _ _ _ _ _ _ _ (T88.setTop (mkF m 54 #[.val (.ref xs), .val (.ref b), .val (.int (0 : Int32)), .val (.int (2 : Int32)), .val .null, .val (.ref t84)] [(.ref t84), (.ref xs)]))
  have f89 := (f86.wr W88)
  have f90 := ((F_v.keep Kq84 nin0).other W88 (Or.inr (slot_ne (Or.inr (hw _ (List.mem_of_getElem? (i := 30) rfl))) (Or.inr (hw _ (List.mem_of_getElem? (i := 28) rfl))) (by decide) (t := (.array .byte)) (t' := .byte) (by decide) (by decide))))
  obtain ⟨T91, h91, X91, e91, W91, st91⟩ := putF X88 hx hZ hown (host := "") (Or.inl (hw _ (List.mem_of_getElem? (i := 29) rfl))) Via.refl e88 f90 f89 (Or.inr ⟨(hw _ (List.mem_of_getElem? (i := 30) rfl)), rfl, hnm⟩) (hw _ (List.mem_of_getElem? (i := 3) rfl)) (ty := (.array .byte)) (by decide) rfl rfl (g := (mkF m 54 #[.val (.ref xs), .val (.ref b), .val (.int (0 : Int32)), .val (.int (2 : Int32)), .val .null, .val (.ref t84)] [(.ref t84), (.ref xs)])) rfl rfl (hb hby d2_54)
  have Fw91 := f90.same W91
  have K91 := Keep.wr K88 W91 (Or.inl (List.mem_of_getElem? (i := 0) rfl))
  have O91 := Old.wr O88 W91 g_x
  have Z91 : n0 ≤ h91.size := Nat.le_trans Z88 (Keep.of_wr W91).1
  have N91 := Fr.snoc X91 N88 g_x
  refine Gl.back (fun _ k => st91 _ k) ?_
  show Gl _ _ _ _ _ _ _ (T91.setTop (mkF m 57 #[.val (.ref xs), .val (.ref b), .val (.int (0 : Int32)), .val (.int (2 : Int32)), .val .null, .val (.ref t84)] []))
  have f92 := (Fw88.other W91 (Or.inr (slot_ne (Or.inr (hw _ (List.mem_of_getElem? (i := 28) rfl))) (Or.inr (hw _ (List.mem_of_getElem? (i := 30) rfl))) (by decide) (t := .byte) (t' := (.array .byte)) (by decide) (by decide))))
  have f93 := ((V84.other W88 (Ne.symm ne_xs_t84)).other W91 (Ne.symm ne_xs_t84))
  exact Gl.ret X91 e91 (v := none) (fun _ => rfl) Bd.notSynchronized (fun fs hr => X91.returnOut hx Bd.returns (hb hby d2_57) hr) ⟨N91, rfl, K91, t84, k084, sz_t84, Gz84, f92, Fw91, f93⟩ (by decide) (by decide)
theorem ef_new1_2_0 (m : MethodId) (x0 : Addr) (x1 : Addr) : entryFrame m #[(.ref x0), (.ref x1)] 2 = mkF m 0 #[.val (.ref x0), .val (.ref x1)] [] := by first | (simp [entryFrame, mkF, argsToLocals, Value.category]; done) | rfl
def Qnew1_2_0 (Z : State) (xs : Addr) (b : Addr) (k_b : ClassId) (c0 c1 zc : Int32) (h0 : Heap) (n0 : Nat) (v : Option Value) (h : Heap) (L : List Loc) : Prop := Fr n0 L ∧ (v = none ∧ Keep h0 h [xs] ∧ ∃ (t : Addr) (k : ClassId), h0.size ≤ t ∧ n0 ≤ t ∧ Fld Z h xs "java/lang/String" "coder" "B" (.int 1) ∧ Fld Z h xs "java/lang/String" "value" "[B" (.ref t) ∧ Arv Z h t k .byte (4 : Int32) [(.int (own_b0 c0)), (.int (own_b1 c0)), (.int (own_b0 c1)), (.int (own_b1 c1))] (.int (0 : Int32)))
set_option maxRecDepth 65536 in
set_option maxHeartbeats 40000000 in
theorem rmnew1_2_0 (l : Launch) (Z : State) (a0 : Array Value) (hw : ∀ d ∈ tables_1, d.before a0 Z = true) (ws : List Jvm.Cond) (xs : Addr) (b : Addr) (k_b : ClassId) (c0 c1 zc : Int32) (h0 : Heap) (n0 : Nat) (Z0 : n0 ≤ h0.size) (O0 : Old Z n0 h0) (S_AD : Sta Z Z.heap "java/lang/StringUTF16" "$assertionsDisabled" "Z" (.int 1)) (S_HI : Sta Z Z.heap "java/lang/StringUTF16" "HI_BYTE_SHIFT" "I" (.int 0)) (S_LO : Sta Z Z.heap "java/lang/StringUTF16" "LO_BYTE_SHIFT" "I" (.int 8)) (S_C : Sta Z Z.heap "java/lang/String" "COMPACT_STRINGS" "Z" (.int zc)) (P0 : ¬ zc = 0) (g_x : n0 ≤ xs) (E_x : Exa Z h0 xs "java/lang/String") (F_v : Fld Z h0 xs "java/lang/String" "value" "[B" .null) (F_c : Fld Z h0 xs "java/lang/String" "coder" "B" (.int 0)) (V_b : Arv Z h0 b k_b .char (2 : Int32) [(.int c0), (.int c1)] (.int (0 : Int32))) (hxb : xs ≠ b) (hb0 : (255 : Int32) < c0) (hc0 : ¬ c0 < 0 ∧ ¬ (65535 : Int32) < c0) (hc1 : ¬ c1 < 0 ∧ ¬ (65535 : Int32) < c1) :
    MetFree l (⟨"java/lang/String", "<init>", "([C)V"⟩ : MethodName) (head1 (Jvm.Cond.code (⟨"java/lang/String", "<init>", "([C)V"⟩ : MethodName) jdk_42_method_3_code 2 none :: ws) ({ frames := 5, cells := 2, slots := 6, locals := 74 } : Room)) (fun as0 U => as0 = #[(.ref xs), (.ref b)] ∧ Z.Warmed39 U.vm ∧ U.heap = h0) (fun _ _ _ _ _ => True) (fun _ U oc0 U' => ∃ v L, oc0 = .returned v ∧ Qnew1_2_0 Z xs b k_b c0 c1 zc h0 n0 v U'.heap L ∧ FrameEnd U oc0 U' L ({ frames := 5, cells := 2, slots := 6, locals := 74 } : Room).cells ({ frames := 5, cells := 2, slots := 6, locals := 74 } : Room).slots) := by
  refine MetFree.of_bodySF (plainFor_of_name pn_java_lang_String) hisR ?_
  intro p e s m args below meth c s₁ Bd hml0 hP hK
  obtain ⟨rfl, hZ, hh⟩ := hP
  have hx := Bd.exec
  have hby := Bd.bytes
  have hml : c.maxLocals = 2 := hml0
  have hown : s.vm.findClass "java/lang/String" = some m.cls := findClass_of_methodNamed Bd.named
  have hnm := (name_of_methodNamed Bd.named Bd.method).1
  have X0 : Stand p l e ({ frames := 5, cells := 2, slots := 6, locals := 74 } : Room) s m #[(.ref xs), (.ref b)] below meth c s₁ [] 0 0 := Stand.of_body Bd
  have e0 : s₁.heap = h0 := by rw [← hh, Bd.state]; rfl
  have N0 := Fr.nil n0
  show Gl p e below s (Qnew1_2_0 Z xs b k_b c0 c1 zc h0 n0) ({ frames := 5, cells := 2, slots := 6, locals := 74 } : Room).cells ({ frames := 5, cells := 2, slots := 6, locals := 74 } : Room).slots (s₁.setTop (entryFrame m #[(.ref xs), (.ref b)] 2))
  refine Gl.back (fun _ k => castTop (ef_new1_2_0 m xs b) k) ?_
  show Gl _ _ _ _ _ _ _ (s₁.setTop (mkF m 0 #[.val (.ref xs), .val (.ref b)] []))
  refine Gl.back (fun _ k => XS.aloadN X0.here hx rfl (hb hby d1_0) rfl rfl k) ?_
  show Gl _ _ _ _ _ _ _ (s₁.setTop (mkF m 1 #[.val (.ref xs), .val (.ref b)] [(.ref xs)]))
  refine Gl.back (fun _ k => XS.aloadN X0.here hx rfl (hb hby d1_1) rfl rfl k) ?_
  show Gl _ _ _ _ _ _ _ (s₁.setTop (mkF m 2 #[.val (.ref xs), .val (.ref b)] [(.ref b), (.ref xs)]))
  refine Gl.back (fun _ k => XS.iconst X0.here hx rfl (hb hby d1_2) k) ?_
  show Gl _ _ _ _ _ _ _ (s₁.setTop (mkF m 3 #[.val (.ref xs), .val (.ref b)] [(.int (0 : Int32)), (.ref b), (.ref xs)]))
  refine Gl.back (fun _ k => XS.aloadN X0.here hx rfl (hb hby d1_3) rfl rfl k) ?_
  show Gl _ _ _ _ _ _ _ (s₁.setTop (mkF m 4 #[.val (.ref xs), .val (.ref b)] [(.ref b), (.int (0 : Int32)), (.ref b), (.ref xs)]))
  obtain ⟨cl94, Ar94, -, Sz94, Nn94, -, -⟩ := id V_b
  refine Gl.back (fun _ k => X0.arraylength hx (by rw [e0]; exact Ar94.1) (State.isArrayOf_alike hZ.alike Ar94.2.1) (g := (mkF m 4 #[.val (.ref xs), .val (.ref b)] [(.ref b), (.int (0 : Int32)), (.ref b), (.ref xs)])) rfl rfl (hb hby d1_4) _ k) ?_
  rw [len_of Sz94 Nn94]
  show Gl _ _ _ _ _ _ _ (s₁.setTop (mkF m 5 #[.val (.ref xs), .val (.ref b)] [(.int (2 : Int32)), (.int (0 : Int32)), (.ref b), (.ref xs)]))
  refine Gl.back (fun _ k => XS.aconstNull X0.here hx rfl (hb hby d1_5) k) ?_
  show Gl _ _ _ _ _ _ _ (s₁.setTop (mkF m 6 #[.val (.ref xs), .val (.ref b)] [.null, (.int (2 : Int32)), (.int (0 : Int32)), (.ref b), (.ref xs)]))
  obtain ⟨_, _, ⟨T95, L95, k95, n95⟩, -, X95, ⟨Lc95, hQ95, l95, y95, z95⟩, st95⟩ := X0.specialBack hx (y := (⟨"java/lang/String", "<init>", "([CIILjava/lang/Void;)V"⟩ : MethodName)) rfl hown (mvT hZ (hw _ (List.mem_of_getElem? (i := 8) rfl))) (mvT hZ (hw _ (List.mem_of_getElem? (i := 9) rfl))) (mvT hZ (hw _ (List.mem_of_getElem? (i := 11) rfl))) (by decide) (backOf (W := 0) (rmnew4_2_0 l Z a0 hw [] xs b k_b c0 c1 zc h0 n0 Z0 O0 S_AD S_HI S_LO S_C P0 g_x E_x F_v F_c V_b hxb hb0 hc0 hc1) hZ (hw _ (List.mem_of_getElem? (i := 11) rfl)) (hw _ (List.mem_of_getElem? (i := 4) rfl)) (by decide) (by decide)) (g := (mkF m 6 #[.val (.ref xs), .val (.ref b)] [.null, (.int (2 : Int32)), (.int (0 : Int32)), (.ref b), (.ref xs)])) rfl (by rw [hml]; rfl) (Steps.refl _) (a := xs) (argsL := [(.ref b), (.int (0 : Int32)), (.int (2 : Int32)), .null]) (rest := []) (lenOf pd___CIILjava_lang_Void__V rfl) rfl (by show 2 * 0 + _ ≤ _; exact Nat.le_of_eq rfl) (hb hby d1_6) (fun _ _ => ⟨rfl, e0, (by decide : 0 + 2 ≤ _), (by decide : 0 + 6 ≤ _)⟩)
  dsimp only [Pt.U, Pt.locs, Pt.cells, Pt.slots] at X95 l95 y95 z95 st95 hQ95
  replace l95 := Eq.symm l95
  replace y95 := Eq.symm y95
  replace z95 := Eq.symm z95
  subst l95 y95 z95
  obtain ⟨Nq95, rfl, Kq95, t95, k095, Sz95, Gz95, Fc95, Fv95, V95⟩ := hQ95
  have N95 := Fr.app N0 Nq95
  have Kc95 := Keep.trans (Keep.refl h0 [xs]) Kq95 (allS (Or.inl (List.mem_of_getElem? (i := 0) rfl)) all0)
  have Zc95 : n0 ≤ T95.heap.size := Nat.le_trans Z0 Kq95.1
  have Oc95 := Old.keep O0 Kq95 (allS g_x all0)
  have ne_xs_t95 : xs ≠ t95 := Nat.ne_of_lt (Nat.lt_of_lt_of_le (E_x).lt Sz95)
  have ne_b_t95 : b ≠ t95 := Nat.ne_of_lt (Nat.lt_of_lt_of_le (V_b).lt Sz95)
  have sz_t95 : h0.size ≤ t95 := Nat.le_trans (Keep.refl h0 [xs]).1 Sz95
  refine Gl.back (fun _ k => st95.trans k) ?_
  show Gl _ _ _ _ _ _ _ (T95.setTop (mkF m 9 #[.val (.ref xs), .val (.ref b)] []))
  exact Gl.ret X95 rfl (v := none) (fun _ => rfl) Bd.notSynchronized (fun fs hr => X95.returnOut hx Bd.returns (hb hby d1_9) hr) ⟨N95, rfl, Kc95, t95, k095, sz_t95, Gz95, Fc95, Fv95, V95⟩ (by decide) (by decide)
theorem d5_26 : decode jdk_52_method_21_code 26 = .ok (.aload_n 2, 1) := by decide +kernel
theorem d5_27 : decode jdk_52_method_21_code 27 = .ok (.iload_n 3, 1) := by decide +kernel
theorem d5_28 : decode jdk_52_method_21_code 28 = .ok (.iload 6, 2) := by decide +kernel
theorem d5_30 : decode jdk_52_method_21_code 30 = .ok (.i2b, 1) := by decide +kernel
theorem d5_31 : decode jdk_52_method_21_code 31 = .ok (.bastore, 1) := by decide +kernel
theorem d5_32 : decode jdk_52_method_21_code 32 = .ok (.iinc 1 1, 3) := by decide +kernel
theorem d5_35 : decode jdk_52_method_21_code 35 = .ok (.iinc 3 1, 3) := by decide +kernel
theorem d5_38 : decode jdk_52_method_21_code 38 = .ok (.iinc 5 1, 3) := by decide +kernel
theorem d5_41 : decode jdk_52_method_21_code 41 = .ok (.goto (-38), 3) := by decide +kernel
theorem ef_cp5_2_1 (m : MethodId) (x0 : Addr) (x2 : Addr) : entryFrame m #[(.ref x0), (.int (0 : Int32)), (.ref x2), (.int (0 : Int32)), (.int (2 : Int32))] 7 = mkF m 0 #[.val (.ref x0), .val (.int (0 : Int32)), .val (.ref x2), .val (.int (0 : Int32)), .val (.int (2 : Int32)), .unset, .unset] [] := by first | (simp [entryFrame, mkF, argsToLocals, Value.category]; done) | rfl
def Qcp5_2_1 (Z : State) (b : Addr) (d : Addr) (k_b k_d : ClassId) (c0 c1 : Int32) (h0 : Heap) (n0 : Nat) (v : Option Value) (h : Heap) (L : List Loc) : Prop := Fr n0 L ∧ (v = some (.int 1) ∧ Keep h0 h [d])
set_option maxRecDepth 65536 in
set_option maxHeartbeats 40000000 in
theorem rmcp5_2_1 (l : Launch) (Z : State) (a0 : Array Value) (hw : ∀ d ∈ tables_1, d.before a0 Z = true) (ws : List Jvm.Cond) (b : Addr) (d : Addr) (k_b k_d : ClassId) (c0 c1 : Int32) (h0 : Heap) (n0 : Nat) (Z0 : n0 ≤ h0.size) (g_d : n0 ≤ d) (V_b : Arv Z h0 b k_b .char (2 : Int32) [(.int c0), (.int c1)] (.int (0 : Int32))) (V_d : Arv Z h0 d k_d .byte (2 : Int32) [(.int (0 : Int32)), (.int (0 : Int32))] (.int (0 : Int32))) (hbd : b ≠ d) (hs0 : ¬ (255 : Int32) < c0) (hb1 : (255 : Int32) < c1) :
    MetFree l (⟨"java/lang/StringUTF16", "compress", "([CI[BII)I"⟩ : MethodName) (head1 (Jvm.Cond.code (⟨"java/lang/StringUTF16", "compress", "([CI[BII)I"⟩ : MethodName) jdk_52_method_21_code 7 (some .int) :: ws) ({ frames := 0, cells := 0, slots := 0, locals := 0 } : Room)) (fun as0 U => as0 = #[(.ref b), (.int (0 : Int32)), (.ref d), (.int (0 : Int32)), (.int (2 : Int32))] ∧ Z.Warmed39 U.vm ∧ U.heap = h0) (fun _ _ _ _ _ => True) (fun _ U oc0 U' => ∃ v L, oc0 = .returned v ∧ Qcp5_2_1 Z b d k_b k_d c0 c1 h0 n0 v U'.heap L ∧ FrameEnd U oc0 U' L ({ frames := 0, cells := 0, slots := 0, locals := 0 } : Room).cells ({ frames := 0, cells := 0, slots := 0, locals := 0 } : Room).slots) := by
  refine MetFree.of_bodySF (plainFor_of_name pn_java_lang_StringUTF16) hisR ?_
  intro p e s m args below meth c s₁ Bd hml0 hP hK
  obtain ⟨rfl, hZ, hh⟩ := hP
  have hx := Bd.exec
  have hby := Bd.bytes
  have hml : c.maxLocals = 7 := hml0
  have hown : s.vm.findClass "java/lang/StringUTF16" = some m.cls := findClass_of_methodNamed Bd.named
  have hnm := (name_of_methodNamed Bd.named Bd.method).1
  have X0 : Stand p l e ({ frames := 0, cells := 0, slots := 0, locals := 0 } : Room) s m #[(.ref b), (.int (0 : Int32)), (.ref d), (.int (0 : Int32)), (.int (2 : Int32))] below meth c s₁ [] 0 0 := Stand.of_body Bd
  have e0 : s₁.heap = h0 := by rw [← hh, Bd.state]; rfl
  have N0 := Fr.nil n0
  show Gl p e below s (Qcp5_2_1 Z b d k_b k_d c0 c1 h0 n0) ({ frames := 0, cells := 0, slots := 0, locals := 0 } : Room).cells ({ frames := 0, cells := 0, slots := 0, locals := 0 } : Room).slots (s₁.setTop (entryFrame m #[(.ref b), (.int (0 : Int32)), (.ref d), (.int (0 : Int32)), (.int (2 : Int32))] 7))
  refine Gl.back (fun _ k => castTop (ef_cp5_2_1 m b d) k) ?_
  show Gl _ _ _ _ _ _ _ (s₁.setTop (mkF m 0 #[.val (.ref b), .val (.int (0 : Int32)), .val (.ref d), .val (.int (0 : Int32)), .val (.int (2 : Int32)), .unset, .unset] []))
  refine Gl.back (fun _ k => XS.iconst X0.here hx rfl (hb hby d5_0) k) ?_
  show Gl _ _ _ _ _ _ _ (s₁.setTop (mkF m 1 #[.val (.ref b), .val (.int (0 : Int32)), .val (.ref d), .val (.int (0 : Int32)), .val (.int (2 : Int32)), .unset, .unset] [(.int (0 : Int32))]))
  refine Gl.back (fun _ k => XS.istore X0.here hx rfl (hb hby d5_1) rfl (l' := #[.val (.ref b), .val (.int (0 : Int32)), .val (.ref d), .val (.int (0 : Int32)), .val (.int (2 : Int32)), .val (.int (0 : Int32)), .unset]) rfl k) ?_
  show Gl _ _ _ _ _ _ _ (s₁.setTop (mkF m 3 #[.val (.ref b), .val (.int (0 : Int32)), .val (.ref d), .val (.int (0 : Int32)), .val (.int (2 : Int32)), .val (.int (0 : Int32)), .unset] []))
  refine Gl.back (fun _ k => XS.iload X0.here hx rfl (hb hby d5_3) rfl k) ?_
  show Gl _ _ _ _ _ _ _ (s₁.setTop (mkF m 5 #[.val (.ref b), .val (.int (0 : Int32)), .val (.ref d), .val (.int (0 : Int32)), .val (.int (2 : Int32)), .val (.int (0 : Int32)), .unset] [(.int (0 : Int32))]))
  refine Gl.back (fun _ k => XS.iload X0.here hx rfl (hb hby d5_5) rfl k) ?_
  show Gl _ _ _ _ _ _ _ (s₁.setTop (mkF m 7 #[.val (.ref b), .val (.int (0 : Int32)), .val (.ref d), .val (.int (0 : Int32)), .val (.int (2 : Int32)), .val (.int (0 : Int32)), .unset] [(.int (2 : Int32)), (.int (0 : Int32))]))
  refine Gl.back (fun _ k => XS.icmpNo X0.here hx rfl (hb hby d5_7) rfl (tlt (by decide : (0 : Int32) < (2 : Int32))).2.1 k) ?_
  show Gl _ _ _ _ _ _ _ (s₁.setTop (mkF m 10 #[.val (.ref b), .val (.int (0 : Int32)), .val (.ref d), .val (.int (0 : Int32)), .val (.int (2 : Int32)), .val (.int (0 : Int32)), .unset] []))
  refine Gl.back (fun _ k => XS.aloadN X0.here hx rfl (hb hby d5_10) rfl rfl k) ?_
  show Gl _ _ _ _ _ _ _ (s₁.setTop (mkF m 11 #[.val (.ref b), .val (.int (0 : Int32)), .val (.ref d), .val (.int (0 : Int32)), .val (.int (2 : Int32)), .val (.int (0 : Int32)), .unset] [(.ref b)]))
  refine Gl.back (fun _ k => XS.iloadN X0.here hx rfl (hb hby d5_11) rfl k) ?_
  show Gl _ _ _ _ _ _ _ (s₁.setTop (mkF m 12 #[.val (.ref b), .val (.int (0 : Int32)), .val (.ref d), .val (.int (0 : Int32)), .val (.int (2 : Int32)), .val (.int (0 : Int32)), .unset] [(.int (0 : Int32)), (.ref b)]))
  obtain ⟨cl96, Ar96, q96, Sz96, Nn96, Hs96, Gf96⟩ := id V_b
  have hin96 : ¬ ((0 : Int32) < 0 ∨ cl96.slots.size ≤ ((0 : Int32)).toNatClampNeg) := inb_of Sz96 ⟨by decide, by decide⟩
  have hat96 : cl96.slots[((0 : Int32)).toNatClampNeg]? = some (.int c0) := Hs96.at hin96 (rfl)
  refine Gl.back (fun _ k => X0.caload hx (j := (0 : Int32)) (v := (.int c0)) (by rw [e0]; exact Ar96.1) (State.isArrayOf_alike hZ.alike Ar96.2.1) Ar96.2.2 hin96 hat96 (g := (mkF m 12 #[.val (.ref b), .val (.int (0 : Int32)), .val (.ref d), .val (.int (0 : Int32)), .val (.int (2 : Int32)), .val (.int (0 : Int32)), .unset] [(.int (0 : Int32)), (.ref b)])) rfl rfl (hb hby d5_12) _ k) ?_
  show Gl _ _ _ _ _ _ _ (s₁.setTop (mkF m 13 #[.val (.ref b), .val (.int (0 : Int32)), .val (.ref d), .val (.int (0 : Int32)), .val (.int (2 : Int32)), .val (.int (0 : Int32)), .unset] [(.int c0)]))
  refine Gl.back (fun _ k => XS.istore X0.here hx rfl (hb hby d5_13) rfl (l' := #[.val (.ref b), .val (.int (0 : Int32)), .val (.ref d), .val (.int (0 : Int32)), .val (.int (2 : Int32)), .val (.int (0 : Int32)), .val (.int c0)]) rfl k) ?_
  show Gl _ _ _ _ _ _ _ (s₁.setTop (mkF m 15 #[.val (.ref b), .val (.int (0 : Int32)), .val (.ref d), .val (.int (0 : Int32)), .val (.int (2 : Int32)), .val (.int (0 : Int32)), .val (.int c0)] []))
  refine Gl.back (fun _ k => XS.iload X0.here hx rfl (hb hby d5_15) rfl k) ?_
  show Gl _ _ _ _ _ _ _ (s₁.setTop (mkF m 17 #[.val (.ref b), .val (.int (0 : Int32)), .val (.ref d), .val (.int (0 : Int32)), .val (.int (2 : Int32)), .val (.int (0 : Int32)), .val (.int c0)] [(.int c0)]))
  refine Gl.back (fun _ k => XS.sipush X0.here hx rfl (hb hby d5_17) k) ?_
  show Gl _ _ _ _ _ _ _ (s₁.setTop (mkF m 20 #[.val (.ref b), .val (.int (0 : Int32)), .val (.ref d), .val (.int (0 : Int32)), .val (.int (2 : Int32)), .val (.int (0 : Int32)), .val (.int c0)] [(.int (255 : Int32)), (.int c0)]))
  refine Gl.back (fun _ k => XS.icmpYes X0.here hx rfl (pc0 := 20) (pc' := 26) rfl (hb hby d5_20) rfl (flt (hs0 : ¬ (255 : Int32) < c0)).2.2.2 (by decide) (by decide) k) ?_
  show Gl _ _ _ _ _ _ _ (s₁.setTop (mkF m 26 #[.val (.ref b), .val (.int (0 : Int32)), .val (.ref d), .val (.int (0 : Int32)), .val (.int (2 : Int32)), .val (.int (0 : Int32)), .val (.int c0)] []))
  refine Gl.back (fun _ k => XS.aloadN X0.here hx rfl (hb hby d5_26) rfl rfl k) ?_
  show Gl _ _ _ _ _ _ _ (s₁.setTop (mkF m 27 #[.val (.ref b), .val (.int (0 : Int32)), .val (.ref d), .val (.int (0 : Int32)), .val (.int (2 : Int32)), .val (.int (0 : Int32)), .val (.int c0)] [(.ref d)]))
  refine Gl.back (fun _ k => XS.iloadN X0.here hx rfl (hb hby d5_27) rfl k) ?_
  show Gl _ _ _ _ _ _ _ (s₁.setTop (mkF m 28 #[.val (.ref b), .val (.int (0 : Int32)), .val (.ref d), .val (.int (0 : Int32)), .val (.int (2 : Int32)), .val (.int (0 : Int32)), .val (.int c0)] [(.int (0 : Int32)), (.ref d)]))
  refine Gl.back (fun _ k => XS.iload X0.here hx rfl (hb hby d5_28) rfl k) ?_
  show Gl _ _ _ _ _ _ _ (s₁.setTop (mkF m 30 #[.val (.ref b), .val (.int (0 : Int32)), .val (.ref d), .val (.int (0 : Int32)), .val (.int (2 : Int32)), .val (.int (0 : Int32)), .val (.int c0)] [(.int c0), (.int (0 : Int32)), (.ref d)]))
  refine Gl.back (fun _ k => XS.i2b X0.here hx rfl (hb hby d5_30) rfl k) ?_
  show Gl _ _ _ _ _ _ _ (s₁.setTop (mkF m 31 #[.val (.ref b), .val (.int (0 : Int32)), .val (.ref d), .val (.int (0 : Int32)), .val (.int (2 : Int32)), .val (.int (0 : Int32)), .val (.int c0)] [(.int (c0.toInt8.toInt32)), (.int (0 : Int32)), (.ref d)]))
  obtain ⟨cl97, Ar97, q97, Sz97, Nn97, Hs97, Gf97⟩ := id V_d
  have hin97 : ¬ ((0 : Int32) < 0 ∨ cl97.slots.size ≤ ((0 : Int32)).toNatClampNeg) := inb_of Sz97 ⟨by decide, by decide⟩
  obtain ⟨T98, h98, X98, e98, W98, st98⟩ := stB X0 hx hZ e0 Ar97 (j := (0 : Int32)) hin97 (g := (mkF m 31 #[.val (.ref b), .val (.int (0 : Int32)), .val (.ref d), .val (.int (0 : Int32)), .val (.int (2 : Int32)), .val (.int (0 : Int32)), .val (.int c0)] [(.int (c0.toInt8.toInt32)), (.int (0 : Int32)), (.ref d)])) rfl rfl (hb hby d5_31)
  have V98 := Arv.set Ar97 q97 Sz97 Nn97 Hs97 Gf97 (fits_nar_byte _) W98 0 rfl (Nat.le_of_ble_eq_true rfl)
  replace V98 : Arv Z h98 d k_d .byte (2 : Int32) [(.int (nar .byte (c0.toInt8.toInt32))), (.int (0 : Int32))] (.int (0 : Int32)) := V98
  have K98 := Keep.wr (Keep.refl h0 [d]) W98 (Or.inl (List.mem_of_getElem? (i := 0) rfl))
  have Z98 : n0 ≤ h98.size := Nat.le_trans Z0 (Keep.of_wr W98).1
  have N98 := Fr.snoc X98 N0 g_d
  refine Gl.back (fun _ k => st98 _ k) ?_
  show Gl _ _ _ _ _ _ _ (T98.setTop (mkF m 32 #[.val (.ref b), .val (.int (0 : Int32)), .val (.ref d), .val (.int (0 : Int32)), .val (.int (2 : Int32)), .val (.int (0 : Int32)), .val (.int c0)] []))
  refine Gl.back (fun _ k => XS.iinc X98.here hx rfl (hb hby d5_32) rfl (l' := #[.val (.ref b), .val (.int (1 : Int32)), .val (.ref d), .val (.int (0 : Int32)), .val (.int (2 : Int32)), .val (.int (0 : Int32)), .val (.int c0)]) rfl k) ?_
  show Gl _ _ _ _ _ _ _ (T98.setTop (mkF m 35 #[.val (.ref b), .val (.int (1 : Int32)), .val (.ref d), .val (.int (0 : Int32)), .val (.int (2 : Int32)), .val (.int (0 : Int32)), .val (.int c0)] []))
  refine Gl.back (fun _ k => XS.iinc X98.here hx rfl (hb hby d5_35) rfl (l' := #[.val (.ref b), .val (.int (1 : Int32)), .val (.ref d), .val (.int (1 : Int32)), .val (.int (2 : Int32)), .val (.int (0 : Int32)), .val (.int c0)]) rfl k) ?_
  show Gl _ _ _ _ _ _ _ (T98.setTop (mkF m 38 #[.val (.ref b), .val (.int (1 : Int32)), .val (.ref d), .val (.int (1 : Int32)), .val (.int (2 : Int32)), .val (.int (0 : Int32)), .val (.int c0)] []))
  refine Gl.back (fun _ k => XS.iinc X98.here hx rfl (hb hby d5_38) rfl (l' := #[.val (.ref b), .val (.int (1 : Int32)), .val (.ref d), .val (.int (1 : Int32)), .val (.int (2 : Int32)), .val (.int (1 : Int32)), .val (.int c0)]) rfl k) ?_
  show Gl _ _ _ _ _ _ _ (T98.setTop (mkF m 41 #[.val (.ref b), .val (.int (1 : Int32)), .val (.ref d), .val (.int (1 : Int32)), .val (.int (2 : Int32)), .val (.int (1 : Int32)), .val (.int c0)] []))
  refine Gl.back (fun _ k => XS.goto X98.here hx rfl (pc0 := 41) (pc' := 3) rfl (hb hby d5_41) (by decide) (by decide) k) ?_
  show Gl _ _ _ _ _ _ _ (T98.setTop (mkF m 3 #[.val (.ref b), .val (.int (1 : Int32)), .val (.ref d), .val (.int (1 : Int32)), .val (.int (2 : Int32)), .val (.int (1 : Int32)), .val (.int c0)] []))
  refine Gl.back (fun _ k => XS.iload X98.here hx rfl (hb hby d5_3) rfl k) ?_
  show Gl _ _ _ _ _ _ _ (T98.setTop (mkF m 5 #[.val (.ref b), .val (.int (1 : Int32)), .val (.ref d), .val (.int (1 : Int32)), .val (.int (2 : Int32)), .val (.int (1 : Int32)), .val (.int c0)] [(.int (1 : Int32))]))
  refine Gl.back (fun _ k => XS.iload X98.here hx rfl (hb hby d5_5) rfl k) ?_
  show Gl _ _ _ _ _ _ _ (T98.setTop (mkF m 7 #[.val (.ref b), .val (.int (1 : Int32)), .val (.ref d), .val (.int (1 : Int32)), .val (.int (2 : Int32)), .val (.int (1 : Int32)), .val (.int c0)] [(.int (2 : Int32)), (.int (1 : Int32))]))
  refine Gl.back (fun _ k => XS.icmpNo X98.here hx rfl (hb hby d5_7) rfl (tlt (by decide : (1 : Int32) < (2 : Int32))).2.1 k) ?_
  show Gl _ _ _ _ _ _ _ (T98.setTop (mkF m 10 #[.val (.ref b), .val (.int (1 : Int32)), .val (.ref d), .val (.int (1 : Int32)), .val (.int (2 : Int32)), .val (.int (1 : Int32)), .val (.int c0)] []))
  refine Gl.back (fun _ k => XS.aloadN X98.here hx rfl (hb hby d5_10) rfl rfl k) ?_
  show Gl _ _ _ _ _ _ _ (T98.setTop (mkF m 11 #[.val (.ref b), .val (.int (1 : Int32)), .val (.ref d), .val (.int (1 : Int32)), .val (.int (2 : Int32)), .val (.int (1 : Int32)), .val (.int c0)] [(.ref b)]))
  refine Gl.back (fun _ k => XS.iloadN X98.here hx rfl (hb hby d5_11) rfl k) ?_
  show Gl _ _ _ _ _ _ _ (T98.setTop (mkF m 12 #[.val (.ref b), .val (.int (1 : Int32)), .val (.ref d), .val (.int (1 : Int32)), .val (.int (2 : Int32)), .val (.int (1 : Int32)), .val (.int c0)] [(.int (1 : Int32)), (.ref b)]))
  have f99 := (V_b.other W98 hbd)
  obtain ⟨cl100, Ar100, q100, Sz100, Nn100, Hs100, Gf100⟩ := id f99
  have hin100 : ¬ ((1 : Int32) < 0 ∨ cl100.slots.size ≤ ((1 : Int32)).toNatClampNeg) := inb_of Sz100 ⟨by decide, by decide⟩
  have hat100 : cl100.slots[((1 : Int32)).toNatClampNeg]? = some (.int c1) := Hs100.at hin100 (rfl)
  refine Gl.back (fun _ k => X98.caload hx (j := (1 : Int32)) (v := (.int c1)) (by rw [e98]; exact Ar100.1) (State.isArrayOf_alike hZ.alike Ar100.2.1) Ar100.2.2 hin100 hat100 (g := (mkF m 12 #[.val (.ref b), .val (.int (1 : Int32)), .val (.ref d), .val (.int (1 : Int32)), .val (.int (2 : Int32)), .val (.int (1 : Int32)), .val (.int c0)] [(.int (1 : Int32)), (.ref b)])) rfl rfl (hb hby d5_12) _ k) ?_
  show Gl _ _ _ _ _ _ _ (T98.setTop (mkF m 13 #[.val (.ref b), .val (.int (1 : Int32)), .val (.ref d), .val (.int (1 : Int32)), .val (.int (2 : Int32)), .val (.int (1 : Int32)), .val (.int c0)] [(.int c1)]))
  refine Gl.back (fun _ k => XS.istore X98.here hx rfl (hb hby d5_13) rfl (l' := #[.val (.ref b), .val (.int (1 : Int32)), .val (.ref d), .val (.int (1 : Int32)), .val (.int (2 : Int32)), .val (.int (1 : Int32)), .val (.int c1)]) rfl k) ?_
  show Gl _ _ _ _ _ _ _ (T98.setTop (mkF m 15 #[.val (.ref b), .val (.int (1 : Int32)), .val (.ref d), .val (.int (1 : Int32)), .val (.int (2 : Int32)), .val (.int (1 : Int32)), .val (.int c1)] []))
  refine Gl.back (fun _ k => XS.iload X98.here hx rfl (hb hby d5_15) rfl k) ?_
  show Gl _ _ _ _ _ _ _ (T98.setTop (mkF m 17 #[.val (.ref b), .val (.int (1 : Int32)), .val (.ref d), .val (.int (1 : Int32)), .val (.int (2 : Int32)), .val (.int (1 : Int32)), .val (.int c1)] [(.int c1)]))
  refine Gl.back (fun _ k => XS.sipush X98.here hx rfl (hb hby d5_17) k) ?_
  show Gl _ _ _ _ _ _ _ (T98.setTop (mkF m 20 #[.val (.ref b), .val (.int (1 : Int32)), .val (.ref d), .val (.int (1 : Int32)), .val (.int (2 : Int32)), .val (.int (1 : Int32)), .val (.int c1)] [(.int (255 : Int32)), (.int c1)]))
  refine Gl.back (fun _ k => XS.icmpNo X98.here hx rfl (hb hby d5_20) rfl (tlt (hb1 : (255 : Int32) < c1)).2.2.2 k) ?_
  show Gl _ _ _ _ _ _ _ (T98.setTop (mkF m 23 #[.val (.ref b), .val (.int (1 : Int32)), .val (.ref d), .val (.int (1 : Int32)), .val (.int (2 : Int32)), .val (.int (1 : Int32)), .val (.int c1)] []))
  refine Gl.back (fun _ k => XS.iload X98.here hx rfl (hb hby d5_23) rfl k) ?_
  show Gl _ _ _ _ _ _ _ (T98.setTop (mkF m 25 #[.val (.ref b), .val (.int (1 : Int32)), .val (.ref d), .val (.int (1 : Int32)), .val (.int (2 : Int32)), .val (.int (1 : Int32)), .val (.int c1)] [(.int (1 : Int32))]))
  exact Gl.ret X98 e98 (v := (some (.int (1 : Int32)))) (fun h => by rw [Bd.returns] at h; cases h) Bd.notSynchronized (fun fs hr => retOut X98 hx (w := (.int (1 : Int32))) Bd.returns rfl (Or.inl ⟨rfl, Or.inl rfl, _, rfl⟩) (hb hby d5_25) hr) ⟨N98, rfl, K98⟩ (by decide) (by decide)
theorem ef_cp3_2_1 (m : MethodId) (x0 : Addr) : entryFrame m #[(.ref x0), (.int (0 : Int32)), (.int (2 : Int32))] 6 = mkF m 0 #[.val (.ref x0), .val (.int (0 : Int32)), .val (.int (2 : Int32)), .unset, .unset, .unset] [] := by first | (simp [entryFrame, mkF, argsToLocals, Value.category]; done) | rfl
def Qcp3_2_1 (Z : State) (b : Addr) (k_b : ClassId) (c0 c1 : Int32) (h0 : Heap) (n0 : Nat) (v : Option Value) (h : Heap) (L : List Loc) : Prop := Fr n0 L ∧ (∃ (t : Addr) (k : ClassId), v = some (.ref t) ∧ Keep h0 h [] ∧ h0.size ≤ t ∧ n0 ≤ t ∧ Arv Z h t k .byte (4 : Int32) [(.int (own_b0 c0)), (.int (own_b1 c0)), (.int (own_b0 c1)), (.int (own_b1 c1))] (.int (0 : Int32)))
set_option maxRecDepth 65536 in
set_option maxHeartbeats 40000000 in
theorem rmcp3_2_1 (l : Launch) (Z : State) (a0 : Array Value) (hw : ∀ d ∈ tables_1, d.before a0 Z = true) (ws : List Jvm.Cond) (b : Addr) (k_b : ClassId) (c0 c1 : Int32) (h0 : Heap) (n0 : Nat) (Z0 : n0 ≤ h0.size) (O0 : Old Z n0 h0) (S_AD : Sta Z Z.heap "java/lang/StringUTF16" "$assertionsDisabled" "Z" (.int 1)) (S_HI : Sta Z Z.heap "java/lang/StringUTF16" "HI_BYTE_SHIFT" "I" (.int 0)) (S_LO : Sta Z Z.heap "java/lang/StringUTF16" "LO_BYTE_SHIFT" "I" (.int 8)) (V_b : Arv Z h0 b k_b .char (2 : Int32) [(.int c0), (.int c1)] (.int (0 : Int32))) (hs0 : ¬ (255 : Int32) < c0) (hb1 : (255 : Int32) < c1) (hc0 : ¬ c0 < 0 ∧ ¬ (65535 : Int32) < c0) (hc1 : ¬ c1 < 0 ∧ ¬ (65535 : Int32) < c1) :
    MetFree l (⟨"java/lang/StringUTF16", "compress", "([CII)[B"⟩ : MethodName) (head1 (Jvm.Cond.code (⟨"java/lang/StringUTF16", "compress", "([CII)[B"⟩ : MethodName) jdk_52_method_16_code 6 (some (.array .byte)) :: ws) ({ frames := 3, cells := 2, slots := 6, locals := 40 } : Room)) (fun as0 U => as0 = #[(.ref b), (.int (0 : Int32)), (.int (2 : Int32))] ∧ Z.Warmed39 U.vm ∧ U.heap = h0) (fun _ _ _ _ _ => True) (fun _ U oc0 U' => ∃ v L, oc0 = .returned v ∧ Qcp3_2_1 Z b k_b c0 c1 h0 n0 v U'.heap L ∧ FrameEnd U oc0 U' L ({ frames := 3, cells := 2, slots := 6, locals := 40 } : Room).cells ({ frames := 3, cells := 2, slots := 6, locals := 40 } : Room).slots) := by
  refine MetFree.of_bodySF (plainFor_of_name pn_java_lang_StringUTF16) hisR ?_
  intro p e s m args below meth c s₁ Bd hml0 hP hK
  obtain ⟨rfl, hZ, hh⟩ := hP
  have hx := Bd.exec
  have hby := Bd.bytes
  have hml : c.maxLocals = 6 := hml0
  have hown : s.vm.findClass "java/lang/StringUTF16" = some m.cls := findClass_of_methodNamed Bd.named
  have hnm := (name_of_methodNamed Bd.named Bd.method).1
  have X0 : Stand p l e ({ frames := 3, cells := 2, slots := 6, locals := 40 } : Room) s m #[(.ref b), (.int (0 : Int32)), (.int (2 : Int32))] below meth c s₁ [] 0 0 := Stand.of_body Bd
  have e0 : s₁.heap = h0 := by rw [← hh, Bd.state]; rfl
  have N0 := Fr.nil n0
  show Gl p e below s (Qcp3_2_1 Z b k_b c0 c1 h0 n0) ({ frames := 3, cells := 2, slots := 6, locals := 40 } : Room).cells ({ frames := 3, cells := 2, slots := 6, locals := 40 } : Room).slots (s₁.setTop (entryFrame m #[(.ref b), (.int (0 : Int32)), (.int (2 : Int32))] 6))
  refine Gl.back (fun _ k => castTop (ef_cp3_2_1 m b) k) ?_
  show Gl _ _ _ _ _ _ _ (s₁.setTop (mkF m 0 #[.val (.ref b), .val (.int (0 : Int32)), .val (.int (2 : Int32)), .unset, .unset, .unset] []))
  refine Gl.back (fun _ k => XS.iloadN X0.here hx rfl (hb hby d4_0) rfl k) ?_
  show Gl _ _ _ _ _ _ _ (s₁.setTop (mkF m 1 #[.val (.ref b), .val (.int (0 : Int32)), .val (.int (2 : Int32)), .unset, .unset, .unset] [(.int (2 : Int32))]))
  obtain ⟨T101, h101, k101, X101, e101, E101, A101, st101⟩ := newP X0 hx hZ (hw _ (List.mem_of_getElem? (i := 20) rfl)) e0 (g := (mkF m 1 #[.val (.ref b), .val (.int (0 : Int32)), .val (.int (2 : Int32)), .unset, .unset, .unset] [(.int (2 : Int32))])) rfl (hb hby d4_1) rfl (by decide) (cap := 2) (by decide) (by decide) (by decide) (by decide)
  obtain ⟨b101, g101⟩ : ∃ z, z = h0.size := ⟨_, rfl⟩
  rw [← g101] at A101 st101
  have V101 : Arv Z h101 b101 k101 .byte (2 : Int32) [(.int (0 : Int32)), (.int (0 : Int32))] (.int (0 : Int32)) := (Arv.new A101 (by decide)).pad (pad_rep [] (.int (0 : Int32)) 2)
  have ne_b_b101 : b ≠ b101 := Nat.ne_of_lt (Nat.lt_of_lt_of_le V_b.lt (Nat.le_of_eq g101.symm))
  have g_b101 : n0 ≤ b101 := Nat.le_trans Z0 (Nat.le_of_eq g101.symm)
  have sz_b101 : h0.size ≤ b101 := Nat.le_trans (Keep.refl h0 []).1 (Nat.le_of_eq g101.symm)
  have Z101 : n0 ≤ h101.size := Nat.le_trans Z0 E101.1
  have K101 := Keep.ext (Keep.refl h0 []) E101
  have O101 := Old.ext O0 E101
  refine Gl.back (fun _ k => st101 _ k) ?_
  show Gl _ _ _ _ _ _ _ (T101.setTop (mkF m 3 #[.val (.ref b), .val (.int (0 : Int32)), .val (.int (2 : Int32)), .unset, .unset, .unset] [(.ref b101)]))
  refine Gl.back (fun _ k => XS.astoreN X101.here hx rfl (hb hby d4_3) rfl rfl (l' := #[.val (.ref b), .val (.int (0 : Int32)), .val (.int (2 : Int32)), .val (.ref b101), .unset, .unset]) rfl k) ?_
  show Gl _ _ _ _ _ _ _ (T101.setTop (mkF m 4 #[.val (.ref b), .val (.int (0 : Int32)), .val (.int (2 : Int32)), .val (.ref b101), .unset, .unset] []))
  refine Gl.back (fun _ k => XS.aloadN X101.here hx rfl (hb hby d4_4) rfl rfl k) ?_
  show Gl _ _ _ _ _ _ _ (T101.setTop (mkF m 5 #[.val (.ref b), .val (.int (0 : Int32)), .val (.int (2 : Int32)), .val (.ref b101), .unset, .unset] [(.ref b)]))
  refine Gl.back (fun _ k => XS.iloadN X101.here hx rfl (hb hby d4_5) rfl k) ?_
  show Gl _ _ _ _ _ _ _ (T101.setTop (mkF m 6 #[.val (.ref b), .val (.int (0 : Int32)), .val (.int (2 : Int32)), .val (.ref b101), .unset, .unset] [(.int (0 : Int32)), (.ref b)]))
  refine Gl.back (fun _ k => XS.aloadN X101.here hx rfl (hb hby d4_6) rfl rfl k) ?_
  show Gl _ _ _ _ _ _ _ (T101.setTop (mkF m 7 #[.val (.ref b), .val (.int (0 : Int32)), .val (.int (2 : Int32)), .val (.ref b101), .unset, .unset] [(.ref b101), (.int (0 : Int32)), (.ref b)]))
  refine Gl.back (fun _ k => XS.iconst X101.here hx rfl (hb hby d4_7) k) ?_
  show Gl _ _ _ _ _ _ _ (T101.setTop (mkF m 8 #[.val (.ref b), .val (.int (0 : Int32)), .val (.int (2 : Int32)), .val (.ref b101), .unset, .unset] [(.int (0 : Int32)), (.ref b101), (.int (0 : Int32)), (.ref b)]))
  refine Gl.back (fun _ k => XS.iloadN X101.here hx rfl (hb hby d4_8) rfl k) ?_
  show Gl _ _ _ _ _ _ _ (T101.setTop (mkF m 9 #[.val (.ref b), .val (.int (0 : Int32)), .val (.int (2 : Int32)), .val (.ref b101), .unset, .unset] [(.int (2 : Int32)), (.int (0 : Int32)), (.ref b101), (.int (0 : Int32)), (.ref b)]))
  have f103 := (V_b.ext E101)
  obtain ⟨_, _, ⟨T102, L102, k102, n102⟩, -, X102, ⟨Lc102, hQ102, l102, y102, z102⟩, st102⟩ := Jvm.LawKit.callS X101 hx (y := (⟨"java/lang/StringUTF16", "compress", "([CI[BII)I"⟩ : MethodName)) hown (mvT hZ (hw _ (List.mem_of_getElem? (i := 21) rfl))) (mvT hZ (hw _ (List.mem_of_getElem? (i := 22) rfl))) (mvT hZ (hw _ (List.mem_of_getElem? (i := 18) rfl))) (mvT hZ (hw _ (List.mem_of_getElem? (i := 23) rfl))) (by decide) (backOf (W := 0) (rmcp5_2_1 l Z a0 hw [] b b101 k_b k101 c0 c1 h101 n0 Z101 g_b101 f103 V101 ne_b_b101 hs0 hb1) hZ (hw _ (List.mem_of_getElem? (i := 23) rfl)) (hw _ (List.mem_of_getElem? (i := 18) rfl)) (by decide) (by decide)) (g := (mkF m 9 #[.val (.ref b), .val (.int (0 : Int32)), .val (.int (2 : Int32)), .val (.ref b101), .unset, .unset] [(.int (2 : Int32)), (.int (0 : Int32)), (.ref b101), (.int (0 : Int32)), (.ref b)])) rfl (by rw [hml]; rfl) (argsL := [(.ref b), (.int (0 : Int32)), (.ref b101), (.int (0 : Int32)), (.int (2 : Int32))]) (rest := []) (lenOf pd___CI_BII_I rfl) rfl (by show 2 * 0 + _ ≤ _; exact Nat.le_of_eq rfl) (hb hby d4_9) (fun _ _ => ⟨rfl, e101, (by decide : 1 + 0 ≤ _), (by decide : 2 + 0 ≤ _)⟩)
  dsimp only [Pt.U, Pt.locs, Pt.cells, Pt.slots] at X102 l102 y102 z102 st102 hQ102
  replace l102 := Eq.symm l102
  replace y102 := Eq.symm y102
  replace z102 := Eq.symm z102
  subst l102 y102 z102
  obtain ⟨Nq102, rfl, Kq102⟩ := hQ102
  have N102 := Fr.app N0 Nq102
  have Kc102 := Keep.trans K101 Kq102 (allS (Or.inr sz_b101) all0)
  have Zc102 : n0 ≤ T102.heap.size := Nat.le_trans Z101 Kq102.1
  have Oc102 := Old.keep O101 Kq102 (allS g_b101 all0)
  refine Gl.back (fun _ k => st102 _ k) ?_
  show Gl _ _ _ _ _ _ _ (T102.setTop (mkF m 12 #[.val (.ref b), .val (.int (0 : Int32)), .val (.int (2 : Int32)), .val (.ref b101), .unset, .unset] [(.int (1 : Int32))]))
  refine Gl.back (fun _ k => XS.istore X102.here hx rfl (hb hby d4_12) rfl (l' := #[.val (.ref b), .val (.int (0 : Int32)), .val (.int (2 : Int32)), .val (.ref b101), .val (.int (1 : Int32)), .unset]) rfl k) ?_
  show Gl _ _ _ _ _ _ _ (T102.setTop (mkF m 14 #[.val (.ref b), .val (.int (0 : Int32)), .val (.int (2 : Int32)), .val (.ref b101), .val (.int (1 : Int32)), .unset] []))
  refine Gl.back (fun _ k => XS.iload X102.here hx rfl (hb hby d4_14) rfl k) ?_
  show Gl _ _ _ _ _ _ _ (T102.setTop (mkF m 16 #[.val (.ref b), .val (.int (0 : Int32)), .val (.int (2 : Int32)), .val (.ref b101), .val (.int (1 : Int32)), .unset] [(.int (1 : Int32))]))
  refine Gl.back (fun _ k => XS.iloadN X102.here hx rfl (hb hby d4_16) rfl k) ?_
  show Gl _ _ _ _ _ _ _ (T102.setTop (mkF m 17 #[.val (.ref b), .val (.int (0 : Int32)), .val (.int (2 : Int32)), .val (.ref b101), .val (.int (1 : Int32)), .unset] [(.int (2 : Int32)), (.int (1 : Int32))]))
  refine Gl.back (fun _ k => XS.icmpNo X102.here hx rfl (hb hby d4_17) rfl (feq (by decide : ¬ (1 : Int32) = (2 : Int32))).1 k) ?_
  show Gl _ _ _ _ _ _ _ (T102.setTop (mkF m 20 #[.val (.ref b), .val (.int (0 : Int32)), .val (.int (2 : Int32)), .val (.ref b101), .val (.int (1 : Int32)), .unset] []))
  refine Gl.back (fun _ k => XS.aloadN X102.here hx rfl (hb hby d4_20) rfl rfl k) ?_
  show Gl _ _ _ _ _ _ _ (T102.setTop (mkF m 21 #[.val (.ref b), .val (.int (0 : Int32)), .val (.int (2 : Int32)), .val (.ref b101), .val (.int (1 : Int32)), .unset] [(.ref b)]))
  refine Gl.back (fun _ k => XS.iloadN X102.here hx rfl (hb hby d4_21) rfl k) ?_
  show Gl _ _ _ _ _ _ _ (T102.setTop (mkF m 22 #[.val (.ref b), .val (.int (0 : Int32)), .val (.int (2 : Int32)), .val (.ref b101), .val (.int (1 : Int32)), .unset] [(.int (0 : Int32)), (.ref b)]))
  refine Gl.back (fun _ k => XS.iloadN X102.here hx rfl (hb hby d4_22) rfl k) ?_
  show Gl _ _ _ _ _ _ _ (T102.setTop (mkF m 23 #[.val (.ref b), .val (.int (0 : Int32)), .val (.int (2 : Int32)), .val (.ref b101), .val (.int (1 : Int32)), .unset] [(.int (2 : Int32)), (.int (0 : Int32)), (.ref b)]))
  have f105 := (f103.keep Kq102 (ninS ne_b_b101 nin0))
  obtain ⟨_, _, ⟨T104, L104, k104, n104⟩, -, X104, ⟨Lc104, hQ104, l104, y104, z104⟩, st104⟩ := Jvm.LawKit.callS X102 hx (y := (⟨"java/lang/StringUTF16", "toBytes", "([CII)[B"⟩ : MethodName)) hown (mvT hZ (hw _ (List.mem_of_getElem? (i := 92) rfl))) (mvT hZ (hw _ (List.mem_of_getElem? (i := 93) rfl))) (mvT hZ (hw _ (List.mem_of_getElem? (i := 18) rfl))) (mvT hZ (hw _ (List.mem_of_getElem? (i := 94) rfl))) (by decide) (backOf (W := 0) (rmtob_2 l Z a0 hw [] b k_b c0 c1 T102.heap n0 Zc102 Oc102 S_AD S_HI S_LO f105) hZ (hw _ (List.mem_of_getElem? (i := 94) rfl)) (hw _ (List.mem_of_getElem? (i := 18) rfl)) (by decide) (by decide)) (g := (mkF m 23 #[.val (.ref b), .val (.int (0 : Int32)), .val (.int (2 : Int32)), .val (.ref b101), .val (.int (1 : Int32)), .unset] [(.int (2 : Int32)), (.int (0 : Int32)), (.ref b)])) rfl (by rw [hml]; rfl) (argsL := [(.ref b), (.int (0 : Int32)), (.int (2 : Int32))]) (rest := []) (lenOf pd___CII__B rfl) rfl (by show 2 * 0 + _ ≤ _; exact Nat.le_of_eq rfl) (hb hby d4_23) (fun _ _ => ⟨rfl, rfl, (by decide : 1 + 1 ≤ _), (by decide : 2 + 4 ≤ _)⟩)
  dsimp only [Pt.U, Pt.locs, Pt.cells, Pt.slots] at X104 l104 y104 z104 st104 hQ104
  replace l104 := Eq.symm l104
  replace y104 := Eq.symm y104
  replace z104 := Eq.symm z104
  subst l104 y104 z104
  obtain ⟨Nq104, t104, k0104, rfl, Kq104, Sz104, Gz104, V104⟩ := hQ104
  have N104 := Fr.app N102 Nq104
  have Kc104 := Keep.trans Kc102 Kq104 all0
  have Zc104 : n0 ≤ T104.heap.size := Nat.le_trans Zc102 Kq104.1
  have Oc104 := Old.keep Oc102 Kq104 all0
  have ne_b_t104 : b ≠ t104 := Nat.ne_of_lt (Nat.lt_of_lt_of_le (f105).lt Sz104)
  have sz_t104 : h0.size ≤ t104 := Nat.le_trans Kc102.1 Sz104
  refine Gl.back (fun _ k => st104 _ k) ?_
  show Gl _ _ _ _ _ _ _ (T104.setTop (mkF m 26 #[.val (.ref b), .val (.int (0 : Int32)), .val (.int (2 : Int32)), .val (.ref b101), .val (.int (1 : Int32)), .unset] [(.ref t104)]))
  refine Gl.back (fun _ k => XS.astore X104.here hx rfl (hb hby d4_26) rfl rfl (l' := #[.val (.ref b), .val (.int (0 : Int32)), .val (.int (2 : Int32)), .val (.ref b101), .val (.int (1 : Int32)), .val (.ref t104)]) rfl k) ?_
  show Gl _ _ _ _ _ _ _ (T104.setTop (mkF m 28 #[.val (.ref b), .val (.int (0 : Int32)), .val (.int (2 : Int32)), .val (.ref b101), .val (.int (1 : Int32)), .val (.ref t104)] []))
  refine Gl.back (fun _ k => XS.aload X104.here hx rfl (hb hby d4_28) rfl rfl k) ?_
  show Gl _ _ _ _ _ _ _ (T104.setTop (mkF m 30 #[.val (.ref b), .val (.int (0 : Int32)), .val (.int (2 : Int32)), .val (.ref b101), .val (.int (1 : Int32)), .val (.ref t104)] [(.ref t104)]))
  refine Gl.back (fun _ k => XS.iload X104.here hx rfl (hb hby d4_30) rfl k) ?_
  show Gl _ _ _ _ _ _ _ (T104.setTop (mkF m 32 #[.val (.ref b), .val (.int (0 : Int32)), .val (.int (2 : Int32)), .val (.ref b101), .val (.int (1 : Int32)), .val (.ref t104)] [(.int (1 : Int32)), (.ref t104)]))
  obtain ⟨_, _, ⟨T106, L106, k106, n106⟩, -, X106, ⟨Lc106, hQ106, l106, y106, z106⟩, st106⟩ := Jvm.LawKit.callS X104 hx (y := (⟨"java/lang/StringUTF16", "getChar", "([BI)C"⟩ : MethodName)) hown (mvT hZ (hw _ (List.mem_of_getElem? (i := 108) rfl))) (mvT hZ (hw _ (List.mem_of_getElem? (i := 109) rfl))) (mvT hZ (hw _ (List.mem_of_getElem? (i := 18) rfl))) (mvT hZ (hw _ (List.mem_of_getElem? (i := 110) rfl))) (by decide) (backOf (W := 0) (rmgch_2_1 l Z a0 hw [] t104 k0104 (own_b0 c0) (own_b1 c0) (own_b0 c1) (own_b1 c1) T104.heap n0 Zc104 Oc104 S_AD S_HI S_LO V104) hZ (hw _ (List.mem_of_getElem? (i := 110) rfl)) (hw _ (List.mem_of_getElem? (i := 18) rfl)) (by decide) (by decide)) (g := (mkF m 32 #[.val (.ref b), .val (.int (0 : Int32)), .val (.int (2 : Int32)), .val (.ref b101), .val (.int (1 : Int32)), .val (.ref t104)] [(.int (1 : Int32)), (.ref t104)])) rfl (by rw [hml]; rfl) (argsL := [(.ref t104), (.int (1 : Int32))]) (rest := []) (lenOf pd___BI_C rfl) rfl (by show 2 * 0 + _ ≤ _; exact Nat.le_of_eq rfl) (hb hby d4_32) (fun _ _ => ⟨rfl, rfl, (by decide : 2 + 0 ≤ _), (by decide : 6 + 0 ≤ _)⟩)
  dsimp only [Pt.U, Pt.locs, Pt.cells, Pt.slots] at X106 l106 y106 z106 st106 hQ106
  replace l106 := Eq.symm l106
  replace y106 := Eq.symm y106
  replace z106 := Eq.symm z106
  subst l106 y106 z106
  obtain ⟨Nq106, rfl, eh106⟩ := hQ106
  have N106 := Fr.app N104 Nq106
  refine Gl.back (fun _ k => st106 _ k) ?_
  show Gl _ _ _ _ _ _ _ (T106.setTop (mkF m 35 #[.val (.ref b), .val (.int (0 : Int32)), .val (.int (2 : Int32)), .val (.ref b101), .val (.int (1 : Int32)), .val (.ref t104)] [(.int (own_gc (own_b0 c1) (own_b1 c1)))]))
  refine Gl.back (fun _ k => XS.sipush X106.here hx rfl (hb hby d4_35) k) ?_
  show Gl _ _ _ _ _ _ _ (T106.setTop (mkF m 38 #[.val (.ref b), .val (.int (0 : Int32)), .val (.int (2 : Int32)), .val (.ref b101), .val (.int (1 : Int32)), .val (.ref t104)] [(.int (255 : Int32)), (.int (own_gc (own_b0 c1) (own_b1 c1)))]))
  refine Gl.back (fun _ k => XS.icmpYes X106.here hx rfl (pc0 := 38) (pc' := 54) rfl (hb hby d4_38) rfl (tlt ((by rw [own_gcb hc1]; exact hb1) : (255 : Int32) < (own_gc (own_b0 c1) (own_b1 c1)))).2.2.1 (by decide) (by decide) k) ?_
  show Gl _ _ _ _ _ _ _ (T106.setTop (mkF m 54 #[.val (.ref b), .val (.int (0 : Int32)), .val (.int (2 : Int32)), .val (.ref b101), .val (.int (1 : Int32)), .val (.ref t104)] []))
  refine Gl.back (fun _ k => XS.aload X106.here hx rfl (hb hby d4_54) rfl rfl k) ?_
  show Gl _ _ _ _ _ _ _ (T106.setTop (mkF m 56 #[.val (.ref b), .val (.int (0 : Int32)), .val (.int (2 : Int32)), .val (.ref b101), .val (.int (1 : Int32)), .val (.ref t104)] [(.ref t104)]))
  exact Gl.ret X106 eh106 (v := (some (.ref t104))) (fun h => by rw [Bd.returns] at h; cases h) Bd.notSynchronized (fun fs hr => retOut X106 hx (w := (.ref t104)) Bd.returns rfl (Or.inr (Or.inr (Or.inr (Or.inr ⟨rfl, rfl, rfl⟩)))) (hb hby d4_56) hr) ⟨N106, t104, k0104, rfl, Kc104, sz_t104, Gz104, V104⟩ (by decide) (by decide)
theorem ef_new4_2_1 (m : MethodId) (x0 : Addr) (x1 : Addr) : entryFrame m #[(.ref x0), (.ref x1), (.int (0 : Int32)), (.int (2 : Int32)), .null] 6 = mkF m 0 #[.val (.ref x0), .val (.ref x1), .val (.int (0 : Int32)), .val (.int (2 : Int32)), .val .null, .unset] [] := by first | (simp [entryFrame, mkF, argsToLocals, Value.category]; done) | rfl
def Qnew4_2_1 (Z : State) (xs : Addr) (b : Addr) (k_b : ClassId) (c0 c1 zc : Int32) (h0 : Heap) (n0 : Nat) (v : Option Value) (h : Heap) (L : List Loc) : Prop := Fr n0 L ∧ (v = none ∧ Keep h0 h [xs] ∧ ∃ (t : Addr) (k : ClassId), h0.size ≤ t ∧ n0 ≤ t ∧ Fld Z h xs "java/lang/String" "coder" "B" (.int 1) ∧ Fld Z h xs "java/lang/String" "value" "[B" (.ref t) ∧ Arv Z h t k .byte (4 : Int32) [(.int (own_b0 c0)), (.int (own_b1 c0)), (.int (own_b0 c1)), (.int (own_b1 c1))] (.int (0 : Int32)))
set_option maxRecDepth 65536 in
set_option maxHeartbeats 40000000 in
theorem rmnew4_2_1 (l : Launch) (Z : State) (a0 : Array Value) (hw : ∀ d ∈ tables_1, d.before a0 Z = true) (ws : List Jvm.Cond) (xs : Addr) (b : Addr) (k_b : ClassId) (c0 c1 zc : Int32) (h0 : Heap) (n0 : Nat) (Z0 : n0 ≤ h0.size) (O0 : Old Z n0 h0) (S_AD : Sta Z Z.heap "java/lang/StringUTF16" "$assertionsDisabled" "Z" (.int 1)) (S_HI : Sta Z Z.heap "java/lang/StringUTF16" "HI_BYTE_SHIFT" "I" (.int 0)) (S_LO : Sta Z Z.heap "java/lang/StringUTF16" "LO_BYTE_SHIFT" "I" (.int 8)) (S_C : Sta Z Z.heap "java/lang/String" "COMPACT_STRINGS" "Z" (.int zc)) (P0 : ¬ zc = 0) (g_x : n0 ≤ xs) (E_x : Exa Z h0 xs "java/lang/String") (F_v : Fld Z h0 xs "java/lang/String" "value" "[B" .null) (F_c : Fld Z h0 xs "java/lang/String" "coder" "B" (.int 0)) (V_b : Arv Z h0 b k_b .char (2 : Int32) [(.int c0), (.int c1)] (.int (0 : Int32))) (hxb : xs ≠ b) (hs0 : ¬ (255 : Int32) < c0) (hb1 : (255 : Int32) < c1) (hc0 : ¬ c0 < 0 ∧ ¬ (65535 : Int32) < c0) (hc1 : ¬ c1 < 0 ∧ ¬ (65535 : Int32) < c1) :
    MetFree l (⟨"java/lang/String", "<init>", "([CIILjava/lang/Void;)V"⟩ : MethodName) (head1 (Jvm.Cond.code (⟨"java/lang/String", "<init>", "([CIILjava/lang/Void;)V"⟩ : MethodName) jdk_42_method_149_code 6 none :: ws) ({ frames := 4, cells := 2, slots := 6, locals := 57 } : Room)) (fun as0 U => as0 = #[(.ref xs), (.ref b), (.int (0 : Int32)), (.int (2 : Int32)), .null] ∧ Z.Warmed39 U.vm ∧ U.heap = h0) (fun _ _ _ _ _ => True) (fun _ U oc0 U' => ∃ v L, oc0 = .returned v ∧ Qnew4_2_1 Z xs b k_b c0 c1 zc h0 n0 v U'.heap L ∧ FrameEnd U oc0 U' L ({ frames := 4, cells := 2, slots := 6, locals := 57 } : Room).cells ({ frames := 4, cells := 2, slots := 6, locals := 57 } : Room).slots) := by
  refine MetFree.of_bodySF (plainFor_of_name pn_java_lang_String) hisR ?_
  intro p e s m args below meth c s₁ Bd hml0 hP hK
  obtain ⟨rfl, hZ, hh⟩ := hP
  have hx := Bd.exec
  have hby := Bd.bytes
  have hml : c.maxLocals = 6 := hml0
  have hown : s.vm.findClass "java/lang/String" = some m.cls := findClass_of_methodNamed Bd.named
  have hnm := (name_of_methodNamed Bd.named Bd.method).1
  have X0 : Stand p l e ({ frames := 4, cells := 2, slots := 6, locals := 57 } : Room) s m #[(.ref xs), (.ref b), (.int (0 : Int32)), (.int (2 : Int32)), .null] below meth c s₁ [] 0 0 := Stand.of_body Bd
  have e0 : s₁.heap = h0 := by rw [← hh, Bd.state]; rfl
  have N0 := Fr.nil n0
  show Gl p e below s (Qnew4_2_1 Z xs b k_b c0 c1 zc h0 n0) ({ frames := 4, cells := 2, slots := 6, locals := 57 } : Room).cells ({ frames := 4, cells := 2, slots := 6, locals := 57 } : Room).slots (s₁.setTop (entryFrame m #[(.ref xs), (.ref b), (.int (0 : Int32)), (.int (2 : Int32)), .null] 6))
  refine Gl.back (fun _ k => castTop (ef_new4_2_1 m xs b) k) ?_
  show Gl _ _ _ _ _ _ _ (s₁.setTop (mkF m 0 #[.val (.ref xs), .val (.ref b), .val (.int (0 : Int32)), .val (.int (2 : Int32)), .val .null, .unset] []))
  refine Gl.back (fun _ k => XS.aloadN X0.here hx rfl (hb hby d2_0) rfl rfl k) ?_
  show Gl _ _ _ _ _ _ _ (s₁.setTop (mkF m 1 #[.val (.ref xs), .val (.ref b), .val (.int (0 : Int32)), .val (.int (2 : Int32)), .val .null, .unset] [(.ref xs)]))
  obtain ⟨T107, X107, e107, st107⟩ := initO X0 hx hZ hown (hw _ (List.mem_of_getElem? (i := 12) rfl)) (hw _ (List.mem_of_getElem? (i := 13) rfl)) (hw _ (List.mem_of_getElem? (i := 14) rfl)) e0 (g := (mkF m 1 #[.val (.ref xs), .val (.ref b), .val (.int (0 : Int32)), .val (.int (2 : Int32)), .val .null, .unset] [(.ref xs)])) rfl (by rw [hml]; rfl) rfl (hb hby d2_1) (by decide) (W := 0) (by show 2 * 0 + _ ≤ _; exact Nat.le_of_eq rfl) (by decide)
  refine Gl.back (fun _ k => st107 _ k) ?_
  show Gl _ _ _ _ _ _ _ (T107.setTop (mkF m 4 #[.val (.ref xs), .val (.ref b), .val (.int (0 : Int32)), .val (.int (2 : Int32)), .val .null, .unset] []))
  refine Gl.back (fun _ k => XS.iloadN X107.here hx rfl (hb hby d2_4) rfl k) ?_
  show Gl _ _ _ _ _ _ _ (T107.setTop (mkF m 5 #[.val (.ref xs), .val (.ref b), .val (.int (0 : Int32)), .val (.int (2 : Int32)), .val .null, .unset] [(.int (2 : Int32))]))
  refine Gl.back (fun _ k => XS.ifYes X107.here hx rfl (pc0 := 5) (pc' := 27) rfl (hb hby d2_5) rfl ((if0 _ _).trans (feq (by decide : ¬ (2 : Int32) = (0 : Int32))).2) (by decide) (by decide) k) ?_
  show Gl _ _ _ _ _ _ _ (T107.setTop (mkF m 27 #[.val (.ref xs), .val (.ref b), .val (.int (0 : Int32)), .val (.int (2 : Int32)), .val .null, .unset] []))
  obtain ⟨T108, X108, e108, st108⟩ := getS2 X107 hx hZ hown (host := "") (Or.inl (hw _ (List.mem_of_getElem? (i := 15) rfl))) Via.refl e107 (S_C.ext O0.2) (g := (mkF m 27 #[.val (.ref xs), .val (.ref b), .val (.int (0 : Int32)), .val (.int (2 : Int32)), .val .null, .unset] [])) rfl (hb hby d2_27)
  refine Gl.back (fun _ k => st108 _ k) ?_
  show Gl _ _ _ _ _ _ _ (T108.setTop (mkF m 30 #[.val (.ref xs), .val (.ref b), .val (.int (0 : Int32)), .val (.int (2 : Int32)), .val .null, .unset] [(.int zc)]))
  refine Gl.back (fun _ k => XS.ifNo X108.here hx rfl (hb hby d2_30) rfl ((if0 _ _).trans (feq (P0 : ¬ zc = (0 : Int32))).1) k) ?_
  show Gl _ _ _ _ _ _ _ (T108.setTop (mkF m 33 #[.val (.ref xs), .val (.ref b), .val (.int (0 : Int32)), .val (.int (2 : Int32)), .val .null, .unset] []))
  refine Gl.back (fun _ k => XS.aloadN X108.here hx rfl (hb hby d2_33) rfl rfl k) ?_
  show Gl _ _ _ _ _ _ _ (T108.setTop (mkF m 34 #[.val (.ref xs), .val (.ref b), .val (.int (0 : Int32)), .val (.int (2 : Int32)), .val .null, .unset] [(.ref b)]))
  refine Gl.back (fun _ k => XS.iloadN X108.here hx rfl (hb hby d2_34) rfl k) ?_
  show Gl _ _ _ _ _ _ _ (T108.setTop (mkF m 35 #[.val (.ref xs), .val (.ref b), .val (.int (0 : Int32)), .val (.int (2 : Int32)), .val .null, .unset] [(.int (0 : Int32)), (.ref b)]))
  refine Gl.back (fun _ k => XS.iloadN X108.here hx rfl (hb hby d2_35) rfl k) ?_
  show Gl _ _ _ _ _ _ _ (T108.setTop (mkF m 36 #[.val (.ref xs), .val (.ref b), .val (.int (0 : Int32)), .val (.int (2 : Int32)), .val .null, .unset] [(.int (2 : Int32)), (.int (0 : Int32)), (.ref b)]))
  obtain ⟨_, _, ⟨T109, L109, k109, n109⟩, -, X109, ⟨Lc109, hQ109, l109, y109, z109⟩, st109⟩ := Jvm.LawKit.callS X108 hx (y := (⟨"java/lang/StringUTF16", "compress", "([CII)[B"⟩ : MethodName)) hown (mvT hZ (hw _ (List.mem_of_getElem? (i := 16) rfl))) (mvT hZ (hw _ (List.mem_of_getElem? (i := 17) rfl))) (mvT hZ (hw _ (List.mem_of_getElem? (i := 18) rfl))) (mvT hZ (hw _ (List.mem_of_getElem? (i := 19) rfl))) (by decide) (backOf (W := 0) (rmcp3_2_1 l Z a0 hw [] b k_b c0 c1 h0 n0 Z0 O0 S_AD S_HI S_LO V_b hs0 hb1 hc0 hc1) hZ (hw _ (List.mem_of_getElem? (i := 19) rfl)) (hw _ (List.mem_of_getElem? (i := 18) rfl)) (by decide) (by decide)) (g := (mkF m 36 #[.val (.ref xs), .val (.ref b), .val (.int (0 : Int32)), .val (.int (2 : Int32)), .val .null, .unset] [(.int (2 : Int32)), (.int (0 : Int32)), (.ref b)])) rfl (by rw [hml]; rfl) (argsL := [(.ref b), (.int (0 : Int32)), (.int (2 : Int32))]) (rest := []) (lenOf pd___CII__B rfl) rfl (by show 2 * 0 + _ ≤ _; exact Nat.le_of_eq rfl) (hb hby d2_36) (fun _ _ => ⟨rfl, e108, (by decide : 0 + 2 ≤ _), (by decide : 0 + 6 ≤ _)⟩)
  dsimp only [Pt.U, Pt.locs, Pt.cells, Pt.slots] at X109 l109 y109 z109 st109 hQ109
  replace l109 := Eq.symm l109
  replace y109 := Eq.symm y109
  replace z109 := Eq.symm z109
  subst l109 y109 z109
  obtain ⟨Nq109, t109, k0109, rfl, Kq109, Sz109, Gz109, V109⟩ := hQ109
  have N109 := Fr.app N0 Nq109
  have Kc109 := Keep.trans (Keep.refl h0 [xs]) Kq109 all0
  have Zc109 : n0 ≤ T109.heap.size := Nat.le_trans Z0 Kq109.1
  have Oc109 := Old.keep O0 Kq109 all0
  have ne_xs_t109 : xs ≠ t109 := Nat.ne_of_lt (Nat.lt_of_lt_of_le (E_x).lt Sz109)
  have ne_b_t109 : b ≠ t109 := Nat.ne_of_lt (Nat.lt_of_lt_of_le (V_b).lt Sz109)
  have sz_t109 : h0.size ≤ t109 := Nat.le_trans (Keep.refl h0 [xs]).1 Sz109
  refine Gl.back (fun _ k => st109 _ k) ?_
  show Gl _ _ _ _ _ _ _ (T109.setTop (mkF m 39 #[.val (.ref xs), .val (.ref b), .val (.int (0 : Int32)), .val (.int (2 : Int32)), .val .null, .unset] [(.ref t109)]))
  refine Gl.back (fun _ k => XS.astore X109.here hx rfl (hb hby d2_39) rfl rfl (l' := #[.val (.ref xs), .val (.ref b), .val (.int (0 : Int32)), .val (.int (2 : Int32)), .val .null, .val (.ref t109)]) rfl k) ?_
  show Gl _ _ _ _ _ _ _ (T109.setTop (mkF m 41 #[.val (.ref xs), .val (.ref b), .val (.int (0 : Int32)), .val (.int (2 : Int32)), .val .null, .val (.ref t109)] []))
  refine Gl.back (fun _ k => XS.aloadN X109.here hx rfl (hb hby d2_41) rfl rfl k) ?_
  show Gl _ _ _ _ _ _ _ (T109.setTop (mkF m 42 #[.val (.ref xs), .val (.ref b), .val (.int (0 : Int32)), .val (.int (2 : Int32)), .val .null, .val (.ref t109)] [(.ref xs)]))
  refine Gl.back (fun _ k => XS.aload X109.here hx rfl (hb hby d2_42) rfl rfl k) ?_
  show Gl _ _ _ _ _ _ _ (T109.setTop (mkF m 44 #[.val (.ref xs), .val (.ref b), .val (.int (0 : Int32)), .val (.int (2 : Int32)), .val .null, .val (.ref t109)] [(.ref t109), (.ref xs)]))
  refine Gl.back (fun _ k => XS.iloadN X109.here hx rfl (hb hby d2_44) rfl k) ?_
  show Gl _ _ _ _ _ _ _ (T109.setTop (mkF m 45 #[.val (.ref xs), .val (.ref b), .val (.int (0 : Int32)), .val (.int (2 : Int32)), .val .null, .val (.ref t109)] [(.int (2 : Int32)), (.ref t109), (.ref xs)]))
  obtain ⟨_, _, ⟨T110, L110, k110, n110⟩, -, X110, ⟨Lc110, hQ110, l110, y110, z110⟩, st110⟩ := Jvm.LawKit.callS X109 hx (y := (⟨"java/lang/StringUTF16", "coderFromArrayLen", "([BI)B"⟩ : MethodName)) hown (mvT hZ (hw _ (List.mem_of_getElem? (i := 24) rfl))) (mvT hZ (hw _ (List.mem_of_getElem? (i := 25) rfl))) (mvT hZ (hw _ (List.mem_of_getElem? (i := 18) rfl))) (mvT hZ (hw _ (List.mem_of_getElem? (i := 26) rfl))) (by decide) (backOf (W := 1) (rmcod_2 l Z a0 hw [] t109 k0109 [(.int (own_b0 c0)), (.int (own_b1 c0)), (.int (own_b0 c1)), (.int (own_b1 c1))] T109.heap n0 Zc109 V109) hZ (hw _ (List.mem_of_getElem? (i := 26) rfl)) (hw _ (List.mem_of_getElem? (i := 18) rfl)) (by decide) (by decide)) (g := (mkF m 45 #[.val (.ref xs), .val (.ref b), .val (.int (0 : Int32)), .val (.int (2 : Int32)), .val .null, .val (.ref t109)] [(.int (2 : Int32)), (.ref t109), (.ref xs)])) rfl (by rw [hml]; rfl) (argsL := [(.ref t109), (.int (2 : Int32))]) (rest := [(.ref xs)]) (lenOf pd___BI_B rfl) rfl (by show 2 * 0 + _ ≤ _; exact Nat.le_of_eq rfl) (hb hby d2_45) (fun _ _ => ⟨rfl, rfl, (by decide : 2 + 0 ≤ _), (by decide : 6 + 0 ≤ _)⟩)
  dsimp only [Pt.U, Pt.locs, Pt.cells, Pt.slots] at X110 l110 y110 z110 st110 hQ110
  replace l110 := Eq.symm l110
  replace y110 := Eq.symm y110
  replace z110 := Eq.symm z110
  subst l110 y110 z110
  obtain ⟨Nq110, rfl, eh110⟩ := hQ110
  have N110 := Fr.app N109 Nq110
  refine Gl.back (fun _ k => st110 _ k) ?_
  show Gl _ _ _ _ _ _ _ (T110.setTop (mkF m 48 #[.val (.ref xs), .val (.ref b), .val (.int (0 : Int32)), .val (.int (2 : Int32)), .val .null, .val (.ref t109)] [(.int (1 : Int32)), (.ref xs)]))
  have f111 := (E_x.keep Kq109)
  have f112 := (F_c.keep Kq109 nin0)
  obtain ⟨T113, h113, X113, e113, W113, st113⟩ := putFN X110 hx hZ hown (hw _ (List.mem_of_getElem? (i := 27) rfl)) Via.refl eh110 f112 f111 (Or.inr ⟨(hw _ (List.mem_of_getElem? (i := 28) rfl)), rfl, hnm⟩) (hw _ (List.mem_of_getElem? (i := 3) rfl)) (ty := .byte) (v' := (.int (1 : Int32))) (by decide) rfl (by decide) (g := (mkF m 48 #[.val (.ref xs), .val (.ref b), .val (.int (0 : Int32)), .val (.int (2 : Int32)), .val .null, .val (.ref t109)] [(.int (1 : Int32)), (.ref xs)])) rfl rfl (hb hby d2_48)
  have Fw113 := f112.same W113
  have K113 := Keep.wr Kc109 W113 (Or.inl (List.mem_of_getElem? (i := 0) rfl))
  have O113 := Old.wr Oc109 W113 g_x
  have Z113 : n0 ≤ h113.size := Nat.le_trans Zc109 (Keep.of_wr W113).1
  have N113 := Fr.snoc X113 N110 g_x
  refine Gl.back (fun _ k => st113 _ k) ?_
  show Gl _ _ _ _ _ _ _ (T113.setTop (mkF m 51 #[.val (.ref xs), .val (.ref b), .val (.int (0 : Int32)), .val (.int (2 : Int32)), .val .null, .val (.ref t109)] []))
  refine Gl.back (fun _ k => XS.aloadN X113.here hx rfl (hb hby d2_51) rfl rfl k) ?_
  show Gl _ _ _ _ _ _ _ (T113.setTop (mkF m 52 #[.val (.ref xs), .val (.ref b), .val (.int (0 : Int32)), .val (.int (2 : Int32)), .val .null, .val (.ref t109)] [(.ref xs)]))
  refine Gl.back (fun _ k => XS.aload X113.here hx rfl (hb hby d2_52) rfl rfl k) ?_
  show Gl _ _ _ _ _ _ _ (T113.setTop (mkF m 54 #[.val (.ref xs), .val (.ref b), .val (.int (0 : Int32)), .val (.int (2 : Int32)), .val .null, .val (.ref t109)] [(.ref t109), (.ref xs)]))
  have f114 := (f111.wr W113)
  have f115 := ((F_v.keep Kq109 nin0).other W113 (Or.inr (slot_ne (Or.inr (hw _ (List.mem_of_getElem? (i := 30) rfl))) (Or.inr (hw _ (List.mem_of_getElem? (i := 28) rfl))) (by decide) (t := (.array .byte)) (t' := .byte) (by decide) (by decide))))
  obtain ⟨T116, h116, X116, e116, W116, st116⟩ := putF X113 hx hZ hown (host := "") (Or.inl (hw _ (List.mem_of_getElem? (i := 29) rfl))) Via.refl e113 f115 f114 (Or.inr ⟨(hw _ (List.mem_of_getElem? (i := 30) rfl)), rfl, hnm⟩) (hw _ (List.mem_of_getElem? (i := 3) rfl)) (ty := (.array .byte)) (by decide) rfl rfl (g := (mkF m 54 #[.val (.ref xs), .val (.ref b), .val (.int (0 : Int32)), .val (.int (2 : Int32)), .val .null, .val (.ref t109)] [(.ref t109), (.ref xs)])) rfl rfl (hb hby d2_54)
  have Fw116 := f115.same W116
  have K116 := Keep.wr K113 W116 (Or.inl (List.mem_of_getElem? (i := 0) rfl))
  have O116 := Old.wr O113 W116 g_x
  have Z116 : n0 ≤ h116.size := Nat.le_trans Z113 (Keep.of_wr W116).1
  have N116 := Fr.snoc X116 N113 g_x
  refine Gl.back (fun _ k => st116 _ k) ?_
  show Gl _ _ _ _ _ _ _ (T116.setTop (mkF m 57 #[.val (.ref xs), .val (.ref b), .val (.int (0 : Int32)), .val (.int (2 : Int32)), .val .null, .val (.ref t109)] []))
  have f117 := (Fw113.other W116 (Or.inr (slot_ne (Or.inr (hw _ (List.mem_of_getElem? (i := 28) rfl))) (Or.inr (hw _ (List.mem_of_getElem? (i := 30) rfl))) (by decide) (t := .byte) (t' := (.array .byte)) (by decide) (by decide))))
  have f118 := ((V109.other W113 (Ne.symm ne_xs_t109)).other W116 (Ne.symm ne_xs_t109))
  exact Gl.ret X116 e116 (v := none) (fun _ => rfl) Bd.notSynchronized (fun fs hr => X116.returnOut hx Bd.returns (hb hby d2_57) hr) ⟨N116, rfl, K116, t109, k0109, sz_t109, Gz109, f117, Fw116, f118⟩ (by decide) (by decide)
theorem ef_new1_2_1 (m : MethodId) (x0 : Addr) (x1 : Addr) : entryFrame m #[(.ref x0), (.ref x1)] 2 = mkF m 0 #[.val (.ref x0), .val (.ref x1)] [] := by first | (simp [entryFrame, mkF, argsToLocals, Value.category]; done) | rfl
def Qnew1_2_1 (Z : State) (xs : Addr) (b : Addr) (k_b : ClassId) (c0 c1 zc : Int32) (h0 : Heap) (n0 : Nat) (v : Option Value) (h : Heap) (L : List Loc) : Prop := Fr n0 L ∧ (v = none ∧ Keep h0 h [xs] ∧ ∃ (t : Addr) (k : ClassId), h0.size ≤ t ∧ n0 ≤ t ∧ Fld Z h xs "java/lang/String" "coder" "B" (.int 1) ∧ Fld Z h xs "java/lang/String" "value" "[B" (.ref t) ∧ Arv Z h t k .byte (4 : Int32) [(.int (own_b0 c0)), (.int (own_b1 c0)), (.int (own_b0 c1)), (.int (own_b1 c1))] (.int (0 : Int32)))
set_option maxRecDepth 65536 in
set_option maxHeartbeats 40000000 in
theorem rmnew1_2_1 (l : Launch) (Z : State) (a0 : Array Value) (hw : ∀ d ∈ tables_1, d.before a0 Z = true) (ws : List Jvm.Cond) (xs : Addr) (b : Addr) (k_b : ClassId) (c0 c1 zc : Int32) (h0 : Heap) (n0 : Nat) (Z0 : n0 ≤ h0.size) (O0 : Old Z n0 h0) (S_AD : Sta Z Z.heap "java/lang/StringUTF16" "$assertionsDisabled" "Z" (.int 1)) (S_HI : Sta Z Z.heap "java/lang/StringUTF16" "HI_BYTE_SHIFT" "I" (.int 0)) (S_LO : Sta Z Z.heap "java/lang/StringUTF16" "LO_BYTE_SHIFT" "I" (.int 8)) (S_C : Sta Z Z.heap "java/lang/String" "COMPACT_STRINGS" "Z" (.int zc)) (P0 : ¬ zc = 0) (g_x : n0 ≤ xs) (E_x : Exa Z h0 xs "java/lang/String") (F_v : Fld Z h0 xs "java/lang/String" "value" "[B" .null) (F_c : Fld Z h0 xs "java/lang/String" "coder" "B" (.int 0)) (V_b : Arv Z h0 b k_b .char (2 : Int32) [(.int c0), (.int c1)] (.int (0 : Int32))) (hxb : xs ≠ b) (hs0 : ¬ (255 : Int32) < c0) (hb1 : (255 : Int32) < c1) (hc0 : ¬ c0 < 0 ∧ ¬ (65535 : Int32) < c0) (hc1 : ¬ c1 < 0 ∧ ¬ (65535 : Int32) < c1) :
    MetFree l (⟨"java/lang/String", "<init>", "([C)V"⟩ : MethodName) (head1 (Jvm.Cond.code (⟨"java/lang/String", "<init>", "([C)V"⟩ : MethodName) jdk_42_method_3_code 2 none :: ws) ({ frames := 5, cells := 2, slots := 6, locals := 74 } : Room)) (fun as0 U => as0 = #[(.ref xs), (.ref b)] ∧ Z.Warmed39 U.vm ∧ U.heap = h0) (fun _ _ _ _ _ => True) (fun _ U oc0 U' => ∃ v L, oc0 = .returned v ∧ Qnew1_2_1 Z xs b k_b c0 c1 zc h0 n0 v U'.heap L ∧ FrameEnd U oc0 U' L ({ frames := 5, cells := 2, slots := 6, locals := 74 } : Room).cells ({ frames := 5, cells := 2, slots := 6, locals := 74 } : Room).slots) := by
  refine MetFree.of_bodySF (plainFor_of_name pn_java_lang_String) hisR ?_
  intro p e s m args below meth c s₁ Bd hml0 hP hK
  obtain ⟨rfl, hZ, hh⟩ := hP
  have hx := Bd.exec
  have hby := Bd.bytes
  have hml : c.maxLocals = 2 := hml0
  have hown : s.vm.findClass "java/lang/String" = some m.cls := findClass_of_methodNamed Bd.named
  have hnm := (name_of_methodNamed Bd.named Bd.method).1
  have X0 : Stand p l e ({ frames := 5, cells := 2, slots := 6, locals := 74 } : Room) s m #[(.ref xs), (.ref b)] below meth c s₁ [] 0 0 := Stand.of_body Bd
  have e0 : s₁.heap = h0 := by rw [← hh, Bd.state]; rfl
  have N0 := Fr.nil n0
  show Gl p e below s (Qnew1_2_1 Z xs b k_b c0 c1 zc h0 n0) ({ frames := 5, cells := 2, slots := 6, locals := 74 } : Room).cells ({ frames := 5, cells := 2, slots := 6, locals := 74 } : Room).slots (s₁.setTop (entryFrame m #[(.ref xs), (.ref b)] 2))
  refine Gl.back (fun _ k => castTop (ef_new1_2_1 m xs b) k) ?_
  show Gl _ _ _ _ _ _ _ (s₁.setTop (mkF m 0 #[.val (.ref xs), .val (.ref b)] []))
  refine Gl.back (fun _ k => XS.aloadN X0.here hx rfl (hb hby d1_0) rfl rfl k) ?_
  show Gl _ _ _ _ _ _ _ (s₁.setTop (mkF m 1 #[.val (.ref xs), .val (.ref b)] [(.ref xs)]))
  refine Gl.back (fun _ k => XS.aloadN X0.here hx rfl (hb hby d1_1) rfl rfl k) ?_
  show Gl _ _ _ _ _ _ _ (s₁.setTop (mkF m 2 #[.val (.ref xs), .val (.ref b)] [(.ref b), (.ref xs)]))
  refine Gl.back (fun _ k => XS.iconst X0.here hx rfl (hb hby d1_2) k) ?_
  show Gl _ _ _ _ _ _ _ (s₁.setTop (mkF m 3 #[.val (.ref xs), .val (.ref b)] [(.int (0 : Int32)), (.ref b), (.ref xs)]))
  refine Gl.back (fun _ k => XS.aloadN X0.here hx rfl (hb hby d1_3) rfl rfl k) ?_
  show Gl _ _ _ _ _ _ _ (s₁.setTop (mkF m 4 #[.val (.ref xs), .val (.ref b)] [(.ref b), (.int (0 : Int32)), (.ref b), (.ref xs)]))
  obtain ⟨cl119, Ar119, -, Sz119, Nn119, -, -⟩ := id V_b
  refine Gl.back (fun _ k => X0.arraylength hx (by rw [e0]; exact Ar119.1) (State.isArrayOf_alike hZ.alike Ar119.2.1) (g := (mkF m 4 #[.val (.ref xs), .val (.ref b)] [(.ref b), (.int (0 : Int32)), (.ref b), (.ref xs)])) rfl rfl (hb hby d1_4) _ k) ?_
  rw [len_of Sz119 Nn119]
  show Gl _ _ _ _ _ _ _ (s₁.setTop (mkF m 5 #[.val (.ref xs), .val (.ref b)] [(.int (2 : Int32)), (.int (0 : Int32)), (.ref b), (.ref xs)]))
  refine Gl.back (fun _ k => XS.aconstNull X0.here hx rfl (hb hby d1_5) k) ?_
  show Gl _ _ _ _ _ _ _ (s₁.setTop (mkF m 6 #[.val (.ref xs), .val (.ref b)] [.null, (.int (2 : Int32)), (.int (0 : Int32)), (.ref b), (.ref xs)]))
  obtain ⟨_, _, ⟨T120, L120, k120, n120⟩, -, X120, ⟨Lc120, hQ120, l120, y120, z120⟩, st120⟩ := X0.specialBack hx (y := (⟨"java/lang/String", "<init>", "([CIILjava/lang/Void;)V"⟩ : MethodName)) rfl hown (mvT hZ (hw _ (List.mem_of_getElem? (i := 8) rfl))) (mvT hZ (hw _ (List.mem_of_getElem? (i := 9) rfl))) (mvT hZ (hw _ (List.mem_of_getElem? (i := 11) rfl))) (by decide) (backOf (W := 0) (rmnew4_2_1 l Z a0 hw [] xs b k_b c0 c1 zc h0 n0 Z0 O0 S_AD S_HI S_LO S_C P0 g_x E_x F_v F_c V_b hxb hs0 hb1 hc0 hc1) hZ (hw _ (List.mem_of_getElem? (i := 11) rfl)) (hw _ (List.mem_of_getElem? (i := 4) rfl)) (by decide) (by decide)) (g := (mkF m 6 #[.val (.ref xs), .val (.ref b)] [.null, (.int (2 : Int32)), (.int (0 : Int32)), (.ref b), (.ref xs)])) rfl (by rw [hml]; rfl) (Steps.refl _) (a := xs) (argsL := [(.ref b), (.int (0 : Int32)), (.int (2 : Int32)), .null]) (rest := []) (lenOf pd___CIILjava_lang_Void__V rfl) rfl (by show 2 * 0 + _ ≤ _; exact Nat.le_of_eq rfl) (hb hby d1_6) (fun _ _ => ⟨rfl, e0, (by decide : 0 + 2 ≤ _), (by decide : 0 + 6 ≤ _)⟩)
  dsimp only [Pt.U, Pt.locs, Pt.cells, Pt.slots] at X120 l120 y120 z120 st120 hQ120
  replace l120 := Eq.symm l120
  replace y120 := Eq.symm y120
  replace z120 := Eq.symm z120
  subst l120 y120 z120
  obtain ⟨Nq120, rfl, Kq120, t120, k0120, Sz120, Gz120, Fc120, Fv120, V120⟩ := hQ120
  have N120 := Fr.app N0 Nq120
  have Kc120 := Keep.trans (Keep.refl h0 [xs]) Kq120 (allS (Or.inl (List.mem_of_getElem? (i := 0) rfl)) all0)
  have Zc120 : n0 ≤ T120.heap.size := Nat.le_trans Z0 Kq120.1
  have Oc120 := Old.keep O0 Kq120 (allS g_x all0)
  have ne_xs_t120 : xs ≠ t120 := Nat.ne_of_lt (Nat.lt_of_lt_of_le (E_x).lt Sz120)
  have ne_b_t120 : b ≠ t120 := Nat.ne_of_lt (Nat.lt_of_lt_of_le (V_b).lt Sz120)
  have sz_t120 : h0.size ≤ t120 := Nat.le_trans (Keep.refl h0 [xs]).1 Sz120
  refine Gl.back (fun _ k => st120.trans k) ?_
  show Gl _ _ _ _ _ _ _ (T120.setTop (mkF m 9 #[.val (.ref xs), .val (.ref b)] []))
  exact Gl.ret X120 rfl (v := none) (fun _ => rfl) Bd.notSynchronized (fun fs hr => X120.returnOut hx Bd.returns (hb hby d1_9) hr) ⟨N120, rfl, Kc120, t120, k0120, sz_t120, Gz120, Fc120, Fv120, V120⟩ (by decide) (by decide)
theorem d7_0 : decode method_2_code 0 = .ok (.iload_n 0, 1) := by decide +kernel
theorem d7_1 : decode method_2_code 1 = .ok (.ifCond .ne 7, 3) := by decide +kernel
theorem d7_4 : decode method_2_code 4 = .ok (.getstatic 7, 3) := by decide +kernel
theorem d7_7 : decode method_2_code 7 = .ok (.areturn, 1) := by decide +kernel
theorem d7_8 : decode method_2_code 8 = .ok (.iload_n 0, 1) := by decide +kernel
theorem d7_9 : decode method_2_code 9 = .ok (.iconst 1, 1) := by decide +kernel
theorem d7_10 : decode method_2_code 10 = .ok (.if_icmp .ne 7, 3) := by decide +kernel
theorem d7_13 : decode method_2_code 13 = .ok (.getstatic 13, 3) := by decide +kernel
theorem d7_16 : decode method_2_code 16 = .ok (.areturn, 1) := by decide +kernel
theorem d7_17 : decode method_2_code 17 = .ok (.iload_n 0, 1) := by decide +kernel
theorem d7_18 : decode method_2_code 18 = .ok (.iconst 2, 1) := by decide +kernel
theorem d7_19 : decode method_2_code 19 = .ok (.if_icmp .ne 7, 3) := by decide +kernel
theorem d7_22 : decode method_2_code 22 = .ok (.getstatic 16, 3) := by decide +kernel
theorem d7_25 : decode method_2_code 25 = .ok (.areturn, 1) := by decide +kernel
theorem d7_26 : decode method_2_code 26 = .ok (.iload_n 0, 1) := by decide +kernel
theorem d7_27 : decode method_2_code 27 = .ok (.iconst 3, 1) := by decide +kernel
theorem d7_28 : decode method_2_code 28 = .ok (.if_icmp .ne 7, 3) := by decide +kernel
theorem d7_31 : decode method_2_code 31 = .ok (.getstatic 19, 3) := by decide +kernel
theorem d7_34 : decode method_2_code 34 = .ok (.areturn, 1) := by decide +kernel
theorem d7_35 : decode method_2_code 35 = .ok (.iload_n 0, 1) := by decide +kernel
theorem d7_36 : decode method_2_code 36 = .ok (.iconst 4, 1) := by decide +kernel
theorem d7_37 : decode method_2_code 37 = .ok (.if_icmp .ne 7, 3) := by decide +kernel
theorem d7_40 : decode method_2_code 40 = .ok (.getstatic 22, 3) := by decide +kernel
theorem d7_43 : decode method_2_code 43 = .ok (.areturn, 1) := by decide +kernel
theorem d7_44 : decode method_2_code 44 = .ok (.iload_n 0, 1) := by decide +kernel
theorem d7_45 : decode method_2_code 45 = .ok (.iconst 5, 1) := by decide +kernel
theorem d7_46 : decode method_2_code 46 = .ok (.if_icmp .ne 7, 3) := by decide +kernel
theorem d7_49 : decode method_2_code 49 = .ok (.getstatic 25, 3) := by decide +kernel
theorem d7_52 : decode method_2_code 52 = .ok (.areturn, 1) := by decide +kernel
theorem d7_53 : decode method_2_code 53 = .ok (.getstatic 28, 3) := by decide +kernel
theorem d7_56 : decode method_2_code 56 = .ok (.areturn, 1) := by decide +kernel
theorem pn_com_example_partition_planner_partitionplanner_TokenIsSymbolPinLaw : plainName "com/example/partition_planner/partitionplanner/TokenIsSymbolPinLaw" = true := by first | (simp [plainName, overriddenIn]; done) | decide +kernel
theorem ef_kind (m : MethodId) (x0 : Int32) : entryFrame m #[(.int x0)] 1 = mkF m 0 #[.val (.int x0)] [] := by first | (simp [entryFrame, mkF, argsToLocals, Value.category]; done) | rfl
def Qkind (Z : State) (ki : Int32) (w_WORD : Addr) (w_QUOTED_NAME : Addr) (w_STRING : Addr) (w_DIGITS : Addr) (w_STRAY : Addr) (w_SYMBOL : Addr) (w_UNCLOSED : Addr) (h0 : Heap) (n0 : Nat) (v : Option Value) (h : Heap) (L : List Loc) : Prop := Fr n0 L ∧ (∃ wk : Addr, v = some (.ref wk) ∧ (ki = 5 → wk = w_SYMBOL) ∧ (¬ ki = 5 → wk ≠ w_SYMBOL) ∧ h = h0)
set_option maxRecDepth 65536 in
set_option maxHeartbeats 40000000 in
theorem rmkind (l : Launch) (Z : State) (a0 : Array Value) (hw : ∀ d ∈ tables_1, d.before a0 Z = true) (ws : List Jvm.Cond) (ki : Int32) (w_WORD : Addr) (w_QUOTED_NAME : Addr) (w_STRING : Addr) (w_DIGITS : Addr) (w_STRAY : Addr) (w_SYMBOL : Addr) (w_UNCLOSED : Addr) (h0 : Heap) (n0 : Nat) (Z0 : n0 ≤ h0.size) (O0 : Old Z n0 h0) (S_WORD : Sta Z Z.heap "com/example/partition_planner/partitionplanner/CqlLexer$Kind" "WORD" "Lcom/example/partition_planner/partitionplanner/CqlLexer$Kind;" (.ref w_WORD)) (S_QUOTED_NAME : Sta Z Z.heap "com/example/partition_planner/partitionplanner/CqlLexer$Kind" "QUOTED_NAME" "Lcom/example/partition_planner/partitionplanner/CqlLexer$Kind;" (.ref w_QUOTED_NAME)) (S_STRING : Sta Z Z.heap "com/example/partition_planner/partitionplanner/CqlLexer$Kind" "STRING" "Lcom/example/partition_planner/partitionplanner/CqlLexer$Kind;" (.ref w_STRING)) (S_DIGITS : Sta Z Z.heap "com/example/partition_planner/partitionplanner/CqlLexer$Kind" "DIGITS" "Lcom/example/partition_planner/partitionplanner/CqlLexer$Kind;" (.ref w_DIGITS)) (S_STRAY : Sta Z Z.heap "com/example/partition_planner/partitionplanner/CqlLexer$Kind" "STRAY" "Lcom/example/partition_planner/partitionplanner/CqlLexer$Kind;" (.ref w_STRAY)) (S_SYMBOL : Sta Z Z.heap "com/example/partition_planner/partitionplanner/CqlLexer$Kind" "SYMBOL" "Lcom/example/partition_planner/partitionplanner/CqlLexer$Kind;" (.ref w_SYMBOL)) (S_UNCLOSED : Sta Z Z.heap "com/example/partition_planner/partitionplanner/CqlLexer$Kind" "UNCLOSED" "Lcom/example/partition_planner/partitionplanner/CqlLexer$Kind;" (.ref w_UNCLOSED)) (ne_WORD : w_WORD ≠ w_SYMBOL) (ne_QUOTED_NAME : w_QUOTED_NAME ≠ w_SYMBOL) (ne_STRING : w_STRING ≠ w_SYMBOL) (ne_DIGITS : w_DIGITS ≠ w_SYMBOL) (ne_STRAY : w_STRAY ≠ w_SYMBOL) (ne_UNCLOSED : w_UNCLOSED ≠ w_SYMBOL) :
    MetFree l (⟨"com/example/partition_planner/partitionplanner/TokenIsSymbolPinLaw", "kindOf", "(I)Lcom/example/partition_planner/partitionplanner/CqlLexer$Kind;"⟩ : MethodName) (head1 (Jvm.Cond.code (⟨"com/example/partition_planner/partitionplanner/TokenIsSymbolPinLaw", "kindOf", "(I)Lcom/example/partition_planner/partitionplanner/CqlLexer$Kind;"⟩ : MethodName) method_2_code 1 (some (.object "com/example/partition_planner/partitionplanner/CqlLexer$Kind")) :: ws) ({ frames := 0, cells := 0, slots := 0, locals := 0 } : Room)) (fun as0 U => as0 = #[(.int ki)] ∧ Z.Warmed39 U.vm ∧ U.heap = h0) (fun _ _ _ _ _ => True) (fun _ U oc0 U' => ∃ v L, oc0 = .returned v ∧ Qkind Z ki w_WORD w_QUOTED_NAME w_STRING w_DIGITS w_STRAY w_SYMBOL w_UNCLOSED h0 n0 v U'.heap L ∧ FrameEnd U oc0 U' L ({ frames := 0, cells := 0, slots := 0, locals := 0 } : Room).cells ({ frames := 0, cells := 0, slots := 0, locals := 0 } : Room).slots) := by
  refine MetFree.of_bodySF (plainFor_of_name pn_com_example_partition_planner_partitionplanner_TokenIsSymbolPinLaw) hisR ?_
  intro p e s m args below meth c s₁ Bd hml0 hP hK
  obtain ⟨rfl, hZ, hh⟩ := hP
  have hx := Bd.exec
  have hby := Bd.bytes
  have hml : c.maxLocals = 1 := hml0
  have hown : s.vm.findClass "com/example/partition_planner/partitionplanner/TokenIsSymbolPinLaw" = some m.cls := findClass_of_methodNamed Bd.named
  have hnm := (name_of_methodNamed Bd.named Bd.method).1
  have X0 : Stand p l e ({ frames := 0, cells := 0, slots := 0, locals := 0 } : Room) s m #[(.int ki)] below meth c s₁ [] 0 0 := Stand.of_body Bd
  have e0 : s₁.heap = h0 := by rw [← hh, Bd.state]; rfl
  have N0 := Fr.nil n0
  show Gl p e below s (Qkind Z ki w_WORD w_QUOTED_NAME w_STRING w_DIGITS w_STRAY w_SYMBOL w_UNCLOSED h0 n0) ({ frames := 0, cells := 0, slots := 0, locals := 0 } : Room).cells ({ frames := 0, cells := 0, slots := 0, locals := 0 } : Room).slots (s₁.setTop (entryFrame m #[(.int ki)] 1))
  refine Gl.back (fun _ k => castTop (ef_kind m ki) k) ?_
  show Gl _ _ _ _ _ _ _ (s₁.setTop (mkF m 0 #[.val (.int ki)] []))
  refine Gl.back (fun _ k => XS.iloadN X0.here hx rfl (hb hby d7_0) rfl k) ?_
  show Gl _ _ _ _ _ _ _ (s₁.setTop (mkF m 1 #[.val (.int ki)] [(.int ki)]))
  by_cases hc1_147 : ki = (0 : Int32)
  · refine Gl.back (fun _ k => XS.ifNo X0.here hx rfl (hb hby d7_1) rfl ((if0 _ _).trans (teq hc1_147).2) k) ?_
    show Gl _ _ _ _ _ _ _ (s₁.setTop (mkF m 4 #[.val (.int ki)] []))
    obtain ⟨T148, X148, e148, st148⟩ := getS2 X0 hx hZ hown (host := "") (Or.inl (hw _ (List.mem_of_getElem? (i := 38) rfl))) Via.refl e0 (S_WORD.ext O0.2) (g := (mkF m 4 #[.val (.int ki)] [])) rfl (hb hby d7_4)
    refine Gl.back (fun _ k => st148 _ k) ?_
    show Gl _ _ _ _ _ _ _ (T148.setTop (mkF m 7 #[.val (.int ki)] [(.ref w_WORD)]))
    exact Gl.ret X148 e148 (v := (some (.ref w_WORD))) (fun h => by rw [Bd.returns] at h; cases h) Bd.notSynchronized (fun fs hr => retOut X148 hx (w := (.ref w_WORD)) Bd.returns rfl (Or.inr (Or.inr (Or.inr (Or.inr ⟨rfl, rfl, rfl⟩)))) (hb hby d7_7) hr) ⟨N0, w_WORD, rfl, fun q => absurd (hc1_147.symm.trans q) (by decide), fun _ => ne_WORD, rfl⟩ (by decide) (by decide)
  · refine Gl.back (fun _ k => XS.ifYes X0.here hx rfl (pc0 := 1) (pc' := 8) rfl (hb hby d7_1) rfl ((if0 _ _).trans (feq hc1_147).2) (by decide) (by decide) k) ?_
    show Gl _ _ _ _ _ _ _ (s₁.setTop (mkF m 8 #[.val (.int ki)] []))
    refine Gl.back (fun _ k => XS.iloadN X0.here hx rfl (hb hby d7_8) rfl k) ?_
    show Gl _ _ _ _ _ _ _ (s₁.setTop (mkF m 9 #[.val (.int ki)] [(.int ki)]))
    refine Gl.back (fun _ k => XS.iconst X0.here hx rfl (hb hby d7_9) k) ?_
    show Gl _ _ _ _ _ _ _ (s₁.setTop (mkF m 10 #[.val (.int ki)] [(.int (1 : Int32)), (.int ki)]))
    by_cases hc10_149 : ki = (1 : Int32)
    · refine Gl.back (fun _ k => XS.icmpNo X0.here hx rfl (hb hby d7_10) rfl (teq hc10_149).2 k) ?_
      show Gl _ _ _ _ _ _ _ (s₁.setTop (mkF m 13 #[.val (.int ki)] []))
      obtain ⟨T150, X150, e150, st150⟩ := getS2 X0 hx hZ hown (host := "") (Or.inl (hw _ (List.mem_of_getElem? (i := 111) rfl))) Via.refl e0 (S_QUOTED_NAME.ext O0.2) (g := (mkF m 13 #[.val (.int ki)] [])) rfl (hb hby d7_13)
      refine Gl.back (fun _ k => st150 _ k) ?_
      show Gl _ _ _ _ _ _ _ (T150.setTop (mkF m 16 #[.val (.int ki)] [(.ref w_QUOTED_NAME)]))
      exact Gl.ret X150 e150 (v := (some (.ref w_QUOTED_NAME))) (fun h => by rw [Bd.returns] at h; cases h) Bd.notSynchronized (fun fs hr => retOut X150 hx (w := (.ref w_QUOTED_NAME)) Bd.returns rfl (Or.inr (Or.inr (Or.inr (Or.inr ⟨rfl, rfl, rfl⟩)))) (hb hby d7_16) hr) ⟨N0, w_QUOTED_NAME, rfl, fun q => absurd (hc10_149.symm.trans q) (by decide), fun _ => ne_QUOTED_NAME, rfl⟩ (by decide) (by decide)
    · refine Gl.back (fun _ k => XS.icmpYes X0.here hx rfl (pc0 := 10) (pc' := 17) rfl (hb hby d7_10) rfl (feq hc10_149).2 (by decide) (by decide) k) ?_
      show Gl _ _ _ _ _ _ _ (s₁.setTop (mkF m 17 #[.val (.int ki)] []))
      refine Gl.back (fun _ k => XS.iloadN X0.here hx rfl (hb hby d7_17) rfl k) ?_
      show Gl _ _ _ _ _ _ _ (s₁.setTop (mkF m 18 #[.val (.int ki)] [(.int ki)]))
      refine Gl.back (fun _ k => XS.iconst X0.here hx rfl (hb hby d7_18) k) ?_
      show Gl _ _ _ _ _ _ _ (s₁.setTop (mkF m 19 #[.val (.int ki)] [(.int (2 : Int32)), (.int ki)]))
      by_cases hc19_151 : ki = (2 : Int32)
      · refine Gl.back (fun _ k => XS.icmpNo X0.here hx rfl (hb hby d7_19) rfl (teq hc19_151).2 k) ?_
        show Gl _ _ _ _ _ _ _ (s₁.setTop (mkF m 22 #[.val (.int ki)] []))
        obtain ⟨T152, X152, e152, st152⟩ := getS2 X0 hx hZ hown (host := "") (Or.inl (hw _ (List.mem_of_getElem? (i := 125) rfl))) Via.refl e0 (S_STRING.ext O0.2) (g := (mkF m 22 #[.val (.int ki)] [])) rfl (hb hby d7_22)
        refine Gl.back (fun _ k => st152 _ k) ?_
        show Gl _ _ _ _ _ _ _ (T152.setTop (mkF m 25 #[.val (.int ki)] [(.ref w_STRING)]))
        exact Gl.ret X152 e152 (v := (some (.ref w_STRING))) (fun h => by rw [Bd.returns] at h; cases h) Bd.notSynchronized (fun fs hr => retOut X152 hx (w := (.ref w_STRING)) Bd.returns rfl (Or.inr (Or.inr (Or.inr (Or.inr ⟨rfl, rfl, rfl⟩)))) (hb hby d7_25) hr) ⟨N0, w_STRING, rfl, fun q => absurd (hc19_151.symm.trans q) (by decide), fun _ => ne_STRING, rfl⟩ (by decide) (by decide)
      · refine Gl.back (fun _ k => XS.icmpYes X0.here hx rfl (pc0 := 19) (pc' := 26) rfl (hb hby d7_19) rfl (feq hc19_151).2 (by decide) (by decide) k) ?_
        show Gl _ _ _ _ _ _ _ (s₁.setTop (mkF m 26 #[.val (.int ki)] []))
        refine Gl.back (fun _ k => XS.iloadN X0.here hx rfl (hb hby d7_26) rfl k) ?_
        show Gl _ _ _ _ _ _ _ (s₁.setTop (mkF m 27 #[.val (.int ki)] [(.int ki)]))
        refine Gl.back (fun _ k => XS.iconst X0.here hx rfl (hb hby d7_27) k) ?_
        show Gl _ _ _ _ _ _ _ (s₁.setTop (mkF m 28 #[.val (.int ki)] [(.int (3 : Int32)), (.int ki)]))
        by_cases hc28_153 : ki = (3 : Int32)
        · refine Gl.back (fun _ k => XS.icmpNo X0.here hx rfl (hb hby d7_28) rfl (teq hc28_153).2 k) ?_
          show Gl _ _ _ _ _ _ _ (s₁.setTop (mkF m 31 #[.val (.int ki)] []))
          obtain ⟨T154, X154, e154, st154⟩ := getS2 X0 hx hZ hown (host := "") (Or.inl (hw _ (List.mem_of_getElem? (i := 67) rfl))) Via.refl e0 (S_DIGITS.ext O0.2) (g := (mkF m 31 #[.val (.int ki)] [])) rfl (hb hby d7_31)
          refine Gl.back (fun _ k => st154 _ k) ?_
          show Gl _ _ _ _ _ _ _ (T154.setTop (mkF m 34 #[.val (.int ki)] [(.ref w_DIGITS)]))
          exact Gl.ret X154 e154 (v := (some (.ref w_DIGITS))) (fun h => by rw [Bd.returns] at h; cases h) Bd.notSynchronized (fun fs hr => retOut X154 hx (w := (.ref w_DIGITS)) Bd.returns rfl (Or.inr (Or.inr (Or.inr (Or.inr ⟨rfl, rfl, rfl⟩)))) (hb hby d7_34) hr) ⟨N0, w_DIGITS, rfl, fun q => absurd (hc28_153.symm.trans q) (by decide), fun _ => ne_DIGITS, rfl⟩ (by decide) (by decide)
        · refine Gl.back (fun _ k => XS.icmpYes X0.here hx rfl (pc0 := 28) (pc' := 35) rfl (hb hby d7_28) rfl (feq hc28_153).2 (by decide) (by decide) k) ?_
          show Gl _ _ _ _ _ _ _ (s₁.setTop (mkF m 35 #[.val (.int ki)] []))
          refine Gl.back (fun _ k => XS.iloadN X0.here hx rfl (hb hby d7_35) rfl k) ?_
          show Gl _ _ _ _ _ _ _ (s₁.setTop (mkF m 36 #[.val (.int ki)] [(.int ki)]))
          refine Gl.back (fun _ k => XS.iconst X0.here hx rfl (hb hby d7_36) k) ?_
          show Gl _ _ _ _ _ _ _ (s₁.setTop (mkF m 37 #[.val (.int ki)] [(.int (4 : Int32)), (.int ki)]))
          by_cases hc37_155 : ki = (4 : Int32)
          · refine Gl.back (fun _ k => XS.icmpNo X0.here hx rfl (hb hby d7_37) rfl (teq hc37_155).2 k) ?_
            show Gl _ _ _ _ _ _ _ (s₁.setTop (mkF m 40 #[.val (.int ki)] []))
            obtain ⟨T156, X156, e156, st156⟩ := getS2 X0 hx hZ hown (host := "") (Or.inl (hw _ (List.mem_of_getElem? (i := 127) rfl))) Via.refl e0 (S_STRAY.ext O0.2) (g := (mkF m 40 #[.val (.int ki)] [])) rfl (hb hby d7_40)
            refine Gl.back (fun _ k => st156 _ k) ?_
            show Gl _ _ _ _ _ _ _ (T156.setTop (mkF m 43 #[.val (.int ki)] [(.ref w_STRAY)]))
            exact Gl.ret X156 e156 (v := (some (.ref w_STRAY))) (fun h => by rw [Bd.returns] at h; cases h) Bd.notSynchronized (fun fs hr => retOut X156 hx (w := (.ref w_STRAY)) Bd.returns rfl (Or.inr (Or.inr (Or.inr (Or.inr ⟨rfl, rfl, rfl⟩)))) (hb hby d7_43) hr) ⟨N0, w_STRAY, rfl, fun q => absurd (hc37_155.symm.trans q) (by decide), fun _ => ne_STRAY, rfl⟩ (by decide) (by decide)
          · refine Gl.back (fun _ k => XS.icmpYes X0.here hx rfl (pc0 := 37) (pc' := 44) rfl (hb hby d7_37) rfl (feq hc37_155).2 (by decide) (by decide) k) ?_
            show Gl _ _ _ _ _ _ _ (s₁.setTop (mkF m 44 #[.val (.int ki)] []))
            refine Gl.back (fun _ k => XS.iloadN X0.here hx rfl (hb hby d7_44) rfl k) ?_
            show Gl _ _ _ _ _ _ _ (s₁.setTop (mkF m 45 #[.val (.int ki)] [(.int ki)]))
            refine Gl.back (fun _ k => XS.iconst X0.here hx rfl (hb hby d7_45) k) ?_
            show Gl _ _ _ _ _ _ _ (s₁.setTop (mkF m 46 #[.val (.int ki)] [(.int (5 : Int32)), (.int ki)]))
            by_cases hc46_157 : ki = (5 : Int32)
            · refine Gl.back (fun _ k => XS.icmpNo X0.here hx rfl (hb hby d7_46) rfl (teq hc46_157).2 k) ?_
              show Gl _ _ _ _ _ _ _ (s₁.setTop (mkF m 49 #[.val (.int ki)] []))
              obtain ⟨T158, X158, e158, st158⟩ := getS2 X0 hx hZ hown (host := "") (Or.inl (hw _ (List.mem_of_getElem? (i := 69) rfl))) Via.refl e0 (S_SYMBOL.ext O0.2) (g := (mkF m 49 #[.val (.int ki)] [])) rfl (hb hby d7_49)
              refine Gl.back (fun _ k => st158 _ k) ?_
              show Gl _ _ _ _ _ _ _ (T158.setTop (mkF m 52 #[.val (.int ki)] [(.ref w_SYMBOL)]))
              exact Gl.ret X158 e158 (v := (some (.ref w_SYMBOL))) (fun h => by rw [Bd.returns] at h; cases h) Bd.notSynchronized (fun fs hr => retOut X158 hx (w := (.ref w_SYMBOL)) Bd.returns rfl (Or.inr (Or.inr (Or.inr (Or.inr ⟨rfl, rfl, rfl⟩)))) (hb hby d7_52) hr) ⟨N0, w_SYMBOL, rfl, fun _ => rfl, fun q => absurd hc46_157 q, rfl⟩ (by decide) (by decide)
            · refine Gl.back (fun _ k => XS.icmpYes X0.here hx rfl (pc0 := 46) (pc' := 53) rfl (hb hby d7_46) rfl (feq hc46_157).2 (by decide) (by decide) k) ?_
              show Gl _ _ _ _ _ _ _ (s₁.setTop (mkF m 53 #[.val (.int ki)] []))
              obtain ⟨T159, X159, e159, st159⟩ := getS2 X0 hx hZ hown (host := "") (Or.inl (hw _ (List.mem_of_getElem? (i := 113) rfl))) Via.refl e0 (S_UNCLOSED.ext O0.2) (g := (mkF m 53 #[.val (.int ki)] [])) rfl (hb hby d7_53)
              refine Gl.back (fun _ k => st159 _ k) ?_
              show Gl _ _ _ _ _ _ _ (T159.setTop (mkF m 56 #[.val (.int ki)] [(.ref w_UNCLOSED)]))
              exact Gl.ret X159 e159 (v := (some (.ref w_UNCLOSED))) (fun h => by rw [Bd.returns] at h; cases h) Bd.notSynchronized (fun fs hr => retOut X159 hx (w := (.ref w_UNCLOSED)) Bd.returns rfl (Or.inr (Or.inr (Or.inr (Or.inr ⟨rfl, rfl, rfl⟩)))) (hb hby d7_56) hr) ⟨N0, w_UNCLOSED, rfl, fun q => absurd q hc46_157, fun _ => ne_UNCLOSED, rfl⟩ (by decide) (by decide)
theorem d9_0 : decode jdk_30_method_1_code 0 = .ok (.aload_n 0, 1) := by decide +kernel
theorem d9_1 : decode jdk_30_method_1_code 1 = .ok (.invokespecial 1, 3) := by decide +kernel
theorem d9_4 : decode jdk_30_method_1_code 4 = .ok (.return_, 1) := by decide +kernel
theorem pn_java_lang_Record : plainName "java/lang/Record" = true := by first | (simp [plainName, overriddenIn]; done) | decide +kernel
theorem ef_rec (m : MethodId) (x0 : Addr) : entryFrame m #[(.ref x0)] 1 = mkF m 0 #[.val (.ref x0)] [] := by first | (simp [entryFrame, mkF, argsToLocals, Value.category]; done) | rfl
def Qrec (Z : State) (a : Addr) (h0 : Heap) (n0 : Nat) (v : Option Value) (h : Heap) (L : List Loc) : Prop := Fr n0 L ∧ (v = none ∧ h = h0)
set_option maxRecDepth 65536 in
set_option maxHeartbeats 40000000 in
theorem rmrec (l : Launch) (Z : State) (a0 : Array Value) (hw : ∀ d ∈ tables_1, d.before a0 Z = true) (ws : List Jvm.Cond) (a : Addr) (h0 : Heap) (n0 : Nat) (Z0 : n0 ≤ h0.size) :
    MetFree l (⟨"java/lang/Record", "<init>", "()V"⟩ : MethodName) (head1 (Jvm.Cond.code (⟨"java/lang/Record", "<init>", "()V"⟩ : MethodName) jdk_30_method_1_code 1 none :: ws) ({ frames := 1, cells := 0, slots := 0, locals := 12 } : Room)) (fun as0 U => as0 = #[(.ref a)] ∧ Z.Warmed39 U.vm ∧ U.heap = h0) (fun _ _ _ _ _ => True) (fun _ U oc0 U' => ∃ v L, oc0 = .returned v ∧ Qrec Z a h0 n0 v U'.heap L ∧ FrameEnd U oc0 U' L ({ frames := 1, cells := 0, slots := 0, locals := 12 } : Room).cells ({ frames := 1, cells := 0, slots := 0, locals := 12 } : Room).slots) := by
  refine MetFree.of_bodySF (plainFor_of_name pn_java_lang_Record) hisR ?_
  intro p e s m args below meth c s₁ Bd hml0 hP hK
  obtain ⟨rfl, hZ, hh⟩ := hP
  have hx := Bd.exec
  have hby := Bd.bytes
  have hml : c.maxLocals = 1 := hml0
  have hown : s.vm.findClass "java/lang/Record" = some m.cls := findClass_of_methodNamed Bd.named
  have hnm := (name_of_methodNamed Bd.named Bd.method).1
  have X0 : Stand p l e ({ frames := 1, cells := 0, slots := 0, locals := 12 } : Room) s m #[(.ref a)] below meth c s₁ [] 0 0 := Stand.of_body Bd
  have e0 : s₁.heap = h0 := by rw [← hh, Bd.state]; rfl
  have N0 := Fr.nil n0
  show Gl p e below s (Qrec Z a h0 n0) ({ frames := 1, cells := 0, slots := 0, locals := 12 } : Room).cells ({ frames := 1, cells := 0, slots := 0, locals := 12 } : Room).slots (s₁.setTop (entryFrame m #[(.ref a)] 1))
  refine Gl.back (fun _ k => castTop (ef_rec m a) k) ?_
  show Gl _ _ _ _ _ _ _ (s₁.setTop (mkF m 0 #[.val (.ref a)] []))
  refine Gl.back (fun _ k => XS.aloadN X0.here hx rfl (hb hby d9_0) rfl rfl k) ?_
  show Gl _ _ _ _ _ _ _ (s₁.setTop (mkF m 1 #[.val (.ref a)] [(.ref a)]))
  obtain ⟨T160, X160, e160, st160⟩ := initO X0 hx hZ hown (hw _ (List.mem_of_getElem? (i := 49) rfl)) (hw _ (List.mem_of_getElem? (i := 13) rfl)) (hw _ (List.mem_of_getElem? (i := 14) rfl)) e0 (g := (mkF m 1 #[.val (.ref a)] [(.ref a)])) rfl (by rw [hml]; rfl) rfl (hb hby d9_1) (by decide) (W := 0) (by show 2 * 0 + _ ≤ _; exact Nat.le_of_eq rfl) (by decide)
  refine Gl.back (fun _ k => st160 _ k) ?_
  show Gl _ _ _ _ _ _ _ (T160.setTop (mkF m 4 #[.val (.ref a)] []))
  exact Gl.ret X160 e160 (v := none) (fun _ => rfl) Bd.notSynchronized (fun fs hr => X160.returnOut hx Bd.returns (hb hby d9_4) hr) ⟨N0, rfl, rfl⟩ (by decide) (by decide)
theorem d8_0 : decode prog_9_method_1_code 0 = .ok (.aload_n 0, 1) := by decide +kernel
theorem d8_1 : decode prog_9_method_1_code 1 = .ok (.invokespecial 1, 3) := by decide +kernel
theorem pd___V : parseMethodDescriptor "()V" = some ⟨[], none⟩ := by decide +kernel
theorem d8_4 : decode prog_9_method_1_code 4 = .ok (.aload_n 0, 1) := by decide +kernel
theorem d8_5 : decode prog_9_method_1_code 5 = .ok (.aload_n 1, 1) := by decide +kernel
theorem d8_6 : decode prog_9_method_1_code 6 = .ok (.putfield 7, 3) := by decide +kernel
theorem d8_9 : decode prog_9_method_1_code 9 = .ok (.aload_n 0, 1) := by decide +kernel
theorem d8_10 : decode prog_9_method_1_code 10 = .ok (.aload_n 2, 1) := by decide +kernel
theorem d8_11 : decode prog_9_method_1_code 11 = .ok (.putfield 13, 3) := by decide +kernel
theorem d8_14 : decode prog_9_method_1_code 14 = .ok (.aload_n 0, 1) := by decide +kernel
theorem d8_15 : decode prog_9_method_1_code 15 = .ok (.iload_n 3, 1) := by decide +kernel
theorem d8_16 : decode prog_9_method_1_code 16 = .ok (.putfield 17, 3) := by decide +kernel
theorem d8_19 : decode prog_9_method_1_code 19 = .ok (.aload_n 0, 1) := by decide +kernel
theorem d8_20 : decode prog_9_method_1_code 20 = .ok (.iload 4, 2) := by decide +kernel
theorem d8_22 : decode prog_9_method_1_code 22 = .ok (.putfield 21, 3) := by decide +kernel
theorem d8_25 : decode prog_9_method_1_code 25 = .ok (.aload_n 0, 1) := by decide +kernel
theorem d8_26 : decode prog_9_method_1_code 26 = .ok (.iload 5, 2) := by decide +kernel
theorem d8_28 : decode prog_9_method_1_code 28 = .ok (.putfield 24, 3) := by decide +kernel
theorem d8_31 : decode prog_9_method_1_code 31 = .ok (.return_, 1) := by decide +kernel
theorem pn_com_example_partition_planner_partitionplanner_CqlLexer_Token : plainName "com/example/partition_planner/partitionplanner/CqlLexer$Token" = true := by first | (simp [plainName, overriddenIn]; done) | decide +kernel
theorem ef_tok (m : MethodId) (x0 : Addr) (x1 : Addr) (x2 : Addr) (x3 : Int32) (x4 : Int32) (x5 : Int32) : entryFrame m #[(.ref x0), (.ref x1), (.ref x2), (.int x3), (.int x4), (.int x5)] 6 = mkF m 0 #[.val (.ref x0), .val (.ref x1), .val (.ref x2), .val (.int x3), .val (.int x4), .val (.int x5)] [] := by first | (simp [entryFrame, mkF, argsToLocals, Value.category]; done) | rfl
def Qtok (Z : State) (a : Addr) (wk : Addr) (b : Addr) (y1 : Int32) (y2 : Int32) (y3 : Int32) (h0 : Heap) (n0 : Nat) (v : Option Value) (h : Heap) (L : List Loc) : Prop := Fr n0 L ∧ (v = none ∧ Keep h0 h [a] ∧ Fld Z h a "com/example/partition_planner/partitionplanner/CqlLexer$Token" "kind" "Lcom/example/partition_planner/partitionplanner/CqlLexer$Kind;" (.ref wk) ∧ Fld Z h a "com/example/partition_planner/partitionplanner/CqlLexer$Token" "value" "Ljava/lang/String;" (.ref b))
set_option maxRecDepth 65536 in
set_option maxHeartbeats 40000000 in
theorem rmtok (l : Launch) (Z : State) (a0 : Array Value) (hw : ∀ d ∈ tables_1, d.before a0 Z = true) (ws : List Jvm.Cond) (a : Addr) (wk : Addr) (b : Addr) (y1 : Int32) (y2 : Int32) (y3 : Int32) (h0 : Heap) (n0 : Nat) (Z0 : n0 ≤ h0.size) (g_a : n0 ≤ a) (E_a : Exa Z h0 a "com/example/partition_planner/partitionplanner/CqlLexer$Token") (F_kind : Fld Z h0 a "com/example/partition_planner/partitionplanner/CqlLexer$Token" "kind" "Lcom/example/partition_planner/partitionplanner/CqlLexer$Kind;" .null) (F_value : Fld Z h0 a "com/example/partition_planner/partitionplanner/CqlLexer$Token" "value" "Ljava/lang/String;" .null) (F_start : Fld Z h0 a "com/example/partition_planner/partitionplanner/CqlLexer$Token" "start" "I" (.int (0 : Int32))) (F_end : Fld Z h0 a "com/example/partition_planner/partitionplanner/CqlLexer$Token" "end" "I" (.int (0 : Int32))) (F_line : Fld Z h0 a "com/example/partition_planner/partitionplanner/CqlLexer$Token" "line" "I" (.int (0 : Int32))) :
    MetFree l (⟨"com/example/partition_planner/partitionplanner/CqlLexer$Token", "<init>", "(Lcom/example/partition_planner/partitionplanner/CqlLexer$Kind;Ljava/lang/String;III)V"⟩ : MethodName) (head1 (Jvm.Cond.code (⟨"com/example/partition_planner/partitionplanner/CqlLexer$Token", "<init>", "(Lcom/example/partition_planner/partitionplanner/CqlLexer$Kind;Ljava/lang/String;III)V"⟩ : MethodName) prog_9_method_1_code 6 none :: ws) ({ frames := 2, cells := 0, slots := 0, locals := 24 } : Room)) (fun as0 U => as0 = #[(.ref a), (.ref wk), (.ref b), (.int y1), (.int y2), (.int y3)] ∧ Z.Warmed39 U.vm ∧ U.heap = h0) (fun _ _ _ _ _ => True) (fun _ U oc0 U' => ∃ v L, oc0 = .returned v ∧ Qtok Z a wk b y1 y2 y3 h0 n0 v U'.heap L ∧ FrameEnd U oc0 U' L ({ frames := 2, cells := 0, slots := 0, locals := 24 } : Room).cells ({ frames := 2, cells := 0, slots := 0, locals := 24 } : Room).slots) := by
  refine MetFree.of_bodySF (plainFor_of_name pn_com_example_partition_planner_partitionplanner_CqlLexer_Token) hisR ?_
  intro p e s m args below meth c s₁ Bd hml0 hP hK
  obtain ⟨rfl, hZ, hh⟩ := hP
  have hx := Bd.exec
  have hby := Bd.bytes
  have hml : c.maxLocals = 6 := hml0
  have hown : s.vm.findClass "com/example/partition_planner/partitionplanner/CqlLexer$Token" = some m.cls := findClass_of_methodNamed Bd.named
  have hnm := (name_of_methodNamed Bd.named Bd.method).1
  have X0 : Stand p l e ({ frames := 2, cells := 0, slots := 0, locals := 24 } : Room) s m #[(.ref a), (.ref wk), (.ref b), (.int y1), (.int y2), (.int y3)] below meth c s₁ [] 0 0 := Stand.of_body Bd
  have e0 : s₁.heap = h0 := by rw [← hh, Bd.state]; rfl
  have N0 := Fr.nil n0
  show Gl p e below s (Qtok Z a wk b y1 y2 y3 h0 n0) ({ frames := 2, cells := 0, slots := 0, locals := 24 } : Room).cells ({ frames := 2, cells := 0, slots := 0, locals := 24 } : Room).slots (s₁.setTop (entryFrame m #[(.ref a), (.ref wk), (.ref b), (.int y1), (.int y2), (.int y3)] 6))
  refine Gl.back (fun _ k => castTop (ef_tok m a wk b y1 y2 y3) k) ?_
  show Gl _ _ _ _ _ _ _ (s₁.setTop (mkF m 0 #[.val (.ref a), .val (.ref wk), .val (.ref b), .val (.int y1), .val (.int y2), .val (.int y3)] []))
  refine Gl.back (fun _ k => XS.aloadN X0.here hx rfl (hb hby d8_0) rfl rfl k) ?_
  show Gl _ _ _ _ _ _ _ (s₁.setTop (mkF m 1 #[.val (.ref a), .val (.ref wk), .val (.ref b), .val (.int y1), .val (.int y2), .val (.int y3)] [(.ref a)]))
  obtain ⟨_, _, ⟨T161, L161, k161, n161⟩, -, X161, ⟨Lc161, hQ161, l161, y161, z161⟩, st161⟩ := X0.specialBack hx (y := (⟨"java/lang/Record", "<init>", "()V"⟩ : MethodName)) rfl hown (mvT hZ (hw _ (List.mem_of_getElem? (i := 44) rfl))) (mvT hZ (hw _ (List.mem_of_getElem? (i := 45) rfl))) (mvT hZ (hw _ (List.mem_of_getElem? (i := 48) rfl))) (by decide) (backOf (W := 0) (rmrec l Z a0 hw [] a  h0 n0 Z0 ) hZ (hw _ (List.mem_of_getElem? (i := 48) rfl)) (hw _ (List.mem_of_getElem? (i := 47) rfl)) (by decide) (by decide)) (g := (mkF m 1 #[.val (.ref a), .val (.ref wk), .val (.ref b), .val (.int y1), .val (.int y2), .val (.int y3)] [(.ref a)])) rfl (by rw [hml]; rfl) (Steps.refl _) (a := a) (argsL := []) (rest := []) (lenOf pd___V rfl) rfl (by show 2 * 0 + _ ≤ _; exact Nat.le_of_eq rfl) (hb hby d8_1) (fun _ _ => ⟨rfl, e0, (by decide : 0 + 0 ≤ _), (by decide : 0 + 0 ≤ _)⟩)
  dsimp only [Pt.U, Pt.locs, Pt.cells, Pt.slots] at X161 l161 y161 z161 st161 hQ161
  replace l161 := Eq.symm l161
  replace y161 := Eq.symm y161
  replace z161 := Eq.symm z161
  subst l161 y161 z161
  obtain ⟨Nq161, rfl, eh161⟩ := hQ161
  have N161 := Fr.app N0 Nq161
  refine Gl.back (fun _ k => st161.trans k) ?_
  show Gl _ _ _ _ _ _ _ (T161.setTop (mkF m 4 #[.val (.ref a), .val (.ref wk), .val (.ref b), .val (.int y1), .val (.int y2), .val (.int y3)] []))
  refine Gl.back (fun _ k => XS.aloadN X161.here hx rfl (hb hby d8_4) rfl rfl k) ?_
  show Gl _ _ _ _ _ _ _ (T161.setTop (mkF m 5 #[.val (.ref a), .val (.ref wk), .val (.ref b), .val (.int y1), .val (.int y2), .val (.int y3)] [(.ref a)]))
  refine Gl.back (fun _ k => XS.aloadN X161.here hx rfl (hb hby d8_5) rfl rfl k) ?_
  show Gl _ _ _ _ _ _ _ (T161.setTop (mkF m 6 #[.val (.ref a), .val (.ref wk), .val (.ref b), .val (.int y1), .val (.int y2), .val (.int y3)] [(.ref wk), (.ref a)]))
  obtain ⟨T162, h162, X162, e162, W162, st162⟩ := putF X161 hx hZ hown (host := "") (Or.inl (hw _ (List.mem_of_getElem? (i := 50) rfl))) Via.refl eh161 F_kind E_a (Or.inr ⟨(hw _ (List.mem_of_getElem? (i := 51) rfl)), rfl, hnm⟩) (hw _ (List.mem_of_getElem? (i := 32) rfl)) (ty := (.object "com/example/partition_planner/partitionplanner/CqlLexer$Kind")) (by decide) rfl rfl (g := (mkF m 6 #[.val (.ref a), .val (.ref wk), .val (.ref b), .val (.int y1), .val (.int y2), .val (.int y3)] [(.ref wk), (.ref a)])) rfl rfl (hb hby d8_6)
  have Fw162 := F_kind.same W162
  have K162 := Keep.wr (Keep.refl h0 [a]) W162 (Or.inl (List.mem_of_getElem? (i := 0) rfl))
  have Z162 : n0 ≤ h162.size := Nat.le_trans Z0 (Keep.of_wr W162).1
  have N162 := Fr.snoc X162 N161 g_a
  refine Gl.back (fun _ k => st162 _ k) ?_
  show Gl _ _ _ _ _ _ _ (T162.setTop (mkF m 9 #[.val (.ref a), .val (.ref wk), .val (.ref b), .val (.int y1), .val (.int y2), .val (.int y3)] []))
  refine Gl.back (fun _ k => XS.aloadN X162.here hx rfl (hb hby d8_9) rfl rfl k) ?_
  show Gl _ _ _ _ _ _ _ (T162.setTop (mkF m 10 #[.val (.ref a), .val (.ref wk), .val (.ref b), .val (.int y1), .val (.int y2), .val (.int y3)] [(.ref a)]))
  refine Gl.back (fun _ k => XS.aloadN X162.here hx rfl (hb hby d8_10) rfl rfl k) ?_
  show Gl _ _ _ _ _ _ _ (T162.setTop (mkF m 11 #[.val (.ref a), .val (.ref wk), .val (.ref b), .val (.int y1), .val (.int y2), .val (.int y3)] [(.ref b), (.ref a)]))
  have f163 := (E_a.wr W162)
  have f164 := (F_value.other W162 (Or.inr (slot_ne (Or.inr (hw _ (List.mem_of_getElem? (i := 53) rfl))) (Or.inr (hw _ (List.mem_of_getElem? (i := 51) rfl))) (by decide) (t := (.object "java/lang/String")) (t' := (.object "com/example/partition_planner/partitionplanner/CqlLexer$Kind")) (by decide) (by decide))))
  obtain ⟨T165, h165, X165, e165, W165, st165⟩ := putF X162 hx hZ hown (host := "") (Or.inl (hw _ (List.mem_of_getElem? (i := 52) rfl))) Via.refl e162 f164 f163 (Or.inr ⟨(hw _ (List.mem_of_getElem? (i := 53) rfl)), rfl, hnm⟩) (hw _ (List.mem_of_getElem? (i := 32) rfl)) (ty := (.object "java/lang/String")) (by decide) rfl rfl (g := (mkF m 11 #[.val (.ref a), .val (.ref wk), .val (.ref b), .val (.int y1), .val (.int y2), .val (.int y3)] [(.ref b), (.ref a)])) rfl rfl (hb hby d8_11)
  have Fw165 := f164.same W165
  have K165 := Keep.wr K162 W165 (Or.inl (List.mem_of_getElem? (i := 0) rfl))
  have Z165 : n0 ≤ h165.size := Nat.le_trans Z162 (Keep.of_wr W165).1
  have N165 := Fr.snoc X165 N162 g_a
  refine Gl.back (fun _ k => st165 _ k) ?_
  show Gl _ _ _ _ _ _ _ (T165.setTop (mkF m 14 #[.val (.ref a), .val (.ref wk), .val (.ref b), .val (.int y1), .val (.int y2), .val (.int y3)] []))
  refine Gl.back (fun _ k => XS.aloadN X165.here hx rfl (hb hby d8_14) rfl rfl k) ?_
  show Gl _ _ _ _ _ _ _ (T165.setTop (mkF m 15 #[.val (.ref a), .val (.ref wk), .val (.ref b), .val (.int y1), .val (.int y2), .val (.int y3)] [(.ref a)]))
  refine Gl.back (fun _ k => XS.iloadN X165.here hx rfl (hb hby d8_15) rfl k) ?_
  show Gl _ _ _ _ _ _ _ (T165.setTop (mkF m 16 #[.val (.ref a), .val (.ref wk), .val (.ref b), .val (.int y1), .val (.int y2), .val (.int y3)] [(.int y1), (.ref a)]))
  have f166 := (f163.wr W165)
  have f167 := ((F_start.other W162 (Or.inr (slot_ne (Or.inr (hw _ (List.mem_of_getElem? (i := 55) rfl))) (Or.inr (hw _ (List.mem_of_getElem? (i := 51) rfl))) (by decide) (t := .int) (t' := (.object "com/example/partition_planner/partitionplanner/CqlLexer$Kind")) (by decide) (by decide)))).other W165 (Or.inr (slot_ne (Or.inr (hw _ (List.mem_of_getElem? (i := 55) rfl))) (Or.inr (hw _ (List.mem_of_getElem? (i := 53) rfl))) (by decide) (t := .int) (t' := (.object "java/lang/String")) (by decide) (by decide))))
  obtain ⟨T168, h168, X168, e168, W168, st168⟩ := putF X165 hx hZ hown (host := "") (Or.inl (hw _ (List.mem_of_getElem? (i := 54) rfl))) Via.refl e165 f167 f166 (Or.inr ⟨(hw _ (List.mem_of_getElem? (i := 55) rfl)), rfl, hnm⟩) (hw _ (List.mem_of_getElem? (i := 32) rfl)) (ty := .int) (by decide) rfl rfl (g := (mkF m 16 #[.val (.ref a), .val (.ref wk), .val (.ref b), .val (.int y1), .val (.int y2), .val (.int y3)] [(.int y1), (.ref a)])) rfl rfl (hb hby d8_16)
  have Fw168 := f167.same W168
  have K168 := Keep.wr K165 W168 (Or.inl (List.mem_of_getElem? (i := 0) rfl))
  have Z168 : n0 ≤ h168.size := Nat.le_trans Z165 (Keep.of_wr W168).1
  have N168 := Fr.snoc X168 N165 g_a
  refine Gl.back (fun _ k => st168 _ k) ?_
  show Gl _ _ _ _ _ _ _ (T168.setTop (mkF m 19 #[.val (.ref a), .val (.ref wk), .val (.ref b), .val (.int y1), .val (.int y2), .val (.int y3)] []))
  refine Gl.back (fun _ k => XS.aloadN X168.here hx rfl (hb hby d8_19) rfl rfl k) ?_
  show Gl _ _ _ _ _ _ _ (T168.setTop (mkF m 20 #[.val (.ref a), .val (.ref wk), .val (.ref b), .val (.int y1), .val (.int y2), .val (.int y3)] [(.ref a)]))
  refine Gl.back (fun _ k => XS.iload X168.here hx rfl (hb hby d8_20) rfl k) ?_
  show Gl _ _ _ _ _ _ _ (T168.setTop (mkF m 22 #[.val (.ref a), .val (.ref wk), .val (.ref b), .val (.int y1), .val (.int y2), .val (.int y3)] [(.int y2), (.ref a)]))
  have f169 := (f166.wr W168)
  have f170 := (((F_end.other W162 (Or.inr (slot_ne (Or.inr (hw _ (List.mem_of_getElem? (i := 57) rfl))) (Or.inr (hw _ (List.mem_of_getElem? (i := 51) rfl))) (by decide) (t := .int) (t' := (.object "com/example/partition_planner/partitionplanner/CqlLexer$Kind")) (by decide) (by decide)))).other W165 (Or.inr (slot_ne (Or.inr (hw _ (List.mem_of_getElem? (i := 57) rfl))) (Or.inr (hw _ (List.mem_of_getElem? (i := 53) rfl))) (by decide) (t := .int) (t' := (.object "java/lang/String")) (by decide) (by decide)))).other W168 (Or.inr (slot_ne (Or.inr (hw _ (List.mem_of_getElem? (i := 57) rfl))) (Or.inr (hw _ (List.mem_of_getElem? (i := 55) rfl))) (by decide) (t := .int) (t' := .int) (by decide) (by decide))))
  obtain ⟨T171, h171, X171, e171, W171, st171⟩ := putF X168 hx hZ hown (host := "") (Or.inl (hw _ (List.mem_of_getElem? (i := 56) rfl))) Via.refl e168 f170 f169 (Or.inr ⟨(hw _ (List.mem_of_getElem? (i := 57) rfl)), rfl, hnm⟩) (hw _ (List.mem_of_getElem? (i := 32) rfl)) (ty := .int) (by decide) rfl rfl (g := (mkF m 22 #[.val (.ref a), .val (.ref wk), .val (.ref b), .val (.int y1), .val (.int y2), .val (.int y3)] [(.int y2), (.ref a)])) rfl rfl (hb hby d8_22)
  have Fw171 := f170.same W171
  have K171 := Keep.wr K168 W171 (Or.inl (List.mem_of_getElem? (i := 0) rfl))
  have Z171 : n0 ≤ h171.size := Nat.le_trans Z168 (Keep.of_wr W171).1
  have N171 := Fr.snoc X171 N168 g_a
  refine Gl.back (fun _ k => st171 _ k) ?_
  show Gl _ _ _ _ _ _ _ (T171.setTop (mkF m 25 #[.val (.ref a), .val (.ref wk), .val (.ref b), .val (.int y1), .val (.int y2), .val (.int y3)] []))
  refine Gl.back (fun _ k => XS.aloadN X171.here hx rfl (hb hby d8_25) rfl rfl k) ?_
  show Gl _ _ _ _ _ _ _ (T171.setTop (mkF m 26 #[.val (.ref a), .val (.ref wk), .val (.ref b), .val (.int y1), .val (.int y2), .val (.int y3)] [(.ref a)]))
  refine Gl.back (fun _ k => XS.iload X171.here hx rfl (hb hby d8_26) rfl k) ?_
  show Gl _ _ _ _ _ _ _ (T171.setTop (mkF m 28 #[.val (.ref a), .val (.ref wk), .val (.ref b), .val (.int y1), .val (.int y2), .val (.int y3)] [(.int y3), (.ref a)]))
  have f172 := (f169.wr W171)
  have f173 := ((((F_line.other W162 (Or.inr (slot_ne (Or.inr (hw _ (List.mem_of_getElem? (i := 59) rfl))) (Or.inr (hw _ (List.mem_of_getElem? (i := 51) rfl))) (by decide) (t := .int) (t' := (.object "com/example/partition_planner/partitionplanner/CqlLexer$Kind")) (by decide) (by decide)))).other W165 (Or.inr (slot_ne (Or.inr (hw _ (List.mem_of_getElem? (i := 59) rfl))) (Or.inr (hw _ (List.mem_of_getElem? (i := 53) rfl))) (by decide) (t := .int) (t' := (.object "java/lang/String")) (by decide) (by decide)))).other W168 (Or.inr (slot_ne (Or.inr (hw _ (List.mem_of_getElem? (i := 59) rfl))) (Or.inr (hw _ (List.mem_of_getElem? (i := 55) rfl))) (by decide) (t := .int) (t' := .int) (by decide) (by decide)))).other W171 (Or.inr (slot_ne (Or.inr (hw _ (List.mem_of_getElem? (i := 59) rfl))) (Or.inr (hw _ (List.mem_of_getElem? (i := 57) rfl))) (by decide) (t := .int) (t' := .int) (by decide) (by decide))))
  obtain ⟨T174, h174, X174, e174, W174, st174⟩ := putF X171 hx hZ hown (host := "") (Or.inl (hw _ (List.mem_of_getElem? (i := 58) rfl))) Via.refl e171 f173 f172 (Or.inr ⟨(hw _ (List.mem_of_getElem? (i := 59) rfl)), rfl, hnm⟩) (hw _ (List.mem_of_getElem? (i := 32) rfl)) (ty := .int) (by decide) rfl rfl (g := (mkF m 28 #[.val (.ref a), .val (.ref wk), .val (.ref b), .val (.int y1), .val (.int y2), .val (.int y3)] [(.int y3), (.ref a)])) rfl rfl (hb hby d8_28)
  have Fw174 := f173.same W174
  have K174 := Keep.wr K171 W174 (Or.inl (List.mem_of_getElem? (i := 0) rfl))
  have Z174 : n0 ≤ h174.size := Nat.le_trans Z171 (Keep.of_wr W174).1
  have N174 := Fr.snoc X174 N171 g_a
  refine Gl.back (fun _ k => st174 _ k) ?_
  show Gl _ _ _ _ _ _ _ (T174.setTop (mkF m 31 #[.val (.ref a), .val (.ref wk), .val (.ref b), .val (.int y1), .val (.int y2), .val (.int y3)] []))
  have f175 := ((((Fw162.other W165 (Or.inr (slot_ne (Or.inr (hw _ (List.mem_of_getElem? (i := 51) rfl))) (Or.inr (hw _ (List.mem_of_getElem? (i := 53) rfl))) (by decide) (t := (.object "com/example/partition_planner/partitionplanner/CqlLexer$Kind")) (t' := (.object "java/lang/String")) (by decide) (by decide)))).other W168 (Or.inr (slot_ne (Or.inr (hw _ (List.mem_of_getElem? (i := 51) rfl))) (Or.inr (hw _ (List.mem_of_getElem? (i := 55) rfl))) (by decide) (t := (.object "com/example/partition_planner/partitionplanner/CqlLexer$Kind")) (t' := .int) (by decide) (by decide)))).other W171 (Or.inr (slot_ne (Or.inr (hw _ (List.mem_of_getElem? (i := 51) rfl))) (Or.inr (hw _ (List.mem_of_getElem? (i := 57) rfl))) (by decide) (t := (.object "com/example/partition_planner/partitionplanner/CqlLexer$Kind")) (t' := .int) (by decide) (by decide)))).other W174 (Or.inr (slot_ne (Or.inr (hw _ (List.mem_of_getElem? (i := 51) rfl))) (Or.inr (hw _ (List.mem_of_getElem? (i := 59) rfl))) (by decide) (t := (.object "com/example/partition_planner/partitionplanner/CqlLexer$Kind")) (t' := .int) (by decide) (by decide))))
  have f176 := (((Fw165.other W168 (Or.inr (slot_ne (Or.inr (hw _ (List.mem_of_getElem? (i := 53) rfl))) (Or.inr (hw _ (List.mem_of_getElem? (i := 55) rfl))) (by decide) (t := (.object "java/lang/String")) (t' := .int) (by decide) (by decide)))).other W171 (Or.inr (slot_ne (Or.inr (hw _ (List.mem_of_getElem? (i := 53) rfl))) (Or.inr (hw _ (List.mem_of_getElem? (i := 57) rfl))) (by decide) (t := (.object "java/lang/String")) (t' := .int) (by decide) (by decide)))).other W174 (Or.inr (slot_ne (Or.inr (hw _ (List.mem_of_getElem? (i := 53) rfl))) (Or.inr (hw _ (List.mem_of_getElem? (i := 59) rfl))) (by decide) (t := (.object "java/lang/String")) (t' := .int) (by decide) (by decide))))
  exact Gl.ret X174 e174 (v := none) (fun _ => rfl) Bd.notSynchronized (fun fs hr => X174.returnOut hx Bd.returns (hb hby d8_31) hr) ⟨N174, rfl, K174, f175, f176⟩ (by decide) (by decide)
theorem d15_0 : decode jdk_41_method_11_code 0 = .ok (.iload_n 0, 1) := by decide +kernel
theorem d15_1 : decode jdk_41_method_11_code 1 = .ok (.ifCond .lt 8, 3) := by decide +kernel
theorem d15_4 : decode jdk_41_method_11_code 4 = .ok (.iload_n 0, 1) := by decide +kernel
theorem d15_5 : decode jdk_41_method_11_code 5 = .ok (.iload_n 1, 1) := by decide +kernel
theorem d15_6 : decode jdk_41_method_11_code 6 = .ok (.if_icmp .lt 10, 3) := by decide +kernel
theorem d15_16 : decode jdk_41_method_11_code 16 = .ok (.iload_n 0, 1) := by decide +kernel
theorem d15_17 : decode jdk_41_method_11_code 17 = .ok (.ireturn, 1) := by decide +kernel
theorem pn_jdk_internal_util_Preconditions : plainName "jdk/internal/util/Preconditions" = true := by first | (simp [plainName, overriddenIn]; done) | decide +kernel
theorem ef_pci_null (m : MethodId) (x1 : Int32) : entryFrame m #[(.int (0 : Int32)), (.int x1), .null] 3 = mkF m 0 #[.val (.int (0 : Int32)), .val (.int x1), .val .null] [] := by first | (simp [entryFrame, mkF, argsToLocals, Value.category]; done) | rfl
def Qpci_null (Z : State) (z : Int32) (h0 : Heap) (n0 : Nat) (v : Option Value) (h : Heap) (L : List Loc) : Prop := Fr n0 L ∧ (v = some (.int 0) ∧ h = h0)
set_option maxRecDepth 65536 in
set_option maxHeartbeats 40000000 in
theorem rmpci_null (l : Launch) (Z : State) (a0 : Array Value) (hw : ∀ d ∈ tables_1, d.before a0 Z = true) (ws : List Jvm.Cond) (z : Int32) (h0 : Heap) (n0 : Nat) (Z0 : n0 ≤ h0.size) (hz : (0 : Int32) < z) :
    MetFree l (⟨"jdk/internal/util/Preconditions", "checkIndex", "(IILjava/util/function/BiFunction;)I"⟩ : MethodName) (head1 (Jvm.Cond.code (⟨"jdk/internal/util/Preconditions", "checkIndex", "(IILjava/util/function/BiFunction;)I"⟩ : MethodName) jdk_41_method_11_code 3 (some .int) :: ws) ({ frames := 0, cells := 0, slots := 0, locals := 0 } : Room)) (fun as0 U => as0 = #[(.int (0 : Int32)), (.int z), .null] ∧ Z.Warmed39 U.vm ∧ U.heap = h0) (fun _ _ _ _ _ => True) (fun _ U oc0 U' => ∃ v L, oc0 = .returned v ∧ Qpci_null Z z h0 n0 v U'.heap L ∧ FrameEnd U oc0 U' L ({ frames := 0, cells := 0, slots := 0, locals := 0 } : Room).cells ({ frames := 0, cells := 0, slots := 0, locals := 0 } : Room).slots) := by
  refine MetFree.of_bodySF (plainFor_of_name pn_jdk_internal_util_Preconditions) hisR ?_
  intro p e s m args below meth c s₁ Bd hml0 hP hK
  obtain ⟨rfl, hZ, hh⟩ := hP
  have hx := Bd.exec
  have hby := Bd.bytes
  have hml : c.maxLocals = 3 := hml0
  have hown : s.vm.findClass "jdk/internal/util/Preconditions" = some m.cls := findClass_of_methodNamed Bd.named
  have hnm := (name_of_methodNamed Bd.named Bd.method).1
  have X0 : Stand p l e ({ frames := 0, cells := 0, slots := 0, locals := 0 } : Room) s m #[(.int (0 : Int32)), (.int z), .null] below meth c s₁ [] 0 0 := Stand.of_body Bd
  have e0 : s₁.heap = h0 := by rw [← hh, Bd.state]; rfl
  have N0 := Fr.nil n0
  show Gl p e below s (Qpci_null Z z h0 n0) ({ frames := 0, cells := 0, slots := 0, locals := 0 } : Room).cells ({ frames := 0, cells := 0, slots := 0, locals := 0 } : Room).slots (s₁.setTop (entryFrame m #[(.int (0 : Int32)), (.int z), .null] 3))
  refine Gl.back (fun _ k => castTop (ef_pci_null m z) k) ?_
  show Gl _ _ _ _ _ _ _ (s₁.setTop (mkF m 0 #[.val (.int (0 : Int32)), .val (.int z), .val .null] []))
  refine Gl.back (fun _ k => XS.iloadN X0.here hx rfl (hb hby d15_0) rfl k) ?_
  show Gl _ _ _ _ _ _ _ (s₁.setTop (mkF m 1 #[.val (.int (0 : Int32)), .val (.int z), .val .null] [(.int (0 : Int32))]))
  refine Gl.back (fun _ k => XS.ifNo X0.here hx rfl (hb hby d15_1) rfl ((if0 _ _).trans (flt (by decide : ¬ (0 : Int32) < (0 : Int32))).1) k) ?_
  show Gl _ _ _ _ _ _ _ (s₁.setTop (mkF m 4 #[.val (.int (0 : Int32)), .val (.int z), .val .null] []))
  refine Gl.back (fun _ k => XS.iloadN X0.here hx rfl (hb hby d15_4) rfl k) ?_
  show Gl _ _ _ _ _ _ _ (s₁.setTop (mkF m 5 #[.val (.int (0 : Int32)), .val (.int z), .val .null] [(.int (0 : Int32))]))
  refine Gl.back (fun _ k => XS.iloadN X0.here hx rfl (hb hby d15_5) rfl k) ?_
  show Gl _ _ _ _ _ _ _ (s₁.setTop (mkF m 6 #[.val (.int (0 : Int32)), .val (.int z), .val .null] [(.int z), (.int (0 : Int32))]))
  refine Gl.back (fun _ k => XS.icmpYes X0.here hx rfl (pc0 := 6) (pc' := 16) rfl (hb hby d15_6) rfl (tlt (hz : (0 : Int32) < z)).1 (by decide) (by decide) k) ?_
  show Gl _ _ _ _ _ _ _ (s₁.setTop (mkF m 16 #[.val (.int (0 : Int32)), .val (.int z), .val .null] []))
  refine Gl.back (fun _ k => XS.iloadN X0.here hx rfl (hb hby d15_16) rfl k) ?_
  show Gl _ _ _ _ _ _ _ (s₁.setTop (mkF m 17 #[.val (.int (0 : Int32)), .val (.int z), .val .null] [(.int (0 : Int32))]))
  exact Gl.ret X0 e0 (v := (some (.int (0 : Int32)))) (fun h => by rw [Bd.returns] at h; cases h) Bd.notSynchronized (fun fs hr => retOut X0 hx (w := (.int (0 : Int32))) Bd.returns rfl (Or.inl ⟨rfl, Or.inl rfl, _, rfl⟩) (hb hby d15_17) hr) ⟨N0, rfl, rfl⟩ (by decide) (by decide)
theorem ef_pci_ref (m : MethodId) (x1 : Int32) (x2 : Addr) : entryFrame m #[(.int (0 : Int32)), (.int x1), (.ref x2)] 3 = mkF m 0 #[.val (.int (0 : Int32)), .val (.int x1), .val (.ref x2)] [] := by first | (simp [entryFrame, mkF, argsToLocals, Value.category]; done) | rfl
def Qpci_ref (Z : State) (z : Int32) (fa : Addr) (h0 : Heap) (n0 : Nat) (v : Option Value) (h : Heap) (L : List Loc) : Prop := Fr n0 L ∧ (v = some (.int 0) ∧ h = h0)
set_option maxRecDepth 65536 in
set_option maxHeartbeats 40000000 in
theorem rmpci_ref (l : Launch) (Z : State) (a0 : Array Value) (hw : ∀ d ∈ tables_1, d.before a0 Z = true) (ws : List Jvm.Cond) (z : Int32) (fa : Addr) (h0 : Heap) (n0 : Nat) (Z0 : n0 ≤ h0.size) (hz : (0 : Int32) < z) :
    MetFree l (⟨"jdk/internal/util/Preconditions", "checkIndex", "(IILjava/util/function/BiFunction;)I"⟩ : MethodName) (head1 (Jvm.Cond.code (⟨"jdk/internal/util/Preconditions", "checkIndex", "(IILjava/util/function/BiFunction;)I"⟩ : MethodName) jdk_41_method_11_code 3 (some .int) :: ws) ({ frames := 0, cells := 0, slots := 0, locals := 0 } : Room)) (fun as0 U => as0 = #[(.int (0 : Int32)), (.int z), (.ref fa)] ∧ Z.Warmed39 U.vm ∧ U.heap = h0) (fun _ _ _ _ _ => True) (fun _ U oc0 U' => ∃ v L, oc0 = .returned v ∧ Qpci_ref Z z fa h0 n0 v U'.heap L ∧ FrameEnd U oc0 U' L ({ frames := 0, cells := 0, slots := 0, locals := 0 } : Room).cells ({ frames := 0, cells := 0, slots := 0, locals := 0 } : Room).slots) := by
  refine MetFree.of_bodySF (plainFor_of_name pn_jdk_internal_util_Preconditions) hisR ?_
  intro p e s m args below meth c s₁ Bd hml0 hP hK
  obtain ⟨rfl, hZ, hh⟩ := hP
  have hx := Bd.exec
  have hby := Bd.bytes
  have hml : c.maxLocals = 3 := hml0
  have hown : s.vm.findClass "jdk/internal/util/Preconditions" = some m.cls := findClass_of_methodNamed Bd.named
  have hnm := (name_of_methodNamed Bd.named Bd.method).1
  have X0 : Stand p l e ({ frames := 0, cells := 0, slots := 0, locals := 0 } : Room) s m #[(.int (0 : Int32)), (.int z), (.ref fa)] below meth c s₁ [] 0 0 := Stand.of_body Bd
  have e0 : s₁.heap = h0 := by rw [← hh, Bd.state]; rfl
  have N0 := Fr.nil n0
  show Gl p e below s (Qpci_ref Z z fa h0 n0) ({ frames := 0, cells := 0, slots := 0, locals := 0 } : Room).cells ({ frames := 0, cells := 0, slots := 0, locals := 0 } : Room).slots (s₁.setTop (entryFrame m #[(.int (0 : Int32)), (.int z), (.ref fa)] 3))
  refine Gl.back (fun _ k => castTop (ef_pci_ref m z fa) k) ?_
  show Gl _ _ _ _ _ _ _ (s₁.setTop (mkF m 0 #[.val (.int (0 : Int32)), .val (.int z), .val (.ref fa)] []))
  refine Gl.back (fun _ k => XS.iloadN X0.here hx rfl (hb hby d15_0) rfl k) ?_
  show Gl _ _ _ _ _ _ _ (s₁.setTop (mkF m 1 #[.val (.int (0 : Int32)), .val (.int z), .val (.ref fa)] [(.int (0 : Int32))]))
  refine Gl.back (fun _ k => XS.ifNo X0.here hx rfl (hb hby d15_1) rfl ((if0 _ _).trans (flt (by decide : ¬ (0 : Int32) < (0 : Int32))).1) k) ?_
  show Gl _ _ _ _ _ _ _ (s₁.setTop (mkF m 4 #[.val (.int (0 : Int32)), .val (.int z), .val (.ref fa)] []))
  refine Gl.back (fun _ k => XS.iloadN X0.here hx rfl (hb hby d15_4) rfl k) ?_
  show Gl _ _ _ _ _ _ _ (s₁.setTop (mkF m 5 #[.val (.int (0 : Int32)), .val (.int z), .val (.ref fa)] [(.int (0 : Int32))]))
  refine Gl.back (fun _ k => XS.iloadN X0.here hx rfl (hb hby d15_5) rfl k) ?_
  show Gl _ _ _ _ _ _ _ (s₁.setTop (mkF m 6 #[.val (.int (0 : Int32)), .val (.int z), .val (.ref fa)] [(.int z), (.int (0 : Int32))]))
  refine Gl.back (fun _ k => XS.icmpYes X0.here hx rfl (pc0 := 6) (pc' := 16) rfl (hb hby d15_6) rfl (tlt (hz : (0 : Int32) < z)).1 (by decide) (by decide) k) ?_
  show Gl _ _ _ _ _ _ _ (s₁.setTop (mkF m 16 #[.val (.int (0 : Int32)), .val (.int z), .val (.ref fa)] []))
  refine Gl.back (fun _ k => XS.iloadN X0.here hx rfl (hb hby d15_16) rfl k) ?_
  show Gl _ _ _ _ _ _ _ (s₁.setTop (mkF m 17 #[.val (.int (0 : Int32)), .val (.int z), .val (.ref fa)] [(.int (0 : Int32))]))
  exact Gl.ret X0 e0 (v := (some (.int (0 : Int32)))) (fun h => by rw [Bd.returns] at h; cases h) Bd.notSynchronized (fun fs hr => retOut X0 hx (w := (.int (0 : Int32))) Bd.returns rfl (Or.inl ⟨rfl, Or.inl rfl, _, rfl⟩) (hb hby d15_17) hr) ⟨N0, rfl, rfl⟩ (by decide) (by decide)
theorem d14_0 : decode jdk_42_method_155_code 0 = .ok (.iload_n 0, 1) := by decide +kernel
theorem d14_1 : decode jdk_42_method_155_code 1 = .ok (.iload_n 1, 1) := by decide +kernel
theorem d14_2 : decode jdk_42_method_155_code 2 = .ok (.getstatic 1053, 3) := by decide +kernel
theorem d14_5 : decode jdk_42_method_155_code 5 = .ok (.invokestatic 1059, 3) := by decide +kernel
theorem pd__IILjava_util_function_BiFunction__I : parseMethodDescriptor "(IILjava/util/function/BiFunction;)I" = some ⟨[.int, .int, (.object "java/util/function/BiFunction")], some .int⟩ := by decide +kernel
theorem d14_8 : decode jdk_42_method_155_code 8 = .ok (.pop, 1) := by decide +kernel
theorem d14_9 : decode jdk_42_method_155_code 9 = .ok (.return_, 1) := by decide +kernel
theorem ef_sci (m : MethodId) (x1 : Int32) : entryFrame m #[(.int (0 : Int32)), (.int x1)] 2 = mkF m 0 #[.val (.int (0 : Int32)), .val (.int x1)] [] := by first | (simp [entryFrame, mkF, argsToLocals, Value.category]; done) | rfl
def Qsci (Z : State) (z : Int32) (fm : Value) (h0 : Heap) (n0 : Nat) (v : Option Value) (h : Heap) (L : List Loc) : Prop := Fr n0 L ∧ (v = none ∧ h = h0)
set_option maxRecDepth 65536 in
set_option maxHeartbeats 40000000 in
theorem rmsci (l : Launch) (Z : State) (a0 : Array Value) (hw : ∀ d ∈ tables_1, d.before a0 Z = true) (ws : List Jvm.Cond) (z : Int32) (fm : Value) (h0 : Heap) (n0 : Nat) (Z0 : n0 ≤ h0.size) (O0 : Old Z n0 h0) (S_F : Sta Z Z.heap "jdk/internal/util/Preconditions" "SIOOBE_FORMATTER" "Ljava/util/function/BiFunction;" fm) (hfm : fm.isRef = true) (hz : (0 : Int32) < z) :
    MetFree l (⟨"java/lang/String", "checkIndex", "(II)V"⟩ : MethodName) (head1 (Jvm.Cond.code (⟨"java/lang/String", "checkIndex", "(II)V"⟩ : MethodName) jdk_42_method_155_code 2 none :: ws) ({ frames := 1, cells := 0, slots := 0, locals := 14 } : Room)) (fun as0 U => as0 = #[(.int (0 : Int32)), (.int z)] ∧ Z.Warmed39 U.vm ∧ U.heap = h0) (fun _ _ _ _ _ => True) (fun _ U oc0 U' => ∃ v L, oc0 = .returned v ∧ Qsci Z z fm h0 n0 v U'.heap L ∧ FrameEnd U oc0 U' L ({ frames := 1, cells := 0, slots := 0, locals := 14 } : Room).cells ({ frames := 1, cells := 0, slots := 0, locals := 14 } : Room).slots) := by
  refine MetFree.of_bodySF (plainFor_of_name pn_java_lang_String) hisR ?_
  intro p e s m args below meth c s₁ Bd hml0 hP hK
  obtain ⟨rfl, hZ, hh⟩ := hP
  have hx := Bd.exec
  have hby := Bd.bytes
  have hml : c.maxLocals = 2 := hml0
  have hown : s.vm.findClass "java/lang/String" = some m.cls := findClass_of_methodNamed Bd.named
  have hnm := (name_of_methodNamed Bd.named Bd.method).1
  have X0 : Stand p l e ({ frames := 1, cells := 0, slots := 0, locals := 14 } : Room) s m #[(.int (0 : Int32)), (.int z)] below meth c s₁ [] 0 0 := Stand.of_body Bd
  have e0 : s₁.heap = h0 := by rw [← hh, Bd.state]; rfl
  have N0 := Fr.nil n0
  show Gl p e below s (Qsci Z z fm h0 n0) ({ frames := 1, cells := 0, slots := 0, locals := 14 } : Room).cells ({ frames := 1, cells := 0, slots := 0, locals := 14 } : Room).slots (s₁.setTop (entryFrame m #[(.int (0 : Int32)), (.int z)] 2))
  refine Gl.back (fun _ k => castTop (ef_sci m z) k) ?_
  show Gl _ _ _ _ _ _ _ (s₁.setTop (mkF m 0 #[.val (.int (0 : Int32)), .val (.int z)] []))
  rcases ref_cases hfm with rfl | ⟨fa, rfl⟩
  · show Gl _ _ _ _ _ _ _ (s₁.setTop (mkF m 0 #[.val (.int (0 : Int32)), .val (.int z)] []))
    refine Gl.back (fun _ k => XS.iloadN X0.here hx rfl (hb hby d14_0) rfl k) ?_
    show Gl _ _ _ _ _ _ _ (s₁.setTop (mkF m 1 #[.val (.int (0 : Int32)), .val (.int z)] [(.int (0 : Int32))]))
    refine Gl.back (fun _ k => XS.iloadN X0.here hx rfl (hb hby d14_1) rfl k) ?_
    show Gl _ _ _ _ _ _ _ (s₁.setTop (mkF m 2 #[.val (.int (0 : Int32)), .val (.int z)] [(.int z), (.int (0 : Int32))]))
    obtain ⟨T177, X177, e177, st177⟩ := getS2 X0 hx hZ hown (host := "") (Or.inl (hw _ (List.mem_of_getElem? (i := 87) rfl))) Via.refl e0 (S_F.ext O0.2) (g := (mkF m 2 #[.val (.int (0 : Int32)), .val (.int z)] [(.int z), (.int (0 : Int32))])) rfl (hb hby d14_2)
    refine Gl.back (fun _ k => st177 _ k) ?_
    show Gl _ _ _ _ _ _ _ (T177.setTop (mkF m 5 #[.val (.int (0 : Int32)), .val (.int z)] [.null, (.int z), (.int (0 : Int32))]))
    obtain ⟨_, _, ⟨T178, L178, k178, n178⟩, -, X178, ⟨Lc178, hQ178, l178, y178, z178⟩, st178⟩ := Jvm.LawKit.callS X177 hx (y := (⟨"jdk/internal/util/Preconditions", "checkIndex", "(IILjava/util/function/BiFunction;)I"⟩ : MethodName)) hown (mvT hZ (hw _ (List.mem_of_getElem? (i := 89) rfl))) (mvT hZ (hw _ (List.mem_of_getElem? (i := 90) rfl))) (mvT hZ (hw _ (List.mem_of_getElem? (i := 88) rfl))) (mvT hZ (hw _ (List.mem_of_getElem? (i := 91) rfl))) (by decide) (backOf (W := 0) (rmpci_null l Z a0 hw [] z  h0 n0 Z0 hz) hZ (hw _ (List.mem_of_getElem? (i := 91) rfl)) (hw _ (List.mem_of_getElem? (i := 88) rfl)) (by decide) (by decide)) (g := (mkF m 5 #[.val (.int (0 : Int32)), .val (.int z)] [.null, (.int z), (.int (0 : Int32))])) rfl (by rw [hml]; rfl) (argsL := [(.int (0 : Int32)), (.int z), .null]) (rest := []) (lenOf pd__IILjava_util_function_BiFunction__I rfl) rfl (by show 2 * 0 + _ ≤ _; exact Nat.le_of_eq rfl) (hb hby d14_5) (fun _ _ => ⟨rfl, e177, (by decide : 0 + 0 ≤ _), (by decide : 0 + 0 ≤ _)⟩)
    dsimp only [Pt.U, Pt.locs, Pt.cells, Pt.slots] at X178 l178 y178 z178 st178 hQ178
    replace l178 := Eq.symm l178
    replace y178 := Eq.symm y178
    replace z178 := Eq.symm z178
    subst l178 y178 z178
    obtain ⟨Nq178, rfl, eh178⟩ := hQ178
    have N178 := Fr.app N0 Nq178
    refine Gl.back (fun _ k => st178 _ k) ?_
    show Gl _ _ _ _ _ _ _ (T178.setTop (mkF m 8 #[.val (.int (0 : Int32)), .val (.int z)] [(.int (0 : Int32))]))
    refine Gl.back (fun _ k => XS.pop X178.here hx rfl (hb hby d14_8) rfl rfl k) ?_
    show Gl _ _ _ _ _ _ _ (T178.setTop (mkF m 9 #[.val (.int (0 : Int32)), .val (.int z)] []))
    exact Gl.ret X178 eh178 (v := none) (fun _ => rfl) Bd.notSynchronized (fun fs hr => X178.returnOut hx Bd.returns (hb hby d14_9) hr) ⟨N178, rfl, rfl⟩ (by decide) (by decide)
  · show Gl _ _ _ _ _ _ _ (s₁.setTop (mkF m 0 #[.val (.int (0 : Int32)), .val (.int z)] []))
    refine Gl.back (fun _ k => XS.iloadN X0.here hx rfl (hb hby d14_0) rfl k) ?_
    show Gl _ _ _ _ _ _ _ (s₁.setTop (mkF m 1 #[.val (.int (0 : Int32)), .val (.int z)] [(.int (0 : Int32))]))
    refine Gl.back (fun _ k => XS.iloadN X0.here hx rfl (hb hby d14_1) rfl k) ?_
    show Gl _ _ _ _ _ _ _ (s₁.setTop (mkF m 2 #[.val (.int (0 : Int32)), .val (.int z)] [(.int z), (.int (0 : Int32))]))
    obtain ⟨T179, X179, e179, st179⟩ := getS2 X0 hx hZ hown (host := "") (Or.inl (hw _ (List.mem_of_getElem? (i := 87) rfl))) Via.refl e0 (S_F.ext O0.2) (g := (mkF m 2 #[.val (.int (0 : Int32)), .val (.int z)] [(.int z), (.int (0 : Int32))])) rfl (hb hby d14_2)
    refine Gl.back (fun _ k => st179 _ k) ?_
    show Gl _ _ _ _ _ _ _ (T179.setTop (mkF m 5 #[.val (.int (0 : Int32)), .val (.int z)] [(.ref fa), (.int z), (.int (0 : Int32))]))
    obtain ⟨_, _, ⟨T180, L180, k180, n180⟩, -, X180, ⟨Lc180, hQ180, l180, y180, z180⟩, st180⟩ := Jvm.LawKit.callS X179 hx (y := (⟨"jdk/internal/util/Preconditions", "checkIndex", "(IILjava/util/function/BiFunction;)I"⟩ : MethodName)) hown (mvT hZ (hw _ (List.mem_of_getElem? (i := 89) rfl))) (mvT hZ (hw _ (List.mem_of_getElem? (i := 90) rfl))) (mvT hZ (hw _ (List.mem_of_getElem? (i := 88) rfl))) (mvT hZ (hw _ (List.mem_of_getElem? (i := 91) rfl))) (by decide) (backOf (W := 0) (rmpci_ref l Z a0 hw [] z fa  h0 n0 Z0 hz) hZ (hw _ (List.mem_of_getElem? (i := 91) rfl)) (hw _ (List.mem_of_getElem? (i := 88) rfl)) (by decide) (by decide)) (g := (mkF m 5 #[.val (.int (0 : Int32)), .val (.int z)] [(.ref fa), (.int z), (.int (0 : Int32))])) rfl (by rw [hml]; rfl) (argsL := [(.int (0 : Int32)), (.int z), (.ref fa)]) (rest := []) (lenOf pd__IILjava_util_function_BiFunction__I rfl) rfl (by show 2 * 0 + _ ≤ _; exact Nat.le_of_eq rfl) (hb hby d14_5) (fun _ _ => ⟨rfl, e179, (by decide : 0 + 0 ≤ _), (by decide : 0 + 0 ≤ _)⟩)
    dsimp only [Pt.U, Pt.locs, Pt.cells, Pt.slots] at X180 l180 y180 z180 st180 hQ180
    replace l180 := Eq.symm l180
    replace y180 := Eq.symm y180
    replace z180 := Eq.symm z180
    subst l180 y180 z180
    obtain ⟨Nq180, rfl, eh180⟩ := hQ180
    have N180 := Fr.app N0 Nq180
    refine Gl.back (fun _ k => st180 _ k) ?_
    show Gl _ _ _ _ _ _ _ (T180.setTop (mkF m 8 #[.val (.int (0 : Int32)), .val (.int z)] [(.int (0 : Int32))]))
    refine Gl.back (fun _ k => XS.pop X180.here hx rfl (hb hby d14_8) rfl rfl k) ?_
    show Gl _ _ _ _ _ _ _ (T180.setTop (mkF m 9 #[.val (.int (0 : Int32)), .val (.int z)] []))
    exact Gl.ret X180 eh180 (v := none) (fun _ => rfl) Bd.notSynchronized (fun fs hr => X180.returnOut hx Bd.returns (hb hby d14_9) hr) ⟨N180, rfl, rfl⟩ (by decide) (by decide)
theorem d12_0 : decode jdk_42_method_154_code 0 = .ok (.getstatic 38, 3) := by decide +kernel
theorem d12_3 : decode jdk_42_method_154_code 3 = .ok (.ifCond .eq 14, 3) := by decide +kernel
theorem d12_6 : decode jdk_42_method_154_code 6 = .ok (.aload_n 0, 1) := by decide +kernel
theorem d12_7 : decode jdk_42_method_154_code 7 = .ok (.getfield 15, 3) := by decide +kernel
theorem d12_10 : decode jdk_42_method_154_code 10 = .ok (.ifCond .ne 7, 3) := by decide +kernel
theorem d12_17 : decode jdk_42_method_154_code 17 = .ok (.iconst 0, 1) := by decide +kernel
theorem d12_18 : decode jdk_42_method_154_code 18 = .ok (.ireturn, 1) := by decide +kernel
theorem ef_isl (m : MethodId) (x0 : Addr) : entryFrame m #[(.ref x0)] 1 = mkF m 0 #[.val (.ref x0)] [] := by first | (simp [entryFrame, mkF, argsToLocals, Value.category]; done) | rfl
def Qisl (Z : State) (xs : Addr) (zc : Int32) (h0 : Heap) (n0 : Nat) (v : Option Value) (h : Heap) (L : List Loc) : Prop := Fr n0 L ∧ (v = some (.int 0) ∧ h = h0)
set_option maxRecDepth 65536 in
set_option maxHeartbeats 40000000 in
theorem rmisl (l : Launch) (Z : State) (a0 : Array Value) (hw : ∀ d ∈ tables_1, d.before a0 Z = true) (ws : List Jvm.Cond) (xs : Addr) (zc : Int32) (h0 : Heap) (n0 : Nat) (Z0 : n0 ≤ h0.size) (O0 : Old Z n0 h0) (S_C : Sta Z Z.heap "java/lang/String" "COMPACT_STRINGS" "Z" (.int zc)) (P0 : ¬ zc = 0) (F_c : Fld Z h0 xs "java/lang/String" "coder" "B" (.int 1)) :
    MetFree l (⟨"java/lang/String", "isLatin1", "()Z"⟩ : MethodName) (head1 (Jvm.Cond.code (⟨"java/lang/String", "isLatin1", "()Z"⟩ : MethodName) jdk_42_method_154_code 1 (some .boolean) :: ws) ({ frames := 0, cells := 0, slots := 0, locals := 0 } : Room)) (fun as0 U => as0 = #[(.ref xs)] ∧ Z.Warmed39 U.vm ∧ U.heap = h0) (fun _ _ _ _ _ => True) (fun _ U oc0 U' => ∃ v L, oc0 = .returned v ∧ Qisl Z xs zc h0 n0 v U'.heap L ∧ FrameEnd U oc0 U' L ({ frames := 0, cells := 0, slots := 0, locals := 0 } : Room).cells ({ frames := 0, cells := 0, slots := 0, locals := 0 } : Room).slots) := by
  refine MetFree.of_bodySF (plainFor_of_name pn_java_lang_String) hisR ?_
  intro p e s m args below meth c s₁ Bd hml0 hP hK
  obtain ⟨rfl, hZ, hh⟩ := hP
  have hx := Bd.exec
  have hby := Bd.bytes
  have hml : c.maxLocals = 1 := hml0
  have hown : s.vm.findClass "java/lang/String" = some m.cls := findClass_of_methodNamed Bd.named
  have hnm := (name_of_methodNamed Bd.named Bd.method).1
  have X0 : Stand p l e ({ frames := 0, cells := 0, slots := 0, locals := 0 } : Room) s m #[(.ref xs)] below meth c s₁ [] 0 0 := Stand.of_body Bd
  have e0 : s₁.heap = h0 := by rw [← hh, Bd.state]; rfl
  have N0 := Fr.nil n0
  show Gl p e below s (Qisl Z xs zc h0 n0) ({ frames := 0, cells := 0, slots := 0, locals := 0 } : Room).cells ({ frames := 0, cells := 0, slots := 0, locals := 0 } : Room).slots (s₁.setTop (entryFrame m #[(.ref xs)] 1))
  refine Gl.back (fun _ k => castTop (ef_isl m xs) k) ?_
  show Gl _ _ _ _ _ _ _ (s₁.setTop (mkF m 0 #[.val (.ref xs)] []))
  obtain ⟨T181, X181, e181, st181⟩ := getS2 X0 hx hZ hown (host := "") (Or.inl (hw _ (List.mem_of_getElem? (i := 15) rfl))) Via.refl e0 (S_C.ext O0.2) (g := (mkF m 0 #[.val (.ref xs)] [])) rfl (hb hby d12_0)
  refine Gl.back (fun _ k => st181 _ k) ?_
  show Gl _ _ _ _ _ _ _ (T181.setTop (mkF m 3 #[.val (.ref xs)] [(.int zc)]))
  refine Gl.back (fun _ k => XS.ifNo X181.here hx rfl (hb hby d12_3) rfl ((if0 _ _).trans (feq (P0 : ¬ zc = (0 : Int32))).1) k) ?_
  show Gl _ _ _ _ _ _ _ (T181.setTop (mkF m 6 #[.val (.ref xs)] []))
  refine Gl.back (fun _ k => XS.aloadN X181.here hx rfl (hb hby d12_6) rfl rfl k) ?_
  show Gl _ _ _ _ _ _ _ (T181.setTop (mkF m 7 #[.val (.ref xs)] [(.ref xs)]))
  obtain ⟨T182, X182, e182, st182⟩ := getF X181 hx hZ hown (host := "") (Or.inl (hw _ (List.mem_of_getElem? (i := 27) rfl))) Via.refl e181 F_c (g := (mkF m 7 #[.val (.ref xs)] [(.ref xs)])) rfl rfl (hb hby d12_7)
  refine Gl.back (fun _ k => st182 _ k) ?_
  show Gl _ _ _ _ _ _ _ (T182.setTop (mkF m 10 #[.val (.ref xs)] [(.int (1 : Int32))]))
  refine Gl.back (fun _ k => XS.ifYes X182.here hx rfl (pc0 := 10) (pc' := 17) rfl (hb hby d12_10) rfl ((if0 _ _).trans (feq (by decide : ¬ (1 : Int32) = (0 : Int32))).2) (by decide) (by decide) k) ?_
  show Gl _ _ _ _ _ _ _ (T182.setTop (mkF m 17 #[.val (.ref xs)] []))
  refine Gl.back (fun _ k => XS.iconst X182.here hx rfl (hb hby d12_17) k) ?_
  show Gl _ _ _ _ _ _ _ (T182.setTop (mkF m 18 #[.val (.ref xs)] [(.int (0 : Int32))]))
  exact Gl.ret X182 e182 (v := (some (.int (0 : Int32)))) (fun h => by rw [Bd.returns] at h; cases h) Bd.notSynchronized (fun fs hr => retN X182 hx (t := .boolean) (z := (0 : Int32)) Bd.returns (by simp) (hb hby d12_18) hr) ⟨N0, rfl, rfl⟩ (by decide) (by decide)
theorem d23_0 : decode jdk_52_method_6_code 0 = .ok (.aload_n 0, 1) := by decide +kernel
theorem d23_1 : decode jdk_52_method_6_code 1 = .ok (.arraylength, 1) := by decide +kernel
theorem d23_2 : decode jdk_52_method_6_code 2 = .ok (.iconst 1, 1) := by decide +kernel
theorem d23_3 : decode jdk_52_method_6_code 3 = .ok (.ishr, 1) := by decide +kernel
theorem d23_4 : decode jdk_52_method_6_code 4 = .ok (.ireturn, 1) := by decide +kernel
theorem ef_ulen_1 (m : MethodId) (x0 : Addr) : entryFrame m #[(.ref x0)] 1 = mkF m 0 #[.val (.ref x0)] [] := by first | (simp [entryFrame, mkF, argsToLocals, Value.category]; done) | rfl
def Qulen_1 (Z : State) (t : Addr) (k_t : ClassId) (x0 x1 : Int32) (h0 : Heap) (n0 : Nat) (v : Option Value) (h : Heap) (L : List Loc) : Prop := Fr n0 L ∧ (v = some (.int 1) ∧ h = h0)
set_option maxRecDepth 65536 in
set_option maxHeartbeats 40000000 in
theorem rmulen_1 (l : Launch) (Z : State) (a0 : Array Value) (hw : ∀ d ∈ tables_1, d.before a0 Z = true) (ws : List Jvm.Cond) (t : Addr) (k_t : ClassId) (x0 x1 : Int32) (h0 : Heap) (n0 : Nat) (Z0 : n0 ≤ h0.size) (V_t : Arv Z h0 t k_t .byte (2 : Int32) [(.int x0), (.int x1)] (.int (0 : Int32))) :
    MetFree l (⟨"java/lang/StringUTF16", "length", "([B)I"⟩ : MethodName) (head1 (Jvm.Cond.code (⟨"java/lang/StringUTF16", "length", "([B)I"⟩ : MethodName) jdk_52_method_6_code 1 (some .int) :: ws) ({ frames := 0, cells := 0, slots := 0, locals := 0 } : Room)) (fun as0 U => as0 = #[(.ref t)] ∧ Z.Warmed39 U.vm ∧ U.heap = h0) (fun _ _ _ _ _ => True) (fun _ U oc0 U' => ∃ v L, oc0 = .returned v ∧ Qulen_1 Z t k_t x0 x1 h0 n0 v U'.heap L ∧ FrameEnd U oc0 U' L ({ frames := 0, cells := 0, slots := 0, locals := 0 } : Room).cells ({ frames := 0, cells := 0, slots := 0, locals := 0 } : Room).slots) := by
  refine MetFree.of_bodySF (plainFor_of_name pn_java_lang_StringUTF16) hisR ?_
  intro p e s m args below meth c s₁ Bd hml0 hP hK
  obtain ⟨rfl, hZ, hh⟩ := hP
  have hx := Bd.exec
  have hby := Bd.bytes
  have hml : c.maxLocals = 1 := hml0
  have hown : s.vm.findClass "java/lang/StringUTF16" = some m.cls := findClass_of_methodNamed Bd.named
  have hnm := (name_of_methodNamed Bd.named Bd.method).1
  have X0 : Stand p l e ({ frames := 0, cells := 0, slots := 0, locals := 0 } : Room) s m #[(.ref t)] below meth c s₁ [] 0 0 := Stand.of_body Bd
  have e0 : s₁.heap = h0 := by rw [← hh, Bd.state]; rfl
  have N0 := Fr.nil n0
  show Gl p e below s (Qulen_1 Z t k_t x0 x1 h0 n0) ({ frames := 0, cells := 0, slots := 0, locals := 0 } : Room).cells ({ frames := 0, cells := 0, slots := 0, locals := 0 } : Room).slots (s₁.setTop (entryFrame m #[(.ref t)] 1))
  refine Gl.back (fun _ k => castTop (ef_ulen_1 m t) k) ?_
  show Gl _ _ _ _ _ _ _ (s₁.setTop (mkF m 0 #[.val (.ref t)] []))
  refine Gl.back (fun _ k => XS.aloadN X0.here hx rfl (hb hby d23_0) rfl rfl k) ?_
  show Gl _ _ _ _ _ _ _ (s₁.setTop (mkF m 1 #[.val (.ref t)] [(.ref t)]))
  obtain ⟨cl183, Ar183, -, Sz183, Nn183, -, -⟩ := id V_t
  refine Gl.back (fun _ k => X0.arraylength hx (by rw [e0]; exact Ar183.1) (State.isArrayOf_alike hZ.alike Ar183.2.1) (g := (mkF m 1 #[.val (.ref t)] [(.ref t)])) rfl rfl (hb hby d23_1) _ k) ?_
  rw [len_of Sz183 Nn183]
  show Gl _ _ _ _ _ _ _ (s₁.setTop (mkF m 2 #[.val (.ref t)] [(.int (2 : Int32))]))
  refine Gl.back (fun _ k => XS.iconst X0.here hx rfl (hb hby d23_2) k) ?_
  show Gl _ _ _ _ _ _ _ (s₁.setTop (mkF m 3 #[.val (.ref t)] [(.int (1 : Int32)), (.int (2 : Int32))]))
  refine Gl.back (fun _ k => XS.ishr X0.here hx rfl (hb hby d23_3) rfl k) ?_
  show Gl _ _ _ _ _ _ _ (s₁.setTop (mkF m 4 #[.val (.ref t)] [(.int (1 : Int32))]))
  exact Gl.ret X0 e0 (v := (some (.int (1 : Int32)))) (fun h => by rw [Bd.returns] at h; cases h) Bd.notSynchronized (fun fs hr => retOut X0 hx (w := (.int (1 : Int32))) Bd.returns rfl (Or.inl ⟨rfl, Or.inl rfl, _, rfl⟩) (hb hby d23_4) hr) ⟨N0, rfl, rfl⟩ (by decide) (by decide)
theorem d22_0 : decode jdk_52_method_91_code 0 = .ok (.iload_n 0, 1) := by decide +kernel
theorem d22_1 : decode jdk_52_method_91_code 1 = .ok (.aload_n 1, 1) := by decide +kernel
theorem d22_2 : decode jdk_52_method_91_code 2 = .ok (.invokestatic 48, 3) := by decide +kernel
theorem pd___B_I : parseMethodDescriptor "([B)I" = some ⟨[(.array .byte)], some .int⟩ := by decide +kernel
theorem d22_5 : decode jdk_52_method_91_code 5 = .ok (.invokestatic 414, 3) := by decide +kernel
theorem pd__II_V : parseMethodDescriptor "(II)V" = some ⟨[.int, .int], none⟩ := by decide +kernel
theorem d22_8 : decode jdk_52_method_91_code 8 = .ok (.return_, 1) := by decide +kernel
theorem ef_uci_1 (m : MethodId) (x1 : Addr) : entryFrame m #[(.int (0 : Int32)), (.ref x1)] 2 = mkF m 0 #[.val (.int (0 : Int32)), .val (.ref x1)] [] := by first | (simp [entryFrame, mkF, argsToLocals, Value.category]; done) | rfl
def Quci_1 (Z : State) (t : Addr) (k_t : ClassId) (x0 x1 : Int32) (fm : Value) (h0 : Heap) (n0 : Nat) (v : Option Value) (h : Heap) (L : List Loc) : Prop := Fr n0 L ∧ (v = none ∧ h = h0)
set_option maxRecDepth 65536 in
set_option maxHeartbeats 40000000 in
theorem rmuci_1 (l : Launch) (Z : State) (a0 : Array Value) (hw : ∀ d ∈ tables_1, d.before a0 Z = true) (ws : List Jvm.Cond) (t : Addr) (k_t : ClassId) (x0 x1 : Int32) (fm : Value) (h0 : Heap) (n0 : Nat) (Z0 : n0 ≤ h0.size) (O0 : Old Z n0 h0) (S_F : Sta Z Z.heap "jdk/internal/util/Preconditions" "SIOOBE_FORMATTER" "Ljava/util/function/BiFunction;" fm) (hfm : fm.isRef = true) (V_t : Arv Z h0 t k_t .byte (2 : Int32) [(.int x0), (.int x1)] (.int (0 : Int32))) :
    MetFree l (⟨"java/lang/StringUTF16", "checkIndex", "(I[B)V"⟩ : MethodName) (head1 (Jvm.Cond.code (⟨"java/lang/StringUTF16", "checkIndex", "(I[B)V"⟩ : MethodName) jdk_52_method_91_code 2 none :: ws) ({ frames := 2, cells := 0, slots := 0, locals := 27 } : Room)) (fun as0 U => as0 = #[(.int (0 : Int32)), (.ref t)] ∧ Z.Warmed39 U.vm ∧ U.heap = h0) (fun _ _ _ _ _ => True) (fun _ U oc0 U' => ∃ v L, oc0 = .returned v ∧ Quci_1 Z t k_t x0 x1 fm h0 n0 v U'.heap L ∧ FrameEnd U oc0 U' L ({ frames := 2, cells := 0, slots := 0, locals := 27 } : Room).cells ({ frames := 2, cells := 0, slots := 0, locals := 27 } : Room).slots) := by
  refine MetFree.of_bodySF (plainFor_of_name pn_java_lang_StringUTF16) hisR ?_
  intro p e s m args below meth c s₁ Bd hml0 hP hK
  obtain ⟨rfl, hZ, hh⟩ := hP
  have hx := Bd.exec
  have hby := Bd.bytes
  have hml : c.maxLocals = 2 := hml0
  have hown : s.vm.findClass "java/lang/StringUTF16" = some m.cls := findClass_of_methodNamed Bd.named
  have hnm := (name_of_methodNamed Bd.named Bd.method).1
  have X0 : Stand p l e ({ frames := 2, cells := 0, slots := 0, locals := 27 } : Room) s m #[(.int (0 : Int32)), (.ref t)] below meth c s₁ [] 0 0 := Stand.of_body Bd
  have e0 : s₁.heap = h0 := by rw [← hh, Bd.state]; rfl
  have N0 := Fr.nil n0
  show Gl p e below s (Quci_1 Z t k_t x0 x1 fm h0 n0) ({ frames := 2, cells := 0, slots := 0, locals := 27 } : Room).cells ({ frames := 2, cells := 0, slots := 0, locals := 27 } : Room).slots (s₁.setTop (entryFrame m #[(.int (0 : Int32)), (.ref t)] 2))
  refine Gl.back (fun _ k => castTop (ef_uci_1 m t) k) ?_
  show Gl _ _ _ _ _ _ _ (s₁.setTop (mkF m 0 #[.val (.int (0 : Int32)), .val (.ref t)] []))
  refine Gl.back (fun _ k => XS.iloadN X0.here hx rfl (hb hby d22_0) rfl k) ?_
  show Gl _ _ _ _ _ _ _ (s₁.setTop (mkF m 1 #[.val (.int (0 : Int32)), .val (.ref t)] [(.int (0 : Int32))]))
  refine Gl.back (fun _ k => XS.aloadN X0.here hx rfl (hb hby d22_1) rfl rfl k) ?_
  show Gl _ _ _ _ _ _ _ (s₁.setTop (mkF m 2 #[.val (.int (0 : Int32)), .val (.ref t)] [(.ref t), (.int (0 : Int32))]))
  obtain ⟨_, _, ⟨T184, L184, k184, n184⟩, -, X184, ⟨Lc184, hQ184, l184, y184, z184⟩, st184⟩ := Jvm.LawKit.callS X0 hx (y := (⟨"java/lang/StringUTF16", "length", "([B)I"⟩ : MethodName)) hown (mvT hZ (hw _ (List.mem_of_getElem? (i := 121) rfl))) (mvT hZ (hw _ (List.mem_of_getElem? (i := 122) rfl))) (mvT hZ (hw _ (List.mem_of_getElem? (i := 18) rfl))) (mvT hZ (hw _ (List.mem_of_getElem? (i := 123) rfl))) (by decide) (backOf (W := 1) (rmulen_1 l Z a0 hw [] t k_t x0 x1 h0 n0 Z0 V_t) hZ (hw _ (List.mem_of_getElem? (i := 123) rfl)) (hw _ (List.mem_of_getElem? (i := 18) rfl)) (by decide) (by decide)) (g := (mkF m 2 #[.val (.int (0 : Int32)), .val (.ref t)] [(.ref t), (.int (0 : Int32))])) rfl (by rw [hml]; rfl) (argsL := [(.ref t)]) (rest := [(.int (0 : Int32))]) (lenOf pd___B_I rfl) rfl (by show 2 * 0 + _ ≤ _; exact Nat.le_of_eq rfl) (hb hby d22_2) (fun _ _ => ⟨rfl, e0, (by decide : 0 + 0 ≤ _), (by decide : 0 + 0 ≤ _)⟩)
  dsimp only [Pt.U, Pt.locs, Pt.cells, Pt.slots] at X184 l184 y184 z184 st184 hQ184
  replace l184 := Eq.symm l184
  replace y184 := Eq.symm y184
  replace z184 := Eq.symm z184
  subst l184 y184 z184
  obtain ⟨Nq184, rfl, eh184⟩ := hQ184
  have N184 := Fr.app N0 Nq184
  refine Gl.back (fun _ k => st184 _ k) ?_
  show Gl _ _ _ _ _ _ _ (T184.setTop (mkF m 5 #[.val (.int (0 : Int32)), .val (.ref t)] [(.int (1 : Int32)), (.int (0 : Int32))]))
  obtain ⟨_, _, ⟨T185, L185, k185, n185⟩, -, X185, ⟨Lc185, hQ185, l185, y185, z185⟩, st185⟩ := Jvm.LawKit.callS X184 hx (y := (⟨"java/lang/String", "checkIndex", "(II)V"⟩ : MethodName)) hown (mvT hZ (hw _ (List.mem_of_getElem? (i := 124) rfl))) (mvT hZ (hw _ (List.mem_of_getElem? (i := 85) rfl))) (mvT hZ (hw _ (List.mem_of_getElem? (i := 4) rfl))) (mvT hZ (hw _ (List.mem_of_getElem? (i := 86) rfl))) (by decide) (backOf (W := 0) (rmsci l Z a0 hw [] (1 : Int32) fm h0 n0 Z0 O0 S_F hfm (by decide)) hZ (hw _ (List.mem_of_getElem? (i := 86) rfl)) (hw _ (List.mem_of_getElem? (i := 4) rfl)) (by decide) (by decide)) (g := (mkF m 5 #[.val (.int (0 : Int32)), .val (.ref t)] [(.int (1 : Int32)), (.int (0 : Int32))])) rfl (by rw [hml]; rfl) (argsL := [(.int (0 : Int32)), (.int (1 : Int32))]) (rest := []) (lenOf pd__II_V rfl) rfl (by show 2 * 0 + _ ≤ _; exact Nat.le_of_eq rfl) (hb hby d22_5) (fun _ _ => ⟨rfl, eh184, (by decide : 0 + 0 ≤ _), (by decide : 0 + 0 ≤ _)⟩)
  dsimp only [Pt.U, Pt.locs, Pt.cells, Pt.slots] at X185 l185 y185 z185 st185 hQ185
  replace l185 := Eq.symm l185
  replace y185 := Eq.symm y185
  replace z185 := Eq.symm z185
  subst l185 y185 z185
  obtain ⟨Nq185, rfl, eh185⟩ := hQ185
  have N185 := Fr.app N184 Nq185
  refine Gl.back (fun _ k => st185 _ k) ?_
  show Gl _ _ _ _ _ _ _ (T185.setTop (mkF m 8 #[.val (.int (0 : Int32)), .val (.ref t)] []))
  exact Gl.ret X185 eh185 (v := none) (fun _ => rfl) Bd.notSynchronized (fun fs hr => X185.returnOut hx Bd.returns (hb hby d22_8) hr) ⟨N185, rfl, rfl⟩ (by decide) (by decide)
theorem d21_0 : decode jdk_52_method_83_code 0 = .ok (.iload_n 1, 1) := by decide +kernel
theorem d21_1 : decode jdk_52_method_83_code 1 = .ok (.aload_n 0, 1) := by decide +kernel
theorem d21_2 : decode jdk_52_method_83_code 2 = .ok (.invokestatic 67, 3) := by decide +kernel
theorem pd__I_B_V : parseMethodDescriptor "(I[B)V" = some ⟨[.int, (.array .byte)], none⟩ := by decide +kernel
theorem d21_5 : decode jdk_52_method_83_code 5 = .ok (.aload_n 0, 1) := by decide +kernel
theorem d21_6 : decode jdk_52_method_83_code 6 = .ok (.iload_n 1, 1) := by decide +kernel
theorem d21_7 : decode jdk_52_method_83_code 7 = .ok (.invokestatic 71, 3) := by decide +kernel
theorem d21_10 : decode jdk_52_method_83_code 10 = .ok (.ireturn, 1) := by decide +kernel
theorem ef_uch_1 (m : MethodId) (x0 : Addr) : entryFrame m #[(.ref x0), (.int (0 : Int32))] 2 = mkF m 0 #[.val (.ref x0), .val (.int (0 : Int32))] [] := by first | (simp [entryFrame, mkF, argsToLocals, Value.category]; done) | rfl
def Quch_1 (Z : State) (t : Addr) (k_t : ClassId) (x0 x1 : Int32) (fm : Value) (h0 : Heap) (n0 : Nat) (v : Option Value) (h : Heap) (L : List Loc) : Prop := Fr n0 L ∧ (v = some (.int (nar .char (own_gc x0 x1))) ∧ h = h0)
set_option maxRecDepth 65536 in
set_option maxHeartbeats 40000000 in
theorem rmuch_1 (l : Launch) (Z : State) (a0 : Array Value) (hw : ∀ d ∈ tables_1, d.before a0 Z = true) (ws : List Jvm.Cond) (t : Addr) (k_t : ClassId) (x0 x1 : Int32) (fm : Value) (h0 : Heap) (n0 : Nat) (Z0 : n0 ≤ h0.size) (O0 : Old Z n0 h0) (S_AD : Sta Z Z.heap "java/lang/StringUTF16" "$assertionsDisabled" "Z" (.int 1)) (S_HI : Sta Z Z.heap "java/lang/StringUTF16" "HI_BYTE_SHIFT" "I" (.int 0)) (S_LO : Sta Z Z.heap "java/lang/StringUTF16" "LO_BYTE_SHIFT" "I" (.int 8)) (S_F : Sta Z Z.heap "jdk/internal/util/Preconditions" "SIOOBE_FORMATTER" "Ljava/util/function/BiFunction;" fm) (hfm : fm.isRef = true) (V_t : Arv Z h0 t k_t .byte (2 : Int32) [(.int x0), (.int x1)] (.int (0 : Int32))) :
    MetFree l (⟨"java/lang/StringUTF16", "charAt", "([BI)C"⟩ : MethodName) (head1 (Jvm.Cond.code (⟨"java/lang/StringUTF16", "charAt", "([BI)C"⟩ : MethodName) jdk_52_method_83_code 2 (some .char) :: ws) ({ frames := 3, cells := 0, slots := 0, locals := 40 } : Room)) (fun as0 U => as0 = #[(.ref t), (.int (0 : Int32))] ∧ Z.Warmed39 U.vm ∧ U.heap = h0) (fun _ _ _ _ _ => True) (fun _ U oc0 U' => ∃ v L, oc0 = .returned v ∧ Quch_1 Z t k_t x0 x1 fm h0 n0 v U'.heap L ∧ FrameEnd U oc0 U' L ({ frames := 3, cells := 0, slots := 0, locals := 40 } : Room).cells ({ frames := 3, cells := 0, slots := 0, locals := 40 } : Room).slots) := by
  refine MetFree.of_bodySF (plainFor_of_name pn_java_lang_StringUTF16) hisR ?_
  intro p e s m args below meth c s₁ Bd hml0 hP hK
  obtain ⟨rfl, hZ, hh⟩ := hP
  have hx := Bd.exec
  have hby := Bd.bytes
  have hml : c.maxLocals = 2 := hml0
  have hown : s.vm.findClass "java/lang/StringUTF16" = some m.cls := findClass_of_methodNamed Bd.named
  have hnm := (name_of_methodNamed Bd.named Bd.method).1
  have X0 : Stand p l e ({ frames := 3, cells := 0, slots := 0, locals := 40 } : Room) s m #[(.ref t), (.int (0 : Int32))] below meth c s₁ [] 0 0 := Stand.of_body Bd
  have e0 : s₁.heap = h0 := by rw [← hh, Bd.state]; rfl
  have N0 := Fr.nil n0
  show Gl p e below s (Quch_1 Z t k_t x0 x1 fm h0 n0) ({ frames := 3, cells := 0, slots := 0, locals := 40 } : Room).cells ({ frames := 3, cells := 0, slots := 0, locals := 40 } : Room).slots (s₁.setTop (entryFrame m #[(.ref t), (.int (0 : Int32))] 2))
  refine Gl.back (fun _ k => castTop (ef_uch_1 m t) k) ?_
  show Gl _ _ _ _ _ _ _ (s₁.setTop (mkF m 0 #[.val (.ref t), .val (.int (0 : Int32))] []))
  refine Gl.back (fun _ k => XS.iloadN X0.here hx rfl (hb hby d21_0) rfl k) ?_
  show Gl _ _ _ _ _ _ _ (s₁.setTop (mkF m 1 #[.val (.ref t), .val (.int (0 : Int32))] [(.int (0 : Int32))]))
  refine Gl.back (fun _ k => XS.aloadN X0.here hx rfl (hb hby d21_1) rfl rfl k) ?_
  show Gl _ _ _ _ _ _ _ (s₁.setTop (mkF m 2 #[.val (.ref t), .val (.int (0 : Int32))] [(.ref t), (.int (0 : Int32))]))
  obtain ⟨_, _, ⟨T186, L186, k186, n186⟩, -, X186, ⟨Lc186, hQ186, l186, y186, z186⟩, st186⟩ := Jvm.LawKit.callS X0 hx (y := (⟨"java/lang/StringUTF16", "checkIndex", "(I[B)V"⟩ : MethodName)) hown (mvT hZ (hw _ (List.mem_of_getElem? (i := 118) rfl))) (mvT hZ (hw _ (List.mem_of_getElem? (i := 119) rfl))) (mvT hZ (hw _ (List.mem_of_getElem? (i := 18) rfl))) (mvT hZ (hw _ (List.mem_of_getElem? (i := 120) rfl))) (by decide) (backOf (W := 0) (rmuci_1 l Z a0 hw [] t k_t x0 x1 fm h0 n0 Z0 O0 S_F hfm V_t) hZ (hw _ (List.mem_of_getElem? (i := 120) rfl)) (hw _ (List.mem_of_getElem? (i := 18) rfl)) (by decide) (by decide)) (g := (mkF m 2 #[.val (.ref t), .val (.int (0 : Int32))] [(.ref t), (.int (0 : Int32))])) rfl (by rw [hml]; rfl) (argsL := [(.int (0 : Int32)), (.ref t)]) (rest := []) (lenOf pd__I_B_V rfl) rfl (by show 2 * 0 + _ ≤ _; exact Nat.le_of_eq rfl) (hb hby d21_2) (fun _ _ => ⟨rfl, e0, (by decide : 0 + 0 ≤ _), (by decide : 0 + 0 ≤ _)⟩)
  dsimp only [Pt.U, Pt.locs, Pt.cells, Pt.slots] at X186 l186 y186 z186 st186 hQ186
  replace l186 := Eq.symm l186
  replace y186 := Eq.symm y186
  replace z186 := Eq.symm z186
  subst l186 y186 z186
  obtain ⟨Nq186, rfl, eh186⟩ := hQ186
  have N186 := Fr.app N0 Nq186
  refine Gl.back (fun _ k => st186 _ k) ?_
  show Gl _ _ _ _ _ _ _ (T186.setTop (mkF m 5 #[.val (.ref t), .val (.int (0 : Int32))] []))
  refine Gl.back (fun _ k => XS.aloadN X186.here hx rfl (hb hby d21_5) rfl rfl k) ?_
  show Gl _ _ _ _ _ _ _ (T186.setTop (mkF m 6 #[.val (.ref t), .val (.int (0 : Int32))] [(.ref t)]))
  refine Gl.back (fun _ k => XS.iloadN X186.here hx rfl (hb hby d21_6) rfl k) ?_
  show Gl _ _ _ _ _ _ _ (T186.setTop (mkF m 7 #[.val (.ref t), .val (.int (0 : Int32))] [(.int (0 : Int32)), (.ref t)]))
  obtain ⟨_, _, ⟨T187, L187, k187, n187⟩, -, X187, ⟨Lc187, hQ187, l187, y187, z187⟩, st187⟩ := Jvm.LawKit.callS X186 hx (y := (⟨"java/lang/StringUTF16", "getChar", "([BI)C"⟩ : MethodName)) hown (mvT hZ (hw _ (List.mem_of_getElem? (i := 108) rfl))) (mvT hZ (hw _ (List.mem_of_getElem? (i := 109) rfl))) (mvT hZ (hw _ (List.mem_of_getElem? (i := 18) rfl))) (mvT hZ (hw _ (List.mem_of_getElem? (i := 110) rfl))) (by decide) (backOf (W := 0) (rmgch_1_0 l Z a0 hw [] t k_t x0 x1 h0 n0 Z0 O0 S_AD S_HI S_LO V_t) hZ (hw _ (List.mem_of_getElem? (i := 110) rfl)) (hw _ (List.mem_of_getElem? (i := 18) rfl)) (by decide) (by decide)) (g := (mkF m 7 #[.val (.ref t), .val (.int (0 : Int32))] [(.int (0 : Int32)), (.ref t)])) rfl (by rw [hml]; rfl) (argsL := [(.ref t), (.int (0 : Int32))]) (rest := []) (lenOf pd___BI_C rfl) rfl (by show 2 * 0 + _ ≤ _; exact Nat.le_of_eq rfl) (hb hby d21_7) (fun _ _ => ⟨rfl, eh186, (by decide : 0 + 0 ≤ _), (by decide : 0 + 0 ≤ _)⟩)
  dsimp only [Pt.U, Pt.locs, Pt.cells, Pt.slots] at X187 l187 y187 z187 st187 hQ187
  replace l187 := Eq.symm l187
  replace y187 := Eq.symm y187
  replace z187 := Eq.symm z187
  subst l187 y187 z187
  obtain ⟨Nq187, rfl, eh187⟩ := hQ187
  have N187 := Fr.app N186 Nq187
  refine Gl.back (fun _ k => st187 _ k) ?_
  show Gl _ _ _ _ _ _ _ (T187.setTop (mkF m 10 #[.val (.ref t), .val (.int (0 : Int32))] [(.int (own_gc x0 x1))]))
  exact Gl.ret X187 eh187 (v := (some (.int (nar .char (own_gc x0 x1))))) (fun h => by rw [Bd.returns] at h; cases h) Bd.notSynchronized (fun fs hr => retN X187 hx (t := .char) (z := (own_gc x0 x1)) Bd.returns (by simp) (hb hby d21_10) hr) ⟨N187, rfl, rfl⟩ (by decide) (by decide)
theorem d11_0 : decode jdk_42_method_56_code 0 = .ok (.aload_n 0, 1) := by decide +kernel
theorem d11_1 : decode jdk_42_method_56_code 1 = .ok (.invokevirtual 492, 3) := by decide +kernel
theorem pd___Z : parseMethodDescriptor "()Z" = some ⟨[], some .boolean⟩ := by decide +kernel
theorem d11_4 : decode jdk_42_method_56_code 4 = .ok (.ifCond .eq 12, 3) := by decide +kernel
theorem d11_16 : decode jdk_42_method_56_code 16 = .ok (.aload_n 0, 1) := by decide +kernel
theorem d11_17 : decode jdk_42_method_56_code 17 = .ok (.getfield 9, 3) := by decide +kernel
theorem d11_20 : decode jdk_42_method_56_code 20 = .ok (.iload_n 1, 1) := by decide +kernel
theorem d11_21 : decode jdk_42_method_56_code 21 = .ok (.invokestatic 498, 3) := by decide +kernel
theorem d11_24 : decode jdk_42_method_56_code 24 = .ok (.ireturn, 1) := by decide +kernel
theorem ef_chU_1 (m : MethodId) (x0 : Addr) : entryFrame m #[(.ref x0), (.int (0 : Int32))] 2 = mkF m 0 #[.val (.ref x0), .val (.int (0 : Int32))] [] := by first | (simp [entryFrame, mkF, argsToLocals, Value.category]; done) | rfl
def QchU_1 (Z : State) (xs : Addr) (t : Addr) (k_t : ClassId) (x0 x1 : Int32) (zc : Int32) (fm : Value) (h0 : Heap) (n0 : Nat) (v : Option Value) (h : Heap) (L : List Loc) : Prop := Fr n0 L ∧ (v = some (.int (nar .char (nar .char (own_gc x0 x1)))) ∧ h = h0)
set_option maxRecDepth 65536 in
set_option maxHeartbeats 40000000 in
theorem rmchU_1 (l : Launch) (Z : State) (a0 : Array Value) (hw : ∀ d ∈ tables_1, d.before a0 Z = true) (ws : List Jvm.Cond) (xs : Addr) (t : Addr) (k_t : ClassId) (x0 x1 : Int32) (zc : Int32) (fm : Value) (h0 : Heap) (n0 : Nat) (Z0 : n0 ≤ h0.size) (O0 : Old Z n0 h0) (S_AD : Sta Z Z.heap "java/lang/StringUTF16" "$assertionsDisabled" "Z" (.int 1)) (S_HI : Sta Z Z.heap "java/lang/StringUTF16" "HI_BYTE_SHIFT" "I" (.int 0)) (S_LO : Sta Z Z.heap "java/lang/StringUTF16" "LO_BYTE_SHIFT" "I" (.int 8)) (S_C : Sta Z Z.heap "java/lang/String" "COMPACT_STRINGS" "Z" (.int zc)) (P0 : ¬ zc = 0) (S_F : Sta Z Z.heap "jdk/internal/util/Preconditions" "SIOOBE_FORMATTER" "Ljava/util/function/BiFunction;" fm) (hfm : fm.isRef = true) (E_x : Exa Z h0 xs "java/lang/String") (F_c : Fld Z h0 xs "java/lang/String" "coder" "B" (.int 1)) (F_v : Fld Z h0 xs "java/lang/String" "value" "[B" (.ref t)) (V_t : Arv Z h0 t k_t .byte (2 : Int32) [(.int x0), (.int x1)] (.int (0 : Int32))) :
    MetFree l (⟨"java/lang/String", "charAt", "(I)C"⟩ : MethodName) (head1 (Jvm.Cond.code (⟨"java/lang/String", "charAt", "(I)C"⟩ : MethodName) jdk_42_method_56_code 2 (some .char) :: ws) ({ frames := 4, cells := 0, slots := 0, locals := 53 } : Room)) (fun as0 U => as0 = #[(.ref xs), (.int (0 : Int32))] ∧ Z.Warmed39 U.vm ∧ U.heap = h0) (fun _ _ _ _ _ => True) (fun _ U oc0 U' => ∃ v L, oc0 = .returned v ∧ QchU_1 Z xs t k_t x0 x1 zc fm h0 n0 v U'.heap L ∧ FrameEnd U oc0 U' L ({ frames := 4, cells := 0, slots := 0, locals := 53 } : Room).cells ({ frames := 4, cells := 0, slots := 0, locals := 53 } : Room).slots) := by
  refine MetFree.of_bodySF (plainFor_of_name pn_java_lang_String) hisR ?_
  intro p e s m args below meth c s₁ Bd hml0 hP hK
  obtain ⟨rfl, hZ, hh⟩ := hP
  have hx := Bd.exec
  have hby := Bd.bytes
  have hml : c.maxLocals = 2 := hml0
  have hown : s.vm.findClass "java/lang/String" = some m.cls := findClass_of_methodNamed Bd.named
  have hnm := (name_of_methodNamed Bd.named Bd.method).1
  have X0 : Stand p l e ({ frames := 4, cells := 0, slots := 0, locals := 53 } : Room) s m #[(.ref xs), (.int (0 : Int32))] below meth c s₁ [] 0 0 := Stand.of_body Bd
  have e0 : s₁.heap = h0 := by rw [← hh, Bd.state]; rfl
  have N0 := Fr.nil n0
  show Gl p e below s (QchU_1 Z xs t k_t x0 x1 zc fm h0 n0) ({ frames := 4, cells := 0, slots := 0, locals := 53 } : Room).cells ({ frames := 4, cells := 0, slots := 0, locals := 53 } : Room).slots (s₁.setTop (entryFrame m #[(.ref xs), (.int (0 : Int32))] 2))
  refine Gl.back (fun _ k => castTop (ef_chU_1 m xs) k) ?_
  show Gl _ _ _ _ _ _ _ (s₁.setTop (mkF m 0 #[.val (.ref xs), .val (.int (0 : Int32))] []))
  refine Gl.back (fun _ k => XS.aloadN X0.here hx rfl (hb hby d11_0) rfl rfl k) ?_
  show Gl _ _ _ _ _ _ _ (s₁.setTop (mkF m 1 #[.val (.ref xs), .val (.int (0 : Int32))] [(.ref xs)]))
  obtain ⟨cq188, kq188, q188a, q188b, q188c⟩ := isOf hZ e0 E_x
  obtain ⟨_, _, ⟨T188, L188, k188, n188⟩, -, X188, ⟨Lc188, hQ188, l188, y188, z188⟩, st188⟩ := X0.virtualBack hx (y := (⟨"java/lang/String", "isLatin1", "()Z"⟩ : MethodName)) (z := (⟨"java/lang/String", "isLatin1", "()Z"⟩ : MethodName)) hown (mvT hZ (hw _ (List.mem_of_getElem? (i := 75) rfl))) (mvT hZ (hw _ (List.mem_of_getElem? (i := 76) rfl))) (notFace_of_selects (args := #[]) (mvT hZ (hw _ (List.mem_of_getElem? (i := 78) rfl)))) (mvT hZ (hw _ (List.mem_of_getElem? (i := 78) rfl))) (mvT hZ (hw _ (List.mem_of_getElem? (i := 77) rfl))) (by decide) (backOf (W := 0) (rmisl l Z a0 hw [] xs zc h0 n0 Z0 O0 S_C P0 F_c) hZ (hw _ (List.mem_of_getElem? (i := 79) rfl)) (hw _ (List.mem_of_getElem? (i := 4) rfl)) (by decide) (by decide)) q188a q188c (g := (mkF m 1 #[.val (.ref xs), .val (.int (0 : Int32))] [(.ref xs)])) rfl (by rw [hml]; rfl) (Steps.refl _) (argsL := []) (rest := []) (lenOf pd___Z rfl) rfl (by show 2 * 0 + _ ≤ _; exact Nat.le_of_eq rfl) (hb hby d11_1) (fun _ _ => ⟨rfl, e0, (by decide : 0 + 0 ≤ _), (by decide : 0 + 0 ≤ _)⟩)
  dsimp only [Pt.U, Pt.locs, Pt.cells, Pt.slots] at X188 l188 y188 z188 st188 hQ188
  replace l188 := Eq.symm l188
  replace y188 := Eq.symm y188
  replace z188 := Eq.symm z188
  subst l188 y188 z188
  obtain ⟨Nq188, rfl, eh188⟩ := hQ188
  have N188 := Fr.app N0 Nq188
  refine Gl.back (fun _ k => st188.trans k) ?_
  show Gl _ _ _ _ _ _ _ (T188.setTop (mkF m 4 #[.val (.ref xs), .val (.int (0 : Int32))] [(.int (0 : Int32))]))
  refine Gl.back (fun _ k => XS.ifYes X188.here hx rfl (pc0 := 4) (pc' := 16) rfl (hb hby d11_4) rfl ((if0 _ _).trans (teq (by decide : (0 : Int32) = (0 : Int32))).1) (by decide) (by decide) k) ?_
  show Gl _ _ _ _ _ _ _ (T188.setTop (mkF m 16 #[.val (.ref xs), .val (.int (0 : Int32))] []))
  refine Gl.back (fun _ k => XS.aloadN X188.here hx rfl (hb hby d11_16) rfl rfl k) ?_
  show Gl _ _ _ _ _ _ _ (T188.setTop (mkF m 17 #[.val (.ref xs), .val (.int (0 : Int32))] [(.ref xs)]))
  obtain ⟨T189, X189, e189, st189⟩ := getF X188 hx hZ hown (host := "") (Or.inl (hw _ (List.mem_of_getElem? (i := 29) rfl))) Via.refl eh188 F_v (g := (mkF m 17 #[.val (.ref xs), .val (.int (0 : Int32))] [(.ref xs)])) rfl rfl (hb hby d11_17)
  refine Gl.back (fun _ k => st189 _ k) ?_
  show Gl _ _ _ _ _ _ _ (T189.setTop (mkF m 20 #[.val (.ref xs), .val (.int (0 : Int32))] [(.ref t)]))
  refine Gl.back (fun _ k => XS.iloadN X189.here hx rfl (hb hby d11_20) rfl k) ?_
  show Gl _ _ _ _ _ _ _ (T189.setTop (mkF m 21 #[.val (.ref xs), .val (.int (0 : Int32))] [(.int (0 : Int32)), (.ref t)]))
  obtain ⟨_, _, ⟨T190, L190, k190, n190⟩, -, X190, ⟨Lc190, hQ190, l190, y190, z190⟩, st190⟩ := Jvm.LawKit.callS X189 hx (y := (⟨"java/lang/StringUTF16", "charAt", "([BI)C"⟩ : MethodName)) hown (mvT hZ (hw _ (List.mem_of_getElem? (i := 115) rfl))) (mvT hZ (hw _ (List.mem_of_getElem? (i := 116) rfl))) (mvT hZ (hw _ (List.mem_of_getElem? (i := 18) rfl))) (mvT hZ (hw _ (List.mem_of_getElem? (i := 117) rfl))) (by decide) (backOf (W := 0) (rmuch_1 l Z a0 hw [] t k_t x0 x1 fm h0 n0 Z0 O0 S_AD S_HI S_LO S_F hfm V_t) hZ (hw _ (List.mem_of_getElem? (i := 117) rfl)) (hw _ (List.mem_of_getElem? (i := 18) rfl)) (by decide) (by decide)) (g := (mkF m 21 #[.val (.ref xs), .val (.int (0 : Int32))] [(.int (0 : Int32)), (.ref t)])) rfl (by rw [hml]; rfl) (argsL := [(.ref t), (.int (0 : Int32))]) (rest := []) (lenOf pd___BI_C rfl) rfl (by show 2 * 0 + _ ≤ _; exact Nat.le_of_eq rfl) (hb hby d11_21) (fun _ _ => ⟨rfl, e189, (by decide : 0 + 0 ≤ _), (by decide : 0 + 0 ≤ _)⟩)
  dsimp only [Pt.U, Pt.locs, Pt.cells, Pt.slots] at X190 l190 y190 z190 st190 hQ190
  replace l190 := Eq.symm l190
  replace y190 := Eq.symm y190
  replace z190 := Eq.symm z190
  subst l190 y190 z190
  obtain ⟨Nq190, rfl, eh190⟩ := hQ190
  have N190 := Fr.app N188 Nq190
  refine Gl.back (fun _ k => st190 _ k) ?_
  show Gl _ _ _ _ _ _ _ (T190.setTop (mkF m 24 #[.val (.ref xs), .val (.int (0 : Int32))] [(.int (nar .char (own_gc x0 x1)))]))
  exact Gl.ret X190 eh190 (v := (some (.int (nar .char (nar .char (own_gc x0 x1)))))) (fun h => by rw [Bd.returns] at h; cases h) Bd.notSynchronized (fun fs hr => retN X190 hx (t := .char) (z := (nar .char (own_gc x0 x1))) Bd.returns (by simp) (hb hby d11_24) hr) ⟨N190, rfl, rfl⟩ (by decide) (by decide)
theorem ef_ulen_2 (m : MethodId) (x0 : Addr) : entryFrame m #[(.ref x0)] 1 = mkF m 0 #[.val (.ref x0)] [] := by first | (simp [entryFrame, mkF, argsToLocals, Value.category]; done) | rfl
def Qulen_2 (Z : State) (t : Addr) (k_t : ClassId) (x0 x1 x2 x3 : Int32) (h0 : Heap) (n0 : Nat) (v : Option Value) (h : Heap) (L : List Loc) : Prop := Fr n0 L ∧ (v = some (.int 2) ∧ h = h0)
set_option maxRecDepth 65536 in
set_option maxHeartbeats 40000000 in
theorem rmulen_2 (l : Launch) (Z : State) (a0 : Array Value) (hw : ∀ d ∈ tables_1, d.before a0 Z = true) (ws : List Jvm.Cond) (t : Addr) (k_t : ClassId) (x0 x1 x2 x3 : Int32) (h0 : Heap) (n0 : Nat) (Z0 : n0 ≤ h0.size) (V_t : Arv Z h0 t k_t .byte (4 : Int32) [(.int x0), (.int x1), (.int x2), (.int x3)] (.int (0 : Int32))) :
    MetFree l (⟨"java/lang/StringUTF16", "length", "([B)I"⟩ : MethodName) (head1 (Jvm.Cond.code (⟨"java/lang/StringUTF16", "length", "([B)I"⟩ : MethodName) jdk_52_method_6_code 1 (some .int) :: ws) ({ frames := 0, cells := 0, slots := 0, locals := 0 } : Room)) (fun as0 U => as0 = #[(.ref t)] ∧ Z.Warmed39 U.vm ∧ U.heap = h0) (fun _ _ _ _ _ => True) (fun _ U oc0 U' => ∃ v L, oc0 = .returned v ∧ Qulen_2 Z t k_t x0 x1 x2 x3 h0 n0 v U'.heap L ∧ FrameEnd U oc0 U' L ({ frames := 0, cells := 0, slots := 0, locals := 0 } : Room).cells ({ frames := 0, cells := 0, slots := 0, locals := 0 } : Room).slots) := by
  refine MetFree.of_bodySF (plainFor_of_name pn_java_lang_StringUTF16) hisR ?_
  intro p e s m args below meth c s₁ Bd hml0 hP hK
  obtain ⟨rfl, hZ, hh⟩ := hP
  have hx := Bd.exec
  have hby := Bd.bytes
  have hml : c.maxLocals = 1 := hml0
  have hown : s.vm.findClass "java/lang/StringUTF16" = some m.cls := findClass_of_methodNamed Bd.named
  have hnm := (name_of_methodNamed Bd.named Bd.method).1
  have X0 : Stand p l e ({ frames := 0, cells := 0, slots := 0, locals := 0 } : Room) s m #[(.ref t)] below meth c s₁ [] 0 0 := Stand.of_body Bd
  have e0 : s₁.heap = h0 := by rw [← hh, Bd.state]; rfl
  have N0 := Fr.nil n0
  show Gl p e below s (Qulen_2 Z t k_t x0 x1 x2 x3 h0 n0) ({ frames := 0, cells := 0, slots := 0, locals := 0 } : Room).cells ({ frames := 0, cells := 0, slots := 0, locals := 0 } : Room).slots (s₁.setTop (entryFrame m #[(.ref t)] 1))
  refine Gl.back (fun _ k => castTop (ef_ulen_2 m t) k) ?_
  show Gl _ _ _ _ _ _ _ (s₁.setTop (mkF m 0 #[.val (.ref t)] []))
  refine Gl.back (fun _ k => XS.aloadN X0.here hx rfl (hb hby d23_0) rfl rfl k) ?_
  show Gl _ _ _ _ _ _ _ (s₁.setTop (mkF m 1 #[.val (.ref t)] [(.ref t)]))
  obtain ⟨cl191, Ar191, -, Sz191, Nn191, -, -⟩ := id V_t
  refine Gl.back (fun _ k => X0.arraylength hx (by rw [e0]; exact Ar191.1) (State.isArrayOf_alike hZ.alike Ar191.2.1) (g := (mkF m 1 #[.val (.ref t)] [(.ref t)])) rfl rfl (hb hby d23_1) _ k) ?_
  rw [len_of Sz191 Nn191]
  show Gl _ _ _ _ _ _ _ (s₁.setTop (mkF m 2 #[.val (.ref t)] [(.int (4 : Int32))]))
  refine Gl.back (fun _ k => XS.iconst X0.here hx rfl (hb hby d23_2) k) ?_
  show Gl _ _ _ _ _ _ _ (s₁.setTop (mkF m 3 #[.val (.ref t)] [(.int (1 : Int32)), (.int (4 : Int32))]))
  refine Gl.back (fun _ k => XS.ishr X0.here hx rfl (hb hby d23_3) rfl k) ?_
  show Gl _ _ _ _ _ _ _ (s₁.setTop (mkF m 4 #[.val (.ref t)] [(.int (2 : Int32))]))
  exact Gl.ret X0 e0 (v := (some (.int (2 : Int32)))) (fun h => by rw [Bd.returns] at h; cases h) Bd.notSynchronized (fun fs hr => retOut X0 hx (w := (.int (2 : Int32))) Bd.returns rfl (Or.inl ⟨rfl, Or.inl rfl, _, rfl⟩) (hb hby d23_4) hr) ⟨N0, rfl, rfl⟩ (by decide) (by decide)
theorem ef_uci_2 (m : MethodId) (x1 : Addr) : entryFrame m #[(.int (0 : Int32)), (.ref x1)] 2 = mkF m 0 #[.val (.int (0 : Int32)), .val (.ref x1)] [] := by first | (simp [entryFrame, mkF, argsToLocals, Value.category]; done) | rfl
def Quci_2 (Z : State) (t : Addr) (k_t : ClassId) (x0 x1 x2 x3 : Int32) (fm : Value) (h0 : Heap) (n0 : Nat) (v : Option Value) (h : Heap) (L : List Loc) : Prop := Fr n0 L ∧ (v = none ∧ h = h0)
set_option maxRecDepth 65536 in
set_option maxHeartbeats 40000000 in
theorem rmuci_2 (l : Launch) (Z : State) (a0 : Array Value) (hw : ∀ d ∈ tables_1, d.before a0 Z = true) (ws : List Jvm.Cond) (t : Addr) (k_t : ClassId) (x0 x1 x2 x3 : Int32) (fm : Value) (h0 : Heap) (n0 : Nat) (Z0 : n0 ≤ h0.size) (O0 : Old Z n0 h0) (S_F : Sta Z Z.heap "jdk/internal/util/Preconditions" "SIOOBE_FORMATTER" "Ljava/util/function/BiFunction;" fm) (hfm : fm.isRef = true) (V_t : Arv Z h0 t k_t .byte (4 : Int32) [(.int x0), (.int x1), (.int x2), (.int x3)] (.int (0 : Int32))) :
    MetFree l (⟨"java/lang/StringUTF16", "checkIndex", "(I[B)V"⟩ : MethodName) (head1 (Jvm.Cond.code (⟨"java/lang/StringUTF16", "checkIndex", "(I[B)V"⟩ : MethodName) jdk_52_method_91_code 2 none :: ws) ({ frames := 2, cells := 0, slots := 0, locals := 27 } : Room)) (fun as0 U => as0 = #[(.int (0 : Int32)), (.ref t)] ∧ Z.Warmed39 U.vm ∧ U.heap = h0) (fun _ _ _ _ _ => True) (fun _ U oc0 U' => ∃ v L, oc0 = .returned v ∧ Quci_2 Z t k_t x0 x1 x2 x3 fm h0 n0 v U'.heap L ∧ FrameEnd U oc0 U' L ({ frames := 2, cells := 0, slots := 0, locals := 27 } : Room).cells ({ frames := 2, cells := 0, slots := 0, locals := 27 } : Room).slots) := by
  refine MetFree.of_bodySF (plainFor_of_name pn_java_lang_StringUTF16) hisR ?_
  intro p e s m args below meth c s₁ Bd hml0 hP hK
  obtain ⟨rfl, hZ, hh⟩ := hP
  have hx := Bd.exec
  have hby := Bd.bytes
  have hml : c.maxLocals = 2 := hml0
  have hown : s.vm.findClass "java/lang/StringUTF16" = some m.cls := findClass_of_methodNamed Bd.named
  have hnm := (name_of_methodNamed Bd.named Bd.method).1
  have X0 : Stand p l e ({ frames := 2, cells := 0, slots := 0, locals := 27 } : Room) s m #[(.int (0 : Int32)), (.ref t)] below meth c s₁ [] 0 0 := Stand.of_body Bd
  have e0 : s₁.heap = h0 := by rw [← hh, Bd.state]; rfl
  have N0 := Fr.nil n0
  show Gl p e below s (Quci_2 Z t k_t x0 x1 x2 x3 fm h0 n0) ({ frames := 2, cells := 0, slots := 0, locals := 27 } : Room).cells ({ frames := 2, cells := 0, slots := 0, locals := 27 } : Room).slots (s₁.setTop (entryFrame m #[(.int (0 : Int32)), (.ref t)] 2))
  refine Gl.back (fun _ k => castTop (ef_uci_2 m t) k) ?_
  show Gl _ _ _ _ _ _ _ (s₁.setTop (mkF m 0 #[.val (.int (0 : Int32)), .val (.ref t)] []))
  refine Gl.back (fun _ k => XS.iloadN X0.here hx rfl (hb hby d22_0) rfl k) ?_
  show Gl _ _ _ _ _ _ _ (s₁.setTop (mkF m 1 #[.val (.int (0 : Int32)), .val (.ref t)] [(.int (0 : Int32))]))
  refine Gl.back (fun _ k => XS.aloadN X0.here hx rfl (hb hby d22_1) rfl rfl k) ?_
  show Gl _ _ _ _ _ _ _ (s₁.setTop (mkF m 2 #[.val (.int (0 : Int32)), .val (.ref t)] [(.ref t), (.int (0 : Int32))]))
  obtain ⟨_, _, ⟨T192, L192, k192, n192⟩, -, X192, ⟨Lc192, hQ192, l192, y192, z192⟩, st192⟩ := Jvm.LawKit.callS X0 hx (y := (⟨"java/lang/StringUTF16", "length", "([B)I"⟩ : MethodName)) hown (mvT hZ (hw _ (List.mem_of_getElem? (i := 121) rfl))) (mvT hZ (hw _ (List.mem_of_getElem? (i := 122) rfl))) (mvT hZ (hw _ (List.mem_of_getElem? (i := 18) rfl))) (mvT hZ (hw _ (List.mem_of_getElem? (i := 123) rfl))) (by decide) (backOf (W := 1) (rmulen_2 l Z a0 hw [] t k_t x0 x1 x2 x3 h0 n0 Z0 V_t) hZ (hw _ (List.mem_of_getElem? (i := 123) rfl)) (hw _ (List.mem_of_getElem? (i := 18) rfl)) (by decide) (by decide)) (g := (mkF m 2 #[.val (.int (0 : Int32)), .val (.ref t)] [(.ref t), (.int (0 : Int32))])) rfl (by rw [hml]; rfl) (argsL := [(.ref t)]) (rest := [(.int (0 : Int32))]) (lenOf pd___B_I rfl) rfl (by show 2 * 0 + _ ≤ _; exact Nat.le_of_eq rfl) (hb hby d22_2) (fun _ _ => ⟨rfl, e0, (by decide : 0 + 0 ≤ _), (by decide : 0 + 0 ≤ _)⟩)
  dsimp only [Pt.U, Pt.locs, Pt.cells, Pt.slots] at X192 l192 y192 z192 st192 hQ192
  replace l192 := Eq.symm l192
  replace y192 := Eq.symm y192
  replace z192 := Eq.symm z192
  subst l192 y192 z192
  obtain ⟨Nq192, rfl, eh192⟩ := hQ192
  have N192 := Fr.app N0 Nq192
  refine Gl.back (fun _ k => st192 _ k) ?_
  show Gl _ _ _ _ _ _ _ (T192.setTop (mkF m 5 #[.val (.int (0 : Int32)), .val (.ref t)] [(.int (2 : Int32)), (.int (0 : Int32))]))
  obtain ⟨_, _, ⟨T193, L193, k193, n193⟩, -, X193, ⟨Lc193, hQ193, l193, y193, z193⟩, st193⟩ := Jvm.LawKit.callS X192 hx (y := (⟨"java/lang/String", "checkIndex", "(II)V"⟩ : MethodName)) hown (mvT hZ (hw _ (List.mem_of_getElem? (i := 124) rfl))) (mvT hZ (hw _ (List.mem_of_getElem? (i := 85) rfl))) (mvT hZ (hw _ (List.mem_of_getElem? (i := 4) rfl))) (mvT hZ (hw _ (List.mem_of_getElem? (i := 86) rfl))) (by decide) (backOf (W := 0) (rmsci l Z a0 hw [] (2 : Int32) fm h0 n0 Z0 O0 S_F hfm (by decide)) hZ (hw _ (List.mem_of_getElem? (i := 86) rfl)) (hw _ (List.mem_of_getElem? (i := 4) rfl)) (by decide) (by decide)) (g := (mkF m 5 #[.val (.int (0 : Int32)), .val (.ref t)] [(.int (2 : Int32)), (.int (0 : Int32))])) rfl (by rw [hml]; rfl) (argsL := [(.int (0 : Int32)), (.int (2 : Int32))]) (rest := []) (lenOf pd__II_V rfl) rfl (by show 2 * 0 + _ ≤ _; exact Nat.le_of_eq rfl) (hb hby d22_5) (fun _ _ => ⟨rfl, eh192, (by decide : 0 + 0 ≤ _), (by decide : 0 + 0 ≤ _)⟩)
  dsimp only [Pt.U, Pt.locs, Pt.cells, Pt.slots] at X193 l193 y193 z193 st193 hQ193
  replace l193 := Eq.symm l193
  replace y193 := Eq.symm y193
  replace z193 := Eq.symm z193
  subst l193 y193 z193
  obtain ⟨Nq193, rfl, eh193⟩ := hQ193
  have N193 := Fr.app N192 Nq193
  refine Gl.back (fun _ k => st193 _ k) ?_
  show Gl _ _ _ _ _ _ _ (T193.setTop (mkF m 8 #[.val (.int (0 : Int32)), .val (.ref t)] []))
  exact Gl.ret X193 eh193 (v := none) (fun _ => rfl) Bd.notSynchronized (fun fs hr => X193.returnOut hx Bd.returns (hb hby d22_8) hr) ⟨N193, rfl, rfl⟩ (by decide) (by decide)
theorem ef_uch_2 (m : MethodId) (x0 : Addr) : entryFrame m #[(.ref x0), (.int (0 : Int32))] 2 = mkF m 0 #[.val (.ref x0), .val (.int (0 : Int32))] [] := by first | (simp [entryFrame, mkF, argsToLocals, Value.category]; done) | rfl
def Quch_2 (Z : State) (t : Addr) (k_t : ClassId) (x0 x1 x2 x3 : Int32) (fm : Value) (h0 : Heap) (n0 : Nat) (v : Option Value) (h : Heap) (L : List Loc) : Prop := Fr n0 L ∧ (v = some (.int (nar .char (own_gc x0 x1))) ∧ h = h0)
set_option maxRecDepth 65536 in
set_option maxHeartbeats 40000000 in
theorem rmuch_2 (l : Launch) (Z : State) (a0 : Array Value) (hw : ∀ d ∈ tables_1, d.before a0 Z = true) (ws : List Jvm.Cond) (t : Addr) (k_t : ClassId) (x0 x1 x2 x3 : Int32) (fm : Value) (h0 : Heap) (n0 : Nat) (Z0 : n0 ≤ h0.size) (O0 : Old Z n0 h0) (S_AD : Sta Z Z.heap "java/lang/StringUTF16" "$assertionsDisabled" "Z" (.int 1)) (S_HI : Sta Z Z.heap "java/lang/StringUTF16" "HI_BYTE_SHIFT" "I" (.int 0)) (S_LO : Sta Z Z.heap "java/lang/StringUTF16" "LO_BYTE_SHIFT" "I" (.int 8)) (S_F : Sta Z Z.heap "jdk/internal/util/Preconditions" "SIOOBE_FORMATTER" "Ljava/util/function/BiFunction;" fm) (hfm : fm.isRef = true) (V_t : Arv Z h0 t k_t .byte (4 : Int32) [(.int x0), (.int x1), (.int x2), (.int x3)] (.int (0 : Int32))) :
    MetFree l (⟨"java/lang/StringUTF16", "charAt", "([BI)C"⟩ : MethodName) (head1 (Jvm.Cond.code (⟨"java/lang/StringUTF16", "charAt", "([BI)C"⟩ : MethodName) jdk_52_method_83_code 2 (some .char) :: ws) ({ frames := 3, cells := 0, slots := 0, locals := 40 } : Room)) (fun as0 U => as0 = #[(.ref t), (.int (0 : Int32))] ∧ Z.Warmed39 U.vm ∧ U.heap = h0) (fun _ _ _ _ _ => True) (fun _ U oc0 U' => ∃ v L, oc0 = .returned v ∧ Quch_2 Z t k_t x0 x1 x2 x3 fm h0 n0 v U'.heap L ∧ FrameEnd U oc0 U' L ({ frames := 3, cells := 0, slots := 0, locals := 40 } : Room).cells ({ frames := 3, cells := 0, slots := 0, locals := 40 } : Room).slots) := by
  refine MetFree.of_bodySF (plainFor_of_name pn_java_lang_StringUTF16) hisR ?_
  intro p e s m args below meth c s₁ Bd hml0 hP hK
  obtain ⟨rfl, hZ, hh⟩ := hP
  have hx := Bd.exec
  have hby := Bd.bytes
  have hml : c.maxLocals = 2 := hml0
  have hown : s.vm.findClass "java/lang/StringUTF16" = some m.cls := findClass_of_methodNamed Bd.named
  have hnm := (name_of_methodNamed Bd.named Bd.method).1
  have X0 : Stand p l e ({ frames := 3, cells := 0, slots := 0, locals := 40 } : Room) s m #[(.ref t), (.int (0 : Int32))] below meth c s₁ [] 0 0 := Stand.of_body Bd
  have e0 : s₁.heap = h0 := by rw [← hh, Bd.state]; rfl
  have N0 := Fr.nil n0
  show Gl p e below s (Quch_2 Z t k_t x0 x1 x2 x3 fm h0 n0) ({ frames := 3, cells := 0, slots := 0, locals := 40 } : Room).cells ({ frames := 3, cells := 0, slots := 0, locals := 40 } : Room).slots (s₁.setTop (entryFrame m #[(.ref t), (.int (0 : Int32))] 2))
  refine Gl.back (fun _ k => castTop (ef_uch_2 m t) k) ?_
  show Gl _ _ _ _ _ _ _ (s₁.setTop (mkF m 0 #[.val (.ref t), .val (.int (0 : Int32))] []))
  refine Gl.back (fun _ k => XS.iloadN X0.here hx rfl (hb hby d21_0) rfl k) ?_
  show Gl _ _ _ _ _ _ _ (s₁.setTop (mkF m 1 #[.val (.ref t), .val (.int (0 : Int32))] [(.int (0 : Int32))]))
  refine Gl.back (fun _ k => XS.aloadN X0.here hx rfl (hb hby d21_1) rfl rfl k) ?_
  show Gl _ _ _ _ _ _ _ (s₁.setTop (mkF m 2 #[.val (.ref t), .val (.int (0 : Int32))] [(.ref t), (.int (0 : Int32))]))
  obtain ⟨_, _, ⟨T194, L194, k194, n194⟩, -, X194, ⟨Lc194, hQ194, l194, y194, z194⟩, st194⟩ := Jvm.LawKit.callS X0 hx (y := (⟨"java/lang/StringUTF16", "checkIndex", "(I[B)V"⟩ : MethodName)) hown (mvT hZ (hw _ (List.mem_of_getElem? (i := 118) rfl))) (mvT hZ (hw _ (List.mem_of_getElem? (i := 119) rfl))) (mvT hZ (hw _ (List.mem_of_getElem? (i := 18) rfl))) (mvT hZ (hw _ (List.mem_of_getElem? (i := 120) rfl))) (by decide) (backOf (W := 0) (rmuci_2 l Z a0 hw [] t k_t x0 x1 x2 x3 fm h0 n0 Z0 O0 S_F hfm V_t) hZ (hw _ (List.mem_of_getElem? (i := 120) rfl)) (hw _ (List.mem_of_getElem? (i := 18) rfl)) (by decide) (by decide)) (g := (mkF m 2 #[.val (.ref t), .val (.int (0 : Int32))] [(.ref t), (.int (0 : Int32))])) rfl (by rw [hml]; rfl) (argsL := [(.int (0 : Int32)), (.ref t)]) (rest := []) (lenOf pd__I_B_V rfl) rfl (by show 2 * 0 + _ ≤ _; exact Nat.le_of_eq rfl) (hb hby d21_2) (fun _ _ => ⟨rfl, e0, (by decide : 0 + 0 ≤ _), (by decide : 0 + 0 ≤ _)⟩)
  dsimp only [Pt.U, Pt.locs, Pt.cells, Pt.slots] at X194 l194 y194 z194 st194 hQ194
  replace l194 := Eq.symm l194
  replace y194 := Eq.symm y194
  replace z194 := Eq.symm z194
  subst l194 y194 z194
  obtain ⟨Nq194, rfl, eh194⟩ := hQ194
  have N194 := Fr.app N0 Nq194
  refine Gl.back (fun _ k => st194 _ k) ?_
  show Gl _ _ _ _ _ _ _ (T194.setTop (mkF m 5 #[.val (.ref t), .val (.int (0 : Int32))] []))
  refine Gl.back (fun _ k => XS.aloadN X194.here hx rfl (hb hby d21_5) rfl rfl k) ?_
  show Gl _ _ _ _ _ _ _ (T194.setTop (mkF m 6 #[.val (.ref t), .val (.int (0 : Int32))] [(.ref t)]))
  refine Gl.back (fun _ k => XS.iloadN X194.here hx rfl (hb hby d21_6) rfl k) ?_
  show Gl _ _ _ _ _ _ _ (T194.setTop (mkF m 7 #[.val (.ref t), .val (.int (0 : Int32))] [(.int (0 : Int32)), (.ref t)]))
  obtain ⟨_, _, ⟨T195, L195, k195, n195⟩, -, X195, ⟨Lc195, hQ195, l195, y195, z195⟩, st195⟩ := Jvm.LawKit.callS X194 hx (y := (⟨"java/lang/StringUTF16", "getChar", "([BI)C"⟩ : MethodName)) hown (mvT hZ (hw _ (List.mem_of_getElem? (i := 108) rfl))) (mvT hZ (hw _ (List.mem_of_getElem? (i := 109) rfl))) (mvT hZ (hw _ (List.mem_of_getElem? (i := 18) rfl))) (mvT hZ (hw _ (List.mem_of_getElem? (i := 110) rfl))) (by decide) (backOf (W := 0) (rmgch_2_0 l Z a0 hw [] t k_t x0 x1 x2 x3 h0 n0 Z0 O0 S_AD S_HI S_LO V_t) hZ (hw _ (List.mem_of_getElem? (i := 110) rfl)) (hw _ (List.mem_of_getElem? (i := 18) rfl)) (by decide) (by decide)) (g := (mkF m 7 #[.val (.ref t), .val (.int (0 : Int32))] [(.int (0 : Int32)), (.ref t)])) rfl (by rw [hml]; rfl) (argsL := [(.ref t), (.int (0 : Int32))]) (rest := []) (lenOf pd___BI_C rfl) rfl (by show 2 * 0 + _ ≤ _; exact Nat.le_of_eq rfl) (hb hby d21_7) (fun _ _ => ⟨rfl, eh194, (by decide : 0 + 0 ≤ _), (by decide : 0 + 0 ≤ _)⟩)
  dsimp only [Pt.U, Pt.locs, Pt.cells, Pt.slots] at X195 l195 y195 z195 st195 hQ195
  replace l195 := Eq.symm l195
  replace y195 := Eq.symm y195
  replace z195 := Eq.symm z195
  subst l195 y195 z195
  obtain ⟨Nq195, rfl, eh195⟩ := hQ195
  have N195 := Fr.app N194 Nq195
  refine Gl.back (fun _ k => st195 _ k) ?_
  show Gl _ _ _ _ _ _ _ (T195.setTop (mkF m 10 #[.val (.ref t), .val (.int (0 : Int32))] [(.int (own_gc x0 x1))]))
  exact Gl.ret X195 eh195 (v := (some (.int (nar .char (own_gc x0 x1))))) (fun h => by rw [Bd.returns] at h; cases h) Bd.notSynchronized (fun fs hr => retN X195 hx (t := .char) (z := (own_gc x0 x1)) Bd.returns (by simp) (hb hby d21_10) hr) ⟨N195, rfl, rfl⟩ (by decide) (by decide)
theorem ef_chU_2 (m : MethodId) (x0 : Addr) : entryFrame m #[(.ref x0), (.int (0 : Int32))] 2 = mkF m 0 #[.val (.ref x0), .val (.int (0 : Int32))] [] := by first | (simp [entryFrame, mkF, argsToLocals, Value.category]; done) | rfl
def QchU_2 (Z : State) (xs : Addr) (t : Addr) (k_t : ClassId) (x0 x1 x2 x3 : Int32) (zc : Int32) (fm : Value) (h0 : Heap) (n0 : Nat) (v : Option Value) (h : Heap) (L : List Loc) : Prop := Fr n0 L ∧ (v = some (.int (nar .char (nar .char (own_gc x0 x1)))) ∧ h = h0)
set_option maxRecDepth 65536 in
set_option maxHeartbeats 40000000 in
theorem rmchU_2 (l : Launch) (Z : State) (a0 : Array Value) (hw : ∀ d ∈ tables_1, d.before a0 Z = true) (ws : List Jvm.Cond) (xs : Addr) (t : Addr) (k_t : ClassId) (x0 x1 x2 x3 : Int32) (zc : Int32) (fm : Value) (h0 : Heap) (n0 : Nat) (Z0 : n0 ≤ h0.size) (O0 : Old Z n0 h0) (S_AD : Sta Z Z.heap "java/lang/StringUTF16" "$assertionsDisabled" "Z" (.int 1)) (S_HI : Sta Z Z.heap "java/lang/StringUTF16" "HI_BYTE_SHIFT" "I" (.int 0)) (S_LO : Sta Z Z.heap "java/lang/StringUTF16" "LO_BYTE_SHIFT" "I" (.int 8)) (S_C : Sta Z Z.heap "java/lang/String" "COMPACT_STRINGS" "Z" (.int zc)) (P0 : ¬ zc = 0) (S_F : Sta Z Z.heap "jdk/internal/util/Preconditions" "SIOOBE_FORMATTER" "Ljava/util/function/BiFunction;" fm) (hfm : fm.isRef = true) (E_x : Exa Z h0 xs "java/lang/String") (F_c : Fld Z h0 xs "java/lang/String" "coder" "B" (.int 1)) (F_v : Fld Z h0 xs "java/lang/String" "value" "[B" (.ref t)) (V_t : Arv Z h0 t k_t .byte (4 : Int32) [(.int x0), (.int x1), (.int x2), (.int x3)] (.int (0 : Int32))) :
    MetFree l (⟨"java/lang/String", "charAt", "(I)C"⟩ : MethodName) (head1 (Jvm.Cond.code (⟨"java/lang/String", "charAt", "(I)C"⟩ : MethodName) jdk_42_method_56_code 2 (some .char) :: ws) ({ frames := 4, cells := 0, slots := 0, locals := 53 } : Room)) (fun as0 U => as0 = #[(.ref xs), (.int (0 : Int32))] ∧ Z.Warmed39 U.vm ∧ U.heap = h0) (fun _ _ _ _ _ => True) (fun _ U oc0 U' => ∃ v L, oc0 = .returned v ∧ QchU_2 Z xs t k_t x0 x1 x2 x3 zc fm h0 n0 v U'.heap L ∧ FrameEnd U oc0 U' L ({ frames := 4, cells := 0, slots := 0, locals := 53 } : Room).cells ({ frames := 4, cells := 0, slots := 0, locals := 53 } : Room).slots) := by
  refine MetFree.of_bodySF (plainFor_of_name pn_java_lang_String) hisR ?_
  intro p e s m args below meth c s₁ Bd hml0 hP hK
  obtain ⟨rfl, hZ, hh⟩ := hP
  have hx := Bd.exec
  have hby := Bd.bytes
  have hml : c.maxLocals = 2 := hml0
  have hown : s.vm.findClass "java/lang/String" = some m.cls := findClass_of_methodNamed Bd.named
  have hnm := (name_of_methodNamed Bd.named Bd.method).1
  have X0 : Stand p l e ({ frames := 4, cells := 0, slots := 0, locals := 53 } : Room) s m #[(.ref xs), (.int (0 : Int32))] below meth c s₁ [] 0 0 := Stand.of_body Bd
  have e0 : s₁.heap = h0 := by rw [← hh, Bd.state]; rfl
  have N0 := Fr.nil n0
  show Gl p e below s (QchU_2 Z xs t k_t x0 x1 x2 x3 zc fm h0 n0) ({ frames := 4, cells := 0, slots := 0, locals := 53 } : Room).cells ({ frames := 4, cells := 0, slots := 0, locals := 53 } : Room).slots (s₁.setTop (entryFrame m #[(.ref xs), (.int (0 : Int32))] 2))
  refine Gl.back (fun _ k => castTop (ef_chU_2 m xs) k) ?_
  show Gl _ _ _ _ _ _ _ (s₁.setTop (mkF m 0 #[.val (.ref xs), .val (.int (0 : Int32))] []))
  refine Gl.back (fun _ k => XS.aloadN X0.here hx rfl (hb hby d11_0) rfl rfl k) ?_
  show Gl _ _ _ _ _ _ _ (s₁.setTop (mkF m 1 #[.val (.ref xs), .val (.int (0 : Int32))] [(.ref xs)]))
  obtain ⟨cq196, kq196, q196a, q196b, q196c⟩ := isOf hZ e0 E_x
  obtain ⟨_, _, ⟨T196, L196, k196, n196⟩, -, X196, ⟨Lc196, hQ196, l196, y196, z196⟩, st196⟩ := X0.virtualBack hx (y := (⟨"java/lang/String", "isLatin1", "()Z"⟩ : MethodName)) (z := (⟨"java/lang/String", "isLatin1", "()Z"⟩ : MethodName)) hown (mvT hZ (hw _ (List.mem_of_getElem? (i := 75) rfl))) (mvT hZ (hw _ (List.mem_of_getElem? (i := 76) rfl))) (notFace_of_selects (args := #[]) (mvT hZ (hw _ (List.mem_of_getElem? (i := 78) rfl)))) (mvT hZ (hw _ (List.mem_of_getElem? (i := 78) rfl))) (mvT hZ (hw _ (List.mem_of_getElem? (i := 77) rfl))) (by decide) (backOf (W := 0) (rmisl l Z a0 hw [] xs zc h0 n0 Z0 O0 S_C P0 F_c) hZ (hw _ (List.mem_of_getElem? (i := 79) rfl)) (hw _ (List.mem_of_getElem? (i := 4) rfl)) (by decide) (by decide)) q196a q196c (g := (mkF m 1 #[.val (.ref xs), .val (.int (0 : Int32))] [(.ref xs)])) rfl (by rw [hml]; rfl) (Steps.refl _) (argsL := []) (rest := []) (lenOf pd___Z rfl) rfl (by show 2 * 0 + _ ≤ _; exact Nat.le_of_eq rfl) (hb hby d11_1) (fun _ _ => ⟨rfl, e0, (by decide : 0 + 0 ≤ _), (by decide : 0 + 0 ≤ _)⟩)
  dsimp only [Pt.U, Pt.locs, Pt.cells, Pt.slots] at X196 l196 y196 z196 st196 hQ196
  replace l196 := Eq.symm l196
  replace y196 := Eq.symm y196
  replace z196 := Eq.symm z196
  subst l196 y196 z196
  obtain ⟨Nq196, rfl, eh196⟩ := hQ196
  have N196 := Fr.app N0 Nq196
  refine Gl.back (fun _ k => st196.trans k) ?_
  show Gl _ _ _ _ _ _ _ (T196.setTop (mkF m 4 #[.val (.ref xs), .val (.int (0 : Int32))] [(.int (0 : Int32))]))
  refine Gl.back (fun _ k => XS.ifYes X196.here hx rfl (pc0 := 4) (pc' := 16) rfl (hb hby d11_4) rfl ((if0 _ _).trans (teq (by decide : (0 : Int32) = (0 : Int32))).1) (by decide) (by decide) k) ?_
  show Gl _ _ _ _ _ _ _ (T196.setTop (mkF m 16 #[.val (.ref xs), .val (.int (0 : Int32))] []))
  refine Gl.back (fun _ k => XS.aloadN X196.here hx rfl (hb hby d11_16) rfl rfl k) ?_
  show Gl _ _ _ _ _ _ _ (T196.setTop (mkF m 17 #[.val (.ref xs), .val (.int (0 : Int32))] [(.ref xs)]))
  obtain ⟨T197, X197, e197, st197⟩ := getF X196 hx hZ hown (host := "") (Or.inl (hw _ (List.mem_of_getElem? (i := 29) rfl))) Via.refl eh196 F_v (g := (mkF m 17 #[.val (.ref xs), .val (.int (0 : Int32))] [(.ref xs)])) rfl rfl (hb hby d11_17)
  refine Gl.back (fun _ k => st197 _ k) ?_
  show Gl _ _ _ _ _ _ _ (T197.setTop (mkF m 20 #[.val (.ref xs), .val (.int (0 : Int32))] [(.ref t)]))
  refine Gl.back (fun _ k => XS.iloadN X197.here hx rfl (hb hby d11_20) rfl k) ?_
  show Gl _ _ _ _ _ _ _ (T197.setTop (mkF m 21 #[.val (.ref xs), .val (.int (0 : Int32))] [(.int (0 : Int32)), (.ref t)]))
  obtain ⟨_, _, ⟨T198, L198, k198, n198⟩, -, X198, ⟨Lc198, hQ198, l198, y198, z198⟩, st198⟩ := Jvm.LawKit.callS X197 hx (y := (⟨"java/lang/StringUTF16", "charAt", "([BI)C"⟩ : MethodName)) hown (mvT hZ (hw _ (List.mem_of_getElem? (i := 115) rfl))) (mvT hZ (hw _ (List.mem_of_getElem? (i := 116) rfl))) (mvT hZ (hw _ (List.mem_of_getElem? (i := 18) rfl))) (mvT hZ (hw _ (List.mem_of_getElem? (i := 117) rfl))) (by decide) (backOf (W := 0) (rmuch_2 l Z a0 hw [] t k_t x0 x1 x2 x3 fm h0 n0 Z0 O0 S_AD S_HI S_LO S_F hfm V_t) hZ (hw _ (List.mem_of_getElem? (i := 117) rfl)) (hw _ (List.mem_of_getElem? (i := 18) rfl)) (by decide) (by decide)) (g := (mkF m 21 #[.val (.ref xs), .val (.int (0 : Int32))] [(.int (0 : Int32)), (.ref t)])) rfl (by rw [hml]; rfl) (argsL := [(.ref t), (.int (0 : Int32))]) (rest := []) (lenOf pd___BI_C rfl) rfl (by show 2 * 0 + _ ≤ _; exact Nat.le_of_eq rfl) (hb hby d11_21) (fun _ _ => ⟨rfl, e197, (by decide : 0 + 0 ≤ _), (by decide : 0 + 0 ≤ _)⟩)
  dsimp only [Pt.U, Pt.locs, Pt.cells, Pt.slots] at X198 l198 y198 z198 st198 hQ198
  replace l198 := Eq.symm l198
  replace y198 := Eq.symm y198
  replace z198 := Eq.symm z198
  subst l198 y198 z198
  obtain ⟨Nq198, rfl, eh198⟩ := hQ198
  have N198 := Fr.app N196 Nq198
  refine Gl.back (fun _ k => st198 _ k) ?_
  show Gl _ _ _ _ _ _ _ (T198.setTop (mkF m 24 #[.val (.ref xs), .val (.int (0 : Int32))] [(.int (nar .char (own_gc x0 x1)))]))
  exact Gl.ret X198 eh198 (v := (some (.int (nar .char (nar .char (own_gc x0 x1)))))) (fun h => by rw [Bd.returns] at h; cases h) Bd.notSynchronized (fun fs hr => retN X198 hx (t := .char) (z := (nar .char (own_gc x0 x1))) Bd.returns (by simp) (hb hby d11_24) hr) ⟨N198, rfl, rfl⟩ (by decide) (by decide)
theorem d10_0 : decode prog_9_method_3_code 0 = .ok (.aload_n 0, 1) := by decide +kernel
theorem d10_1 : decode prog_9_method_3_code 1 = .ok (.getfield 7, 3) := by decide +kernel
theorem d10_4 : decode prog_9_method_3_code 4 = .ok (.getstatic 44, 3) := by decide +kernel
theorem d10_7 : decode prog_9_method_3_code 7 = .ok (.if_acmp .ne 19, 3) := by decide +kernel
theorem d10_26 : decode prog_9_method_3_code 26 = .ok (.iconst 0, 1) := by decide +kernel
theorem d10_27 : decode prog_9_method_3_code 27 = .ok (.ireturn, 1) := by decide +kernel
theorem ef_sym0 (m : MethodId) (x0 : Addr) (x1 : Int32) : entryFrame m #[(.ref x0), (.int x1)] 2 = mkF m 0 #[.val (.ref x0), .val (.int x1)] [] := by first | (simp [entryFrame, mkF, argsToLocals, Value.category]; done) | rfl
def Qsym0 (Z : State) (a : Addr) (ch : Int32) (wk wS : Addr) (h0 : Heap) (n0 : Nat) (v : Option Value) (h : Heap) (L : List Loc) : Prop := Fr n0 L ∧ (v = some (.int 0) ∧ h = h0)
set_option maxRecDepth 65536 in
set_option maxHeartbeats 40000000 in
theorem rmsym0 (l : Launch) (Z : State) (a0 : Array Value) (hw : ∀ d ∈ tables_1, d.before a0 Z = true) (ws : List Jvm.Cond) (a : Addr) (ch : Int32) (wk wS : Addr) (h0 : Heap) (n0 : Nat) (Z0 : n0 ≤ h0.size) (O0 : Old Z n0 h0) (S_SY : Sta Z Z.heap "com/example/partition_planner/partitionplanner/CqlLexer$Kind" "SYMBOL" "Lcom/example/partition_planner/partitionplanner/CqlLexer$Kind;" (.ref wS)) (F_k : Fld Z h0 a "com/example/partition_planner/partitionplanner/CqlLexer$Token" "kind" "Lcom/example/partition_planner/partitionplanner/CqlLexer$Kind;" (.ref wk)) (hne : wk ≠ wS) :
    MetFree l (⟨"com/example/partition_planner/partitionplanner/CqlLexer$Token", "isSymbol", "(C)Z"⟩ : MethodName) (head1 (Jvm.Cond.code (⟨"com/example/partition_planner/partitionplanner/CqlLexer$Token", "isSymbol", "(C)Z"⟩ : MethodName) prog_9_method_3_code 2 (some .boolean) :: ws) ({ frames := 0, cells := 0, slots := 0, locals := 0 } : Room)) (fun as0 U => as0 = #[(.ref a), (.int ch)] ∧ Z.Warmed39 U.vm ∧ U.heap = h0) (fun _ _ _ _ _ => True) (fun _ U oc0 U' => ∃ v L, oc0 = .returned v ∧ Qsym0 Z a ch wk wS h0 n0 v U'.heap L ∧ FrameEnd U oc0 U' L ({ frames := 0, cells := 0, slots := 0, locals := 0 } : Room).cells ({ frames := 0, cells := 0, slots := 0, locals := 0 } : Room).slots) := by
  refine MetFree.of_bodySF (plainFor_of_name pn_com_example_partition_planner_partitionplanner_CqlLexer_Token) hisR ?_
  intro p e s m args below meth c s₁ Bd hml0 hP hK
  obtain ⟨rfl, hZ, hh⟩ := hP
  have hx := Bd.exec
  have hby := Bd.bytes
  have hml : c.maxLocals = 2 := hml0
  have hown : s.vm.findClass "com/example/partition_planner/partitionplanner/CqlLexer$Token" = some m.cls := findClass_of_methodNamed Bd.named
  have hnm := (name_of_methodNamed Bd.named Bd.method).1
  have X0 : Stand p l e ({ frames := 0, cells := 0, slots := 0, locals := 0 } : Room) s m #[(.ref a), (.int ch)] below meth c s₁ [] 0 0 := Stand.of_body Bd
  have e0 : s₁.heap = h0 := by rw [← hh, Bd.state]; rfl
  have N0 := Fr.nil n0
  show Gl p e below s (Qsym0 Z a ch wk wS h0 n0) ({ frames := 0, cells := 0, slots := 0, locals := 0 } : Room).cells ({ frames := 0, cells := 0, slots := 0, locals := 0 } : Room).slots (s₁.setTop (entryFrame m #[(.ref a), (.int ch)] 2))
  refine Gl.back (fun _ k => castTop (ef_sym0 m a ch) k) ?_
  show Gl _ _ _ _ _ _ _ (s₁.setTop (mkF m 0 #[.val (.ref a), .val (.int ch)] []))
  refine Gl.back (fun _ k => XS.aloadN X0.here hx rfl (hb hby d10_0) rfl rfl k) ?_
  show Gl _ _ _ _ _ _ _ (s₁.setTop (mkF m 1 #[.val (.ref a), .val (.int ch)] [(.ref a)]))
  obtain ⟨T199, X199, e199, st199⟩ := getF X0 hx hZ hown (host := "") (Or.inl (hw _ (List.mem_of_getElem? (i := 50) rfl))) Via.refl e0 F_k (g := (mkF m 1 #[.val (.ref a), .val (.int ch)] [(.ref a)])) rfl rfl (hb hby d10_1)
  refine Gl.back (fun _ k => st199 _ k) ?_
  show Gl _ _ _ _ _ _ _ (T199.setTop (mkF m 4 #[.val (.ref a), .val (.int ch)] [(.ref wk)]))
  obtain ⟨T200, X200, e200, st200⟩ := getS2 X199 hx hZ hown (host := "") (Or.inl (hw _ (List.mem_of_getElem? (i := 65) rfl))) Via.refl e199 (S_SY.ext O0.2) (g := (mkF m 4 #[.val (.ref a), .val (.int ch)] [(.ref wk)])) rfl (hb hby d10_4)
  refine Gl.back (fun _ k => st200 _ k) ?_
  show Gl _ _ _ _ _ _ _ (T200.setTop (mkF m 7 #[.val (.ref a), .val (.int ch)] [(.ref wS), (.ref wk)]))
  refine Gl.back (fun _ k => Jvm.RoadKit.acmp (g := (mkF m 7 #[.val (.ref a), .val (.int ch)] [(.ref wS), (.ref wk)])) X200 hx rfl rfl rfl (pc0 := 7) (pc' := 26) (same := false) rfl (hb hby d10_7) rfl (decide_eq_false fun q => hne (Value.ref.inj q)) (by decide) (by decide) k) ?_
  show Gl _ _ _ _ _ _ _ (T200.setTop (mkF m 26 #[.val (.ref a), .val (.int ch)] []))
  refine Gl.back (fun _ k => XS.iconst X200.here hx rfl (hb hby d10_26) k) ?_
  show Gl _ _ _ _ _ _ _ (T200.setTop (mkF m 27 #[.val (.ref a), .val (.int ch)] [(.int (0 : Int32))]))
  exact Gl.ret X200 e200 (v := (some (.int (0 : Int32)))) (fun h => by rw [Bd.returns] at h; cases h) Bd.notSynchronized (fun fs hr => retN X200 hx (t := .boolean) (z := (0 : Int32)) Bd.returns (by simp) (hb hby d10_27) hr) ⟨N0, rfl, rfl⟩ (by decide) (by decide)
theorem d10_10 : decode prog_9_method_3_code 10 = .ok (.aload_n 0, 1) := by decide +kernel
theorem d10_11 : decode prog_9_method_3_code 11 = .ok (.getfield 13, 3) := by decide +kernel
theorem d10_14 : decode prog_9_method_3_code 14 = .ok (.iconst 0, 1) := by decide +kernel
theorem d10_15 : decode prog_9_method_3_code 15 = .ok (.invokevirtual 47, 3) := by decide +kernel
theorem pd__I_C : parseMethodDescriptor "(I)C" = some ⟨[.int], some .char⟩ := by decide +kernel
theorem d10_18 : decode prog_9_method_3_code 18 = .ok (.iload_n 1, 1) := by decide +kernel
theorem d10_19 : decode prog_9_method_3_code 19 = .ok (.if_icmp .ne 7, 3) := by decide +kernel
theorem d10_22 : decode prog_9_method_3_code 22 = .ok (.iconst 1, 1) := by decide +kernel
theorem d10_23 : decode prog_9_method_3_code 23 = .ok (.goto 4, 3) := by decide +kernel
theorem ef_symU_1 (m : MethodId) (x0 : Addr) (x1 : Int32) : entryFrame m #[(.ref x0), (.int x1)] 2 = mkF m 0 #[.val (.ref x0), .val (.int x1)] [] := by first | (simp [entryFrame, mkF, argsToLocals, Value.category]; done) | rfl
def QsymU_1 (Z : State) (a : Addr) (ch : Int32) (xs t wS : Addr) (k_t : ClassId) (x0 x1 : Int32) (zc : Int32) (fm : Value) (h0 : Heap) (n0 : Nat) (v : Option Value) (h : Heap) (L : List Loc) : Prop := Fr n0 L ∧ ((v = some (.int 1) ∧ h = h0 ∧ (nar .char (nar .char (own_gc x0 x1))) = ch) ∨ (v = some (.int 0) ∧ h = h0 ∧ ¬ (nar .char (nar .char (own_gc x0 x1))) = ch))
set_option maxRecDepth 65536 in
set_option maxHeartbeats 40000000 in
theorem rmsymU_1 (l : Launch) (Z : State) (a0 : Array Value) (hw : ∀ d ∈ tables_1, d.before a0 Z = true) (ws : List Jvm.Cond) (a : Addr) (ch : Int32) (xs t wS : Addr) (k_t : ClassId) (x0 x1 : Int32) (zc : Int32) (fm : Value) (h0 : Heap) (n0 : Nat) (Z0 : n0 ≤ h0.size) (O0 : Old Z n0 h0) (S_AD : Sta Z Z.heap "java/lang/StringUTF16" "$assertionsDisabled" "Z" (.int 1)) (S_HI : Sta Z Z.heap "java/lang/StringUTF16" "HI_BYTE_SHIFT" "I" (.int 0)) (S_LO : Sta Z Z.heap "java/lang/StringUTF16" "LO_BYTE_SHIFT" "I" (.int 8)) (S_C : Sta Z Z.heap "java/lang/String" "COMPACT_STRINGS" "Z" (.int zc)) (P0 : ¬ zc = 0) (S_F : Sta Z Z.heap "jdk/internal/util/Preconditions" "SIOOBE_FORMATTER" "Ljava/util/function/BiFunction;" fm) (hfm : fm.isRef = true) (S_SY : Sta Z Z.heap "com/example/partition_planner/partitionplanner/CqlLexer$Kind" "SYMBOL" "Lcom/example/partition_planner/partitionplanner/CqlLexer$Kind;" (.ref wS)) (F_k : Fld Z h0 a "com/example/partition_planner/partitionplanner/CqlLexer$Token" "kind" "Lcom/example/partition_planner/partitionplanner/CqlLexer$Kind;" (.ref wS)) (F_val : Fld Z h0 a "com/example/partition_planner/partitionplanner/CqlLexer$Token" "value" "Ljava/lang/String;" (.ref xs)) (E_x : Exa Z h0 xs "java/lang/String") (F_c : Fld Z h0 xs "java/lang/String" "coder" "B" (.int 1)) (F_v : Fld Z h0 xs "java/lang/String" "value" "[B" (.ref t)) (V_t : Arv Z h0 t k_t .byte (2 : Int32) [(.int x0), (.int x1)] (.int (0 : Int32))) :
    MetFree l (⟨"com/example/partition_planner/partitionplanner/CqlLexer$Token", "isSymbol", "(C)Z"⟩ : MethodName) (head1 (Jvm.Cond.code (⟨"com/example/partition_planner/partitionplanner/CqlLexer$Token", "isSymbol", "(C)Z"⟩ : MethodName) prog_9_method_3_code 2 (some .boolean) :: ws) ({ frames := 5, cells := 0, slots := 0, locals := 66 } : Room)) (fun as0 U => as0 = #[(.ref a), (.int ch)] ∧ Z.Warmed39 U.vm ∧ U.heap = h0) (fun _ _ _ _ _ => True) (fun _ U oc0 U' => ∃ v L, oc0 = .returned v ∧ QsymU_1 Z a ch xs t wS k_t x0 x1 zc fm h0 n0 v U'.heap L ∧ FrameEnd U oc0 U' L ({ frames := 5, cells := 0, slots := 0, locals := 66 } : Room).cells ({ frames := 5, cells := 0, slots := 0, locals := 66 } : Room).slots) := by
  refine MetFree.of_bodySF (plainFor_of_name pn_com_example_partition_planner_partitionplanner_CqlLexer_Token) hisR ?_
  intro p e s m args below meth c s₁ Bd hml0 hP hK
  obtain ⟨rfl, hZ, hh⟩ := hP
  have hx := Bd.exec
  have hby := Bd.bytes
  have hml : c.maxLocals = 2 := hml0
  have hown : s.vm.findClass "com/example/partition_planner/partitionplanner/CqlLexer$Token" = some m.cls := findClass_of_methodNamed Bd.named
  have hnm := (name_of_methodNamed Bd.named Bd.method).1
  have X0 : Stand p l e ({ frames := 5, cells := 0, slots := 0, locals := 66 } : Room) s m #[(.ref a), (.int ch)] below meth c s₁ [] 0 0 := Stand.of_body Bd
  have e0 : s₁.heap = h0 := by rw [← hh, Bd.state]; rfl
  have N0 := Fr.nil n0
  show Gl p e below s (QsymU_1 Z a ch xs t wS k_t x0 x1 zc fm h0 n0) ({ frames := 5, cells := 0, slots := 0, locals := 66 } : Room).cells ({ frames := 5, cells := 0, slots := 0, locals := 66 } : Room).slots (s₁.setTop (entryFrame m #[(.ref a), (.int ch)] 2))
  refine Gl.back (fun _ k => castTop (ef_symU_1 m a ch) k) ?_
  show Gl _ _ _ _ _ _ _ (s₁.setTop (mkF m 0 #[.val (.ref a), .val (.int ch)] []))
  refine Gl.back (fun _ k => XS.aloadN X0.here hx rfl (hb hby d10_0) rfl rfl k) ?_
  show Gl _ _ _ _ _ _ _ (s₁.setTop (mkF m 1 #[.val (.ref a), .val (.int ch)] [(.ref a)]))
  obtain ⟨T201, X201, e201, st201⟩ := getF X0 hx hZ hown (host := "") (Or.inl (hw _ (List.mem_of_getElem? (i := 50) rfl))) Via.refl e0 F_k (g := (mkF m 1 #[.val (.ref a), .val (.int ch)] [(.ref a)])) rfl rfl (hb hby d10_1)
  refine Gl.back (fun _ k => st201 _ k) ?_
  show Gl _ _ _ _ _ _ _ (T201.setTop (mkF m 4 #[.val (.ref a), .val (.int ch)] [(.ref wS)]))
  obtain ⟨T202, X202, e202, st202⟩ := getS2 X201 hx hZ hown (host := "") (Or.inl (hw _ (List.mem_of_getElem? (i := 65) rfl))) Via.refl e201 (S_SY.ext O0.2) (g := (mkF m 4 #[.val (.ref a), .val (.int ch)] [(.ref wS)])) rfl (hb hby d10_4)
  refine Gl.back (fun _ k => st202 _ k) ?_
  show Gl _ _ _ _ _ _ _ (T202.setTop (mkF m 7 #[.val (.ref a), .val (.int ch)] [(.ref wS), (.ref wS)]))
  refine Gl.back (fun _ k => Jvm.RoadKit.acmp (g := (mkF m 7 #[.val (.ref a), .val (.int ch)] [(.ref wS), (.ref wS)])) X202 hx rfl rfl rfl (pc0 := 7) (pc' := 10) (same := true) rfl (hb hby d10_7) rfl (decide_eq_true rfl) (by decide) (by decide) k) ?_
  show Gl _ _ _ _ _ _ _ (T202.setTop (mkF m 10 #[.val (.ref a), .val (.int ch)] []))
  refine Gl.back (fun _ k => XS.aloadN X202.here hx rfl (hb hby d10_10) rfl rfl k) ?_
  show Gl _ _ _ _ _ _ _ (T202.setTop (mkF m 11 #[.val (.ref a), .val (.int ch)] [(.ref a)]))
  obtain ⟨T203, X203, e203, st203⟩ := getF X202 hx hZ hown (host := "") (Or.inl (hw _ (List.mem_of_getElem? (i := 52) rfl))) Via.refl e202 F_val (g := (mkF m 11 #[.val (.ref a), .val (.int ch)] [(.ref a)])) rfl rfl (hb hby d10_11)
  refine Gl.back (fun _ k => st203 _ k) ?_
  show Gl _ _ _ _ _ _ _ (T203.setTop (mkF m 14 #[.val (.ref a), .val (.int ch)] [(.ref xs)]))
  refine Gl.back (fun _ k => XS.iconst X203.here hx rfl (hb hby d10_14) k) ?_
  show Gl _ _ _ _ _ _ _ (T203.setTop (mkF m 15 #[.val (.ref a), .val (.int ch)] [(.int (0 : Int32)), (.ref xs)]))
  obtain ⟨cq204, kq204, q204a, q204b, q204c⟩ := isOf hZ e203 E_x
  obtain ⟨_, _, ⟨T204, L204, k204, n204⟩, -, X204, ⟨Lc204, hQ204, l204, y204, z204⟩, st204⟩ := X203.virtualBack hx (y := (⟨"java/lang/String", "charAt", "(I)C"⟩ : MethodName)) (z := (⟨"java/lang/String", "charAt", "(I)C"⟩ : MethodName)) hown (mvT hZ (hw _ (List.mem_of_getElem? (i := 70) rfl))) (mvT hZ (hw _ (List.mem_of_getElem? (i := 71) rfl))) (notFace_of_selects (args := #[]) (mvT hZ (hw _ (List.mem_of_getElem? (i := 73) rfl)))) (mvT hZ (hw _ (List.mem_of_getElem? (i := 73) rfl))) (mvT hZ (hw _ (List.mem_of_getElem? (i := 72) rfl))) (by decide) (backOf (W := 0) (rmchU_1 l Z a0 hw [] xs t k_t x0 x1 zc fm h0 n0 Z0 O0 S_AD S_HI S_LO S_C P0 S_F hfm E_x F_c F_v V_t) hZ (hw _ (List.mem_of_getElem? (i := 74) rfl)) (hw _ (List.mem_of_getElem? (i := 4) rfl)) (by decide) (by decide)) q204a q204c (g := (mkF m 15 #[.val (.ref a), .val (.int ch)] [(.int (0 : Int32)), (.ref xs)])) rfl (by rw [hml]; rfl) (Steps.refl _) (argsL := [(.int (0 : Int32))]) (rest := []) (lenOf pd__I_C rfl) rfl (by show 2 * 0 + _ ≤ _; exact Nat.le_of_eq rfl) (hb hby d10_15) (fun _ _ => ⟨rfl, e203, (by decide : 0 + 0 ≤ _), (by decide : 0 + 0 ≤ _)⟩)
  dsimp only [Pt.U, Pt.locs, Pt.cells, Pt.slots] at X204 l204 y204 z204 st204 hQ204
  replace l204 := Eq.symm l204
  replace y204 := Eq.symm y204
  replace z204 := Eq.symm z204
  subst l204 y204 z204
  obtain ⟨Nq204, rfl, eh204⟩ := hQ204
  have N204 := Fr.app N0 Nq204
  refine Gl.back (fun _ k => st204.trans k) ?_
  show Gl _ _ _ _ _ _ _ (T204.setTop (mkF m 18 #[.val (.ref a), .val (.int ch)] [(.int (nar .char (nar .char (own_gc x0 x1))))]))
  refine Gl.back (fun _ k => XS.iloadN X204.here hx rfl (hb hby d10_18) rfl k) ?_
  show Gl _ _ _ _ _ _ _ (T204.setTop (mkF m 19 #[.val (.ref a), .val (.int ch)] [(.int ch), (.int (nar .char (nar .char (own_gc x0 x1))))]))
  by_cases hc19_205 : (nar .char (nar .char (own_gc x0 x1))) = ch
  · refine Gl.back (fun _ k => XS.icmpNo X204.here hx rfl (hb hby d10_19) rfl (teq hc19_205).2 k) ?_
    show Gl _ _ _ _ _ _ _ (T204.setTop (mkF m 22 #[.val (.ref a), .val (.int ch)] []))
    refine Gl.back (fun _ k => XS.iconst X204.here hx rfl (hb hby d10_22) k) ?_
    show Gl _ _ _ _ _ _ _ (T204.setTop (mkF m 23 #[.val (.ref a), .val (.int ch)] [(.int (1 : Int32))]))
    refine Gl.back (fun _ k => XS.goto X204.here hx rfl (pc0 := 23) (pc' := 27) rfl (hb hby d10_23) (by decide) (by decide) k) ?_
    show Gl _ _ _ _ _ _ _ (T204.setTop (mkF m 27 #[.val (.ref a), .val (.int ch)] [(.int (1 : Int32))]))
    exact Gl.ret X204 eh204 (v := (some (.int (1 : Int32)))) (fun h => by rw [Bd.returns] at h; cases h) Bd.notSynchronized (fun fs hr => retN X204 hx (t := .boolean) (z := (1 : Int32)) Bd.returns (by simp) (hb hby d10_27) hr) ⟨N204, Or.inl ⟨rfl, rfl, hc19_205⟩⟩ (by decide) (by decide)
  · refine Gl.back (fun _ k => XS.icmpYes X204.here hx rfl (pc0 := 19) (pc' := 26) rfl (hb hby d10_19) rfl (feq hc19_205).2 (by decide) (by decide) k) ?_
    show Gl _ _ _ _ _ _ _ (T204.setTop (mkF m 26 #[.val (.ref a), .val (.int ch)] []))
    refine Gl.back (fun _ k => XS.iconst X204.here hx rfl (hb hby d10_26) k) ?_
    show Gl _ _ _ _ _ _ _ (T204.setTop (mkF m 27 #[.val (.ref a), .val (.int ch)] [(.int (0 : Int32))]))
    exact Gl.ret X204 eh204 (v := (some (.int (0 : Int32)))) (fun h => by rw [Bd.returns] at h; cases h) Bd.notSynchronized (fun fs hr => retN X204 hx (t := .boolean) (z := (0 : Int32)) Bd.returns (by simp) (hb hby d10_27) hr) ⟨N204, Or.inr ⟨rfl, rfl, hc19_205⟩⟩ (by decide) (by decide)
theorem ef_symL_1 (m : MethodId) (x0 : Addr) (x1 : Int32) : entryFrame m #[(.ref x0), (.int x1)] 2 = mkF m 0 #[.val (.ref x0), .val (.int x1)] [] := by first | (simp [entryFrame, mkF, argsToLocals, Value.category]; done) | rfl
def QsymL_1 (Z : State) (a : Addr) (ch : Int32) (xs t wS : Addr) (k_t : ClassId) (c0 : Int32) (zc : Int32) (fm : Value) (h0 : Heap) (n0 : Nat) (v : Option Value) (h : Heap) (L : List Loc) : Prop := Fr n0 L ∧ ((v = some (.int 1) ∧ h = h0 ∧ c0 = ch) ∨ (v = some (.int 0) ∧ h = h0 ∧ ¬ c0 = ch))
set_option maxRecDepth 65536 in
set_option maxHeartbeats 40000000 in
theorem rmsymL_1 (l : Launch) (Z : State) (a0 : Array Value) (hw : ∀ d ∈ tables_1, d.before a0 Z = true) (ws : List Jvm.Cond) (a : Addr) (ch : Int32) (xs t wS : Addr) (k_t : ClassId) (c0 : Int32) (zc : Int32) (fm : Value) (h0 : Heap) (n0 : Nat) (Z0 : n0 ≤ h0.size) (O0 : Old Z n0 h0) (S_C : Sta Z Z.heap "java/lang/String" "COMPACT_STRINGS" "Z" (.int zc)) (P0 : ¬ zc = 0) (S_F : Sta Z Z.heap "jdk/internal/util/Preconditions" "SIOOBE_FORMATTER" "Ljava/util/function/BiFunction;" fm) (hfm : fm.isRef = true) (S_SY : Sta Z Z.heap "com/example/partition_planner/partitionplanner/CqlLexer$Kind" "SYMBOL" "Lcom/example/partition_planner/partitionplanner/CqlLexer$Kind;" (.ref wS)) (F_k : Fld Z h0 a "com/example/partition_planner/partitionplanner/CqlLexer$Token" "kind" "Lcom/example/partition_planner/partitionplanner/CqlLexer$Kind;" (.ref wS)) (F_val : Fld Z h0 a "com/example/partition_planner/partitionplanner/CqlLexer$Token" "value" "Ljava/lang/String;" (.ref xs)) (E_x : Exa Z h0 xs "java/lang/String") (F_c : Fld Z h0 xs "java/lang/String" "coder" "B" (.int 0)) (F_v : Fld Z h0 xs "java/lang/String" "value" "[B" (.ref t)) (V_t : Arv Z h0 t k_t .byte (1 : Int32) [(.int c0.toInt8.toInt32)] (.int (0 : Int32))) (hlat : ∀ c ∈ [c0], ¬ c < 0 ∧ ¬ (255 : Int32) < c) :
    MetFree l (⟨"com/example/partition_planner/partitionplanner/CqlLexer$Token", "isSymbol", "(C)Z"⟩ : MethodName) (head1 (Jvm.Cond.code (⟨"com/example/partition_planner/partitionplanner/CqlLexer$Token", "isSymbol", "(C)Z"⟩ : MethodName) prog_9_method_3_code 2 (some .boolean) :: ws) ({ frames := 4, cells := 0, slots := 0, locals := 53 } : Room)) (fun as0 U => as0 = #[(.ref a), (.int ch)] ∧ Z.Warmed39 U.vm ∧ U.heap = h0) (fun _ _ _ _ _ => True) (fun _ U oc0 U' => ∃ v L, oc0 = .returned v ∧ QsymL_1 Z a ch xs t wS k_t c0 zc fm h0 n0 v U'.heap L ∧ FrameEnd U oc0 U' L ({ frames := 4, cells := 0, slots := 0, locals := 53 } : Room).cells ({ frames := 4, cells := 0, slots := 0, locals := 53 } : Room).slots) := by
  refine MetFree.of_bodySF (plainFor_of_name pn_com_example_partition_planner_partitionplanner_CqlLexer_Token) hisR ?_
  intro p e s m args below meth c s₁ Bd hml0 hP hK
  obtain ⟨rfl, hZ, hh⟩ := hP
  have hx := Bd.exec
  have hby := Bd.bytes
  have hml : c.maxLocals = 2 := hml0
  have hown : s.vm.findClass "com/example/partition_planner/partitionplanner/CqlLexer$Token" = some m.cls := findClass_of_methodNamed Bd.named
  have hnm := (name_of_methodNamed Bd.named Bd.method).1
  have X0 : Stand p l e ({ frames := 4, cells := 0, slots := 0, locals := 53 } : Room) s m #[(.ref a), (.int ch)] below meth c s₁ [] 0 0 := Stand.of_body Bd
  have e0 : s₁.heap = h0 := by rw [← hh, Bd.state]; rfl
  have N0 := Fr.nil n0
  show Gl p e below s (QsymL_1 Z a ch xs t wS k_t c0 zc fm h0 n0) ({ frames := 4, cells := 0, slots := 0, locals := 53 } : Room).cells ({ frames := 4, cells := 0, slots := 0, locals := 53 } : Room).slots (s₁.setTop (entryFrame m #[(.ref a), (.int ch)] 2))
  refine Gl.back (fun _ k => castTop (ef_symL_1 m a ch) k) ?_
  show Gl _ _ _ _ _ _ _ (s₁.setTop (mkF m 0 #[.val (.ref a), .val (.int ch)] []))
  refine Gl.back (fun _ k => XS.aloadN X0.here hx rfl (hb hby d10_0) rfl rfl k) ?_
  show Gl _ _ _ _ _ _ _ (s₁.setTop (mkF m 1 #[.val (.ref a), .val (.int ch)] [(.ref a)]))
  obtain ⟨T206, X206, e206, st206⟩ := getF X0 hx hZ hown (host := "") (Or.inl (hw _ (List.mem_of_getElem? (i := 50) rfl))) Via.refl e0 F_k (g := (mkF m 1 #[.val (.ref a), .val (.int ch)] [(.ref a)])) rfl rfl (hb hby d10_1)
  refine Gl.back (fun _ k => st206 _ k) ?_
  show Gl _ _ _ _ _ _ _ (T206.setTop (mkF m 4 #[.val (.ref a), .val (.int ch)] [(.ref wS)]))
  obtain ⟨T207, X207, e207, st207⟩ := getS2 X206 hx hZ hown (host := "") (Or.inl (hw _ (List.mem_of_getElem? (i := 65) rfl))) Via.refl e206 (S_SY.ext O0.2) (g := (mkF m 4 #[.val (.ref a), .val (.int ch)] [(.ref wS)])) rfl (hb hby d10_4)
  refine Gl.back (fun _ k => st207 _ k) ?_
  show Gl _ _ _ _ _ _ _ (T207.setTop (mkF m 7 #[.val (.ref a), .val (.int ch)] [(.ref wS), (.ref wS)]))
  refine Gl.back (fun _ k => Jvm.RoadKit.acmp (g := (mkF m 7 #[.val (.ref a), .val (.int ch)] [(.ref wS), (.ref wS)])) X207 hx rfl rfl rfl (pc0 := 7) (pc' := 10) (same := true) rfl (hb hby d10_7) rfl (decide_eq_true rfl) (by decide) (by decide) k) ?_
  show Gl _ _ _ _ _ _ _ (T207.setTop (mkF m 10 #[.val (.ref a), .val (.int ch)] []))
  refine Gl.back (fun _ k => XS.aloadN X207.here hx rfl (hb hby d10_10) rfl rfl k) ?_
  show Gl _ _ _ _ _ _ _ (T207.setTop (mkF m 11 #[.val (.ref a), .val (.int ch)] [(.ref a)]))
  obtain ⟨T208, X208, e208, st208⟩ := getF X207 hx hZ hown (host := "") (Or.inl (hw _ (List.mem_of_getElem? (i := 52) rfl))) Via.refl e207 F_val (g := (mkF m 11 #[.val (.ref a), .val (.int ch)] [(.ref a)])) rfl rfl (hb hby d10_11)
  refine Gl.back (fun _ k => st208 _ k) ?_
  show Gl _ _ _ _ _ _ _ (T208.setTop (mkF m 14 #[.val (.ref a), .val (.int ch)] [(.ref xs)]))
  refine Gl.back (fun _ k => XS.iconst X208.here hx rfl (hb hby d10_14) k) ?_
  show Gl _ _ _ _ _ _ _ (T208.setTop (mkF m 15 #[.val (.ref a), .val (.int ch)] [(.int (0 : Int32)), (.ref xs)]))
  have hws210 : ∀ d ∈ StrChars.Road.wordsChN, d.before a0 Z = true := fun d hd => hw d ((by decide +kernel : ∀ d ∈ StrChars.Road.wordsChN, d ∈ tables_1) d hd)
  have hcd210 : StrChars.Road.CodA [c0] 0 (1 : Int32) [(.int c0.toInt8.toInt32)] := Or.inl ⟨rfl, rfl, rfl, fun c hc => (hlat c hc).2⟩
  have hup210 : ∀ c ∈ [c0], ¬ c < 0 ∧ ¬ (65535 : Int32) < c := fun c hc => ⟨(hlat c hc).1, own_up (hlat c hc).2⟩
  obtain ⟨cq209, kq209, q209a, q209b, q209c⟩ := isOf hZ e208 E_x
  obtain ⟨_, _, ⟨T209, L209, k209, n209⟩, -, X209, ⟨Lc209, hQ209, l209, y209, z209⟩, st209⟩ := X208.virtualBack hx (y := (⟨"java/lang/String", "charAt", "(I)C"⟩ : MethodName)) (z := (⟨"java/lang/String", "charAt", "(I)C"⟩ : MethodName)) hown (mvT hZ (hw _ (List.mem_of_getElem? (i := 70) rfl))) (mvT hZ (hw _ (List.mem_of_getElem? (i := 71) rfl))) (notFace_of_selects (args := #[]) (mvT hZ (hw _ (List.mem_of_getElem? (i := 73) rfl)))) (mvT hZ (hw _ (List.mem_of_getElem? (i := 73) rfl))) (mvT hZ (hw _ (List.mem_of_getElem? (i := 72) rfl))) (by decide) (StrChars.Road.chN (W := 0) hZ hws210 (kI := 4) (hw _ (List.mem_of_getElem? (i := 3) rfl)) (i := 0) E_x F_v F_c V_t hcd210 hup210 ((S_C.ext O0.2)) P0 ((S_F.ext O0.2)) hfm (by simp) (by simp) rfl (by decide) (by decide)) q209a q209c (g := (mkF m 15 #[.val (.ref a), .val (.int ch)] [(.int (0 : Int32)), (.ref xs)])) rfl (by rw [hml]; rfl) (Steps.refl _) (argsL := [(.int (0 : Int32))]) (rest := []) (lenOf pd__I_C rfl) rfl (by show 2 * 0 + _ ≤ _; exact Nat.le_of_eq rfl) (hb hby d10_15) (fun _ _ => ⟨rfl, e208, (by decide : 0 + 0 ≤ _), (by decide : 0 + 0 ≤ _)⟩)
  dsimp only [Pt.U, Pt.locs, Pt.cells, Pt.slots] at X209 l209 y209 z209 st209 hQ209
  replace l209 := Eq.symm l209
  replace y209 := Eq.symm y209
  replace z209 := Eq.symm z209
  subst l209 y209 z209
  obtain ⟨rfl, Le209, eh209⟩ := hQ209
  subst Le209
  have Nq209 : Fr n0 [] := Fr.nil n0
  have N209 := Fr.app N0 Nq209
  refine Gl.back (fun _ k => st209.trans k) ?_
  show Gl _ _ _ _ _ _ _ (T209.setTop (mkF m 18 #[.val (.ref a), .val (.int ch)] [(.int c0)]))
  refine Gl.back (fun _ k => XS.iloadN X209.here hx rfl (hb hby d10_18) rfl k) ?_
  show Gl _ _ _ _ _ _ _ (T209.setTop (mkF m 19 #[.val (.ref a), .val (.int ch)] [(.int ch), (.int c0)]))
  by_cases hc19_211 : c0 = ch
  · refine Gl.back (fun _ k => XS.icmpNo X209.here hx rfl (hb hby d10_19) rfl (teq hc19_211).2 k) ?_
    show Gl _ _ _ _ _ _ _ (T209.setTop (mkF m 22 #[.val (.ref a), .val (.int ch)] []))
    refine Gl.back (fun _ k => XS.iconst X209.here hx rfl (hb hby d10_22) k) ?_
    show Gl _ _ _ _ _ _ _ (T209.setTop (mkF m 23 #[.val (.ref a), .val (.int ch)] [(.int (1 : Int32))]))
    refine Gl.back (fun _ k => XS.goto X209.here hx rfl (pc0 := 23) (pc' := 27) rfl (hb hby d10_23) (by decide) (by decide) k) ?_
    show Gl _ _ _ _ _ _ _ (T209.setTop (mkF m 27 #[.val (.ref a), .val (.int ch)] [(.int (1 : Int32))]))
    exact Gl.ret X209 eh209 (v := (some (.int (1 : Int32)))) (fun h => by rw [Bd.returns] at h; cases h) Bd.notSynchronized (fun fs hr => retN X209 hx (t := .boolean) (z := (1 : Int32)) Bd.returns (by simp) (hb hby d10_27) hr) ⟨N209, Or.inl ⟨rfl, rfl, hc19_211⟩⟩ (by decide) (by decide)
  · refine Gl.back (fun _ k => XS.icmpYes X209.here hx rfl (pc0 := 19) (pc' := 26) rfl (hb hby d10_19) rfl (feq hc19_211).2 (by decide) (by decide) k) ?_
    show Gl _ _ _ _ _ _ _ (T209.setTop (mkF m 26 #[.val (.ref a), .val (.int ch)] []))
    refine Gl.back (fun _ k => XS.iconst X209.here hx rfl (hb hby d10_26) k) ?_
    show Gl _ _ _ _ _ _ _ (T209.setTop (mkF m 27 #[.val (.ref a), .val (.int ch)] [(.int (0 : Int32))]))
    exact Gl.ret X209 eh209 (v := (some (.int (0 : Int32)))) (fun h => by rw [Bd.returns] at h; cases h) Bd.notSynchronized (fun fs hr => retN X209 hx (t := .boolean) (z := (0 : Int32)) Bd.returns (by simp) (hb hby d10_27) hr) ⟨N209, Or.inr ⟨rfl, rfl, hc19_211⟩⟩ (by decide) (by decide)
theorem ef_symU_2 (m : MethodId) (x0 : Addr) (x1 : Int32) : entryFrame m #[(.ref x0), (.int x1)] 2 = mkF m 0 #[.val (.ref x0), .val (.int x1)] [] := by first | (simp [entryFrame, mkF, argsToLocals, Value.category]; done) | rfl
def QsymU_2 (Z : State) (a : Addr) (ch : Int32) (xs t wS : Addr) (k_t : ClassId) (x0 x1 x2 x3 : Int32) (zc : Int32) (fm : Value) (h0 : Heap) (n0 : Nat) (v : Option Value) (h : Heap) (L : List Loc) : Prop := Fr n0 L ∧ ((v = some (.int 1) ∧ h = h0 ∧ (nar .char (nar .char (own_gc x0 x1))) = ch) ∨ (v = some (.int 0) ∧ h = h0 ∧ ¬ (nar .char (nar .char (own_gc x0 x1))) = ch))
set_option maxRecDepth 65536 in
set_option maxHeartbeats 40000000 in
theorem rmsymU_2 (l : Launch) (Z : State) (a0 : Array Value) (hw : ∀ d ∈ tables_1, d.before a0 Z = true) (ws : List Jvm.Cond) (a : Addr) (ch : Int32) (xs t wS : Addr) (k_t : ClassId) (x0 x1 x2 x3 : Int32) (zc : Int32) (fm : Value) (h0 : Heap) (n0 : Nat) (Z0 : n0 ≤ h0.size) (O0 : Old Z n0 h0) (S_AD : Sta Z Z.heap "java/lang/StringUTF16" "$assertionsDisabled" "Z" (.int 1)) (S_HI : Sta Z Z.heap "java/lang/StringUTF16" "HI_BYTE_SHIFT" "I" (.int 0)) (S_LO : Sta Z Z.heap "java/lang/StringUTF16" "LO_BYTE_SHIFT" "I" (.int 8)) (S_C : Sta Z Z.heap "java/lang/String" "COMPACT_STRINGS" "Z" (.int zc)) (P0 : ¬ zc = 0) (S_F : Sta Z Z.heap "jdk/internal/util/Preconditions" "SIOOBE_FORMATTER" "Ljava/util/function/BiFunction;" fm) (hfm : fm.isRef = true) (S_SY : Sta Z Z.heap "com/example/partition_planner/partitionplanner/CqlLexer$Kind" "SYMBOL" "Lcom/example/partition_planner/partitionplanner/CqlLexer$Kind;" (.ref wS)) (F_k : Fld Z h0 a "com/example/partition_planner/partitionplanner/CqlLexer$Token" "kind" "Lcom/example/partition_planner/partitionplanner/CqlLexer$Kind;" (.ref wS)) (F_val : Fld Z h0 a "com/example/partition_planner/partitionplanner/CqlLexer$Token" "value" "Ljava/lang/String;" (.ref xs)) (E_x : Exa Z h0 xs "java/lang/String") (F_c : Fld Z h0 xs "java/lang/String" "coder" "B" (.int 1)) (F_v : Fld Z h0 xs "java/lang/String" "value" "[B" (.ref t)) (V_t : Arv Z h0 t k_t .byte (4 : Int32) [(.int x0), (.int x1), (.int x2), (.int x3)] (.int (0 : Int32))) :
    MetFree l (⟨"com/example/partition_planner/partitionplanner/CqlLexer$Token", "isSymbol", "(C)Z"⟩ : MethodName) (head1 (Jvm.Cond.code (⟨"com/example/partition_planner/partitionplanner/CqlLexer$Token", "isSymbol", "(C)Z"⟩ : MethodName) prog_9_method_3_code 2 (some .boolean) :: ws) ({ frames := 5, cells := 0, slots := 0, locals := 66 } : Room)) (fun as0 U => as0 = #[(.ref a), (.int ch)] ∧ Z.Warmed39 U.vm ∧ U.heap = h0) (fun _ _ _ _ _ => True) (fun _ U oc0 U' => ∃ v L, oc0 = .returned v ∧ QsymU_2 Z a ch xs t wS k_t x0 x1 x2 x3 zc fm h0 n0 v U'.heap L ∧ FrameEnd U oc0 U' L ({ frames := 5, cells := 0, slots := 0, locals := 66 } : Room).cells ({ frames := 5, cells := 0, slots := 0, locals := 66 } : Room).slots) := by
  refine MetFree.of_bodySF (plainFor_of_name pn_com_example_partition_planner_partitionplanner_CqlLexer_Token) hisR ?_
  intro p e s m args below meth c s₁ Bd hml0 hP hK
  obtain ⟨rfl, hZ, hh⟩ := hP
  have hx := Bd.exec
  have hby := Bd.bytes
  have hml : c.maxLocals = 2 := hml0
  have hown : s.vm.findClass "com/example/partition_planner/partitionplanner/CqlLexer$Token" = some m.cls := findClass_of_methodNamed Bd.named
  have hnm := (name_of_methodNamed Bd.named Bd.method).1
  have X0 : Stand p l e ({ frames := 5, cells := 0, slots := 0, locals := 66 } : Room) s m #[(.ref a), (.int ch)] below meth c s₁ [] 0 0 := Stand.of_body Bd
  have e0 : s₁.heap = h0 := by rw [← hh, Bd.state]; rfl
  have N0 := Fr.nil n0
  show Gl p e below s (QsymU_2 Z a ch xs t wS k_t x0 x1 x2 x3 zc fm h0 n0) ({ frames := 5, cells := 0, slots := 0, locals := 66 } : Room).cells ({ frames := 5, cells := 0, slots := 0, locals := 66 } : Room).slots (s₁.setTop (entryFrame m #[(.ref a), (.int ch)] 2))
  refine Gl.back (fun _ k => castTop (ef_symU_2 m a ch) k) ?_
  show Gl _ _ _ _ _ _ _ (s₁.setTop (mkF m 0 #[.val (.ref a), .val (.int ch)] []))
  refine Gl.back (fun _ k => XS.aloadN X0.here hx rfl (hb hby d10_0) rfl rfl k) ?_
  show Gl _ _ _ _ _ _ _ (s₁.setTop (mkF m 1 #[.val (.ref a), .val (.int ch)] [(.ref a)]))
  obtain ⟨T212, X212, e212, st212⟩ := getF X0 hx hZ hown (host := "") (Or.inl (hw _ (List.mem_of_getElem? (i := 50) rfl))) Via.refl e0 F_k (g := (mkF m 1 #[.val (.ref a), .val (.int ch)] [(.ref a)])) rfl rfl (hb hby d10_1)
  refine Gl.back (fun _ k => st212 _ k) ?_
  show Gl _ _ _ _ _ _ _ (T212.setTop (mkF m 4 #[.val (.ref a), .val (.int ch)] [(.ref wS)]))
  obtain ⟨T213, X213, e213, st213⟩ := getS2 X212 hx hZ hown (host := "") (Or.inl (hw _ (List.mem_of_getElem? (i := 65) rfl))) Via.refl e212 (S_SY.ext O0.2) (g := (mkF m 4 #[.val (.ref a), .val (.int ch)] [(.ref wS)])) rfl (hb hby d10_4)
  refine Gl.back (fun _ k => st213 _ k) ?_
  show Gl _ _ _ _ _ _ _ (T213.setTop (mkF m 7 #[.val (.ref a), .val (.int ch)] [(.ref wS), (.ref wS)]))
  refine Gl.back (fun _ k => Jvm.RoadKit.acmp (g := (mkF m 7 #[.val (.ref a), .val (.int ch)] [(.ref wS), (.ref wS)])) X213 hx rfl rfl rfl (pc0 := 7) (pc' := 10) (same := true) rfl (hb hby d10_7) rfl (decide_eq_true rfl) (by decide) (by decide) k) ?_
  show Gl _ _ _ _ _ _ _ (T213.setTop (mkF m 10 #[.val (.ref a), .val (.int ch)] []))
  refine Gl.back (fun _ k => XS.aloadN X213.here hx rfl (hb hby d10_10) rfl rfl k) ?_
  show Gl _ _ _ _ _ _ _ (T213.setTop (mkF m 11 #[.val (.ref a), .val (.int ch)] [(.ref a)]))
  obtain ⟨T214, X214, e214, st214⟩ := getF X213 hx hZ hown (host := "") (Or.inl (hw _ (List.mem_of_getElem? (i := 52) rfl))) Via.refl e213 F_val (g := (mkF m 11 #[.val (.ref a), .val (.int ch)] [(.ref a)])) rfl rfl (hb hby d10_11)
  refine Gl.back (fun _ k => st214 _ k) ?_
  show Gl _ _ _ _ _ _ _ (T214.setTop (mkF m 14 #[.val (.ref a), .val (.int ch)] [(.ref xs)]))
  refine Gl.back (fun _ k => XS.iconst X214.here hx rfl (hb hby d10_14) k) ?_
  show Gl _ _ _ _ _ _ _ (T214.setTop (mkF m 15 #[.val (.ref a), .val (.int ch)] [(.int (0 : Int32)), (.ref xs)]))
  obtain ⟨cq215, kq215, q215a, q215b, q215c⟩ := isOf hZ e214 E_x
  obtain ⟨_, _, ⟨T215, L215, k215, n215⟩, -, X215, ⟨Lc215, hQ215, l215, y215, z215⟩, st215⟩ := X214.virtualBack hx (y := (⟨"java/lang/String", "charAt", "(I)C"⟩ : MethodName)) (z := (⟨"java/lang/String", "charAt", "(I)C"⟩ : MethodName)) hown (mvT hZ (hw _ (List.mem_of_getElem? (i := 70) rfl))) (mvT hZ (hw _ (List.mem_of_getElem? (i := 71) rfl))) (notFace_of_selects (args := #[]) (mvT hZ (hw _ (List.mem_of_getElem? (i := 73) rfl)))) (mvT hZ (hw _ (List.mem_of_getElem? (i := 73) rfl))) (mvT hZ (hw _ (List.mem_of_getElem? (i := 72) rfl))) (by decide) (backOf (W := 0) (rmchU_2 l Z a0 hw [] xs t k_t x0 x1 x2 x3 zc fm h0 n0 Z0 O0 S_AD S_HI S_LO S_C P0 S_F hfm E_x F_c F_v V_t) hZ (hw _ (List.mem_of_getElem? (i := 74) rfl)) (hw _ (List.mem_of_getElem? (i := 4) rfl)) (by decide) (by decide)) q215a q215c (g := (mkF m 15 #[.val (.ref a), .val (.int ch)] [(.int (0 : Int32)), (.ref xs)])) rfl (by rw [hml]; rfl) (Steps.refl _) (argsL := [(.int (0 : Int32))]) (rest := []) (lenOf pd__I_C rfl) rfl (by show 2 * 0 + _ ≤ _; exact Nat.le_of_eq rfl) (hb hby d10_15) (fun _ _ => ⟨rfl, e214, (by decide : 0 + 0 ≤ _), (by decide : 0 + 0 ≤ _)⟩)
  dsimp only [Pt.U, Pt.locs, Pt.cells, Pt.slots] at X215 l215 y215 z215 st215 hQ215
  replace l215 := Eq.symm l215
  replace y215 := Eq.symm y215
  replace z215 := Eq.symm z215
  subst l215 y215 z215
  obtain ⟨Nq215, rfl, eh215⟩ := hQ215
  have N215 := Fr.app N0 Nq215
  refine Gl.back (fun _ k => st215.trans k) ?_
  show Gl _ _ _ _ _ _ _ (T215.setTop (mkF m 18 #[.val (.ref a), .val (.int ch)] [(.int (nar .char (nar .char (own_gc x0 x1))))]))
  refine Gl.back (fun _ k => XS.iloadN X215.here hx rfl (hb hby d10_18) rfl k) ?_
  show Gl _ _ _ _ _ _ _ (T215.setTop (mkF m 19 #[.val (.ref a), .val (.int ch)] [(.int ch), (.int (nar .char (nar .char (own_gc x0 x1))))]))
  by_cases hc19_216 : (nar .char (nar .char (own_gc x0 x1))) = ch
  · refine Gl.back (fun _ k => XS.icmpNo X215.here hx rfl (hb hby d10_19) rfl (teq hc19_216).2 k) ?_
    show Gl _ _ _ _ _ _ _ (T215.setTop (mkF m 22 #[.val (.ref a), .val (.int ch)] []))
    refine Gl.back (fun _ k => XS.iconst X215.here hx rfl (hb hby d10_22) k) ?_
    show Gl _ _ _ _ _ _ _ (T215.setTop (mkF m 23 #[.val (.ref a), .val (.int ch)] [(.int (1 : Int32))]))
    refine Gl.back (fun _ k => XS.goto X215.here hx rfl (pc0 := 23) (pc' := 27) rfl (hb hby d10_23) (by decide) (by decide) k) ?_
    show Gl _ _ _ _ _ _ _ (T215.setTop (mkF m 27 #[.val (.ref a), .val (.int ch)] [(.int (1 : Int32))]))
    exact Gl.ret X215 eh215 (v := (some (.int (1 : Int32)))) (fun h => by rw [Bd.returns] at h; cases h) Bd.notSynchronized (fun fs hr => retN X215 hx (t := .boolean) (z := (1 : Int32)) Bd.returns (by simp) (hb hby d10_27) hr) ⟨N215, Or.inl ⟨rfl, rfl, hc19_216⟩⟩ (by decide) (by decide)
  · refine Gl.back (fun _ k => XS.icmpYes X215.here hx rfl (pc0 := 19) (pc' := 26) rfl (hb hby d10_19) rfl (feq hc19_216).2 (by decide) (by decide) k) ?_
    show Gl _ _ _ _ _ _ _ (T215.setTop (mkF m 26 #[.val (.ref a), .val (.int ch)] []))
    refine Gl.back (fun _ k => XS.iconst X215.here hx rfl (hb hby d10_26) k) ?_
    show Gl _ _ _ _ _ _ _ (T215.setTop (mkF m 27 #[.val (.ref a), .val (.int ch)] [(.int (0 : Int32))]))
    exact Gl.ret X215 eh215 (v := (some (.int (0 : Int32)))) (fun h => by rw [Bd.returns] at h; cases h) Bd.notSynchronized (fun fs hr => retN X215 hx (t := .boolean) (z := (0 : Int32)) Bd.returns (by simp) (hb hby d10_27) hr) ⟨N215, Or.inr ⟨rfl, rfl, hc19_216⟩⟩ (by decide) (by decide)
theorem ef_symL_2 (m : MethodId) (x0 : Addr) (x1 : Int32) : entryFrame m #[(.ref x0), (.int x1)] 2 = mkF m 0 #[.val (.ref x0), .val (.int x1)] [] := by first | (simp [entryFrame, mkF, argsToLocals, Value.category]; done) | rfl
def QsymL_2 (Z : State) (a : Addr) (ch : Int32) (xs t wS : Addr) (k_t : ClassId) (c0 c1 : Int32) (zc : Int32) (fm : Value) (h0 : Heap) (n0 : Nat) (v : Option Value) (h : Heap) (L : List Loc) : Prop := Fr n0 L ∧ ((v = some (.int 1) ∧ h = h0 ∧ c0 = ch) ∨ (v = some (.int 0) ∧ h = h0 ∧ ¬ c0 = ch))
set_option maxRecDepth 65536 in
set_option maxHeartbeats 40000000 in
theorem rmsymL_2 (l : Launch) (Z : State) (a0 : Array Value) (hw : ∀ d ∈ tables_1, d.before a0 Z = true) (ws : List Jvm.Cond) (a : Addr) (ch : Int32) (xs t wS : Addr) (k_t : ClassId) (c0 c1 : Int32) (zc : Int32) (fm : Value) (h0 : Heap) (n0 : Nat) (Z0 : n0 ≤ h0.size) (O0 : Old Z n0 h0) (S_C : Sta Z Z.heap "java/lang/String" "COMPACT_STRINGS" "Z" (.int zc)) (P0 : ¬ zc = 0) (S_F : Sta Z Z.heap "jdk/internal/util/Preconditions" "SIOOBE_FORMATTER" "Ljava/util/function/BiFunction;" fm) (hfm : fm.isRef = true) (S_SY : Sta Z Z.heap "com/example/partition_planner/partitionplanner/CqlLexer$Kind" "SYMBOL" "Lcom/example/partition_planner/partitionplanner/CqlLexer$Kind;" (.ref wS)) (F_k : Fld Z h0 a "com/example/partition_planner/partitionplanner/CqlLexer$Token" "kind" "Lcom/example/partition_planner/partitionplanner/CqlLexer$Kind;" (.ref wS)) (F_val : Fld Z h0 a "com/example/partition_planner/partitionplanner/CqlLexer$Token" "value" "Ljava/lang/String;" (.ref xs)) (E_x : Exa Z h0 xs "java/lang/String") (F_c : Fld Z h0 xs "java/lang/String" "coder" "B" (.int 0)) (F_v : Fld Z h0 xs "java/lang/String" "value" "[B" (.ref t)) (V_t : Arv Z h0 t k_t .byte (2 : Int32) [(.int c0.toInt8.toInt32), (.int c1.toInt8.toInt32)] (.int (0 : Int32))) (hlat : ∀ c ∈ [c0, c1], ¬ c < 0 ∧ ¬ (255 : Int32) < c) :
    MetFree l (⟨"com/example/partition_planner/partitionplanner/CqlLexer$Token", "isSymbol", "(C)Z"⟩ : MethodName) (head1 (Jvm.Cond.code (⟨"com/example/partition_planner/partitionplanner/CqlLexer$Token", "isSymbol", "(C)Z"⟩ : MethodName) prog_9_method_3_code 2 (some .boolean) :: ws) ({ frames := 4, cells := 0, slots := 0, locals := 53 } : Room)) (fun as0 U => as0 = #[(.ref a), (.int ch)] ∧ Z.Warmed39 U.vm ∧ U.heap = h0) (fun _ _ _ _ _ => True) (fun _ U oc0 U' => ∃ v L, oc0 = .returned v ∧ QsymL_2 Z a ch xs t wS k_t c0 c1 zc fm h0 n0 v U'.heap L ∧ FrameEnd U oc0 U' L ({ frames := 4, cells := 0, slots := 0, locals := 53 } : Room).cells ({ frames := 4, cells := 0, slots := 0, locals := 53 } : Room).slots) := by
  refine MetFree.of_bodySF (plainFor_of_name pn_com_example_partition_planner_partitionplanner_CqlLexer_Token) hisR ?_
  intro p e s m args below meth c s₁ Bd hml0 hP hK
  obtain ⟨rfl, hZ, hh⟩ := hP
  have hx := Bd.exec
  have hby := Bd.bytes
  have hml : c.maxLocals = 2 := hml0
  have hown : s.vm.findClass "com/example/partition_planner/partitionplanner/CqlLexer$Token" = some m.cls := findClass_of_methodNamed Bd.named
  have hnm := (name_of_methodNamed Bd.named Bd.method).1
  have X0 : Stand p l e ({ frames := 4, cells := 0, slots := 0, locals := 53 } : Room) s m #[(.ref a), (.int ch)] below meth c s₁ [] 0 0 := Stand.of_body Bd
  have e0 : s₁.heap = h0 := by rw [← hh, Bd.state]; rfl
  have N0 := Fr.nil n0
  show Gl p e below s (QsymL_2 Z a ch xs t wS k_t c0 c1 zc fm h0 n0) ({ frames := 4, cells := 0, slots := 0, locals := 53 } : Room).cells ({ frames := 4, cells := 0, slots := 0, locals := 53 } : Room).slots (s₁.setTop (entryFrame m #[(.ref a), (.int ch)] 2))
  refine Gl.back (fun _ k => castTop (ef_symL_2 m a ch) k) ?_
  show Gl _ _ _ _ _ _ _ (s₁.setTop (mkF m 0 #[.val (.ref a), .val (.int ch)] []))
  refine Gl.back (fun _ k => XS.aloadN X0.here hx rfl (hb hby d10_0) rfl rfl k) ?_
  show Gl _ _ _ _ _ _ _ (s₁.setTop (mkF m 1 #[.val (.ref a), .val (.int ch)] [(.ref a)]))
  obtain ⟨T217, X217, e217, st217⟩ := getF X0 hx hZ hown (host := "") (Or.inl (hw _ (List.mem_of_getElem? (i := 50) rfl))) Via.refl e0 F_k (g := (mkF m 1 #[.val (.ref a), .val (.int ch)] [(.ref a)])) rfl rfl (hb hby d10_1)
  refine Gl.back (fun _ k => st217 _ k) ?_
  show Gl _ _ _ _ _ _ _ (T217.setTop (mkF m 4 #[.val (.ref a), .val (.int ch)] [(.ref wS)]))
  obtain ⟨T218, X218, e218, st218⟩ := getS2 X217 hx hZ hown (host := "") (Or.inl (hw _ (List.mem_of_getElem? (i := 65) rfl))) Via.refl e217 (S_SY.ext O0.2) (g := (mkF m 4 #[.val (.ref a), .val (.int ch)] [(.ref wS)])) rfl (hb hby d10_4)
  refine Gl.back (fun _ k => st218 _ k) ?_
  show Gl _ _ _ _ _ _ _ (T218.setTop (mkF m 7 #[.val (.ref a), .val (.int ch)] [(.ref wS), (.ref wS)]))
  refine Gl.back (fun _ k => Jvm.RoadKit.acmp (g := (mkF m 7 #[.val (.ref a), .val (.int ch)] [(.ref wS), (.ref wS)])) X218 hx rfl rfl rfl (pc0 := 7) (pc' := 10) (same := true) rfl (hb hby d10_7) rfl (decide_eq_true rfl) (by decide) (by decide) k) ?_
  show Gl _ _ _ _ _ _ _ (T218.setTop (mkF m 10 #[.val (.ref a), .val (.int ch)] []))
  refine Gl.back (fun _ k => XS.aloadN X218.here hx rfl (hb hby d10_10) rfl rfl k) ?_
  show Gl _ _ _ _ _ _ _ (T218.setTop (mkF m 11 #[.val (.ref a), .val (.int ch)] [(.ref a)]))
  obtain ⟨T219, X219, e219, st219⟩ := getF X218 hx hZ hown (host := "") (Or.inl (hw _ (List.mem_of_getElem? (i := 52) rfl))) Via.refl e218 F_val (g := (mkF m 11 #[.val (.ref a), .val (.int ch)] [(.ref a)])) rfl rfl (hb hby d10_11)
  refine Gl.back (fun _ k => st219 _ k) ?_
  show Gl _ _ _ _ _ _ _ (T219.setTop (mkF m 14 #[.val (.ref a), .val (.int ch)] [(.ref xs)]))
  refine Gl.back (fun _ k => XS.iconst X219.here hx rfl (hb hby d10_14) k) ?_
  show Gl _ _ _ _ _ _ _ (T219.setTop (mkF m 15 #[.val (.ref a), .val (.int ch)] [(.int (0 : Int32)), (.ref xs)]))
  have hws221 : ∀ d ∈ StrChars.Road.wordsChN, d.before a0 Z = true := fun d hd => hw d ((by decide +kernel : ∀ d ∈ StrChars.Road.wordsChN, d ∈ tables_1) d hd)
  have hcd221 : StrChars.Road.CodA [c0, c1] 0 (2 : Int32) [(.int c0.toInt8.toInt32), (.int c1.toInt8.toInt32)] := Or.inl ⟨rfl, rfl, rfl, fun c hc => (hlat c hc).2⟩
  have hup221 : ∀ c ∈ [c0, c1], ¬ c < 0 ∧ ¬ (65535 : Int32) < c := fun c hc => ⟨(hlat c hc).1, own_up (hlat c hc).2⟩
  obtain ⟨cq220, kq220, q220a, q220b, q220c⟩ := isOf hZ e219 E_x
  obtain ⟨_, _, ⟨T220, L220, k220, n220⟩, -, X220, ⟨Lc220, hQ220, l220, y220, z220⟩, st220⟩ := X219.virtualBack hx (y := (⟨"java/lang/String", "charAt", "(I)C"⟩ : MethodName)) (z := (⟨"java/lang/String", "charAt", "(I)C"⟩ : MethodName)) hown (mvT hZ (hw _ (List.mem_of_getElem? (i := 70) rfl))) (mvT hZ (hw _ (List.mem_of_getElem? (i := 71) rfl))) (notFace_of_selects (args := #[]) (mvT hZ (hw _ (List.mem_of_getElem? (i := 73) rfl)))) (mvT hZ (hw _ (List.mem_of_getElem? (i := 73) rfl))) (mvT hZ (hw _ (List.mem_of_getElem? (i := 72) rfl))) (by decide) (StrChars.Road.chN (W := 0) hZ hws221 (kI := 4) (hw _ (List.mem_of_getElem? (i := 3) rfl)) (i := 0) E_x F_v F_c V_t hcd221 hup221 ((S_C.ext O0.2)) P0 ((S_F.ext O0.2)) hfm (by simp) (by simp) rfl (by decide) (by decide)) q220a q220c (g := (mkF m 15 #[.val (.ref a), .val (.int ch)] [(.int (0 : Int32)), (.ref xs)])) rfl (by rw [hml]; rfl) (Steps.refl _) (argsL := [(.int (0 : Int32))]) (rest := []) (lenOf pd__I_C rfl) rfl (by show 2 * 0 + _ ≤ _; exact Nat.le_of_eq rfl) (hb hby d10_15) (fun _ _ => ⟨rfl, e219, (by decide : 0 + 0 ≤ _), (by decide : 0 + 0 ≤ _)⟩)
  dsimp only [Pt.U, Pt.locs, Pt.cells, Pt.slots] at X220 l220 y220 z220 st220 hQ220
  replace l220 := Eq.symm l220
  replace y220 := Eq.symm y220
  replace z220 := Eq.symm z220
  subst l220 y220 z220
  obtain ⟨rfl, Le220, eh220⟩ := hQ220
  subst Le220
  have Nq220 : Fr n0 [] := Fr.nil n0
  have N220 := Fr.app N0 Nq220
  refine Gl.back (fun _ k => st220.trans k) ?_
  show Gl _ _ _ _ _ _ _ (T220.setTop (mkF m 18 #[.val (.ref a), .val (.int ch)] [(.int c0)]))
  refine Gl.back (fun _ k => XS.iloadN X220.here hx rfl (hb hby d10_18) rfl k) ?_
  show Gl _ _ _ _ _ _ _ (T220.setTop (mkF m 19 #[.val (.ref a), .val (.int ch)] [(.int ch), (.int c0)]))
  by_cases hc19_222 : c0 = ch
  · refine Gl.back (fun _ k => XS.icmpNo X220.here hx rfl (hb hby d10_19) rfl (teq hc19_222).2 k) ?_
    show Gl _ _ _ _ _ _ _ (T220.setTop (mkF m 22 #[.val (.ref a), .val (.int ch)] []))
    refine Gl.back (fun _ k => XS.iconst X220.here hx rfl (hb hby d10_22) k) ?_
    show Gl _ _ _ _ _ _ _ (T220.setTop (mkF m 23 #[.val (.ref a), .val (.int ch)] [(.int (1 : Int32))]))
    refine Gl.back (fun _ k => XS.goto X220.here hx rfl (pc0 := 23) (pc' := 27) rfl (hb hby d10_23) (by decide) (by decide) k) ?_
    show Gl _ _ _ _ _ _ _ (T220.setTop (mkF m 27 #[.val (.ref a), .val (.int ch)] [(.int (1 : Int32))]))
    exact Gl.ret X220 eh220 (v := (some (.int (1 : Int32)))) (fun h => by rw [Bd.returns] at h; cases h) Bd.notSynchronized (fun fs hr => retN X220 hx (t := .boolean) (z := (1 : Int32)) Bd.returns (by simp) (hb hby d10_27) hr) ⟨N220, Or.inl ⟨rfl, rfl, hc19_222⟩⟩ (by decide) (by decide)
  · refine Gl.back (fun _ k => XS.icmpYes X220.here hx rfl (pc0 := 19) (pc' := 26) rfl (hb hby d10_19) rfl (feq hc19_222).2 (by decide) (by decide) k) ?_
    show Gl _ _ _ _ _ _ _ (T220.setTop (mkF m 26 #[.val (.ref a), .val (.int ch)] []))
    refine Gl.back (fun _ k => XS.iconst X220.here hx rfl (hb hby d10_26) k) ?_
    show Gl _ _ _ _ _ _ _ (T220.setTop (mkF m 27 #[.val (.ref a), .val (.int ch)] [(.int (0 : Int32))]))
    exact Gl.ret X220 eh220 (v := (some (.int (0 : Int32)))) (fun h => by rw [Bd.returns] at h; cases h) Bd.notSynchronized (fun fs hr => retN X220 hx (t := .boolean) (z := (0 : Int32)) Bd.returns (by simp) (hb hby d10_27) hr) ⟨N220, Or.inr ⟨rfl, rfl, hc19_222⟩⟩ (by decide) (by decide)
theorem pd___C_V : parseMethodDescriptor "([C)V" = some ⟨[(.array .char)], none⟩ := by decide +kernel
theorem pd__I_Lcom_example_partition_planner_partitionplanner_CqlLexer_Kind_ : parseMethodDescriptor "(I)Lcom/example/partition_planner/partitionplanner/CqlLexer$Kind;" = some ⟨[.int], some (.object "com/example/partition_planner/partitionplanner/CqlLexer$Kind")⟩ := by decide +kernel
theorem pd__Lcom_example_partition_planner_partitionplanner_CqlLexer_Kind_Ljava_lang_String_III_V : parseMethodDescriptor "(Lcom/example/partition_planner/partitionplanner/CqlLexer$Kind;Ljava/lang/String;III)V" = some ⟨[(.object "com/example/partition_planner/partitionplanner/CqlLexer$Kind"), (.object "java/lang/String"), .int, .int, .int], none⟩ := by decide +kernel
theorem pd__C_Z : parseMethodDescriptor "(C)Z" = some ⟨[.char], some .boolean⟩ := by decide +kernel
theorem ef_0 (m : MethodId) (x0 : Int32) (x1 : Int32) (x2 : Int32) (x3 : Int32) (x4 : Int32) : entryFrame m #[(.int x0), (.int x1), (.int x2), (.int x3), (.int x4)] maxLocals = mkF m 0 #[.val (.int x0), .val (.int x1), .val (.int x2), .val (.int x3), .val (.int x4), .unset, .unset, .unset, .unset, .unset, .unset, .unset, .unset, .unset, .unset] [] := by first | (simp [entryFrame, mkF, argsToLocals, Value.category, maxLocals]; done) | rfl
def Q0 (Z : State) (x0 : Int32) (x1 : Int32) (x2 : Int32) (x3 : Int32) (x4 : Int32) (w_WORD : Addr) (w_QUOTED_NAME : Addr) (w_STRING : Addr) (w_DIGITS : Addr) (w_STRAY : Addr) (w_SYMBOL : Addr) (w_UNCLOSED : Addr) (zc : Int32) (fm : Value) (h0 : Heap) (n0 : Nat) (v : Option Value) (h : Heap) (L : List Loc) : Prop := Fr n0 L ∧ (v = some (.int 1))
set_option maxRecDepth 65536 in
set_option maxHeartbeats 40000000 in
theorem rm0 (l : Launch) (Z : State) (a0 : Array Value) (hw : ∀ d ∈ tables_1, d.before a0 Z = true) (ws : List Jvm.Cond) (x0 : Int32) (x1 : Int32) (x2 : Int32) (x3 : Int32) (x4 : Int32) (w_WORD : Addr) (w_QUOTED_NAME : Addr) (w_STRING : Addr) (w_DIGITS : Addr) (w_STRAY : Addr) (w_SYMBOL : Addr) (w_UNCLOSED : Addr) (zc : Int32) (fm : Value) (h0 : Heap) (n0 : Nat) (Z0 : n0 ≤ h0.size) (O0 : Old Z n0 h0) (S_WORD : Sta Z Z.heap "com/example/partition_planner/partitionplanner/CqlLexer$Kind" "WORD" "Lcom/example/partition_planner/partitionplanner/CqlLexer$Kind;" (.ref w_WORD)) (S_QUOTED_NAME : Sta Z Z.heap "com/example/partition_planner/partitionplanner/CqlLexer$Kind" "QUOTED_NAME" "Lcom/example/partition_planner/partitionplanner/CqlLexer$Kind;" (.ref w_QUOTED_NAME)) (S_STRING : Sta Z Z.heap "com/example/partition_planner/partitionplanner/CqlLexer$Kind" "STRING" "Lcom/example/partition_planner/partitionplanner/CqlLexer$Kind;" (.ref w_STRING)) (S_DIGITS : Sta Z Z.heap "com/example/partition_planner/partitionplanner/CqlLexer$Kind" "DIGITS" "Lcom/example/partition_planner/partitionplanner/CqlLexer$Kind;" (.ref w_DIGITS)) (S_STRAY : Sta Z Z.heap "com/example/partition_planner/partitionplanner/CqlLexer$Kind" "STRAY" "Lcom/example/partition_planner/partitionplanner/CqlLexer$Kind;" (.ref w_STRAY)) (S_SYMBOL : Sta Z Z.heap "com/example/partition_planner/partitionplanner/CqlLexer$Kind" "SYMBOL" "Lcom/example/partition_planner/partitionplanner/CqlLexer$Kind;" (.ref w_SYMBOL)) (S_UNCLOSED : Sta Z Z.heap "com/example/partition_planner/partitionplanner/CqlLexer$Kind" "UNCLOSED" "Lcom/example/partition_planner/partitionplanner/CqlLexer$Kind;" (.ref w_UNCLOSED)) (ne_WORD : w_WORD ≠ w_SYMBOL) (ne_QUOTED_NAME : w_QUOTED_NAME ≠ w_SYMBOL) (ne_STRING : w_STRING ≠ w_SYMBOL) (ne_DIGITS : w_DIGITS ≠ w_SYMBOL) (ne_STRAY : w_STRAY ≠ w_SYMBOL) (ne_UNCLOSED : w_UNCLOSED ≠ w_SYMBOL) (S_AD : Sta Z Z.heap "java/lang/StringUTF16" "$assertionsDisabled" "Z" (.int 1)) (S_HI : Sta Z Z.heap "java/lang/StringUTF16" "HI_BYTE_SHIFT" "I" (.int 0)) (S_LO : Sta Z Z.heap "java/lang/StringUTF16" "LO_BYTE_SHIFT" "I" (.int 8)) (S_C : Sta Z Z.heap "java/lang/String" "COMPACT_STRINGS" "Z" (.int zc)) (P0 : ¬ zc = 0) (S_F : Sta Z Z.heap "jdk/internal/util/Preconditions" "SIOOBE_FORMATTER" "Ljava/util/function/BiFunction;" fm) (hfm : fm.isRef = true) :
    MetFree l x (head1 (Jvm.Cond.code x code maxLocals ret :: ws) room_1) (fun as0 U => as0 = #[(.int x0), (.int x1), (.int x2), (.int x3), (.int x4)] ∧ Z.Warmed39 U.vm ∧ U.heap = h0) (fun _ _ _ _ _ => True) (fun _ U oc0 U' => ∃ v L, oc0 = .returned v ∧ Q0 Z x0 x1 x2 x3 x4 w_WORD w_QUOTED_NAME w_STRING w_DIGITS w_STRAY w_SYMBOL w_UNCLOSED zc fm h0 n0 v U'.heap L ∧ FrameEnd U oc0 U' L room_1.cells room_1.slots) := by
  refine MetFree.of_bodySF (plainFor_of_name pn_com_example_partition_planner_partitionplanner_TokenIsSymbolPinLaw) hisR ?_
  intro p e s m args below meth c s₁ Bd hml0 hP hK
  obtain ⟨rfl, hZ, hh⟩ := hP
  have hx := Bd.exec
  have hby := Bd.bytes
  have hml : c.maxLocals = 15 := hml0
  have hown : s.vm.findClass "com/example/partition_planner/partitionplanner/TokenIsSymbolPinLaw" = some m.cls := findClass_of_methodNamed Bd.named
  have hnm := (name_of_methodNamed Bd.named Bd.method).1
  have X0 : Stand p l e room_1 s m #[(.int x0), (.int x1), (.int x2), (.int x3), (.int x4)] below meth c s₁ [] 0 0 := Stand.of_body Bd
  have e0 : s₁.heap = h0 := by rw [← hh, Bd.state]; rfl
  have N0 := Fr.nil n0
  show Gl p e below s (Q0 Z x0 x1 x2 x3 x4 w_WORD w_QUOTED_NAME w_STRING w_DIGITS w_STRAY w_SYMBOL w_UNCLOSED zc fm h0 n0) room_1.cells room_1.slots (s₁.setTop (entryFrame m #[(.int x0), (.int x1), (.int x2), (.int x3), (.int x4)] maxLocals))
  refine Gl.back (fun _ k => castTop (ef_0 m x0 x1 x2 x3 x4) k) ?_
  show Gl _ _ _ _ _ _ _ (s₁.setTop (mkF m 0 #[.val (.int x0), .val (.int x1), .val (.int x2), .val (.int x3), .val (.int x4), .unset, .unset, .unset, .unset, .unset, .unset, .unset, .unset, .unset, .unset] []))
  refine Gl.back (fun _ k => XS.iloadN X0.here hx rfl (hb hby at_0) rfl k) ?_
  show Gl _ _ _ _ _ _ _ (s₁.setTop (mkF m 1 #[.val (.int x0), .val (.int x1), .val (.int x2), .val (.int x3), .val (.int x4), .unset, .unset, .unset, .unset, .unset, .unset, .unset, .unset, .unset, .unset] [(.int x0)]))
  refine Gl.back (fun _ k => X0.ldcInt hx hown (mvT hZ (hw _ (List.mem_of_getElem? (i := 0) rfl))) (g := (mkF m 1 #[.val (.int x0), .val (.int x1), .val (.int x2), .val (.int x3), .val (.int x4), .unset, .unset, .unset, .unset, .unset, .unset, .unset, .unset, .unset, .unset] [(.int x0)])) rfl (hb hby at_1) _ k) ?_
  show Gl _ _ _ _ _ _ _ (s₁.setTop (mkF m 3 #[.val (.int x0), .val (.int x1), .val (.int x2), .val (.int x3), .val (.int x4), .unset, .unset, .unset, .unset, .unset, .unset, .unset, .unset, .unset, .unset] [(.int (2147483647 : Int32)), (.int x0)]))
  refine Gl.back (fun _ k => XS.iand X0.here hx rfl (hb hby at_3) rfl k) ?_
  show Gl _ _ _ _ _ _ _ (s₁.setTop (mkF m 4 #[.val (.int x0), .val (.int x1), .val (.int x2), .val (.int x3), .val (.int x4), .unset, .unset, .unset, .unset, .unset, .unset, .unset, .unset, .unset, .unset] [(.int (x0 &&& (2147483647 : Int32)))]))
  refine Gl.back (fun _ k => XS.bipush X0.here hx rfl (hb hby at_4) k) ?_
  show Gl _ _ _ _ _ _ _ (s₁.setTop (mkF m 6 #[.val (.int x0), .val (.int x1), .val (.int x2), .val (.int x3), .val (.int x4), .unset, .unset, .unset, .unset, .unset, .unset, .unset, .unset, .unset, .unset] [(.int (7 : Int32)), (.int (x0 &&& (2147483647 : Int32)))]))
  refine Gl.back (fun _ k => iremM X0 hx rfl (hb hby at_6) rfl (by decide) k) ?_
  show Gl _ _ _ _ _ _ _ (s₁.setTop (mkF m 7 #[.val (.int x0), .val (.int x1), .val (.int x2), .val (.int x3), .val (.int x4), .unset, .unset, .unset, .unset, .unset, .unset, .unset, .unset, .unset, .unset] [(.int ((x0 &&& (2147483647 : Int32)) % (7 : Int32)))]))
  refine Gl.back (fun _ k => XS.istore X0.here hx rfl (hb hby at_7) rfl (l' := #[.val (.int x0), .val (.int x1), .val (.int x2), .val (.int x3), .val (.int x4), .val (.int ((x0 &&& (2147483647 : Int32)) % (7 : Int32))), .unset, .unset, .unset, .unset, .unset, .unset, .unset, .unset, .unset]) rfl k) ?_
  show Gl _ _ _ _ _ _ _ (s₁.setTop (mkF m 9 #[.val (.int x0), .val (.int x1), .val (.int x2), .val (.int x3), .val (.int x4), .val (.int ((x0 &&& (2147483647 : Int32)) % (7 : Int32))), .unset, .unset, .unset, .unset, .unset, .unset, .unset, .unset, .unset] []))
  refine Gl.back (fun _ k => XS.iloadN X0.here hx rfl (hb hby at_9) rfl k) ?_
  show Gl _ _ _ _ _ _ _ (s₁.setTop (mkF m 10 #[.val (.int x0), .val (.int x1), .val (.int x2), .val (.int x3), .val (.int x4), .val (.int ((x0 &&& (2147483647 : Int32)) % (7 : Int32))), .unset, .unset, .unset, .unset, .unset, .unset, .unset, .unset, .unset] [(.int x1)]))
  refine Gl.back (fun _ k => XS.i2c X0.here hx rfl (hb hby at_10) rfl k) ?_
  show Gl _ _ _ _ _ _ _ (s₁.setTop (mkF m 11 #[.val (.int x0), .val (.int x1), .val (.int x2), .val (.int x3), .val (.int x4), .val (.int ((x0 &&& (2147483647 : Int32)) % (7 : Int32))), .unset, .unset, .unset, .unset, .unset, .unset, .unset, .unset, .unset] [(.int (x1.toUInt32.toUInt16.toUInt32.toInt32))]))
  obtain ⟨hcar, hcan⟩ := own_chr x1
  generalize (x1.toUInt32.toUInt16.toUInt32.toInt32) = ca at *
  show Gl _ _ _ _ _ _ _ (s₁.setTop (mkF m 11 #[.val (.int x0), .val (.int x1), .val (.int x2), .val (.int x3), .val (.int x4), .val (.int ((x0 &&& (2147483647 : Int32)) % (7 : Int32))), .unset, .unset, .unset, .unset, .unset, .unset, .unset, .unset, .unset] [(.int ca)]))
  refine Gl.back (fun _ k => XS.istore X0.here hx rfl (hb hby at_11) rfl (l' := #[.val (.int x0), .val (.int x1), .val (.int x2), .val (.int x3), .val (.int x4), .val (.int ((x0 &&& (2147483647 : Int32)) % (7 : Int32))), .val (.int ca), .unset, .unset, .unset, .unset, .unset, .unset, .unset, .unset]) rfl k) ?_
  show Gl _ _ _ _ _ _ _ (s₁.setTop (mkF m 13 #[.val (.int x0), .val (.int x1), .val (.int x2), .val (.int x3), .val (.int x4), .val (.int ((x0 &&& (2147483647 : Int32)) % (7 : Int32))), .val (.int ca), .unset, .unset, .unset, .unset, .unset, .unset, .unset, .unset] []))
  refine Gl.back (fun _ k => XS.iloadN X0.here hx rfl (hb hby at_13) rfl k) ?_
  show Gl _ _ _ _ _ _ _ (s₁.setTop (mkF m 14 #[.val (.int x0), .val (.int x1), .val (.int x2), .val (.int x3), .val (.int x4), .val (.int ((x0 &&& (2147483647 : Int32)) % (7 : Int32))), .val (.int ca), .unset, .unset, .unset, .unset, .unset, .unset, .unset, .unset] [(.int x2)]))
  refine Gl.back (fun _ k => XS.i2c X0.here hx rfl (hb hby at_14) rfl k) ?_
  show Gl _ _ _ _ _ _ _ (s₁.setTop (mkF m 15 #[.val (.int x0), .val (.int x1), .val (.int x2), .val (.int x3), .val (.int x4), .val (.int ((x0 &&& (2147483647 : Int32)) % (7 : Int32))), .val (.int ca), .unset, .unset, .unset, .unset, .unset, .unset, .unset, .unset] [(.int (x2.toUInt32.toUInt16.toUInt32.toInt32))]))
  obtain ⟨hcbr, hcbn⟩ := own_chr x2
  generalize (x2.toUInt32.toUInt16.toUInt32.toInt32) = cb at *
  show Gl _ _ _ _ _ _ _ (s₁.setTop (mkF m 15 #[.val (.int x0), .val (.int x1), .val (.int x2), .val (.int x3), .val (.int x4), .val (.int ((x0 &&& (2147483647 : Int32)) % (7 : Int32))), .val (.int ca), .unset, .unset, .unset, .unset, .unset, .unset, .unset, .unset] [(.int cb)]))
  refine Gl.back (fun _ k => XS.istore X0.here hx rfl (hb hby at_15) rfl (l' := #[.val (.int x0), .val (.int x1), .val (.int x2), .val (.int x3), .val (.int x4), .val (.int ((x0 &&& (2147483647 : Int32)) % (7 : Int32))), .val (.int ca), .val (.int cb), .unset, .unset, .unset, .unset, .unset, .unset, .unset]) rfl k) ?_
  show Gl _ _ _ _ _ _ _ (s₁.setTop (mkF m 17 #[.val (.int x0), .val (.int x1), .val (.int x2), .val (.int x3), .val (.int x4), .val (.int ((x0 &&& (2147483647 : Int32)) % (7 : Int32))), .val (.int ca), .val (.int cb), .unset, .unset, .unset, .unset, .unset, .unset, .unset] []))
  refine Gl.back (fun _ k => XS.iload X0.here hx rfl (hb hby at_17) rfl k) ?_
  show Gl _ _ _ _ _ _ _ (s₁.setTop (mkF m 19 #[.val (.int x0), .val (.int x1), .val (.int x2), .val (.int x3), .val (.int x4), .val (.int ((x0 &&& (2147483647 : Int32)) % (7 : Int32))), .val (.int ca), .val (.int cb), .unset, .unset, .unset, .unset, .unset, .unset, .unset] [(.int x4)]))
  refine Gl.back (fun _ k => XS.iconst X0.here hx rfl (hb hby at_19) k) ?_
  show Gl _ _ _ _ _ _ _ (s₁.setTop (mkF m 20 #[.val (.int x0), .val (.int x1), .val (.int x2), .val (.int x3), .val (.int x4), .val (.int ((x0 &&& (2147483647 : Int32)) % (7 : Int32))), .val (.int ca), .val (.int cb), .unset, .unset, .unset, .unset, .unset, .unset, .unset] [(.int (1 : Int32)), (.int x4)]))
  refine Gl.back (fun _ k => XS.iand X0.here hx rfl (hb hby at_20) rfl k) ?_
  show Gl _ _ _ _ _ _ _ (s₁.setTop (mkF m 21 #[.val (.int x0), .val (.int x1), .val (.int x2), .val (.int x3), .val (.int x4), .val (.int ((x0 &&& (2147483647 : Int32)) % (7 : Int32))), .val (.int ca), .val (.int cb), .unset, .unset, .unset, .unset, .unset, .unset, .unset] [(.int (x4 &&& (1 : Int32)))]))
  by_cases hc21_223 : (x4 &&& (1 : Int32)) = (0 : Int32)
  · refine Gl.back (fun _ k => XS.ifYes X0.here hx rfl (pc0 := 21) (pc' := 28) rfl (hb hby at_21) rfl ((if0 _ _).trans (teq hc21_223).1) (by decide) (by decide) k) ?_
    show Gl _ _ _ _ _ _ _ (s₁.setTop (mkF m 28 #[.val (.int x0), .val (.int x1), .val (.int x2), .val (.int x3), .val (.int x4), .val (.int ((x0 &&& (2147483647 : Int32)) % (7 : Int32))), .val (.int ca), .val (.int cb), .unset, .unset, .unset, .unset, .unset, .unset, .unset] []))
    refine Gl.back (fun _ k => XS.iconst X0.here hx rfl (hb hby at_28) k) ?_
    show Gl _ _ _ _ _ _ _ (s₁.setTop (mkF m 29 #[.val (.int x0), .val (.int x1), .val (.int x2), .val (.int x3), .val (.int x4), .val (.int ((x0 &&& (2147483647 : Int32)) % (7 : Int32))), .val (.int ca), .val (.int cb), .unset, .unset, .unset, .unset, .unset, .unset, .unset] [(.int (0 : Int32))]))
    refine Gl.back (fun _ k => XS.istore X0.here hx rfl (hb hby at_29) rfl (l' := #[.val (.int x0), .val (.int x1), .val (.int x2), .val (.int x3), .val (.int x4), .val (.int ((x0 &&& (2147483647 : Int32)) % (7 : Int32))), .val (.int ca), .val (.int cb), .val (.int (0 : Int32)), .unset, .unset, .unset, .unset, .unset, .unset]) rfl k) ?_
    show Gl _ _ _ _ _ _ _ (s₁.setTop (mkF m 31 #[.val (.int x0), .val (.int x1), .val (.int x2), .val (.int x3), .val (.int x4), .val (.int ((x0 &&& (2147483647 : Int32)) % (7 : Int32))), .val (.int ca), .val (.int cb), .val (.int (0 : Int32)), .unset, .unset, .unset, .unset, .unset, .unset] []))
    refine Gl.back (fun _ k => XS.iload X0.here hx rfl (hb hby at_31) rfl k) ?_
    show Gl _ _ _ _ _ _ _ (s₁.setTop (mkF m 33 #[.val (.int x0), .val (.int x1), .val (.int x2), .val (.int x3), .val (.int x4), .val (.int ((x0 &&& (2147483647 : Int32)) % (7 : Int32))), .val (.int ca), .val (.int cb), .val (.int (0 : Int32)), .unset, .unset, .unset, .unset, .unset, .unset] [(.int (0 : Int32))]))
    refine Gl.back (fun _ k => XS.ifYes X0.here hx rfl (pc0 := 33) (pc' := 52) rfl (hb hby at_33) rfl ((if0 _ _).trans (teq (by decide : (0 : Int32) = (0 : Int32))).1) (by decide) (by decide) k) ?_
    show Gl _ _ _ _ _ _ _ (s₁.setTop (mkF m 52 #[.val (.int x0), .val (.int x1), .val (.int x2), .val (.int x3), .val (.int x4), .val (.int ((x0 &&& (2147483647 : Int32)) % (7 : Int32))), .val (.int ca), .val (.int cb), .val (.int (0 : Int32)), .unset, .unset, .unset, .unset, .unset, .unset] []))
    refine Gl.back (fun _ k => XS.iconst X0.here hx rfl (hb hby at_52) k) ?_
    show Gl _ _ _ _ _ _ _ (s₁.setTop (mkF m 53 #[.val (.int x0), .val (.int x1), .val (.int x2), .val (.int x3), .val (.int x4), .val (.int ((x0 &&& (2147483647 : Int32)) % (7 : Int32))), .val (.int ca), .val (.int cb), .val (.int (0 : Int32)), .unset, .unset, .unset, .unset, .unset, .unset] [(.int (1 : Int32))]))
    obtain ⟨T224, h224, k224, X224, e224, E224, A224, st224⟩ := newP X0 hx hZ (hw _ (List.mem_of_getElem? (i := 1) rfl)) e0 (g := (mkF m 53 #[.val (.int x0), .val (.int x1), .val (.int x2), .val (.int x3), .val (.int x4), .val (.int ((x0 &&& (2147483647 : Int32)) % (7 : Int32))), .val (.int ca), .val (.int cb), .val (.int (0 : Int32)), .unset, .unset, .unset, .unset, .unset, .unset] [(.int (1 : Int32))])) rfl (hb hby at_53) rfl (by decide) (cap := 1) (by decide) (by decide) (by decide) (by decide)
    obtain ⟨b224, g224⟩ : ∃ z, z = h0.size := ⟨_, rfl⟩
    rw [← g224] at A224 st224
    have V224 : Arv Z h224 b224 k224 .char (1 : Int32) [(.int (0 : Int32))] (.int (0 : Int32)) := (Arv.new A224 (by decide)).pad (pad_rep [] (.int (0 : Int32)) 1)
    have g_b224 : n0 ≤ b224 := Nat.le_trans Z0 (Nat.le_of_eq g224.symm)
    have sz_b224 : h0.size ≤ b224 := Nat.le_trans (Keep.refl h0 []).1 (Nat.le_of_eq g224.symm)
    have Z224 : n0 ≤ h224.size := Nat.le_trans Z0 E224.1
    have K224 := Keep.ext (Keep.refl h0 []) E224
    have O224 := Old.ext O0 E224
    refine Gl.back (fun _ k => st224 _ k) ?_
    show Gl _ _ _ _ _ _ _ (T224.setTop (mkF m 55 #[.val (.int x0), .val (.int x1), .val (.int x2), .val (.int x3), .val (.int x4), .val (.int ((x0 &&& (2147483647 : Int32)) % (7 : Int32))), .val (.int ca), .val (.int cb), .val (.int (0 : Int32)), .unset, .unset, .unset, .unset, .unset, .unset] [(.ref b224)]))
    refine Gl.back (fun _ k => XS.dup X224.here hx rfl (hb hby at_55) rfl rfl k) ?_
    show Gl _ _ _ _ _ _ _ (T224.setTop (mkF m 56 #[.val (.int x0), .val (.int x1), .val (.int x2), .val (.int x3), .val (.int x4), .val (.int ((x0 &&& (2147483647 : Int32)) % (7 : Int32))), .val (.int ca), .val (.int cb), .val (.int (0 : Int32)), .unset, .unset, .unset, .unset, .unset, .unset] [(.ref b224), (.ref b224)]))
    refine Gl.back (fun _ k => XS.iconst X224.here hx rfl (hb hby at_56) k) ?_
    show Gl _ _ _ _ _ _ _ (T224.setTop (mkF m 57 #[.val (.int x0), .val (.int x1), .val (.int x2), .val (.int x3), .val (.int x4), .val (.int ((x0 &&& (2147483647 : Int32)) % (7 : Int32))), .val (.int ca), .val (.int cb), .val (.int (0 : Int32)), .unset, .unset, .unset, .unset, .unset, .unset] [(.int (0 : Int32)), (.ref b224), (.ref b224)]))
    refine Gl.back (fun _ k => XS.iload X224.here hx rfl (hb hby at_57) rfl k) ?_
    show Gl _ _ _ _ _ _ _ (T224.setTop (mkF m 59 #[.val (.int x0), .val (.int x1), .val (.int x2), .val (.int x3), .val (.int x4), .val (.int ((x0 &&& (2147483647 : Int32)) % (7 : Int32))), .val (.int ca), .val (.int cb), .val (.int (0 : Int32)), .unset, .unset, .unset, .unset, .unset, .unset] [(.int ca), (.int (0 : Int32)), (.ref b224), (.ref b224)]))
    obtain ⟨cl225, Ar225, q225, Sz225, Nn225, Hs225, Gf225⟩ := id V224
    have hin225 : ¬ ((0 : Int32) < 0 ∨ cl225.slots.size ≤ ((0 : Int32)).toNatClampNeg) := inb_of Sz225 ⟨by decide, by decide⟩
    obtain ⟨T226, h226, X226, e226, W226, st226⟩ := stC X224 hx hZ e224 Ar225 (j := (0 : Int32)) hin225 (g := (mkF m 59 #[.val (.int x0), .val (.int x1), .val (.int x2), .val (.int x3), .val (.int x4), .val (.int ((x0 &&& (2147483647 : Int32)) % (7 : Int32))), .val (.int ca), .val (.int cb), .val (.int (0 : Int32)), .unset, .unset, .unset, .unset, .unset, .unset] [(.int ca), (.int (0 : Int32)), (.ref b224), (.ref b224)])) rfl rfl (hb hby at_59)
    have V226 := Arv.set Ar225 q225 Sz225 Nn225 Hs225 Gf225 (fits_nar_char _) W226 0 rfl (Nat.le_of_ble_eq_true rfl)
    replace V226 : Arv Z h226 b224 k224 .char (1 : Int32) [(.int (nar .char ca))] (.int (0 : Int32)) := V226
    have K226 := Keep.wr K224 W226 (Or.inr sz_b224)
    have O226 := Old.wr O224 W226 g_b224
    have Z226 : n0 ≤ h226.size := Nat.le_trans Z224 (Keep.of_wr W226).1
    have N226 := Fr.snoc X226 N0 g_b224
    refine Gl.back (fun _ k => st226 _ k) ?_
    show Gl _ _ _ _ _ _ _ (T226.setTop (mkF m 60 #[.val (.int x0), .val (.int x1), .val (.int x2), .val (.int x3), .val (.int x4), .val (.int ((x0 &&& (2147483647 : Int32)) % (7 : Int32))), .val (.int ca), .val (.int cb), .val (.int (0 : Int32)), .unset, .unset, .unset, .unset, .unset, .unset] [(.ref b224)]))
    have Vn227 : Arv Z h226 b224 k224 .char (1 : Int32) [(.int ca)] (.int (0 : Int32)) := by rw [hcan] at V226; exact V226
    refine Gl.back (fun _ k => XS.astore X226.here hx rfl (hb hby at_60) rfl rfl (l' := #[.val (.int x0), .val (.int x1), .val (.int x2), .val (.int x3), .val (.int x4), .val (.int ((x0 &&& (2147483647 : Int32)) % (7 : Int32))), .val (.int ca), .val (.int cb), .val (.int (0 : Int32)), .val (.ref b224), .unset, .unset, .unset, .unset, .unset]) rfl k) ?_
    show Gl _ _ _ _ _ _ _ (T226.setTop (mkF m 62 #[.val (.int x0), .val (.int x1), .val (.int x2), .val (.int x3), .val (.int x4), .val (.int ((x0 &&& (2147483647 : Int32)) % (7 : Int32))), .val (.int ca), .val (.int cb), .val (.int (0 : Int32)), .val (.ref b224), .unset, .unset, .unset, .unset, .unset] []))
    obtain ⟨T228, h228, X228, e228, E228, A228, D228, -, st228⟩ := newO X226 hx hZ hown (hw _ (List.mem_of_getElem? (i := 2) rfl)) (hw _ (List.mem_of_getElem? (i := 3) rfl)) (hw _ (List.mem_of_getElem? (i := 4) rfl)) e226 (g := (mkF m 62 #[.val (.int x0), .val (.int x1), .val (.int x2), .val (.int x3), .val (.int x4), .val (.int ((x0 &&& (2147483647 : Int32)) % (7 : Int32))), .val (.int ca), .val (.int cb), .val (.int (0 : Int32)), .val (.ref b224), .unset, .unset, .unset, .unset, .unset] [])) rfl (hb hby at_62) (by decide) (by decide)
    obtain ⟨b228, g228⟩ : ∃ z, z = h226.size := ⟨_, rfl⟩
    rw [← g228] at A228 D228 st228
    have ne_b224_b228 : b224 ≠ b228 := Nat.ne_of_lt (Nat.lt_of_lt_of_le Vn227.lt (Nat.le_of_eq g228.symm))
    have g_b228 : n0 ≤ b228 := Nat.le_trans Z226 (Nat.le_of_eq g228.symm)
    have sz_b228 : h0.size ≤ b228 := Nat.le_trans K226.1 (Nat.le_of_eq g228.symm)
    have Z228 : n0 ≤ h228.size := Nat.le_trans Z226 E228.1
    have K228 := Keep.ext K226 E228
    have O228 := Old.ext O226 E228
    have F228_coder : Fld Z h228 b228 "java/lang/String" "coder" "B" (.int (0 : Int32)) := D228 (Or.inr (hw _ (List.mem_of_getElem? (i := 28) rfl))) (ty := .byte) (by decide)
    have F228_value : Fld Z h228 b228 "java/lang/String" "value" "[B" .null := D228 (Or.inr (hw _ (List.mem_of_getElem? (i := 30) rfl))) (ty := (.array .byte)) (by decide)
    refine Gl.back (fun _ k => st228 _ k) ?_
    show Gl _ _ _ _ _ _ _ (T228.setTop (mkF m 65 #[.val (.int x0), .val (.int x1), .val (.int x2), .val (.int x3), .val (.int x4), .val (.int ((x0 &&& (2147483647 : Int32)) % (7 : Int32))), .val (.int ca), .val (.int cb), .val (.int (0 : Int32)), .val (.ref b224), .unset, .unset, .unset, .unset, .unset] [(.ref b228)]))
    refine Gl.back (fun _ k => XS.dup X228.here hx rfl (hb hby at_65) rfl rfl k) ?_
    show Gl _ _ _ _ _ _ _ (T228.setTop (mkF m 66 #[.val (.int x0), .val (.int x1), .val (.int x2), .val (.int x3), .val (.int x4), .val (.int ((x0 &&& (2147483647 : Int32)) % (7 : Int32))), .val (.int ca), .val (.int cb), .val (.int (0 : Int32)), .val (.ref b224), .unset, .unset, .unset, .unset, .unset] [(.ref b228), (.ref b228)]))
    refine Gl.back (fun _ k => XS.aload X228.here hx rfl (hb hby at_66) rfl rfl k) ?_
    show Gl _ _ _ _ _ _ _ (T228.setTop (mkF m 68 #[.val (.int x0), .val (.int x1), .val (.int x2), .val (.int x3), .val (.int x4), .val (.int ((x0 &&& (2147483647 : Int32)) % (7 : Int32))), .val (.int ca), .val (.int cb), .val (.int (0 : Int32)), .val (.ref b224), .unset, .unset, .unset, .unset, .unset] [(.ref b224), (.ref b228), (.ref b228)]))
    by_cases hA : (255 : Int32) < ca
    · show Gl _ _ _ _ _ _ _ (T228.setTop (mkF m 68 #[.val (.int x0), .val (.int x1), .val (.int x2), .val (.int x3), .val (.int x4), .val (.int ((x0 &&& (2147483647 : Int32)) % (7 : Int32))), .val (.int ca), .val (.int cb), .val (.int (0 : Int32)), .val (.ref b224), .unset, .unset, .unset, .unset, .unset] [(.ref b224), (.ref b228), (.ref b228)]))
      have f231 := (Vn227.ext E228)
      obtain ⟨_, _, ⟨T230, L230, k230, n230⟩, -, X230, ⟨Lc230, hQ230, l230, y230, z230⟩, st230⟩ := X228.specialBack hx (y := (⟨"java/lang/String", "<init>", "([C)V"⟩ : MethodName)) rfl hown (mvT hZ (hw _ (List.mem_of_getElem? (i := 5) rfl))) (mvT hZ (hw _ (List.mem_of_getElem? (i := 6) rfl))) (mvT hZ (hw _ (List.mem_of_getElem? (i := 7) rfl))) (by decide) (backOf (W := 1) (rmnew1_1_0 l Z a0 hw [] b228 b224 k224 ca zc h228 n0 Z228 O228 S_AD S_HI S_LO S_C P0 g_b228 A228 F228_value F228_coder f231 (Ne.symm ne_b224_b228) hA hcar) hZ (hw _ (List.mem_of_getElem? (i := 7) rfl)) (hw _ (List.mem_of_getElem? (i := 4) rfl)) (by decide) (by decide)) (g := (mkF m 68 #[.val (.int x0), .val (.int x1), .val (.int x2), .val (.int x3), .val (.int x4), .val (.int ((x0 &&& (2147483647 : Int32)) % (7 : Int32))), .val (.int ca), .val (.int cb), .val (.int (0 : Int32)), .val (.ref b224), .unset, .unset, .unset, .unset, .unset] [(.ref b224), (.ref b228), (.ref b228)])) rfl (by rw [hml]; rfl) (Steps.refl _) (a := b228) (argsL := [(.ref b224)]) (rest := [(.ref b228)]) (lenOf pd___C_V rfl) rfl (by show 2 * 0 + _ ≤ _; exact Nat.le_of_eq rfl) (hb hby at_68) (fun _ _ => ⟨rfl, e228, (by decide : 2 + 2 ≤ _), (by decide : 5 + 3 ≤ _)⟩)
      dsimp only [Pt.U, Pt.locs, Pt.cells, Pt.slots] at X230 l230 y230 z230 st230 hQ230
      replace l230 := Eq.symm l230
      replace y230 := Eq.symm y230
      replace z230 := Eq.symm z230
      subst l230 y230 z230
      obtain ⟨Nq230, rfl, Kq230, t230, k0230, Sz230, Gz230, Fc230, Fv230, V230⟩ := hQ230
      have N230 := Fr.app N226 Nq230
      have Kc230 := Keep.trans K228 Kq230 (allS (Or.inr sz_b228) all0)
      have Zc230 : n0 ≤ T230.heap.size := Nat.le_trans Z228 Kq230.1
      have Oc230 := Old.keep O228 Kq230 (allS g_b228 all0)
      have ne_b224_t230 : b224 ≠ t230 := Nat.ne_of_lt (Nat.lt_of_lt_of_le (f231).lt Sz230)
      have ne_b228_t230 : b228 ≠ t230 := Nat.ne_of_lt (Nat.lt_of_lt_of_le (A228).lt Sz230)
      have sz_t230 : h0.size ≤ t230 := Nat.le_trans K228.1 Sz230
      refine Gl.back (fun _ k => st230.trans k) ?_
      show Gl _ _ _ _ _ _ _ (T230.setTop (mkF m 71 #[.val (.int x0), .val (.int x1), .val (.int x2), .val (.int x3), .val (.int x4), .val (.int ((x0 &&& (2147483647 : Int32)) % (7 : Int32))), .val (.int ca), .val (.int cb), .val (.int (0 : Int32)), .val (.ref b224), .unset, .unset, .unset, .unset, .unset] [(.ref b228)]))
      refine Gl.back (fun _ k => XS.astore X230.here hx rfl (hb hby at_71) rfl rfl (l' := #[.val (.int x0), .val (.int x1), .val (.int x2), .val (.int x3), .val (.int x4), .val (.int ((x0 &&& (2147483647 : Int32)) % (7 : Int32))), .val (.int ca), .val (.int cb), .val (.int (0 : Int32)), .val (.ref b224), .val (.ref b228), .unset, .unset, .unset, .unset]) rfl k) ?_
      show Gl _ _ _ _ _ _ _ (T230.setTop (mkF m 73 #[.val (.int x0), .val (.int x1), .val (.int x2), .val (.int x3), .val (.int x4), .val (.int ((x0 &&& (2147483647 : Int32)) % (7 : Int32))), .val (.int ca), .val (.int cb), .val (.int (0 : Int32)), .val (.ref b224), .val (.ref b228), .unset, .unset, .unset, .unset] []))
      have J110 : ∀ (sym : Int32), Gl p e below s (Q0 Z x0 x1 x2 x3 x4 w_WORD w_QUOTED_NAME w_STRING w_DIGITS w_STRAY w_SYMBOL w_UNCLOSED zc fm h0 n0) room_1.cells room_1.slots (T230.setTop (mkF m 110 #[.val (.int x0), .val (.int x1), .val (.int x2), .val (.int x3), .val (.int x4), .val (.int ((x0 &&& (2147483647 : Int32)) % (7 : Int32))), .val (.int ca), .val (.int cb), .val (.int (0 : Int32)), .val (.ref b224), .val (.ref b228), .val (.int (((x4.toUInt32 >>> ((1 : Int32) &&& 31).toUInt32).toInt32) &&& (3 : Int32))), .val (.int sym), .unset, .unset] [])) := by
        intro sym
        show Gl _ _ _ _ _ _ _ (T230.setTop (mkF m 110 #[.val (.int x0), .val (.int x1), .val (.int x2), .val (.int x3), .val (.int x4), .val (.int ((x0 &&& (2147483647 : Int32)) % (7 : Int32))), .val (.int ca), .val (.int cb), .val (.int (0 : Int32)), .val (.ref b224), .val (.ref b228), .val (.int (((x4.toUInt32 >>> ((1 : Int32) &&& 31).toUInt32).toInt32) &&& (3 : Int32))), .val (.int sym), .unset, .unset] []))
        obtain ⟨T232, h232, X232, e232, E232, A232, D232, -, st232⟩ := newO X230 hx hZ hown (hw _ (List.mem_of_getElem? (i := 31) rfl)) (hw _ (List.mem_of_getElem? (i := 32) rfl)) (hw _ (List.mem_of_getElem? (i := 33) rfl)) rfl (g := (mkF m 110 #[.val (.int x0), .val (.int x1), .val (.int x2), .val (.int x3), .val (.int x4), .val (.int ((x0 &&& (2147483647 : Int32)) % (7 : Int32))), .val (.int ca), .val (.int cb), .val (.int (0 : Int32)), .val (.ref b224), .val (.ref b228), .val (.int (((x4.toUInt32 >>> ((1 : Int32) &&& 31).toUInt32).toInt32) &&& (3 : Int32))), .val (.int sym), .unset, .unset] [])) rfl (hb hby at_110) (by decide) (by decide)
        obtain ⟨b232, g232⟩ : ∃ z, z = T230.heap.size := ⟨_, rfl⟩
        rw [← g232] at A232 D232 st232
        have f233 := (f231.keep Kq230 (ninS ne_b224_b228 nin0))
        have ne_b224_b232 : b224 ≠ b232 := Nat.ne_of_lt (Nat.lt_of_lt_of_le f233.lt (Nat.le_of_eq g232.symm))
        have f234 := (A228.keep Kq230)
        have ne_b228_b232 : b228 ≠ b232 := Nat.ne_of_lt (Nat.lt_of_lt_of_le f234.lt (Nat.le_of_eq g232.symm))
        have ne_t230_b232 : t230 ≠ b232 := Nat.ne_of_lt (Nat.lt_of_lt_of_le V230.lt (Nat.le_of_eq g232.symm))
        have g_b232 : n0 ≤ b232 := Nat.le_trans Zc230 (Nat.le_of_eq g232.symm)
        have sz_b232 : h0.size ≤ b232 := Nat.le_trans Kc230.1 (Nat.le_of_eq g232.symm)
        have Z232 : n0 ≤ h232.size := Nat.le_trans Zc230 E232.1
        have K232 := Keep.ext Kc230 E232
        have O232 := Old.ext Oc230 E232
        have F232_kind : Fld Z h232 b232 "com/example/partition_planner/partitionplanner/CqlLexer$Token" "kind" "Lcom/example/partition_planner/partitionplanner/CqlLexer$Kind;" .null := D232 (Or.inr (hw _ (List.mem_of_getElem? (i := 51) rfl))) (ty := (.object "com/example/partition_planner/partitionplanner/CqlLexer$Kind")) (by decide)
        have F232_value : Fld Z h232 b232 "com/example/partition_planner/partitionplanner/CqlLexer$Token" "value" "Ljava/lang/String;" .null := D232 (Or.inr (hw _ (List.mem_of_getElem? (i := 53) rfl))) (ty := (.object "java/lang/String")) (by decide)
        have F232_start : Fld Z h232 b232 "com/example/partition_planner/partitionplanner/CqlLexer$Token" "start" "I" (.int (0 : Int32)) := D232 (Or.inr (hw _ (List.mem_of_getElem? (i := 55) rfl))) (ty := .int) (by decide)
        have F232_end : Fld Z h232 b232 "com/example/partition_planner/partitionplanner/CqlLexer$Token" "end" "I" (.int (0 : Int32)) := D232 (Or.inr (hw _ (List.mem_of_getElem? (i := 57) rfl))) (ty := .int) (by decide)
        have F232_line : Fld Z h232 b232 "com/example/partition_planner/partitionplanner/CqlLexer$Token" "line" "I" (.int (0 : Int32)) := D232 (Or.inr (hw _ (List.mem_of_getElem? (i := 59) rfl))) (ty := .int) (by decide)
        refine Gl.back (fun _ k => st232 _ k) ?_
        show Gl _ _ _ _ _ _ _ (T232.setTop (mkF m 113 #[.val (.int x0), .val (.int x1), .val (.int x2), .val (.int x3), .val (.int x4), .val (.int ((x0 &&& (2147483647 : Int32)) % (7 : Int32))), .val (.int ca), .val (.int cb), .val (.int (0 : Int32)), .val (.ref b224), .val (.ref b228), .val (.int (((x4.toUInt32 >>> ((1 : Int32) &&& 31).toUInt32).toInt32) &&& (3 : Int32))), .val (.int sym), .unset, .unset] [(.ref b232)]))
        refine Gl.back (fun _ k => XS.dup X232.here hx rfl (hb hby at_113) rfl rfl k) ?_
        show Gl _ _ _ _ _ _ _ (T232.setTop (mkF m 114 #[.val (.int x0), .val (.int x1), .val (.int x2), .val (.int x3), .val (.int x4), .val (.int ((x0 &&& (2147483647 : Int32)) % (7 : Int32))), .val (.int ca), .val (.int cb), .val (.int (0 : Int32)), .val (.ref b224), .val (.ref b228), .val (.int (((x4.toUInt32 >>> ((1 : Int32) &&& 31).toUInt32).toInt32) &&& (3 : Int32))), .val (.int sym), .unset, .unset] [(.ref b232), (.ref b232)]))
        refine Gl.back (fun _ k => XS.iload X232.here hx rfl (hb hby at_114) rfl k) ?_
        show Gl _ _ _ _ _ _ _ (T232.setTop (mkF m 116 #[.val (.int x0), .val (.int x1), .val (.int x2), .val (.int x3), .val (.int x4), .val (.int ((x0 &&& (2147483647 : Int32)) % (7 : Int32))), .val (.int ca), .val (.int cb), .val (.int (0 : Int32)), .val (.ref b224), .val (.ref b228), .val (.int (((x4.toUInt32 >>> ((1 : Int32) &&& 31).toUInt32).toInt32) &&& (3 : Int32))), .val (.int sym), .unset, .unset] [(.int ((x0 &&& (2147483647 : Int32)) % (7 : Int32))), (.ref b232), (.ref b232)]))
        obtain ⟨_, _, ⟨T235, L235, k235, n235⟩, -, X235, ⟨Lc235, hQ235, l235, y235, z235⟩, st235⟩ := Jvm.LawKit.callS X232 hx (y := (⟨"com/example/partition_planner/partitionplanner/TokenIsSymbolPinLaw", "kindOf", "(I)Lcom/example/partition_planner/partitionplanner/CqlLexer$Kind;"⟩ : MethodName)) hown (mvT hZ (hw _ (List.mem_of_getElem? (i := 34) rfl))) (mvT hZ (hw _ (List.mem_of_getElem? (i := 35) rfl))) (mvT hZ (hw _ (List.mem_of_getElem? (i := 36) rfl))) (mvT hZ (hw _ (List.mem_of_getElem? (i := 37) rfl))) (by decide) (backOf (W := 2) (rmkind l Z a0 hw [] ((x0 &&& (2147483647 : Int32)) % (7 : Int32)) w_WORD w_QUOTED_NAME w_STRING w_DIGITS w_STRAY w_SYMBOL w_UNCLOSED h232 n0 Z232 O232 S_WORD S_QUOTED_NAME S_STRING S_DIGITS S_STRAY S_SYMBOL S_UNCLOSED ne_WORD ne_QUOTED_NAME ne_STRING ne_DIGITS ne_STRAY ne_UNCLOSED) hZ (hw _ (List.mem_of_getElem? (i := 37) rfl)) (hw _ (List.mem_of_getElem? (i := 36) rfl)) (by decide) (by decide)) (g := (mkF m 116 #[.val (.int x0), .val (.int x1), .val (.int x2), .val (.int x3), .val (.int x4), .val (.int ((x0 &&& (2147483647 : Int32)) % (7 : Int32))), .val (.int ca), .val (.int cb), .val (.int (0 : Int32)), .val (.ref b224), .val (.ref b228), .val (.int (((x4.toUInt32 >>> ((1 : Int32) &&& 31).toUInt32).toInt32) &&& (3 : Int32))), .val (.int sym), .unset, .unset] [(.int ((x0 &&& (2147483647 : Int32)) % (7 : Int32))), (.ref b232), (.ref b232)])) rfl (by rw [hml]; rfl) (argsL := [(.int ((x0 &&& (2147483647 : Int32)) % (7 : Int32)))]) (rest := [(.ref b232), (.ref b232)]) (lenOf pd__I_Lcom_example_partition_planner_partitionplanner_CqlLexer_Kind_ rfl) rfl (by show 2 * 0 + _ ≤ _; exact Nat.le_of_eq rfl) (hb hby at_116) (fun _ _ => ⟨rfl, e232, (by decide : 5 + 0 ≤ _), (by decide : 13 + 0 ≤ _)⟩)
        dsimp only [Pt.U, Pt.locs, Pt.cells, Pt.slots] at X235 l235 y235 z235 st235 hQ235
        replace l235 := Eq.symm l235
        replace y235 := Eq.symm y235
        replace z235 := Eq.symm z235
        subst l235 y235 z235
        obtain ⟨Nq235, wk235, rfl, hk1235, hk2235, eh235⟩ := hQ235
        have N235 := Fr.app N230 Nq235
        refine Gl.back (fun _ k => st235 _ k) ?_
        show Gl _ _ _ _ _ _ _ (T235.setTop (mkF m 119 #[.val (.int x0), .val (.int x1), .val (.int x2), .val (.int x3), .val (.int x4), .val (.int ((x0 &&& (2147483647 : Int32)) % (7 : Int32))), .val (.int ca), .val (.int cb), .val (.int (0 : Int32)), .val (.ref b224), .val (.ref b228), .val (.int (((x4.toUInt32 >>> ((1 : Int32) &&& 31).toUInt32).toInt32) &&& (3 : Int32))), .val (.int sym), .unset, .unset] [(.ref wk235), (.ref b232), (.ref b232)]))
        refine Gl.back (fun _ k => XS.aload X235.here hx rfl (hb hby at_119) rfl rfl k) ?_
        show Gl _ _ _ _ _ _ _ (T235.setTop (mkF m 121 #[.val (.int x0), .val (.int x1), .val (.int x2), .val (.int x3), .val (.int x4), .val (.int ((x0 &&& (2147483647 : Int32)) % (7 : Int32))), .val (.int ca), .val (.int cb), .val (.int (0 : Int32)), .val (.ref b224), .val (.ref b228), .val (.int (((x4.toUInt32 >>> ((1 : Int32) &&& 31).toUInt32).toInt32) &&& (3 : Int32))), .val (.int sym), .unset, .unset] [(.ref b228), (.ref wk235), (.ref b232), (.ref b232)]))
        refine Gl.back (fun _ k => XS.iconst X235.here hx rfl (hb hby at_121) k) ?_
        show Gl _ _ _ _ _ _ _ (T235.setTop (mkF m 122 #[.val (.int x0), .val (.int x1), .val (.int x2), .val (.int x3), .val (.int x4), .val (.int ((x0 &&& (2147483647 : Int32)) % (7 : Int32))), .val (.int ca), .val (.int cb), .val (.int (0 : Int32)), .val (.ref b224), .val (.ref b228), .val (.int (((x4.toUInt32 >>> ((1 : Int32) &&& 31).toUInt32).toInt32) &&& (3 : Int32))), .val (.int sym), .unset, .unset] [(.int (0 : Int32)), (.ref b228), (.ref wk235), (.ref b232), (.ref b232)]))
        refine Gl.back (fun _ k => XS.aload X235.here hx rfl (hb hby at_122) rfl rfl k) ?_
        show Gl _ _ _ _ _ _ _ (T235.setTop (mkF m 124 #[.val (.int x0), .val (.int x1), .val (.int x2), .val (.int x3), .val (.int x4), .val (.int ((x0 &&& (2147483647 : Int32)) % (7 : Int32))), .val (.int ca), .val (.int cb), .val (.int (0 : Int32)), .val (.ref b224), .val (.ref b228), .val (.int (((x4.toUInt32 >>> ((1 : Int32) &&& 31).toUInt32).toInt32) &&& (3 : Int32))), .val (.int sym), .unset, .unset] [(.ref b224), (.int (0 : Int32)), (.ref b228), (.ref wk235), (.ref b232), (.ref b232)]))
        have f236 := (f233.ext E232)
        obtain ⟨cl237, Ar237, -, Sz237, Nn237, -, -⟩ := id f236
        refine Gl.back (fun _ k => X235.arraylength hx (by rw [eh235]; exact Ar237.1) (State.isArrayOf_alike hZ.alike Ar237.2.1) (g := (mkF m 124 #[.val (.int x0), .val (.int x1), .val (.int x2), .val (.int x3), .val (.int x4), .val (.int ((x0 &&& (2147483647 : Int32)) % (7 : Int32))), .val (.int ca), .val (.int cb), .val (.int (0 : Int32)), .val (.ref b224), .val (.ref b228), .val (.int (((x4.toUInt32 >>> ((1 : Int32) &&& 31).toUInt32).toInt32) &&& (3 : Int32))), .val (.int sym), .unset, .unset] [(.ref b224), (.int (0 : Int32)), (.ref b228), (.ref wk235), (.ref b232), (.ref b232)])) rfl rfl (hb hby at_124) _ k) ?_
        rw [len_of Sz237 Nn237]
        show Gl _ _ _ _ _ _ _ (T235.setTop (mkF m 125 #[.val (.int x0), .val (.int x1), .val (.int x2), .val (.int x3), .val (.int x4), .val (.int ((x0 &&& (2147483647 : Int32)) % (7 : Int32))), .val (.int ca), .val (.int cb), .val (.int (0 : Int32)), .val (.ref b224), .val (.ref b228), .val (.int (((x4.toUInt32 >>> ((1 : Int32) &&& 31).toUInt32).toInt32) &&& (3 : Int32))), .val (.int sym), .unset, .unset] [(.int (1 : Int32)), (.int (0 : Int32)), (.ref b228), (.ref wk235), (.ref b232), (.ref b232)]))
        refine Gl.back (fun _ k => XS.iconst X235.here hx rfl (hb hby at_125) k) ?_
        show Gl _ _ _ _ _ _ _ (T235.setTop (mkF m 126 #[.val (.int x0), .val (.int x1), .val (.int x2), .val (.int x3), .val (.int x4), .val (.int ((x0 &&& (2147483647 : Int32)) % (7 : Int32))), .val (.int ca), .val (.int cb), .val (.int (0 : Int32)), .val (.ref b224), .val (.ref b228), .val (.int (((x4.toUInt32 >>> ((1 : Int32) &&& 31).toUInt32).toInt32) &&& (3 : Int32))), .val (.int sym), .unset, .unset] [(.int (1 : Int32)), (.int (1 : Int32)), (.int (0 : Int32)), (.ref b228), (.ref wk235), (.ref b232), (.ref b232)]))
        obtain ⟨_, _, ⟨T238, L238, k238, n238⟩, -, X238, ⟨Lc238, hQ238, l238, y238, z238⟩, st238⟩ := X235.specialBack hx (y := (⟨"com/example/partition_planner/partitionplanner/CqlLexer$Token", "<init>", "(Lcom/example/partition_planner/partitionplanner/CqlLexer$Kind;Ljava/lang/String;III)V"⟩ : MethodName)) rfl hown (mvT hZ (hw _ (List.mem_of_getElem? (i := 41) rfl))) (mvT hZ (hw _ (List.mem_of_getElem? (i := 42) rfl))) (mvT hZ (hw _ (List.mem_of_getElem? (i := 43) rfl))) (by decide) (backOf (W := 1) (rmtok l Z a0 hw [] b232 wk235 b228 (0 : Int32) (1 : Int32) (1 : Int32)  h232 n0 Z232 g_b232 A232 F232_kind F232_value F232_start F232_end F232_line) hZ (hw _ (List.mem_of_getElem? (i := 43) rfl)) (hw _ (List.mem_of_getElem? (i := 33) rfl)) (by decide) (by decide)) (g := (mkF m 126 #[.val (.int x0), .val (.int x1), .val (.int x2), .val (.int x3), .val (.int x4), .val (.int ((x0 &&& (2147483647 : Int32)) % (7 : Int32))), .val (.int ca), .val (.int cb), .val (.int (0 : Int32)), .val (.ref b224), .val (.ref b228), .val (.int (((x4.toUInt32 >>> ((1 : Int32) &&& 31).toUInt32).toInt32) &&& (3 : Int32))), .val (.int sym), .unset, .unset] [(.int (1 : Int32)), (.int (1 : Int32)), (.int (0 : Int32)), (.ref b228), (.ref wk235), (.ref b232), (.ref b232)])) rfl (by rw [hml]; rfl) (Steps.refl _) (a := b232) (argsL := [(.ref wk235), (.ref b228), (.int (0 : Int32)), (.int (1 : Int32)), (.int (1 : Int32))]) (rest := [(.ref b232)]) (lenOf pd__Lcom_example_partition_planner_partitionplanner_CqlLexer_Kind_Ljava_lang_String_III_V rfl) rfl (by show 2 * 0 + _ ≤ _; exact Nat.le_of_eq rfl) (hb hby at_126) (fun _ _ => ⟨rfl, eh235, (by decide : 5 + 0 ≤ _), (by decide : 13 + 0 ≤ _)⟩)
        dsimp only [Pt.U, Pt.locs, Pt.cells, Pt.slots] at X238 l238 y238 z238 st238 hQ238
        replace l238 := Eq.symm l238
        replace y238 := Eq.symm y238
        replace z238 := Eq.symm z238
        subst l238 y238 z238
        obtain ⟨Nq238, rfl, Kq238, Fk238, Fv238⟩ := hQ238
        have N238 := Fr.app N235 Nq238
        have Kc238 := Keep.trans K232 Kq238 (allS (Or.inr sz_b232) all0)
        have Zc238 : n0 ≤ T238.heap.size := Nat.le_trans Z232 Kq238.1
        have Oc238 := Old.keep O232 Kq238 (allS g_b232 all0)
        refine Gl.back (fun _ k => st238.trans k) ?_
        show Gl _ _ _ _ _ _ _ (T238.setTop (mkF m 129 #[.val (.int x0), .val (.int x1), .val (.int x2), .val (.int x3), .val (.int x4), .val (.int ((x0 &&& (2147483647 : Int32)) % (7 : Int32))), .val (.int ca), .val (.int cb), .val (.int (0 : Int32)), .val (.ref b224), .val (.ref b228), .val (.int (((x4.toUInt32 >>> ((1 : Int32) &&& 31).toUInt32).toInt32) &&& (3 : Int32))), .val (.int sym), .unset, .unset] [(.ref b232)]))
        refine Gl.back (fun _ k => XS.astore X238.here hx rfl (hb hby at_129) rfl rfl (l' := #[.val (.int x0), .val (.int x1), .val (.int x2), .val (.int x3), .val (.int x4), .val (.int ((x0 &&& (2147483647 : Int32)) % (7 : Int32))), .val (.int ca), .val (.int cb), .val (.int (0 : Int32)), .val (.ref b224), .val (.ref b228), .val (.int (((x4.toUInt32 >>> ((1 : Int32) &&& 31).toUInt32).toInt32) &&& (3 : Int32))), .val (.int sym), .val (.ref b232), .unset]) rfl k) ?_
        show Gl _ _ _ _ _ _ _ (T238.setTop (mkF m 131 #[.val (.int x0), .val (.int x1), .val (.int x2), .val (.int x3), .val (.int x4), .val (.int ((x0 &&& (2147483647 : Int32)) % (7 : Int32))), .val (.int ca), .val (.int cb), .val (.int (0 : Int32)), .val (.ref b224), .val (.ref b228), .val (.int (((x4.toUInt32 >>> ((1 : Int32) &&& 31).toUInt32).toInt32) &&& (3 : Int32))), .val (.int sym), .val (.ref b232), .unset] []))
        refine Gl.back (fun _ k => XS.iload X238.here hx rfl (hb hby at_131) rfl k) ?_
        show Gl _ _ _ _ _ _ _ (T238.setTop (mkF m 133 #[.val (.int x0), .val (.int x1), .val (.int x2), .val (.int x3), .val (.int x4), .val (.int ((x0 &&& (2147483647 : Int32)) % (7 : Int32))), .val (.int ca), .val (.int cb), .val (.int (0 : Int32)), .val (.ref b224), .val (.ref b228), .val (.int (((x4.toUInt32 >>> ((1 : Int32) &&& 31).toUInt32).toInt32) &&& (3 : Int32))), .val (.int sym), .val (.ref b232), .unset] [(.int ((x0 &&& (2147483647 : Int32)) % (7 : Int32)))]))
        refine Gl.back (fun _ k => XS.iconst X238.here hx rfl (hb hby at_133) k) ?_
        show Gl _ _ _ _ _ _ _ (T238.setTop (mkF m 134 #[.val (.int x0), .val (.int x1), .val (.int x2), .val (.int x3), .val (.int x4), .val (.int ((x0 &&& (2147483647 : Int32)) % (7 : Int32))), .val (.int ca), .val (.int cb), .val (.int (0 : Int32)), .val (.ref b224), .val (.ref b228), .val (.int (((x4.toUInt32 >>> ((1 : Int32) &&& 31).toUInt32).toInt32) &&& (3 : Int32))), .val (.int sym), .val (.ref b232), .unset] [(.int (5 : Int32)), (.int ((x0 &&& (2147483647 : Int32)) % (7 : Int32)))]))
        by_cases hc134_239 : ((x0 &&& (2147483647 : Int32)) % (7 : Int32)) = (5 : Int32)
        · refine Gl.back (fun _ k => XS.icmpNo X238.here hx rfl (hb hby at_134) rfl (teq hc134_239).2 k) ?_
          show Gl _ _ _ _ _ _ _ (T238.setTop (mkF m 137 #[.val (.int x0), .val (.int x1), .val (.int x2), .val (.int x3), .val (.int x4), .val (.int ((x0 &&& (2147483647 : Int32)) % (7 : Int32))), .val (.int ca), .val (.int cb), .val (.int (0 : Int32)), .val (.ref b224), .val (.ref b228), .val (.int (((x4.toUInt32 >>> ((1 : Int32) &&& 31).toUInt32).toInt32) &&& (3 : Int32))), .val (.int sym), .val (.ref b232), .unset] []))
          refine Gl.back (fun _ k => XS.iload X238.here hx rfl (hb hby at_137) rfl k) ?_
          show Gl _ _ _ _ _ _ _ (T238.setTop (mkF m 139 #[.val (.int x0), .val (.int x1), .val (.int x2), .val (.int x3), .val (.int x4), .val (.int ((x0 &&& (2147483647 : Int32)) % (7 : Int32))), .val (.int ca), .val (.int cb), .val (.int (0 : Int32)), .val (.ref b224), .val (.ref b228), .val (.int (((x4.toUInt32 >>> ((1 : Int32) &&& 31).toUInt32).toInt32) &&& (3 : Int32))), .val (.int sym), .val (.ref b232), .unset] [(.int ca)]))
          refine Gl.back (fun _ k => XS.iload X238.here hx rfl (hb hby at_139) rfl k) ?_
          show Gl _ _ _ _ _ _ _ (T238.setTop (mkF m 141 #[.val (.int x0), .val (.int x1), .val (.int x2), .val (.int x3), .val (.int x4), .val (.int ((x0 &&& (2147483647 : Int32)) % (7 : Int32))), .val (.int ca), .val (.int cb), .val (.int (0 : Int32)), .val (.ref b224), .val (.ref b228), .val (.int (((x4.toUInt32 >>> ((1 : Int32) &&& 31).toUInt32).toInt32) &&& (3 : Int32))), .val (.int sym), .val (.ref b232), .unset] [(.int sym), (.int ca)]))
          by_cases hc141_240 : ca = sym
          · refine Gl.back (fun _ k => XS.icmpNo X238.here hx rfl (hb hby at_141) rfl (teq hc141_240).2 k) ?_
            show Gl _ _ _ _ _ _ _ (T238.setTop (mkF m 144 #[.val (.int x0), .val (.int x1), .val (.int x2), .val (.int x3), .val (.int x4), .val (.int ((x0 &&& (2147483647 : Int32)) % (7 : Int32))), .val (.int ca), .val (.int cb), .val (.int (0 : Int32)), .val (.ref b224), .val (.ref b228), .val (.int (((x4.toUInt32 >>> ((1 : Int32) &&& 31).toUInt32).toInt32) &&& (3 : Int32))), .val (.int sym), .val (.ref b232), .unset] []))
            refine Gl.back (fun _ k => XS.iconst X238.here hx rfl (hb hby at_144) k) ?_
            show Gl _ _ _ _ _ _ _ (T238.setTop (mkF m 145 #[.val (.int x0), .val (.int x1), .val (.int x2), .val (.int x3), .val (.int x4), .val (.int ((x0 &&& (2147483647 : Int32)) % (7 : Int32))), .val (.int ca), .val (.int cb), .val (.int (0 : Int32)), .val (.ref b224), .val (.ref b228), .val (.int (((x4.toUInt32 >>> ((1 : Int32) &&& 31).toUInt32).toInt32) &&& (3 : Int32))), .val (.int sym), .val (.ref b232), .unset] [(.int (1 : Int32))]))
            refine Gl.back (fun _ k => XS.goto X238.here hx rfl (pc0 := 145) (pc' := 149) rfl (hb hby at_145) (by decide) (by decide) k) ?_
            show Gl _ _ _ _ _ _ _ (T238.setTop (mkF m 149 #[.val (.int x0), .val (.int x1), .val (.int x2), .val (.int x3), .val (.int x4), .val (.int ((x0 &&& (2147483647 : Int32)) % (7 : Int32))), .val (.int ca), .val (.int cb), .val (.int (0 : Int32)), .val (.ref b224), .val (.ref b228), .val (.int (((x4.toUInt32 >>> ((1 : Int32) &&& 31).toUInt32).toInt32) &&& (3 : Int32))), .val (.int sym), .val (.ref b232), .unset] [(.int (1 : Int32))]))
            refine Gl.back (fun _ k => XS.istore X238.here hx rfl (hb hby at_149) rfl (l' := #[.val (.int x0), .val (.int x1), .val (.int x2), .val (.int x3), .val (.int x4), .val (.int ((x0 &&& (2147483647 : Int32)) % (7 : Int32))), .val (.int ca), .val (.int cb), .val (.int (0 : Int32)), .val (.ref b224), .val (.ref b228), .val (.int (((x4.toUInt32 >>> ((1 : Int32) &&& 31).toUInt32).toInt32) &&& (3 : Int32))), .val (.int sym), .val (.ref b232), .val (.int (1 : Int32))]) rfl k) ?_
            show Gl _ _ _ _ _ _ _ (T238.setTop (mkF m 151 #[.val (.int x0), .val (.int x1), .val (.int x2), .val (.int x3), .val (.int x4), .val (.int ((x0 &&& (2147483647 : Int32)) % (7 : Int32))), .val (.int ca), .val (.int cb), .val (.int (0 : Int32)), .val (.ref b224), .val (.ref b228), .val (.int (((x4.toUInt32 >>> ((1 : Int32) &&& 31).toUInt32).toInt32) &&& (3 : Int32))), .val (.int sym), .val (.ref b232), .val (.int (1 : Int32))] []))
            refine Gl.back (fun _ k => XS.aload X238.here hx rfl (hb hby at_151) rfl rfl k) ?_
            show Gl _ _ _ _ _ _ _ (T238.setTop (mkF m 153 #[.val (.int x0), .val (.int x1), .val (.int x2), .val (.int x3), .val (.int x4), .val (.int ((x0 &&& (2147483647 : Int32)) % (7 : Int32))), .val (.int ca), .val (.int cb), .val (.int (0 : Int32)), .val (.ref b224), .val (.ref b228), .val (.int (((x4.toUInt32 >>> ((1 : Int32) &&& 31).toUInt32).toInt32) &&& (3 : Int32))), .val (.int sym), .val (.ref b232), .val (.int (1 : Int32))] [(.ref b232)]))
            refine Gl.back (fun _ k => XS.iload X238.here hx rfl (hb hby at_153) rfl k) ?_
            show Gl _ _ _ _ _ _ _ (T238.setTop (mkF m 155 #[.val (.int x0), .val (.int x1), .val (.int x2), .val (.int x3), .val (.int x4), .val (.int ((x0 &&& (2147483647 : Int32)) % (7 : Int32))), .val (.int ca), .val (.int cb), .val (.int (0 : Int32)), .val (.ref b224), .val (.ref b228), .val (.int (((x4.toUInt32 >>> ((1 : Int32) &&& 31).toUInt32).toInt32) &&& (3 : Int32))), .val (.int sym), .val (.ref b232), .val (.int (1 : Int32))] [(.int sym), (.ref b232)]))
            have hks := hk1235 hc134_239
            have f242 := ((f234.ext E232).keep Kq238)
            have f243 := ((Fc230.ext E232).keep Kq238 (ninS ne_b228_b232 nin0))
            have f244 := ((Fv230.ext E232).keep Kq238 (ninS ne_b228_b232 nin0))
            have f245 := ((V230.ext E232).keep Kq238 (ninS ne_t230_b232 nin0))
            have f246 := (A232.keep Kq238)
            obtain ⟨cq241, kq241, q241a, q241b, q241c⟩ := isOf hZ rfl f246
            obtain ⟨_, _, ⟨T241, L241, k241, n241⟩, -, X241, ⟨Lc241, hQ241, l241, y241, z241⟩, st241⟩ := X238.virtualBack hx (y := (⟨"com/example/partition_planner/partitionplanner/CqlLexer$Token", "isSymbol", "(C)Z"⟩ : MethodName)) (z := (⟨"com/example/partition_planner/partitionplanner/CqlLexer$Token", "isSymbol", "(C)Z"⟩ : MethodName)) hown (mvT hZ (hw _ (List.mem_of_getElem? (i := 60) rfl))) (mvT hZ (hw _ (List.mem_of_getElem? (i := 61) rfl))) (notFace_of_selects (args := #[]) (mvT hZ (hw _ (List.mem_of_getElem? (i := 63) rfl)))) (mvT hZ (hw _ (List.mem_of_getElem? (i := 63) rfl))) (mvT hZ (hw _ (List.mem_of_getElem? (i := 62) rfl))) (by decide) (backOf (W := 0) (rmsymU_1 l Z a0 hw [] b232 sym b228 t230 w_SYMBOL k0230 (own_b0 ca) (own_b1 ca) zc fm T238.heap n0 Zc238 Oc238 S_AD S_HI S_LO S_C P0 S_F hfm S_SYMBOL (hks ▸ Fk238) Fv238 f242 f243 f244 f245) hZ (hw _ (List.mem_of_getElem? (i := 64) rfl)) (hw _ (List.mem_of_getElem? (i := 33) rfl)) (by decide) (by decide)) q241a q241c (g := (mkF m 155 #[.val (.int x0), .val (.int x1), .val (.int x2), .val (.int x3), .val (.int x4), .val (.int ((x0 &&& (2147483647 : Int32)) % (7 : Int32))), .val (.int ca), .val (.int cb), .val (.int (0 : Int32)), .val (.ref b224), .val (.ref b228), .val (.int (((x4.toUInt32 >>> ((1 : Int32) &&& 31).toUInt32).toInt32) &&& (3 : Int32))), .val (.int sym), .val (.ref b232), .val (.int (1 : Int32))] [(.int sym), (.ref b232)])) rfl (by rw [hml]; rfl) (Steps.refl _) (argsL := [(.int sym)]) (rest := []) (lenOf pd__C_Z rfl) rfl (by show 2 * 0 + _ ≤ _; exact Nat.le_of_eq rfl) (hb hby at_155) (fun _ _ => ⟨rfl, rfl, (by decide : 5 + 0 ≤ _), (by decide : 13 + 0 ≤ _)⟩)
            dsimp only [Pt.U, Pt.locs, Pt.cells, Pt.slots] at X241 l241 y241 z241 st241 hQ241
            replace l241 := Eq.symm l241
            replace y241 := Eq.symm y241
            replace z241 := Eq.symm z241
            subst l241 y241 z241
            obtain ⟨Nq241, hQ241⟩ := hQ241
            rcases hQ241 with ⟨rfl, eh241, hy241⟩ | ⟨rfl, eh241, hy241⟩
            · have N241 := Fr.app N238 Nq241
              refine Gl.back (fun _ k => st241.trans k) ?_
              show Gl _ _ _ _ _ _ _ (T241.setTop (mkF m 158 #[.val (.int x0), .val (.int x1), .val (.int x2), .val (.int x3), .val (.int x4), .val (.int ((x0 &&& (2147483647 : Int32)) % (7 : Int32))), .val (.int ca), .val (.int cb), .val (.int (0 : Int32)), .val (.ref b224), .val (.ref b228), .val (.int (((x4.toUInt32 >>> ((1 : Int32) &&& 31).toUInt32).toInt32) &&& (3 : Int32))), .val (.int sym), .val (.ref b232), .val (.int (1 : Int32))] [(.int (1 : Int32))]))
              refine Gl.back (fun _ k => XS.iload X241.here hx rfl (hb hby at_158) rfl k) ?_
              show Gl _ _ _ _ _ _ _ (T241.setTop (mkF m 160 #[.val (.int x0), .val (.int x1), .val (.int x2), .val (.int x3), .val (.int x4), .val (.int ((x0 &&& (2147483647 : Int32)) % (7 : Int32))), .val (.int ca), .val (.int cb), .val (.int (0 : Int32)), .val (.ref b224), .val (.ref b228), .val (.int (((x4.toUInt32 >>> ((1 : Int32) &&& 31).toUInt32).toInt32) &&& (3 : Int32))), .val (.int sym), .val (.ref b232), .val (.int (1 : Int32))] [(.int (1 : Int32)), (.int (1 : Int32))]))
              refine Gl.back (fun _ k => XS.icmpNo X241.here hx rfl (hb hby at_160) rfl (teq (rfl : (1 : Int32) = (1 : Int32))).2 k) ?_
              show Gl _ _ _ _ _ _ _ (T241.setTop (mkF m 163 #[.val (.int x0), .val (.int x1), .val (.int x2), .val (.int x3), .val (.int x4), .val (.int ((x0 &&& (2147483647 : Int32)) % (7 : Int32))), .val (.int ca), .val (.int cb), .val (.int (0 : Int32)), .val (.ref b224), .val (.ref b228), .val (.int (((x4.toUInt32 >>> ((1 : Int32) &&& 31).toUInt32).toInt32) &&& (3 : Int32))), .val (.int sym), .val (.ref b232), .val (.int (1 : Int32))] []))
              refine Gl.back (fun _ k => XS.iconst X241.here hx rfl (hb hby at_163) k) ?_
              show Gl _ _ _ _ _ _ _ (T241.setTop (mkF m 164 #[.val (.int x0), .val (.int x1), .val (.int x2), .val (.int x3), .val (.int x4), .val (.int ((x0 &&& (2147483647 : Int32)) % (7 : Int32))), .val (.int ca), .val (.int cb), .val (.int (0 : Int32)), .val (.ref b224), .val (.ref b228), .val (.int (((x4.toUInt32 >>> ((1 : Int32) &&& 31).toUInt32).toInt32) &&& (3 : Int32))), .val (.int sym), .val (.ref b232), .val (.int (1 : Int32))] [(.int (1 : Int32))]))
              refine Gl.back (fun _ k => XS.goto X241.here hx rfl (pc0 := 164) (pc' := 168) rfl (hb hby at_164) (by decide) (by decide) k) ?_
              show Gl _ _ _ _ _ _ _ (T241.setTop (mkF m 168 #[.val (.int x0), .val (.int x1), .val (.int x2), .val (.int x3), .val (.int x4), .val (.int ((x0 &&& (2147483647 : Int32)) % (7 : Int32))), .val (.int ca), .val (.int cb), .val (.int (0 : Int32)), .val (.ref b224), .val (.ref b228), .val (.int (((x4.toUInt32 >>> ((1 : Int32) &&& 31).toUInt32).toInt32) &&& (3 : Int32))), .val (.int sym), .val (.ref b232), .val (.int (1 : Int32))] [(.int (1 : Int32))]))
              exact Gl.ret X241 eh241 (v := (some (.int (1 : Int32)))) (fun h => by rw [Bd.returns] at h; cases h) Bd.notSynchronized (fun fs hr => retN X241 hx (t := .boolean) (z := (1 : Int32)) Bd.returns (by simp) (hb hby at_168) hr) ⟨N241, rfl⟩ (by decide) (by decide)
            · have N241 := Fr.app N238 Nq241
              refine Gl.back (fun _ k => st241.trans k) ?_
              show Gl _ _ _ _ _ _ _ (T241.setTop (mkF m 158 #[.val (.int x0), .val (.int x1), .val (.int x2), .val (.int x3), .val (.int x4), .val (.int ((x0 &&& (2147483647 : Int32)) % (7 : Int32))), .val (.int ca), .val (.int cb), .val (.int (0 : Int32)), .val (.ref b224), .val (.ref b228), .val (.int (((x4.toUInt32 >>> ((1 : Int32) &&& 31).toUInt32).toInt32) &&& (3 : Int32))), .val (.int sym), .val (.ref b232), .val (.int (1 : Int32))] [(.int (0 : Int32))]))
              refine Gl.back (fun _ k => XS.iload X241.here hx rfl (hb hby at_158) rfl k) ?_
              show Gl _ _ _ _ _ _ _ (T241.setTop (mkF m 160 #[.val (.int x0), .val (.int x1), .val (.int x2), .val (.int x3), .val (.int x4), .val (.int ((x0 &&& (2147483647 : Int32)) % (7 : Int32))), .val (.int ca), .val (.int cb), .val (.int (0 : Int32)), .val (.ref b224), .val (.ref b228), .val (.int (((x4.toUInt32 >>> ((1 : Int32) &&& 31).toUInt32).toInt32) &&& (3 : Int32))), .val (.int sym), .val (.ref b232), .val (.int (1 : Int32))] [(.int (1 : Int32)), (.int (0 : Int32))]))
              refine Gl.back (fun _ k => XS.icmpNo X241.here hx rfl (hb hby at_160) rfl (teq (absurd hc141_240 ((own_gc2 hcar) ▸ hy241) : (0 : Int32) = (1 : Int32))).2 k) ?_
              show Gl _ _ _ _ _ _ _ (T241.setTop (mkF m 163 #[.val (.int x0), .val (.int x1), .val (.int x2), .val (.int x3), .val (.int x4), .val (.int ((x0 &&& (2147483647 : Int32)) % (7 : Int32))), .val (.int ca), .val (.int cb), .val (.int (0 : Int32)), .val (.ref b224), .val (.ref b228), .val (.int (((x4.toUInt32 >>> ((1 : Int32) &&& 31).toUInt32).toInt32) &&& (3 : Int32))), .val (.int sym), .val (.ref b232), .val (.int (1 : Int32))] []))
              refine Gl.back (fun _ k => XS.iconst X241.here hx rfl (hb hby at_163) k) ?_
              show Gl _ _ _ _ _ _ _ (T241.setTop (mkF m 164 #[.val (.int x0), .val (.int x1), .val (.int x2), .val (.int x3), .val (.int x4), .val (.int ((x0 &&& (2147483647 : Int32)) % (7 : Int32))), .val (.int ca), .val (.int cb), .val (.int (0 : Int32)), .val (.ref b224), .val (.ref b228), .val (.int (((x4.toUInt32 >>> ((1 : Int32) &&& 31).toUInt32).toInt32) &&& (3 : Int32))), .val (.int sym), .val (.ref b232), .val (.int (1 : Int32))] [(.int (1 : Int32))]))
              refine Gl.back (fun _ k => XS.goto X241.here hx rfl (pc0 := 164) (pc' := 168) rfl (hb hby at_164) (by decide) (by decide) k) ?_
              show Gl _ _ _ _ _ _ _ (T241.setTop (mkF m 168 #[.val (.int x0), .val (.int x1), .val (.int x2), .val (.int x3), .val (.int x4), .val (.int ((x0 &&& (2147483647 : Int32)) % (7 : Int32))), .val (.int ca), .val (.int cb), .val (.int (0 : Int32)), .val (.ref b224), .val (.ref b228), .val (.int (((x4.toUInt32 >>> ((1 : Int32) &&& 31).toUInt32).toInt32) &&& (3 : Int32))), .val (.int sym), .val (.ref b232), .val (.int (1 : Int32))] [(.int (1 : Int32))]))
              exact Gl.ret X241 eh241 (v := (some (.int (1 : Int32)))) (fun h => by rw [Bd.returns] at h; cases h) Bd.notSynchronized (fun fs hr => retN X241 hx (t := .boolean) (z := (1 : Int32)) Bd.returns (by simp) (hb hby at_168) hr) ⟨N241, rfl⟩ (by decide) (by decide)
          · refine Gl.back (fun _ k => XS.icmpYes X238.here hx rfl (pc0 := 141) (pc' := 148) rfl (hb hby at_141) rfl (feq hc141_240).2 (by decide) (by decide) k) ?_
            show Gl _ _ _ _ _ _ _ (T238.setTop (mkF m 148 #[.val (.int x0), .val (.int x1), .val (.int x2), .val (.int x3), .val (.int x4), .val (.int ((x0 &&& (2147483647 : Int32)) % (7 : Int32))), .val (.int ca), .val (.int cb), .val (.int (0 : Int32)), .val (.ref b224), .val (.ref b228), .val (.int (((x4.toUInt32 >>> ((1 : Int32) &&& 31).toUInt32).toInt32) &&& (3 : Int32))), .val (.int sym), .val (.ref b232), .unset] []))
            refine Gl.back (fun _ k => XS.iconst X238.here hx rfl (hb hby at_148) k) ?_
            show Gl _ _ _ _ _ _ _ (T238.setTop (mkF m 149 #[.val (.int x0), .val (.int x1), .val (.int x2), .val (.int x3), .val (.int x4), .val (.int ((x0 &&& (2147483647 : Int32)) % (7 : Int32))), .val (.int ca), .val (.int cb), .val (.int (0 : Int32)), .val (.ref b224), .val (.ref b228), .val (.int (((x4.toUInt32 >>> ((1 : Int32) &&& 31).toUInt32).toInt32) &&& (3 : Int32))), .val (.int sym), .val (.ref b232), .unset] [(.int (0 : Int32))]))
            refine Gl.back (fun _ k => XS.istore X238.here hx rfl (hb hby at_149) rfl (l' := #[.val (.int x0), .val (.int x1), .val (.int x2), .val (.int x3), .val (.int x4), .val (.int ((x0 &&& (2147483647 : Int32)) % (7 : Int32))), .val (.int ca), .val (.int cb), .val (.int (0 : Int32)), .val (.ref b224), .val (.ref b228), .val (.int (((x4.toUInt32 >>> ((1 : Int32) &&& 31).toUInt32).toInt32) &&& (3 : Int32))), .val (.int sym), .val (.ref b232), .val (.int (0 : Int32))]) rfl k) ?_
            show Gl _ _ _ _ _ _ _ (T238.setTop (mkF m 151 #[.val (.int x0), .val (.int x1), .val (.int x2), .val (.int x3), .val (.int x4), .val (.int ((x0 &&& (2147483647 : Int32)) % (7 : Int32))), .val (.int ca), .val (.int cb), .val (.int (0 : Int32)), .val (.ref b224), .val (.ref b228), .val (.int (((x4.toUInt32 >>> ((1 : Int32) &&& 31).toUInt32).toInt32) &&& (3 : Int32))), .val (.int sym), .val (.ref b232), .val (.int (0 : Int32))] []))
            refine Gl.back (fun _ k => XS.aload X238.here hx rfl (hb hby at_151) rfl rfl k) ?_
            show Gl _ _ _ _ _ _ _ (T238.setTop (mkF m 153 #[.val (.int x0), .val (.int x1), .val (.int x2), .val (.int x3), .val (.int x4), .val (.int ((x0 &&& (2147483647 : Int32)) % (7 : Int32))), .val (.int ca), .val (.int cb), .val (.int (0 : Int32)), .val (.ref b224), .val (.ref b228), .val (.int (((x4.toUInt32 >>> ((1 : Int32) &&& 31).toUInt32).toInt32) &&& (3 : Int32))), .val (.int sym), .val (.ref b232), .val (.int (0 : Int32))] [(.ref b232)]))
            refine Gl.back (fun _ k => XS.iload X238.here hx rfl (hb hby at_153) rfl k) ?_
            show Gl _ _ _ _ _ _ _ (T238.setTop (mkF m 155 #[.val (.int x0), .val (.int x1), .val (.int x2), .val (.int x3), .val (.int x4), .val (.int ((x0 &&& (2147483647 : Int32)) % (7 : Int32))), .val (.int ca), .val (.int cb), .val (.int (0 : Int32)), .val (.ref b224), .val (.ref b228), .val (.int (((x4.toUInt32 >>> ((1 : Int32) &&& 31).toUInt32).toInt32) &&& (3 : Int32))), .val (.int sym), .val (.ref b232), .val (.int (0 : Int32))] [(.int sym), (.ref b232)]))
            have hks := hk1235 hc134_239
            have f248 := ((f234.ext E232).keep Kq238)
            have f249 := ((Fc230.ext E232).keep Kq238 (ninS ne_b228_b232 nin0))
            have f250 := ((Fv230.ext E232).keep Kq238 (ninS ne_b228_b232 nin0))
            have f251 := ((V230.ext E232).keep Kq238 (ninS ne_t230_b232 nin0))
            have f252 := (A232.keep Kq238)
            obtain ⟨cq247, kq247, q247a, q247b, q247c⟩ := isOf hZ rfl f252
            obtain ⟨_, _, ⟨T247, L247, k247, n247⟩, -, X247, ⟨Lc247, hQ247, l247, y247, z247⟩, st247⟩ := X238.virtualBack hx (y := (⟨"com/example/partition_planner/partitionplanner/CqlLexer$Token", "isSymbol", "(C)Z"⟩ : MethodName)) (z := (⟨"com/example/partition_planner/partitionplanner/CqlLexer$Token", "isSymbol", "(C)Z"⟩ : MethodName)) hown (mvT hZ (hw _ (List.mem_of_getElem? (i := 60) rfl))) (mvT hZ (hw _ (List.mem_of_getElem? (i := 61) rfl))) (notFace_of_selects (args := #[]) (mvT hZ (hw _ (List.mem_of_getElem? (i := 63) rfl)))) (mvT hZ (hw _ (List.mem_of_getElem? (i := 63) rfl))) (mvT hZ (hw _ (List.mem_of_getElem? (i := 62) rfl))) (by decide) (backOf (W := 0) (rmsymU_1 l Z a0 hw [] b232 sym b228 t230 w_SYMBOL k0230 (own_b0 ca) (own_b1 ca) zc fm T238.heap n0 Zc238 Oc238 S_AD S_HI S_LO S_C P0 S_F hfm S_SYMBOL (hks ▸ Fk238) Fv238 f248 f249 f250 f251) hZ (hw _ (List.mem_of_getElem? (i := 64) rfl)) (hw _ (List.mem_of_getElem? (i := 33) rfl)) (by decide) (by decide)) q247a q247c (g := (mkF m 155 #[.val (.int x0), .val (.int x1), .val (.int x2), .val (.int x3), .val (.int x4), .val (.int ((x0 &&& (2147483647 : Int32)) % (7 : Int32))), .val (.int ca), .val (.int cb), .val (.int (0 : Int32)), .val (.ref b224), .val (.ref b228), .val (.int (((x4.toUInt32 >>> ((1 : Int32) &&& 31).toUInt32).toInt32) &&& (3 : Int32))), .val (.int sym), .val (.ref b232), .val (.int (0 : Int32))] [(.int sym), (.ref b232)])) rfl (by rw [hml]; rfl) (Steps.refl _) (argsL := [(.int sym)]) (rest := []) (lenOf pd__C_Z rfl) rfl (by show 2 * 0 + _ ≤ _; exact Nat.le_of_eq rfl) (hb hby at_155) (fun _ _ => ⟨rfl, rfl, (by decide : 5 + 0 ≤ _), (by decide : 13 + 0 ≤ _)⟩)
            dsimp only [Pt.U, Pt.locs, Pt.cells, Pt.slots] at X247 l247 y247 z247 st247 hQ247
            replace l247 := Eq.symm l247
            replace y247 := Eq.symm y247
            replace z247 := Eq.symm z247
            subst l247 y247 z247
            obtain ⟨Nq247, hQ247⟩ := hQ247
            rcases hQ247 with ⟨rfl, eh247, hy247⟩ | ⟨rfl, eh247, hy247⟩
            · have N247 := Fr.app N238 Nq247
              refine Gl.back (fun _ k => st247.trans k) ?_
              show Gl _ _ _ _ _ _ _ (T247.setTop (mkF m 158 #[.val (.int x0), .val (.int x1), .val (.int x2), .val (.int x3), .val (.int x4), .val (.int ((x0 &&& (2147483647 : Int32)) % (7 : Int32))), .val (.int ca), .val (.int cb), .val (.int (0 : Int32)), .val (.ref b224), .val (.ref b228), .val (.int (((x4.toUInt32 >>> ((1 : Int32) &&& 31).toUInt32).toInt32) &&& (3 : Int32))), .val (.int sym), .val (.ref b232), .val (.int (0 : Int32))] [(.int (1 : Int32))]))
              refine Gl.back (fun _ k => XS.iload X247.here hx rfl (hb hby at_158) rfl k) ?_
              show Gl _ _ _ _ _ _ _ (T247.setTop (mkF m 160 #[.val (.int x0), .val (.int x1), .val (.int x2), .val (.int x3), .val (.int x4), .val (.int ((x0 &&& (2147483647 : Int32)) % (7 : Int32))), .val (.int ca), .val (.int cb), .val (.int (0 : Int32)), .val (.ref b224), .val (.ref b228), .val (.int (((x4.toUInt32 >>> ((1 : Int32) &&& 31).toUInt32).toInt32) &&& (3 : Int32))), .val (.int sym), .val (.ref b232), .val (.int (0 : Int32))] [(.int (0 : Int32)), (.int (1 : Int32))]))
              refine Gl.back (fun _ k => XS.icmpNo X247.here hx rfl (hb hby at_160) rfl (teq (absurd ((own_gc2 hcar) ▸ hy247) hc141_240 : (1 : Int32) = (0 : Int32))).2 k) ?_
              show Gl _ _ _ _ _ _ _ (T247.setTop (mkF m 163 #[.val (.int x0), .val (.int x1), .val (.int x2), .val (.int x3), .val (.int x4), .val (.int ((x0 &&& (2147483647 : Int32)) % (7 : Int32))), .val (.int ca), .val (.int cb), .val (.int (0 : Int32)), .val (.ref b224), .val (.ref b228), .val (.int (((x4.toUInt32 >>> ((1 : Int32) &&& 31).toUInt32).toInt32) &&& (3 : Int32))), .val (.int sym), .val (.ref b232), .val (.int (0 : Int32))] []))
              refine Gl.back (fun _ k => XS.iconst X247.here hx rfl (hb hby at_163) k) ?_
              show Gl _ _ _ _ _ _ _ (T247.setTop (mkF m 164 #[.val (.int x0), .val (.int x1), .val (.int x2), .val (.int x3), .val (.int x4), .val (.int ((x0 &&& (2147483647 : Int32)) % (7 : Int32))), .val (.int ca), .val (.int cb), .val (.int (0 : Int32)), .val (.ref b224), .val (.ref b228), .val (.int (((x4.toUInt32 >>> ((1 : Int32) &&& 31).toUInt32).toInt32) &&& (3 : Int32))), .val (.int sym), .val (.ref b232), .val (.int (0 : Int32))] [(.int (1 : Int32))]))
              refine Gl.back (fun _ k => XS.goto X247.here hx rfl (pc0 := 164) (pc' := 168) rfl (hb hby at_164) (by decide) (by decide) k) ?_
              show Gl _ _ _ _ _ _ _ (T247.setTop (mkF m 168 #[.val (.int x0), .val (.int x1), .val (.int x2), .val (.int x3), .val (.int x4), .val (.int ((x0 &&& (2147483647 : Int32)) % (7 : Int32))), .val (.int ca), .val (.int cb), .val (.int (0 : Int32)), .val (.ref b224), .val (.ref b228), .val (.int (((x4.toUInt32 >>> ((1 : Int32) &&& 31).toUInt32).toInt32) &&& (3 : Int32))), .val (.int sym), .val (.ref b232), .val (.int (0 : Int32))] [(.int (1 : Int32))]))
              exact Gl.ret X247 eh247 (v := (some (.int (1 : Int32)))) (fun h => by rw [Bd.returns] at h; cases h) Bd.notSynchronized (fun fs hr => retN X247 hx (t := .boolean) (z := (1 : Int32)) Bd.returns (by simp) (hb hby at_168) hr) ⟨N247, rfl⟩ (by decide) (by decide)
            · have N247 := Fr.app N238 Nq247
              refine Gl.back (fun _ k => st247.trans k) ?_
              show Gl _ _ _ _ _ _ _ (T247.setTop (mkF m 158 #[.val (.int x0), .val (.int x1), .val (.int x2), .val (.int x3), .val (.int x4), .val (.int ((x0 &&& (2147483647 : Int32)) % (7 : Int32))), .val (.int ca), .val (.int cb), .val (.int (0 : Int32)), .val (.ref b224), .val (.ref b228), .val (.int (((x4.toUInt32 >>> ((1 : Int32) &&& 31).toUInt32).toInt32) &&& (3 : Int32))), .val (.int sym), .val (.ref b232), .val (.int (0 : Int32))] [(.int (0 : Int32))]))
              refine Gl.back (fun _ k => XS.iload X247.here hx rfl (hb hby at_158) rfl k) ?_
              show Gl _ _ _ _ _ _ _ (T247.setTop (mkF m 160 #[.val (.int x0), .val (.int x1), .val (.int x2), .val (.int x3), .val (.int x4), .val (.int ((x0 &&& (2147483647 : Int32)) % (7 : Int32))), .val (.int ca), .val (.int cb), .val (.int (0 : Int32)), .val (.ref b224), .val (.ref b228), .val (.int (((x4.toUInt32 >>> ((1 : Int32) &&& 31).toUInt32).toInt32) &&& (3 : Int32))), .val (.int sym), .val (.ref b232), .val (.int (0 : Int32))] [(.int (0 : Int32)), (.int (0 : Int32))]))
              refine Gl.back (fun _ k => XS.icmpNo X247.here hx rfl (hb hby at_160) rfl (teq (rfl : (0 : Int32) = (0 : Int32))).2 k) ?_
              show Gl _ _ _ _ _ _ _ (T247.setTop (mkF m 163 #[.val (.int x0), .val (.int x1), .val (.int x2), .val (.int x3), .val (.int x4), .val (.int ((x0 &&& (2147483647 : Int32)) % (7 : Int32))), .val (.int ca), .val (.int cb), .val (.int (0 : Int32)), .val (.ref b224), .val (.ref b228), .val (.int (((x4.toUInt32 >>> ((1 : Int32) &&& 31).toUInt32).toInt32) &&& (3 : Int32))), .val (.int sym), .val (.ref b232), .val (.int (0 : Int32))] []))
              refine Gl.back (fun _ k => XS.iconst X247.here hx rfl (hb hby at_163) k) ?_
              show Gl _ _ _ _ _ _ _ (T247.setTop (mkF m 164 #[.val (.int x0), .val (.int x1), .val (.int x2), .val (.int x3), .val (.int x4), .val (.int ((x0 &&& (2147483647 : Int32)) % (7 : Int32))), .val (.int ca), .val (.int cb), .val (.int (0 : Int32)), .val (.ref b224), .val (.ref b228), .val (.int (((x4.toUInt32 >>> ((1 : Int32) &&& 31).toUInt32).toInt32) &&& (3 : Int32))), .val (.int sym), .val (.ref b232), .val (.int (0 : Int32))] [(.int (1 : Int32))]))
              refine Gl.back (fun _ k => XS.goto X247.here hx rfl (pc0 := 164) (pc' := 168) rfl (hb hby at_164) (by decide) (by decide) k) ?_
              show Gl _ _ _ _ _ _ _ (T247.setTop (mkF m 168 #[.val (.int x0), .val (.int x1), .val (.int x2), .val (.int x3), .val (.int x4), .val (.int ((x0 &&& (2147483647 : Int32)) % (7 : Int32))), .val (.int ca), .val (.int cb), .val (.int (0 : Int32)), .val (.ref b224), .val (.ref b228), .val (.int (((x4.toUInt32 >>> ((1 : Int32) &&& 31).toUInt32).toInt32) &&& (3 : Int32))), .val (.int sym), .val (.ref b232), .val (.int (0 : Int32))] [(.int (1 : Int32))]))
              exact Gl.ret X247 eh247 (v := (some (.int (1 : Int32)))) (fun h => by rw [Bd.returns] at h; cases h) Bd.notSynchronized (fun fs hr => retN X247 hx (t := .boolean) (z := (1 : Int32)) Bd.returns (by simp) (hb hby at_168) hr) ⟨N247, rfl⟩ (by decide) (by decide)
        · refine Gl.back (fun _ k => XS.icmpYes X238.here hx rfl (pc0 := 134) (pc' := 148) rfl (hb hby at_134) rfl (feq hc134_239).2 (by decide) (by decide) k) ?_
          show Gl _ _ _ _ _ _ _ (T238.setTop (mkF m 148 #[.val (.int x0), .val (.int x1), .val (.int x2), .val (.int x3), .val (.int x4), .val (.int ((x0 &&& (2147483647 : Int32)) % (7 : Int32))), .val (.int ca), .val (.int cb), .val (.int (0 : Int32)), .val (.ref b224), .val (.ref b228), .val (.int (((x4.toUInt32 >>> ((1 : Int32) &&& 31).toUInt32).toInt32) &&& (3 : Int32))), .val (.int sym), .val (.ref b232), .unset] []))
          refine Gl.back (fun _ k => XS.iconst X238.here hx rfl (hb hby at_148) k) ?_
          show Gl _ _ _ _ _ _ _ (T238.setTop (mkF m 149 #[.val (.int x0), .val (.int x1), .val (.int x2), .val (.int x3), .val (.int x4), .val (.int ((x0 &&& (2147483647 : Int32)) % (7 : Int32))), .val (.int ca), .val (.int cb), .val (.int (0 : Int32)), .val (.ref b224), .val (.ref b228), .val (.int (((x4.toUInt32 >>> ((1 : Int32) &&& 31).toUInt32).toInt32) &&& (3 : Int32))), .val (.int sym), .val (.ref b232), .unset] [(.int (0 : Int32))]))
          refine Gl.back (fun _ k => XS.istore X238.here hx rfl (hb hby at_149) rfl (l' := #[.val (.int x0), .val (.int x1), .val (.int x2), .val (.int x3), .val (.int x4), .val (.int ((x0 &&& (2147483647 : Int32)) % (7 : Int32))), .val (.int ca), .val (.int cb), .val (.int (0 : Int32)), .val (.ref b224), .val (.ref b228), .val (.int (((x4.toUInt32 >>> ((1 : Int32) &&& 31).toUInt32).toInt32) &&& (3 : Int32))), .val (.int sym), .val (.ref b232), .val (.int (0 : Int32))]) rfl k) ?_
          show Gl _ _ _ _ _ _ _ (T238.setTop (mkF m 151 #[.val (.int x0), .val (.int x1), .val (.int x2), .val (.int x3), .val (.int x4), .val (.int ((x0 &&& (2147483647 : Int32)) % (7 : Int32))), .val (.int ca), .val (.int cb), .val (.int (0 : Int32)), .val (.ref b224), .val (.ref b228), .val (.int (((x4.toUInt32 >>> ((1 : Int32) &&& 31).toUInt32).toInt32) &&& (3 : Int32))), .val (.int sym), .val (.ref b232), .val (.int (0 : Int32))] []))
          refine Gl.back (fun _ k => XS.aload X238.here hx rfl (hb hby at_151) rfl rfl k) ?_
          show Gl _ _ _ _ _ _ _ (T238.setTop (mkF m 153 #[.val (.int x0), .val (.int x1), .val (.int x2), .val (.int x3), .val (.int x4), .val (.int ((x0 &&& (2147483647 : Int32)) % (7 : Int32))), .val (.int ca), .val (.int cb), .val (.int (0 : Int32)), .val (.ref b224), .val (.ref b228), .val (.int (((x4.toUInt32 >>> ((1 : Int32) &&& 31).toUInt32).toInt32) &&& (3 : Int32))), .val (.int sym), .val (.ref b232), .val (.int (0 : Int32))] [(.ref b232)]))
          refine Gl.back (fun _ k => XS.iload X238.here hx rfl (hb hby at_153) rfl k) ?_
          show Gl _ _ _ _ _ _ _ (T238.setTop (mkF m 155 #[.val (.int x0), .val (.int x1), .val (.int x2), .val (.int x3), .val (.int x4), .val (.int ((x0 &&& (2147483647 : Int32)) % (7 : Int32))), .val (.int ca), .val (.int cb), .val (.int (0 : Int32)), .val (.ref b224), .val (.ref b228), .val (.int (((x4.toUInt32 >>> ((1 : Int32) &&& 31).toUInt32).toInt32) &&& (3 : Int32))), .val (.int sym), .val (.ref b232), .val (.int (0 : Int32))] [(.int sym), (.ref b232)]))
          have f254 := (A232.keep Kq238)
          obtain ⟨cq253, kq253, q253a, q253b, q253c⟩ := isOf hZ rfl f254
          obtain ⟨_, _, ⟨T253, L253, k253, n253⟩, -, X253, ⟨Lc253, hQ253, l253, y253, z253⟩, st253⟩ := X238.virtualBack hx (y := (⟨"com/example/partition_planner/partitionplanner/CqlLexer$Token", "isSymbol", "(C)Z"⟩ : MethodName)) (z := (⟨"com/example/partition_planner/partitionplanner/CqlLexer$Token", "isSymbol", "(C)Z"⟩ : MethodName)) hown (mvT hZ (hw _ (List.mem_of_getElem? (i := 60) rfl))) (mvT hZ (hw _ (List.mem_of_getElem? (i := 61) rfl))) (notFace_of_selects (args := #[]) (mvT hZ (hw _ (List.mem_of_getElem? (i := 63) rfl)))) (mvT hZ (hw _ (List.mem_of_getElem? (i := 63) rfl))) (mvT hZ (hw _ (List.mem_of_getElem? (i := 62) rfl))) (by decide) (backOf (W := 0) (rmsym0 l Z a0 hw [] b232 sym wk235 w_SYMBOL T238.heap n0 Zc238 Oc238 S_SYMBOL Fk238 (hk2235 hc134_239)) hZ (hw _ (List.mem_of_getElem? (i := 64) rfl)) (hw _ (List.mem_of_getElem? (i := 33) rfl)) (by decide) (by decide)) q253a q253c (g := (mkF m 155 #[.val (.int x0), .val (.int x1), .val (.int x2), .val (.int x3), .val (.int x4), .val (.int ((x0 &&& (2147483647 : Int32)) % (7 : Int32))), .val (.int ca), .val (.int cb), .val (.int (0 : Int32)), .val (.ref b224), .val (.ref b228), .val (.int (((x4.toUInt32 >>> ((1 : Int32) &&& 31).toUInt32).toInt32) &&& (3 : Int32))), .val (.int sym), .val (.ref b232), .val (.int (0 : Int32))] [(.int sym), (.ref b232)])) rfl (by rw [hml]; rfl) (Steps.refl _) (argsL := [(.int sym)]) (rest := []) (lenOf pd__C_Z rfl) rfl (by show 2 * 0 + _ ≤ _; exact Nat.le_of_eq rfl) (hb hby at_155) (fun _ _ => ⟨rfl, rfl, (by decide : 5 + 0 ≤ _), (by decide : 13 + 0 ≤ _)⟩)
          dsimp only [Pt.U, Pt.locs, Pt.cells, Pt.slots] at X253 l253 y253 z253 st253 hQ253
          replace l253 := Eq.symm l253
          replace y253 := Eq.symm y253
          replace z253 := Eq.symm z253
          subst l253 y253 z253
          obtain ⟨Nq253, rfl, eh253⟩ := hQ253
          have N253 := Fr.app N238 Nq253
          refine Gl.back (fun _ k => st253.trans k) ?_
          show Gl _ _ _ _ _ _ _ (T253.setTop (mkF m 158 #[.val (.int x0), .val (.int x1), .val (.int x2), .val (.int x3), .val (.int x4), .val (.int ((x0 &&& (2147483647 : Int32)) % (7 : Int32))), .val (.int ca), .val (.int cb), .val (.int (0 : Int32)), .val (.ref b224), .val (.ref b228), .val (.int (((x4.toUInt32 >>> ((1 : Int32) &&& 31).toUInt32).toInt32) &&& (3 : Int32))), .val (.int sym), .val (.ref b232), .val (.int (0 : Int32))] [(.int (0 : Int32))]))
          refine Gl.back (fun _ k => XS.iload X253.here hx rfl (hb hby at_158) rfl k) ?_
          show Gl _ _ _ _ _ _ _ (T253.setTop (mkF m 160 #[.val (.int x0), .val (.int x1), .val (.int x2), .val (.int x3), .val (.int x4), .val (.int ((x0 &&& (2147483647 : Int32)) % (7 : Int32))), .val (.int ca), .val (.int cb), .val (.int (0 : Int32)), .val (.ref b224), .val (.ref b228), .val (.int (((x4.toUInt32 >>> ((1 : Int32) &&& 31).toUInt32).toInt32) &&& (3 : Int32))), .val (.int sym), .val (.ref b232), .val (.int (0 : Int32))] [(.int (0 : Int32)), (.int (0 : Int32))]))
          refine Gl.back (fun _ k => XS.icmpNo X253.here hx rfl (hb hby at_160) rfl (teq (rfl : (0 : Int32) = (0 : Int32))).2 k) ?_
          show Gl _ _ _ _ _ _ _ (T253.setTop (mkF m 163 #[.val (.int x0), .val (.int x1), .val (.int x2), .val (.int x3), .val (.int x4), .val (.int ((x0 &&& (2147483647 : Int32)) % (7 : Int32))), .val (.int ca), .val (.int cb), .val (.int (0 : Int32)), .val (.ref b224), .val (.ref b228), .val (.int (((x4.toUInt32 >>> ((1 : Int32) &&& 31).toUInt32).toInt32) &&& (3 : Int32))), .val (.int sym), .val (.ref b232), .val (.int (0 : Int32))] []))
          refine Gl.back (fun _ k => XS.iconst X253.here hx rfl (hb hby at_163) k) ?_
          show Gl _ _ _ _ _ _ _ (T253.setTop (mkF m 164 #[.val (.int x0), .val (.int x1), .val (.int x2), .val (.int x3), .val (.int x4), .val (.int ((x0 &&& (2147483647 : Int32)) % (7 : Int32))), .val (.int ca), .val (.int cb), .val (.int (0 : Int32)), .val (.ref b224), .val (.ref b228), .val (.int (((x4.toUInt32 >>> ((1 : Int32) &&& 31).toUInt32).toInt32) &&& (3 : Int32))), .val (.int sym), .val (.ref b232), .val (.int (0 : Int32))] [(.int (1 : Int32))]))
          refine Gl.back (fun _ k => XS.goto X253.here hx rfl (pc0 := 164) (pc' := 168) rfl (hb hby at_164) (by decide) (by decide) k) ?_
          show Gl _ _ _ _ _ _ _ (T253.setTop (mkF m 168 #[.val (.int x0), .val (.int x1), .val (.int x2), .val (.int x3), .val (.int x4), .val (.int ((x0 &&& (2147483647 : Int32)) % (7 : Int32))), .val (.int ca), .val (.int cb), .val (.int (0 : Int32)), .val (.ref b224), .val (.ref b228), .val (.int (((x4.toUInt32 >>> ((1 : Int32) &&& 31).toUInt32).toInt32) &&& (3 : Int32))), .val (.int sym), .val (.ref b232), .val (.int (0 : Int32))] [(.int (1 : Int32))]))
          exact Gl.ret X253 eh253 (v := (some (.int (1 : Int32)))) (fun h => by rw [Bd.returns] at h; cases h) Bd.notSynchronized (fun fs hr => retN X253 hx (t := .boolean) (z := (1 : Int32)) Bd.returns (by simp) (hb hby at_168) hr) ⟨N253, rfl⟩ (by decide) (by decide)
      refine Gl.back (fun _ k => XS.iload X230.here hx rfl (hb hby at_73) rfl k) ?_
      show Gl _ _ _ _ _ _ _ (T230.setTop (mkF m 75 #[.val (.int x0), .val (.int x1), .val (.int x2), .val (.int x3), .val (.int x4), .val (.int ((x0 &&& (2147483647 : Int32)) % (7 : Int32))), .val (.int ca), .val (.int cb), .val (.int (0 : Int32)), .val (.ref b224), .val (.ref b228), .unset, .unset, .unset, .unset] [(.int x4)]))
      refine Gl.back (fun _ k => XS.iconst X230.here hx rfl (hb hby at_75) k) ?_
      show Gl _ _ _ _ _ _ _ (T230.setTop (mkF m 76 #[.val (.int x0), .val (.int x1), .val (.int x2), .val (.int x3), .val (.int x4), .val (.int ((x0 &&& (2147483647 : Int32)) % (7 : Int32))), .val (.int ca), .val (.int cb), .val (.int (0 : Int32)), .val (.ref b224), .val (.ref b228), .unset, .unset, .unset, .unset] [(.int (1 : Int32)), (.int x4)]))
      refine Gl.back (fun _ k => XS.iushr X230.here hx rfl (hb hby at_76) rfl k) ?_
      show Gl _ _ _ _ _ _ _ (T230.setTop (mkF m 77 #[.val (.int x0), .val (.int x1), .val (.int x2), .val (.int x3), .val (.int x4), .val (.int ((x0 &&& (2147483647 : Int32)) % (7 : Int32))), .val (.int ca), .val (.int cb), .val (.int (0 : Int32)), .val (.ref b224), .val (.ref b228), .unset, .unset, .unset, .unset] [(.int ((x4.toUInt32 >>> ((1 : Int32) &&& 31).toUInt32).toInt32))]))
      refine Gl.back (fun _ k => XS.iconst X230.here hx rfl (hb hby at_77) k) ?_
      show Gl _ _ _ _ _ _ _ (T230.setTop (mkF m 78 #[.val (.int x0), .val (.int x1), .val (.int x2), .val (.int x3), .val (.int x4), .val (.int ((x0 &&& (2147483647 : Int32)) % (7 : Int32))), .val (.int ca), .val (.int cb), .val (.int (0 : Int32)), .val (.ref b224), .val (.ref b228), .unset, .unset, .unset, .unset] [(.int (3 : Int32)), (.int ((x4.toUInt32 >>> ((1 : Int32) &&& 31).toUInt32).toInt32))]))
      refine Gl.back (fun _ k => XS.iand X230.here hx rfl (hb hby at_78) rfl k) ?_
      show Gl _ _ _ _ _ _ _ (T230.setTop (mkF m 79 #[.val (.int x0), .val (.int x1), .val (.int x2), .val (.int x3), .val (.int x4), .val (.int ((x0 &&& (2147483647 : Int32)) % (7 : Int32))), .val (.int ca), .val (.int cb), .val (.int (0 : Int32)), .val (.ref b224), .val (.ref b228), .unset, .unset, .unset, .unset] [(.int (((x4.toUInt32 >>> ((1 : Int32) &&& 31).toUInt32).toInt32) &&& (3 : Int32)))]))
      refine Gl.back (fun _ k => XS.istore X230.here hx rfl (hb hby at_79) rfl (l' := #[.val (.int x0), .val (.int x1), .val (.int x2), .val (.int x3), .val (.int x4), .val (.int ((x0 &&& (2147483647 : Int32)) % (7 : Int32))), .val (.int ca), .val (.int cb), .val (.int (0 : Int32)), .val (.ref b224), .val (.ref b228), .val (.int (((x4.toUInt32 >>> ((1 : Int32) &&& 31).toUInt32).toInt32) &&& (3 : Int32))), .unset, .unset, .unset]) rfl k) ?_
      show Gl _ _ _ _ _ _ _ (T230.setTop (mkF m 81 #[.val (.int x0), .val (.int x1), .val (.int x2), .val (.int x3), .val (.int x4), .val (.int ((x0 &&& (2147483647 : Int32)) % (7 : Int32))), .val (.int ca), .val (.int cb), .val (.int (0 : Int32)), .val (.ref b224), .val (.ref b228), .val (.int (((x4.toUInt32 >>> ((1 : Int32) &&& 31).toUInt32).toInt32) &&& (3 : Int32))), .unset, .unset, .unset] []))
      refine Gl.back (fun _ k => XS.iload X230.here hx rfl (hb hby at_81) rfl k) ?_
      show Gl _ _ _ _ _ _ _ (T230.setTop (mkF m 83 #[.val (.int x0), .val (.int x1), .val (.int x2), .val (.int x3), .val (.int x4), .val (.int ((x0 &&& (2147483647 : Int32)) % (7 : Int32))), .val (.int ca), .val (.int cb), .val (.int (0 : Int32)), .val (.ref b224), .val (.ref b228), .val (.int (((x4.toUInt32 >>> ((1 : Int32) &&& 31).toUInt32).toInt32) &&& (3 : Int32))), .unset, .unset, .unset] [(.int (((x4.toUInt32 >>> ((1 : Int32) &&& 31).toUInt32).toInt32) &&& (3 : Int32)))]))
      by_cases hc83_255 : (((x4.toUInt32 >>> ((1 : Int32) &&& 31).toUInt32).toInt32) &&& (3 : Int32)) = (0 : Int32)
      · refine Gl.back (fun _ k => XS.ifNo X230.here hx rfl (hb hby at_83) rfl ((if0 _ _).trans (teq hc83_255).2) k) ?_
        show Gl _ _ _ _ _ _ _ (T230.setTop (mkF m 86 #[.val (.int x0), .val (.int x1), .val (.int x2), .val (.int x3), .val (.int x4), .val (.int ((x0 &&& (2147483647 : Int32)) % (7 : Int32))), .val (.int ca), .val (.int cb), .val (.int (0 : Int32)), .val (.ref b224), .val (.ref b228), .val (.int (((x4.toUInt32 >>> ((1 : Int32) &&& 31).toUInt32).toInt32) &&& (3 : Int32))), .unset, .unset, .unset] []))
        refine Gl.back (fun _ k => XS.iload X230.here hx rfl (hb hby at_86) rfl k) ?_
        show Gl _ _ _ _ _ _ _ (T230.setTop (mkF m 88 #[.val (.int x0), .val (.int x1), .val (.int x2), .val (.int x3), .val (.int x4), .val (.int ((x0 &&& (2147483647 : Int32)) % (7 : Int32))), .val (.int ca), .val (.int cb), .val (.int (0 : Int32)), .val (.ref b224), .val (.ref b228), .val (.int (((x4.toUInt32 >>> ((1 : Int32) &&& 31).toUInt32).toInt32) &&& (3 : Int32))), .unset, .unset, .unset] [(.int ca)]))
        refine Gl.back (fun _ k => XS.istore X230.here hx rfl (hb hby at_88) rfl (l' := #[.val (.int x0), .val (.int x1), .val (.int x2), .val (.int x3), .val (.int x4), .val (.int ((x0 &&& (2147483647 : Int32)) % (7 : Int32))), .val (.int ca), .val (.int cb), .val (.int (0 : Int32)), .val (.ref b224), .val (.ref b228), .val (.int (((x4.toUInt32 >>> ((1 : Int32) &&& 31).toUInt32).toInt32) &&& (3 : Int32))), .val (.int ca), .unset, .unset]) rfl k) ?_
        show Gl _ _ _ _ _ _ _ (T230.setTop (mkF m 90 #[.val (.int x0), .val (.int x1), .val (.int x2), .val (.int x3), .val (.int x4), .val (.int ((x0 &&& (2147483647 : Int32)) % (7 : Int32))), .val (.int ca), .val (.int cb), .val (.int (0 : Int32)), .val (.ref b224), .val (.ref b228), .val (.int (((x4.toUInt32 >>> ((1 : Int32) &&& 31).toUInt32).toInt32) &&& (3 : Int32))), .val (.int ca), .unset, .unset] []))
        refine Gl.back (fun _ k => XS.goto X230.here hx rfl (pc0 := 90) (pc' := 110) rfl (hb hby at_90) (by decide) (by decide) k) ?_
        show Gl _ _ _ _ _ _ _ (T230.setTop (mkF m 110 #[.val (.int x0), .val (.int x1), .val (.int x2), .val (.int x3), .val (.int x4), .val (.int ((x0 &&& (2147483647 : Int32)) % (7 : Int32))), .val (.int ca), .val (.int cb), .val (.int (0 : Int32)), .val (.ref b224), .val (.ref b228), .val (.int (((x4.toUInt32 >>> ((1 : Int32) &&& 31).toUInt32).toInt32) &&& (3 : Int32))), .val (.int ca), .unset, .unset] []))
        exact J110 _
      · refine Gl.back (fun _ k => XS.ifYes X230.here hx rfl (pc0 := 83) (pc' := 93) rfl (hb hby at_83) rfl ((if0 _ _).trans (feq hc83_255).2) (by decide) (by decide) k) ?_
        show Gl _ _ _ _ _ _ _ (T230.setTop (mkF m 93 #[.val (.int x0), .val (.int x1), .val (.int x2), .val (.int x3), .val (.int x4), .val (.int ((x0 &&& (2147483647 : Int32)) % (7 : Int32))), .val (.int ca), .val (.int cb), .val (.int (0 : Int32)), .val (.ref b224), .val (.ref b228), .val (.int (((x4.toUInt32 >>> ((1 : Int32) &&& 31).toUInt32).toInt32) &&& (3 : Int32))), .unset, .unset, .unset] []))
        refine Gl.back (fun _ k => XS.iload X230.here hx rfl (hb hby at_93) rfl k) ?_
        show Gl _ _ _ _ _ _ _ (T230.setTop (mkF m 95 #[.val (.int x0), .val (.int x1), .val (.int x2), .val (.int x3), .val (.int x4), .val (.int ((x0 &&& (2147483647 : Int32)) % (7 : Int32))), .val (.int ca), .val (.int cb), .val (.int (0 : Int32)), .val (.ref b224), .val (.ref b228), .val (.int (((x4.toUInt32 >>> ((1 : Int32) &&& 31).toUInt32).toInt32) &&& (3 : Int32))), .unset, .unset, .unset] [(.int (((x4.toUInt32 >>> ((1 : Int32) &&& 31).toUInt32).toInt32) &&& (3 : Int32)))]))
        refine Gl.back (fun _ k => XS.iconst X230.here hx rfl (hb hby at_95) k) ?_
        show Gl _ _ _ _ _ _ _ (T230.setTop (mkF m 96 #[.val (.int x0), .val (.int x1), .val (.int x2), .val (.int x3), .val (.int x4), .val (.int ((x0 &&& (2147483647 : Int32)) % (7 : Int32))), .val (.int ca), .val (.int cb), .val (.int (0 : Int32)), .val (.ref b224), .val (.ref b228), .val (.int (((x4.toUInt32 >>> ((1 : Int32) &&& 31).toUInt32).toInt32) &&& (3 : Int32))), .unset, .unset, .unset] [(.int (1 : Int32)), (.int (((x4.toUInt32 >>> ((1 : Int32) &&& 31).toUInt32).toInt32) &&& (3 : Int32)))]))
        by_cases hc96_256 : (((x4.toUInt32 >>> ((1 : Int32) &&& 31).toUInt32).toInt32) &&& (3 : Int32)) = (1 : Int32)
        · refine Gl.back (fun _ k => XS.icmpNo X230.here hx rfl (hb hby at_96) rfl (teq hc96_256).2 k) ?_
          show Gl _ _ _ _ _ _ _ (T230.setTop (mkF m 99 #[.val (.int x0), .val (.int x1), .val (.int x2), .val (.int x3), .val (.int x4), .val (.int ((x0 &&& (2147483647 : Int32)) % (7 : Int32))), .val (.int ca), .val (.int cb), .val (.int (0 : Int32)), .val (.ref b224), .val (.ref b228), .val (.int (((x4.toUInt32 >>> ((1 : Int32) &&& 31).toUInt32).toInt32) &&& (3 : Int32))), .unset, .unset, .unset] []))
          refine Gl.back (fun _ k => XS.iload X230.here hx rfl (hb hby at_99) rfl k) ?_
          show Gl _ _ _ _ _ _ _ (T230.setTop (mkF m 101 #[.val (.int x0), .val (.int x1), .val (.int x2), .val (.int x3), .val (.int x4), .val (.int ((x0 &&& (2147483647 : Int32)) % (7 : Int32))), .val (.int ca), .val (.int cb), .val (.int (0 : Int32)), .val (.ref b224), .val (.ref b228), .val (.int (((x4.toUInt32 >>> ((1 : Int32) &&& 31).toUInt32).toInt32) &&& (3 : Int32))), .unset, .unset, .unset] [(.int cb)]))
          refine Gl.back (fun _ k => XS.istore X230.here hx rfl (hb hby at_101) rfl (l' := #[.val (.int x0), .val (.int x1), .val (.int x2), .val (.int x3), .val (.int x4), .val (.int ((x0 &&& (2147483647 : Int32)) % (7 : Int32))), .val (.int ca), .val (.int cb), .val (.int (0 : Int32)), .val (.ref b224), .val (.ref b228), .val (.int (((x4.toUInt32 >>> ((1 : Int32) &&& 31).toUInt32).toInt32) &&& (3 : Int32))), .val (.int cb), .unset, .unset]) rfl k) ?_
          show Gl _ _ _ _ _ _ _ (T230.setTop (mkF m 103 #[.val (.int x0), .val (.int x1), .val (.int x2), .val (.int x3), .val (.int x4), .val (.int ((x0 &&& (2147483647 : Int32)) % (7 : Int32))), .val (.int ca), .val (.int cb), .val (.int (0 : Int32)), .val (.ref b224), .val (.ref b228), .val (.int (((x4.toUInt32 >>> ((1 : Int32) &&& 31).toUInt32).toInt32) &&& (3 : Int32))), .val (.int cb), .unset, .unset] []))
          refine Gl.back (fun _ k => XS.goto X230.here hx rfl (pc0 := 103) (pc' := 110) rfl (hb hby at_103) (by decide) (by decide) k) ?_
          show Gl _ _ _ _ _ _ _ (T230.setTop (mkF m 110 #[.val (.int x0), .val (.int x1), .val (.int x2), .val (.int x3), .val (.int x4), .val (.int ((x0 &&& (2147483647 : Int32)) % (7 : Int32))), .val (.int ca), .val (.int cb), .val (.int (0 : Int32)), .val (.ref b224), .val (.ref b228), .val (.int (((x4.toUInt32 >>> ((1 : Int32) &&& 31).toUInt32).toInt32) &&& (3 : Int32))), .val (.int cb), .unset, .unset] []))
          exact J110 _
        · refine Gl.back (fun _ k => XS.icmpYes X230.here hx rfl (pc0 := 96) (pc' := 106) rfl (hb hby at_96) rfl (feq hc96_256).2 (by decide) (by decide) k) ?_
          show Gl _ _ _ _ _ _ _ (T230.setTop (mkF m 106 #[.val (.int x0), .val (.int x1), .val (.int x2), .val (.int x3), .val (.int x4), .val (.int ((x0 &&& (2147483647 : Int32)) % (7 : Int32))), .val (.int ca), .val (.int cb), .val (.int (0 : Int32)), .val (.ref b224), .val (.ref b228), .val (.int (((x4.toUInt32 >>> ((1 : Int32) &&& 31).toUInt32).toInt32) &&& (3 : Int32))), .unset, .unset, .unset] []))
          refine Gl.back (fun _ k => XS.iloadN X230.here hx rfl (hb hby at_106) rfl k) ?_
          show Gl _ _ _ _ _ _ _ (T230.setTop (mkF m 107 #[.val (.int x0), .val (.int x1), .val (.int x2), .val (.int x3), .val (.int x4), .val (.int ((x0 &&& (2147483647 : Int32)) % (7 : Int32))), .val (.int ca), .val (.int cb), .val (.int (0 : Int32)), .val (.ref b224), .val (.ref b228), .val (.int (((x4.toUInt32 >>> ((1 : Int32) &&& 31).toUInt32).toInt32) &&& (3 : Int32))), .unset, .unset, .unset] [(.int x3)]))
          refine Gl.back (fun _ k => XS.i2c X230.here hx rfl (hb hby at_107) rfl k) ?_
          show Gl _ _ _ _ _ _ _ (T230.setTop (mkF m 108 #[.val (.int x0), .val (.int x1), .val (.int x2), .val (.int x3), .val (.int x4), .val (.int ((x0 &&& (2147483647 : Int32)) % (7 : Int32))), .val (.int ca), .val (.int cb), .val (.int (0 : Int32)), .val (.ref b224), .val (.ref b228), .val (.int (((x4.toUInt32 >>> ((1 : Int32) &&& 31).toUInt32).toInt32) &&& (3 : Int32))), .unset, .unset, .unset] [(.int (x3.toUInt32.toUInt16.toUInt32.toInt32))]))
          refine Gl.back (fun _ k => XS.istore X230.here hx rfl (hb hby at_108) rfl (l' := #[.val (.int x0), .val (.int x1), .val (.int x2), .val (.int x3), .val (.int x4), .val (.int ((x0 &&& (2147483647 : Int32)) % (7 : Int32))), .val (.int ca), .val (.int cb), .val (.int (0 : Int32)), .val (.ref b224), .val (.ref b228), .val (.int (((x4.toUInt32 >>> ((1 : Int32) &&& 31).toUInt32).toInt32) &&& (3 : Int32))), .val (.int (x3.toUInt32.toUInt16.toUInt32.toInt32)), .unset, .unset]) rfl k) ?_
          show Gl _ _ _ _ _ _ _ (T230.setTop (mkF m 110 #[.val (.int x0), .val (.int x1), .val (.int x2), .val (.int x3), .val (.int x4), .val (.int ((x0 &&& (2147483647 : Int32)) % (7 : Int32))), .val (.int ca), .val (.int cb), .val (.int (0 : Int32)), .val (.ref b224), .val (.ref b228), .val (.int (((x4.toUInt32 >>> ((1 : Int32) &&& 31).toUInt32).toInt32) &&& (3 : Int32))), .val (.int (x3.toUInt32.toUInt16.toUInt32.toInt32)), .unset, .unset] []))
          exact J110 _
    · show Gl _ _ _ _ _ _ _ (T228.setTop (mkF m 68 #[.val (.int x0), .val (.int x1), .val (.int x2), .val (.int x3), .val (.int x4), .val (.int ((x0 &&& (2147483647 : Int32)) % (7 : Int32))), .val (.int ca), .val (.int cb), .val (.int (0 : Int32)), .val (.ref b224), .unset, .unset, .unset, .unset, .unset] [(.ref b224), (.ref b228), (.ref b228)]))
      have f257 := (Vn227.ext E228)
      have hws259 : ∀ d ∈ StrChars.Road.words, d.before a0 Z = true := fun d hd => hw d ((by decide +kernel : ∀ d ∈ StrChars.Road.words, d ∈ tables_1) d hd)
      have hlat259 : ∀ c ∈ [ca], ¬ c < 0 ∧ ¬ (255 : Int32) < c := by
        intro c hc
        simp only [List.mem_cons, List.not_mem_nil, or_false] at hc
        subst hc
        exact ⟨hcar.1, hA⟩
      obtain ⟨_, _, ⟨T258, L258, k258, n258⟩, -, X258, ⟨Lc258, hQ258, l258, y258, z258⟩, st258⟩ := X228.specialBack hx (y := (⟨"java/lang/String", "<init>", "([C)V"⟩ : MethodName)) rfl hown (mvT hZ (hw _ (List.mem_of_getElem? (i := 5) rfl))) (mvT hZ (hw _ (List.mem_of_getElem? (i := 6) rfl))) (mvT hZ (hw _ (List.mem_of_getElem? (i := 7) rfl))) (by decide) (StrChars.Road.backV (W := 1) hZ hws259 (kI := 4) (hw _ (List.mem_of_getElem? (i := 3) rfl)) (cs := [ca]) (bs := [(ca).toInt8.toInt32]) (n := 1) g_b228 Z228 A228 F228_value F228_coder f257 (S_C.ext O228.2) P0 rfl rfl (by decide) (by decide) hlat259 rfl (by decide) (by decide)) (g := (mkF m 68 #[.val (.int x0), .val (.int x1), .val (.int x2), .val (.int x3), .val (.int x4), .val (.int ((x0 &&& (2147483647 : Int32)) % (7 : Int32))), .val (.int ca), .val (.int cb), .val (.int (0 : Int32)), .val (.ref b224), .unset, .unset, .unset, .unset, .unset] [(.ref b224), (.ref b228), (.ref b228)])) rfl (by rw [hml]; rfl) (Steps.refl _) (a := b228) (argsL := [(.ref b224)]) (rest := [(.ref b228)]) (lenOf pd___C_V rfl) rfl (by show 2 * 0 + _ ≤ _; exact Nat.le_of_eq rfl) (hb hby at_68) (fun _ _ => ⟨rfl, e228, (by decide : 2 + 1 ≤ _), (by decide : 5 + 1 ≤ _)⟩)
      dsimp only [Pt.U, Pt.locs, Pt.cells, Pt.slots] at X258 l258 y258 z258 st258 hQ258
      replace l258 := Eq.symm l258
      replace y258 := Eq.symm y258
      replace z258 := Eq.symm z258
      subst l258 y258 z258
      obtain ⟨rfl, Nq258, Kq258, -, Fc258, t258, kb258, Gt258, St258, Nt258, Fv258, Vt258⟩ := hQ258
      have N258 := Fr.app N226 Nq258
      have Kc258 := Keep.trans K228 Kq258 (allS (Or.inr sz_b228) all0)
      have Zc258 : n0 ≤ T258.heap.size := Nat.le_trans Z228 Kq258.1
      have Oc258 := Old.keep O228 Kq258 (allS g_b228 all0)
      have ne_b224_t258 : b224 ≠ t258 := Nat.ne_of_lt (Nat.lt_of_lt_of_le (f257).lt St258)
      have szt258 : h0.size ≤ t258 := Nat.le_trans K228.1 St258
      refine Gl.back (fun _ k => st258.trans k) ?_
      show Gl _ _ _ _ _ _ _ (T258.setTop (mkF m 71 #[.val (.int x0), .val (.int x1), .val (.int x2), .val (.int x3), .val (.int x4), .val (.int ((x0 &&& (2147483647 : Int32)) % (7 : Int32))), .val (.int ca), .val (.int cb), .val (.int (0 : Int32)), .val (.ref b224), .unset, .unset, .unset, .unset, .unset] [(.ref b228)]))
      refine Gl.back (fun _ k => XS.astore X258.here hx rfl (hb hby at_71) rfl rfl (l' := #[.val (.int x0), .val (.int x1), .val (.int x2), .val (.int x3), .val (.int x4), .val (.int ((x0 &&& (2147483647 : Int32)) % (7 : Int32))), .val (.int ca), .val (.int cb), .val (.int (0 : Int32)), .val (.ref b224), .val (.ref b228), .unset, .unset, .unset, .unset]) rfl k) ?_
      show Gl _ _ _ _ _ _ _ (T258.setTop (mkF m 73 #[.val (.int x0), .val (.int x1), .val (.int x2), .val (.int x3), .val (.int x4), .val (.int ((x0 &&& (2147483647 : Int32)) % (7 : Int32))), .val (.int ca), .val (.int cb), .val (.int (0 : Int32)), .val (.ref b224), .val (.ref b228), .unset, .unset, .unset, .unset] []))
      have J110 : ∀ (sym : Int32), Gl p e below s (Q0 Z x0 x1 x2 x3 x4 w_WORD w_QUOTED_NAME w_STRING w_DIGITS w_STRAY w_SYMBOL w_UNCLOSED zc fm h0 n0) room_1.cells room_1.slots (T258.setTop (mkF m 110 #[.val (.int x0), .val (.int x1), .val (.int x2), .val (.int x3), .val (.int x4), .val (.int ((x0 &&& (2147483647 : Int32)) % (7 : Int32))), .val (.int ca), .val (.int cb), .val (.int (0 : Int32)), .val (.ref b224), .val (.ref b228), .val (.int (((x4.toUInt32 >>> ((1 : Int32) &&& 31).toUInt32).toInt32) &&& (3 : Int32))), .val (.int sym), .unset, .unset] [])) := by
        intro sym
        show Gl _ _ _ _ _ _ _ (T258.setTop (mkF m 110 #[.val (.int x0), .val (.int x1), .val (.int x2), .val (.int x3), .val (.int x4), .val (.int ((x0 &&& (2147483647 : Int32)) % (7 : Int32))), .val (.int ca), .val (.int cb), .val (.int (0 : Int32)), .val (.ref b224), .val (.ref b228), .val (.int (((x4.toUInt32 >>> ((1 : Int32) &&& 31).toUInt32).toInt32) &&& (3 : Int32))), .val (.int sym), .unset, .unset] []))
        obtain ⟨T260, h260, X260, e260, E260, A260, D260, -, st260⟩ := newO X258 hx hZ hown (hw _ (List.mem_of_getElem? (i := 31) rfl)) (hw _ (List.mem_of_getElem? (i := 32) rfl)) (hw _ (List.mem_of_getElem? (i := 33) rfl)) rfl (g := (mkF m 110 #[.val (.int x0), .val (.int x1), .val (.int x2), .val (.int x3), .val (.int x4), .val (.int ((x0 &&& (2147483647 : Int32)) % (7 : Int32))), .val (.int ca), .val (.int cb), .val (.int (0 : Int32)), .val (.ref b224), .val (.ref b228), .val (.int (((x4.toUInt32 >>> ((1 : Int32) &&& 31).toUInt32).toInt32) &&& (3 : Int32))), .val (.int sym), .unset, .unset] [])) rfl (hb hby at_110) (by decide) (by decide)
        obtain ⟨b260, g260⟩ : ∃ z, z = T258.heap.size := ⟨_, rfl⟩
        rw [← g260] at A260 D260 st260
        have f261 := (f257.keep Kq258 (ninS ne_b224_b228 nin0))
        have ne_b224_b260 : b224 ≠ b260 := Nat.ne_of_lt (Nat.lt_of_lt_of_le f261.lt (Nat.le_of_eq g260.symm))
        have f262 := (A228.keep Kq258)
        have ne_b228_b260 : b228 ≠ b260 := Nat.ne_of_lt (Nat.lt_of_lt_of_le f262.lt (Nat.le_of_eq g260.symm))
        have ne_t258_b260 : t258 ≠ b260 := Nat.ne_of_lt (Nat.lt_of_lt_of_le Vt258.lt (Nat.le_of_eq g260.symm))
        have g_b260 : n0 ≤ b260 := Nat.le_trans Zc258 (Nat.le_of_eq g260.symm)
        have sz_b260 : h0.size ≤ b260 := Nat.le_trans Kc258.1 (Nat.le_of_eq g260.symm)
        have Z260 : n0 ≤ h260.size := Nat.le_trans Zc258 E260.1
        have K260 := Keep.ext Kc258 E260
        have O260 := Old.ext Oc258 E260
        have F260_kind : Fld Z h260 b260 "com/example/partition_planner/partitionplanner/CqlLexer$Token" "kind" "Lcom/example/partition_planner/partitionplanner/CqlLexer$Kind;" .null := D260 (Or.inr (hw _ (List.mem_of_getElem? (i := 51) rfl))) (ty := (.object "com/example/partition_planner/partitionplanner/CqlLexer$Kind")) (by decide)
        have F260_value : Fld Z h260 b260 "com/example/partition_planner/partitionplanner/CqlLexer$Token" "value" "Ljava/lang/String;" .null := D260 (Or.inr (hw _ (List.mem_of_getElem? (i := 53) rfl))) (ty := (.object "java/lang/String")) (by decide)
        have F260_start : Fld Z h260 b260 "com/example/partition_planner/partitionplanner/CqlLexer$Token" "start" "I" (.int (0 : Int32)) := D260 (Or.inr (hw _ (List.mem_of_getElem? (i := 55) rfl))) (ty := .int) (by decide)
        have F260_end : Fld Z h260 b260 "com/example/partition_planner/partitionplanner/CqlLexer$Token" "end" "I" (.int (0 : Int32)) := D260 (Or.inr (hw _ (List.mem_of_getElem? (i := 57) rfl))) (ty := .int) (by decide)
        have F260_line : Fld Z h260 b260 "com/example/partition_planner/partitionplanner/CqlLexer$Token" "line" "I" (.int (0 : Int32)) := D260 (Or.inr (hw _ (List.mem_of_getElem? (i := 59) rfl))) (ty := .int) (by decide)
        refine Gl.back (fun _ k => st260 _ k) ?_
        show Gl _ _ _ _ _ _ _ (T260.setTop (mkF m 113 #[.val (.int x0), .val (.int x1), .val (.int x2), .val (.int x3), .val (.int x4), .val (.int ((x0 &&& (2147483647 : Int32)) % (7 : Int32))), .val (.int ca), .val (.int cb), .val (.int (0 : Int32)), .val (.ref b224), .val (.ref b228), .val (.int (((x4.toUInt32 >>> ((1 : Int32) &&& 31).toUInt32).toInt32) &&& (3 : Int32))), .val (.int sym), .unset, .unset] [(.ref b260)]))
        refine Gl.back (fun _ k => XS.dup X260.here hx rfl (hb hby at_113) rfl rfl k) ?_
        show Gl _ _ _ _ _ _ _ (T260.setTop (mkF m 114 #[.val (.int x0), .val (.int x1), .val (.int x2), .val (.int x3), .val (.int x4), .val (.int ((x0 &&& (2147483647 : Int32)) % (7 : Int32))), .val (.int ca), .val (.int cb), .val (.int (0 : Int32)), .val (.ref b224), .val (.ref b228), .val (.int (((x4.toUInt32 >>> ((1 : Int32) &&& 31).toUInt32).toInt32) &&& (3 : Int32))), .val (.int sym), .unset, .unset] [(.ref b260), (.ref b260)]))
        refine Gl.back (fun _ k => XS.iload X260.here hx rfl (hb hby at_114) rfl k) ?_
        show Gl _ _ _ _ _ _ _ (T260.setTop (mkF m 116 #[.val (.int x0), .val (.int x1), .val (.int x2), .val (.int x3), .val (.int x4), .val (.int ((x0 &&& (2147483647 : Int32)) % (7 : Int32))), .val (.int ca), .val (.int cb), .val (.int (0 : Int32)), .val (.ref b224), .val (.ref b228), .val (.int (((x4.toUInt32 >>> ((1 : Int32) &&& 31).toUInt32).toInt32) &&& (3 : Int32))), .val (.int sym), .unset, .unset] [(.int ((x0 &&& (2147483647 : Int32)) % (7 : Int32))), (.ref b260), (.ref b260)]))
        obtain ⟨_, _, ⟨T263, L263, k263, n263⟩, -, X263, ⟨Lc263, hQ263, l263, y263, z263⟩, st263⟩ := Jvm.LawKit.callS X260 hx (y := (⟨"com/example/partition_planner/partitionplanner/TokenIsSymbolPinLaw", "kindOf", "(I)Lcom/example/partition_planner/partitionplanner/CqlLexer$Kind;"⟩ : MethodName)) hown (mvT hZ (hw _ (List.mem_of_getElem? (i := 34) rfl))) (mvT hZ (hw _ (List.mem_of_getElem? (i := 35) rfl))) (mvT hZ (hw _ (List.mem_of_getElem? (i := 36) rfl))) (mvT hZ (hw _ (List.mem_of_getElem? (i := 37) rfl))) (by decide) (backOf (W := 2) (rmkind l Z a0 hw [] ((x0 &&& (2147483647 : Int32)) % (7 : Int32)) w_WORD w_QUOTED_NAME w_STRING w_DIGITS w_STRAY w_SYMBOL w_UNCLOSED h260 n0 Z260 O260 S_WORD S_QUOTED_NAME S_STRING S_DIGITS S_STRAY S_SYMBOL S_UNCLOSED ne_WORD ne_QUOTED_NAME ne_STRING ne_DIGITS ne_STRAY ne_UNCLOSED) hZ (hw _ (List.mem_of_getElem? (i := 37) rfl)) (hw _ (List.mem_of_getElem? (i := 36) rfl)) (by decide) (by decide)) (g := (mkF m 116 #[.val (.int x0), .val (.int x1), .val (.int x2), .val (.int x3), .val (.int x4), .val (.int ((x0 &&& (2147483647 : Int32)) % (7 : Int32))), .val (.int ca), .val (.int cb), .val (.int (0 : Int32)), .val (.ref b224), .val (.ref b228), .val (.int (((x4.toUInt32 >>> ((1 : Int32) &&& 31).toUInt32).toInt32) &&& (3 : Int32))), .val (.int sym), .unset, .unset] [(.int ((x0 &&& (2147483647 : Int32)) % (7 : Int32))), (.ref b260), (.ref b260)])) rfl (by rw [hml]; rfl) (argsL := [(.int ((x0 &&& (2147483647 : Int32)) % (7 : Int32)))]) (rest := [(.ref b260), (.ref b260)]) (lenOf pd__I_Lcom_example_partition_planner_partitionplanner_CqlLexer_Kind_ rfl) rfl (by show 2 * 0 + _ ≤ _; exact Nat.le_of_eq rfl) (hb hby at_116) (fun _ _ => ⟨rfl, e260, (by decide : 4 + 0 ≤ _), (by decide : 11 + 0 ≤ _)⟩)
        dsimp only [Pt.U, Pt.locs, Pt.cells, Pt.slots] at X263 l263 y263 z263 st263 hQ263
        replace l263 := Eq.symm l263
        replace y263 := Eq.symm y263
        replace z263 := Eq.symm z263
        subst l263 y263 z263
        obtain ⟨Nq263, wk263, rfl, hk1263, hk2263, eh263⟩ := hQ263
        have N263 := Fr.app N258 Nq263
        refine Gl.back (fun _ k => st263 _ k) ?_
        show Gl _ _ _ _ _ _ _ (T263.setTop (mkF m 119 #[.val (.int x0), .val (.int x1), .val (.int x2), .val (.int x3), .val (.int x4), .val (.int ((x0 &&& (2147483647 : Int32)) % (7 : Int32))), .val (.int ca), .val (.int cb), .val (.int (0 : Int32)), .val (.ref b224), .val (.ref b228), .val (.int (((x4.toUInt32 >>> ((1 : Int32) &&& 31).toUInt32).toInt32) &&& (3 : Int32))), .val (.int sym), .unset, .unset] [(.ref wk263), (.ref b260), (.ref b260)]))
        refine Gl.back (fun _ k => XS.aload X263.here hx rfl (hb hby at_119) rfl rfl k) ?_
        show Gl _ _ _ _ _ _ _ (T263.setTop (mkF m 121 #[.val (.int x0), .val (.int x1), .val (.int x2), .val (.int x3), .val (.int x4), .val (.int ((x0 &&& (2147483647 : Int32)) % (7 : Int32))), .val (.int ca), .val (.int cb), .val (.int (0 : Int32)), .val (.ref b224), .val (.ref b228), .val (.int (((x4.toUInt32 >>> ((1 : Int32) &&& 31).toUInt32).toInt32) &&& (3 : Int32))), .val (.int sym), .unset, .unset] [(.ref b228), (.ref wk263), (.ref b260), (.ref b260)]))
        refine Gl.back (fun _ k => XS.iconst X263.here hx rfl (hb hby at_121) k) ?_
        show Gl _ _ _ _ _ _ _ (T263.setTop (mkF m 122 #[.val (.int x0), .val (.int x1), .val (.int x2), .val (.int x3), .val (.int x4), .val (.int ((x0 &&& (2147483647 : Int32)) % (7 : Int32))), .val (.int ca), .val (.int cb), .val (.int (0 : Int32)), .val (.ref b224), .val (.ref b228), .val (.int (((x4.toUInt32 >>> ((1 : Int32) &&& 31).toUInt32).toInt32) &&& (3 : Int32))), .val (.int sym), .unset, .unset] [(.int (0 : Int32)), (.ref b228), (.ref wk263), (.ref b260), (.ref b260)]))
        refine Gl.back (fun _ k => XS.aload X263.here hx rfl (hb hby at_122) rfl rfl k) ?_
        show Gl _ _ _ _ _ _ _ (T263.setTop (mkF m 124 #[.val (.int x0), .val (.int x1), .val (.int x2), .val (.int x3), .val (.int x4), .val (.int ((x0 &&& (2147483647 : Int32)) % (7 : Int32))), .val (.int ca), .val (.int cb), .val (.int (0 : Int32)), .val (.ref b224), .val (.ref b228), .val (.int (((x4.toUInt32 >>> ((1 : Int32) &&& 31).toUInt32).toInt32) &&& (3 : Int32))), .val (.int sym), .unset, .unset] [(.ref b224), (.int (0 : Int32)), (.ref b228), (.ref wk263), (.ref b260), (.ref b260)]))
        have f264 := (f261.ext E260)
        obtain ⟨cl265, Ar265, -, Sz265, Nn265, -, -⟩ := id f264
        refine Gl.back (fun _ k => X263.arraylength hx (by rw [eh263]; exact Ar265.1) (State.isArrayOf_alike hZ.alike Ar265.2.1) (g := (mkF m 124 #[.val (.int x0), .val (.int x1), .val (.int x2), .val (.int x3), .val (.int x4), .val (.int ((x0 &&& (2147483647 : Int32)) % (7 : Int32))), .val (.int ca), .val (.int cb), .val (.int (0 : Int32)), .val (.ref b224), .val (.ref b228), .val (.int (((x4.toUInt32 >>> ((1 : Int32) &&& 31).toUInt32).toInt32) &&& (3 : Int32))), .val (.int sym), .unset, .unset] [(.ref b224), (.int (0 : Int32)), (.ref b228), (.ref wk263), (.ref b260), (.ref b260)])) rfl rfl (hb hby at_124) _ k) ?_
        rw [len_of Sz265 Nn265]
        show Gl _ _ _ _ _ _ _ (T263.setTop (mkF m 125 #[.val (.int x0), .val (.int x1), .val (.int x2), .val (.int x3), .val (.int x4), .val (.int ((x0 &&& (2147483647 : Int32)) % (7 : Int32))), .val (.int ca), .val (.int cb), .val (.int (0 : Int32)), .val (.ref b224), .val (.ref b228), .val (.int (((x4.toUInt32 >>> ((1 : Int32) &&& 31).toUInt32).toInt32) &&& (3 : Int32))), .val (.int sym), .unset, .unset] [(.int (1 : Int32)), (.int (0 : Int32)), (.ref b228), (.ref wk263), (.ref b260), (.ref b260)]))
        refine Gl.back (fun _ k => XS.iconst X263.here hx rfl (hb hby at_125) k) ?_
        show Gl _ _ _ _ _ _ _ (T263.setTop (mkF m 126 #[.val (.int x0), .val (.int x1), .val (.int x2), .val (.int x3), .val (.int x4), .val (.int ((x0 &&& (2147483647 : Int32)) % (7 : Int32))), .val (.int ca), .val (.int cb), .val (.int (0 : Int32)), .val (.ref b224), .val (.ref b228), .val (.int (((x4.toUInt32 >>> ((1 : Int32) &&& 31).toUInt32).toInt32) &&& (3 : Int32))), .val (.int sym), .unset, .unset] [(.int (1 : Int32)), (.int (1 : Int32)), (.int (0 : Int32)), (.ref b228), (.ref wk263), (.ref b260), (.ref b260)]))
        obtain ⟨_, _, ⟨T266, L266, k266, n266⟩, -, X266, ⟨Lc266, hQ266, l266, y266, z266⟩, st266⟩ := X263.specialBack hx (y := (⟨"com/example/partition_planner/partitionplanner/CqlLexer$Token", "<init>", "(Lcom/example/partition_planner/partitionplanner/CqlLexer$Kind;Ljava/lang/String;III)V"⟩ : MethodName)) rfl hown (mvT hZ (hw _ (List.mem_of_getElem? (i := 41) rfl))) (mvT hZ (hw _ (List.mem_of_getElem? (i := 42) rfl))) (mvT hZ (hw _ (List.mem_of_getElem? (i := 43) rfl))) (by decide) (backOf (W := 1) (rmtok l Z a0 hw [] b260 wk263 b228 (0 : Int32) (1 : Int32) (1 : Int32)  h260 n0 Z260 g_b260 A260 F260_kind F260_value F260_start F260_end F260_line) hZ (hw _ (List.mem_of_getElem? (i := 43) rfl)) (hw _ (List.mem_of_getElem? (i := 33) rfl)) (by decide) (by decide)) (g := (mkF m 126 #[.val (.int x0), .val (.int x1), .val (.int x2), .val (.int x3), .val (.int x4), .val (.int ((x0 &&& (2147483647 : Int32)) % (7 : Int32))), .val (.int ca), .val (.int cb), .val (.int (0 : Int32)), .val (.ref b224), .val (.ref b228), .val (.int (((x4.toUInt32 >>> ((1 : Int32) &&& 31).toUInt32).toInt32) &&& (3 : Int32))), .val (.int sym), .unset, .unset] [(.int (1 : Int32)), (.int (1 : Int32)), (.int (0 : Int32)), (.ref b228), (.ref wk263), (.ref b260), (.ref b260)])) rfl (by rw [hml]; rfl) (Steps.refl _) (a := b260) (argsL := [(.ref wk263), (.ref b228), (.int (0 : Int32)), (.int (1 : Int32)), (.int (1 : Int32))]) (rest := [(.ref b260)]) (lenOf pd__Lcom_example_partition_planner_partitionplanner_CqlLexer_Kind_Ljava_lang_String_III_V rfl) rfl (by show 2 * 0 + _ ≤ _; exact Nat.le_of_eq rfl) (hb hby at_126) (fun _ _ => ⟨rfl, eh263, (by decide : 4 + 0 ≤ _), (by decide : 11 + 0 ≤ _)⟩)
        dsimp only [Pt.U, Pt.locs, Pt.cells, Pt.slots] at X266 l266 y266 z266 st266 hQ266
        replace l266 := Eq.symm l266
        replace y266 := Eq.symm y266
        replace z266 := Eq.symm z266
        subst l266 y266 z266
        obtain ⟨Nq266, rfl, Kq266, Fk266, Fv266⟩ := hQ266
        have N266 := Fr.app N263 Nq266
        have Kc266 := Keep.trans K260 Kq266 (allS (Or.inr sz_b260) all0)
        have Zc266 : n0 ≤ T266.heap.size := Nat.le_trans Z260 Kq266.1
        have Oc266 := Old.keep O260 Kq266 (allS g_b260 all0)
        refine Gl.back (fun _ k => st266.trans k) ?_
        show Gl _ _ _ _ _ _ _ (T266.setTop (mkF m 129 #[.val (.int x0), .val (.int x1), .val (.int x2), .val (.int x3), .val (.int x4), .val (.int ((x0 &&& (2147483647 : Int32)) % (7 : Int32))), .val (.int ca), .val (.int cb), .val (.int (0 : Int32)), .val (.ref b224), .val (.ref b228), .val (.int (((x4.toUInt32 >>> ((1 : Int32) &&& 31).toUInt32).toInt32) &&& (3 : Int32))), .val (.int sym), .unset, .unset] [(.ref b260)]))
        refine Gl.back (fun _ k => XS.astore X266.here hx rfl (hb hby at_129) rfl rfl (l' := #[.val (.int x0), .val (.int x1), .val (.int x2), .val (.int x3), .val (.int x4), .val (.int ((x0 &&& (2147483647 : Int32)) % (7 : Int32))), .val (.int ca), .val (.int cb), .val (.int (0 : Int32)), .val (.ref b224), .val (.ref b228), .val (.int (((x4.toUInt32 >>> ((1 : Int32) &&& 31).toUInt32).toInt32) &&& (3 : Int32))), .val (.int sym), .val (.ref b260), .unset]) rfl k) ?_
        show Gl _ _ _ _ _ _ _ (T266.setTop (mkF m 131 #[.val (.int x0), .val (.int x1), .val (.int x2), .val (.int x3), .val (.int x4), .val (.int ((x0 &&& (2147483647 : Int32)) % (7 : Int32))), .val (.int ca), .val (.int cb), .val (.int (0 : Int32)), .val (.ref b224), .val (.ref b228), .val (.int (((x4.toUInt32 >>> ((1 : Int32) &&& 31).toUInt32).toInt32) &&& (3 : Int32))), .val (.int sym), .val (.ref b260), .unset] []))
        refine Gl.back (fun _ k => XS.iload X266.here hx rfl (hb hby at_131) rfl k) ?_
        show Gl _ _ _ _ _ _ _ (T266.setTop (mkF m 133 #[.val (.int x0), .val (.int x1), .val (.int x2), .val (.int x3), .val (.int x4), .val (.int ((x0 &&& (2147483647 : Int32)) % (7 : Int32))), .val (.int ca), .val (.int cb), .val (.int (0 : Int32)), .val (.ref b224), .val (.ref b228), .val (.int (((x4.toUInt32 >>> ((1 : Int32) &&& 31).toUInt32).toInt32) &&& (3 : Int32))), .val (.int sym), .val (.ref b260), .unset] [(.int ((x0 &&& (2147483647 : Int32)) % (7 : Int32)))]))
        refine Gl.back (fun _ k => XS.iconst X266.here hx rfl (hb hby at_133) k) ?_
        show Gl _ _ _ _ _ _ _ (T266.setTop (mkF m 134 #[.val (.int x0), .val (.int x1), .val (.int x2), .val (.int x3), .val (.int x4), .val (.int ((x0 &&& (2147483647 : Int32)) % (7 : Int32))), .val (.int ca), .val (.int cb), .val (.int (0 : Int32)), .val (.ref b224), .val (.ref b228), .val (.int (((x4.toUInt32 >>> ((1 : Int32) &&& 31).toUInt32).toInt32) &&& (3 : Int32))), .val (.int sym), .val (.ref b260), .unset] [(.int (5 : Int32)), (.int ((x0 &&& (2147483647 : Int32)) % (7 : Int32)))]))
        by_cases hc134_267 : ((x0 &&& (2147483647 : Int32)) % (7 : Int32)) = (5 : Int32)
        · refine Gl.back (fun _ k => XS.icmpNo X266.here hx rfl (hb hby at_134) rfl (teq hc134_267).2 k) ?_
          show Gl _ _ _ _ _ _ _ (T266.setTop (mkF m 137 #[.val (.int x0), .val (.int x1), .val (.int x2), .val (.int x3), .val (.int x4), .val (.int ((x0 &&& (2147483647 : Int32)) % (7 : Int32))), .val (.int ca), .val (.int cb), .val (.int (0 : Int32)), .val (.ref b224), .val (.ref b228), .val (.int (((x4.toUInt32 >>> ((1 : Int32) &&& 31).toUInt32).toInt32) &&& (3 : Int32))), .val (.int sym), .val (.ref b260), .unset] []))
          refine Gl.back (fun _ k => XS.iload X266.here hx rfl (hb hby at_137) rfl k) ?_
          show Gl _ _ _ _ _ _ _ (T266.setTop (mkF m 139 #[.val (.int x0), .val (.int x1), .val (.int x2), .val (.int x3), .val (.int x4), .val (.int ((x0 &&& (2147483647 : Int32)) % (7 : Int32))), .val (.int ca), .val (.int cb), .val (.int (0 : Int32)), .val (.ref b224), .val (.ref b228), .val (.int (((x4.toUInt32 >>> ((1 : Int32) &&& 31).toUInt32).toInt32) &&& (3 : Int32))), .val (.int sym), .val (.ref b260), .unset] [(.int ca)]))
          refine Gl.back (fun _ k => XS.iload X266.here hx rfl (hb hby at_139) rfl k) ?_
          show Gl _ _ _ _ _ _ _ (T266.setTop (mkF m 141 #[.val (.int x0), .val (.int x1), .val (.int x2), .val (.int x3), .val (.int x4), .val (.int ((x0 &&& (2147483647 : Int32)) % (7 : Int32))), .val (.int ca), .val (.int cb), .val (.int (0 : Int32)), .val (.ref b224), .val (.ref b228), .val (.int (((x4.toUInt32 >>> ((1 : Int32) &&& 31).toUInt32).toInt32) &&& (3 : Int32))), .val (.int sym), .val (.ref b260), .unset] [(.int sym), (.int ca)]))
          by_cases hc141_268 : ca = sym
          · refine Gl.back (fun _ k => XS.icmpNo X266.here hx rfl (hb hby at_141) rfl (teq hc141_268).2 k) ?_
            show Gl _ _ _ _ _ _ _ (T266.setTop (mkF m 144 #[.val (.int x0), .val (.int x1), .val (.int x2), .val (.int x3), .val (.int x4), .val (.int ((x0 &&& (2147483647 : Int32)) % (7 : Int32))), .val (.int ca), .val (.int cb), .val (.int (0 : Int32)), .val (.ref b224), .val (.ref b228), .val (.int (((x4.toUInt32 >>> ((1 : Int32) &&& 31).toUInt32).toInt32) &&& (3 : Int32))), .val (.int sym), .val (.ref b260), .unset] []))
            refine Gl.back (fun _ k => XS.iconst X266.here hx rfl (hb hby at_144) k) ?_
            show Gl _ _ _ _ _ _ _ (T266.setTop (mkF m 145 #[.val (.int x0), .val (.int x1), .val (.int x2), .val (.int x3), .val (.int x4), .val (.int ((x0 &&& (2147483647 : Int32)) % (7 : Int32))), .val (.int ca), .val (.int cb), .val (.int (0 : Int32)), .val (.ref b224), .val (.ref b228), .val (.int (((x4.toUInt32 >>> ((1 : Int32) &&& 31).toUInt32).toInt32) &&& (3 : Int32))), .val (.int sym), .val (.ref b260), .unset] [(.int (1 : Int32))]))
            refine Gl.back (fun _ k => XS.goto X266.here hx rfl (pc0 := 145) (pc' := 149) rfl (hb hby at_145) (by decide) (by decide) k) ?_
            show Gl _ _ _ _ _ _ _ (T266.setTop (mkF m 149 #[.val (.int x0), .val (.int x1), .val (.int x2), .val (.int x3), .val (.int x4), .val (.int ((x0 &&& (2147483647 : Int32)) % (7 : Int32))), .val (.int ca), .val (.int cb), .val (.int (0 : Int32)), .val (.ref b224), .val (.ref b228), .val (.int (((x4.toUInt32 >>> ((1 : Int32) &&& 31).toUInt32).toInt32) &&& (3 : Int32))), .val (.int sym), .val (.ref b260), .unset] [(.int (1 : Int32))]))
            refine Gl.back (fun _ k => XS.istore X266.here hx rfl (hb hby at_149) rfl (l' := #[.val (.int x0), .val (.int x1), .val (.int x2), .val (.int x3), .val (.int x4), .val (.int ((x0 &&& (2147483647 : Int32)) % (7 : Int32))), .val (.int ca), .val (.int cb), .val (.int (0 : Int32)), .val (.ref b224), .val (.ref b228), .val (.int (((x4.toUInt32 >>> ((1 : Int32) &&& 31).toUInt32).toInt32) &&& (3 : Int32))), .val (.int sym), .val (.ref b260), .val (.int (1 : Int32))]) rfl k) ?_
            show Gl _ _ _ _ _ _ _ (T266.setTop (mkF m 151 #[.val (.int x0), .val (.int x1), .val (.int x2), .val (.int x3), .val (.int x4), .val (.int ((x0 &&& (2147483647 : Int32)) % (7 : Int32))), .val (.int ca), .val (.int cb), .val (.int (0 : Int32)), .val (.ref b224), .val (.ref b228), .val (.int (((x4.toUInt32 >>> ((1 : Int32) &&& 31).toUInt32).toInt32) &&& (3 : Int32))), .val (.int sym), .val (.ref b260), .val (.int (1 : Int32))] []))
            refine Gl.back (fun _ k => XS.aload X266.here hx rfl (hb hby at_151) rfl rfl k) ?_
            show Gl _ _ _ _ _ _ _ (T266.setTop (mkF m 153 #[.val (.int x0), .val (.int x1), .val (.int x2), .val (.int x3), .val (.int x4), .val (.int ((x0 &&& (2147483647 : Int32)) % (7 : Int32))), .val (.int ca), .val (.int cb), .val (.int (0 : Int32)), .val (.ref b224), .val (.ref b228), .val (.int (((x4.toUInt32 >>> ((1 : Int32) &&& 31).toUInt32).toInt32) &&& (3 : Int32))), .val (.int sym), .val (.ref b260), .val (.int (1 : Int32))] [(.ref b260)]))
            refine Gl.back (fun _ k => XS.iload X266.here hx rfl (hb hby at_153) rfl k) ?_
            show Gl _ _ _ _ _ _ _ (T266.setTop (mkF m 155 #[.val (.int x0), .val (.int x1), .val (.int x2), .val (.int x3), .val (.int x4), .val (.int ((x0 &&& (2147483647 : Int32)) % (7 : Int32))), .val (.int ca), .val (.int cb), .val (.int (0 : Int32)), .val (.ref b224), .val (.ref b228), .val (.int (((x4.toUInt32 >>> ((1 : Int32) &&& 31).toUInt32).toInt32) &&& (3 : Int32))), .val (.int sym), .val (.ref b260), .val (.int (1 : Int32))] [(.int sym), (.ref b260)]))
            have hks := hk1263 hc134_267
            have f270 := ((f262.ext E260).keep Kq266)
            have f271 := ((Fc258.ext E260).keep Kq266 (ninS ne_b228_b260 nin0))
            have f272 := ((Fv258.ext E260).keep Kq266 (ninS ne_b228_b260 nin0))
            have f273 := ((Vt258.ext E260).keep Kq266 (ninS ne_t258_b260 nin0))
            have f274 := (A260.keep Kq266)
            obtain ⟨cq269, kq269, q269a, q269b, q269c⟩ := isOf hZ rfl f274
            obtain ⟨_, _, ⟨T269, L269, k269, n269⟩, -, X269, ⟨Lc269, hQ269, l269, y269, z269⟩, st269⟩ := X266.virtualBack hx (y := (⟨"com/example/partition_planner/partitionplanner/CqlLexer$Token", "isSymbol", "(C)Z"⟩ : MethodName)) (z := (⟨"com/example/partition_planner/partitionplanner/CqlLexer$Token", "isSymbol", "(C)Z"⟩ : MethodName)) hown (mvT hZ (hw _ (List.mem_of_getElem? (i := 60) rfl))) (mvT hZ (hw _ (List.mem_of_getElem? (i := 61) rfl))) (notFace_of_selects (args := #[]) (mvT hZ (hw _ (List.mem_of_getElem? (i := 63) rfl)))) (mvT hZ (hw _ (List.mem_of_getElem? (i := 63) rfl))) (mvT hZ (hw _ (List.mem_of_getElem? (i := 62) rfl))) (by decide) (backOf (W := 0) (rmsymL_1 l Z a0 hw [] b260 sym b228 t258 w_SYMBOL kb258 ca zc fm T266.heap n0 Zc266 Oc266 S_C P0 S_F hfm S_SYMBOL (hks ▸ Fk266) Fv266 f270 f271 f272 f273 (own_lat1 ⟨hcar.1, hA⟩)) hZ (hw _ (List.mem_of_getElem? (i := 64) rfl)) (hw _ (List.mem_of_getElem? (i := 33) rfl)) (by decide) (by decide)) q269a q269c (g := (mkF m 155 #[.val (.int x0), .val (.int x1), .val (.int x2), .val (.int x3), .val (.int x4), .val (.int ((x0 &&& (2147483647 : Int32)) % (7 : Int32))), .val (.int ca), .val (.int cb), .val (.int (0 : Int32)), .val (.ref b224), .val (.ref b228), .val (.int (((x4.toUInt32 >>> ((1 : Int32) &&& 31).toUInt32).toInt32) &&& (3 : Int32))), .val (.int sym), .val (.ref b260), .val (.int (1 : Int32))] [(.int sym), (.ref b260)])) rfl (by rw [hml]; rfl) (Steps.refl _) (argsL := [(.int sym)]) (rest := []) (lenOf pd__C_Z rfl) rfl (by show 2 * 0 + _ ≤ _; exact Nat.le_of_eq rfl) (hb hby at_155) (fun _ _ => ⟨rfl, rfl, (by decide : 4 + 0 ≤ _), (by decide : 11 + 0 ≤ _)⟩)
            dsimp only [Pt.U, Pt.locs, Pt.cells, Pt.slots] at X269 l269 y269 z269 st269 hQ269
            replace l269 := Eq.symm l269
            replace y269 := Eq.symm y269
            replace z269 := Eq.symm z269
            subst l269 y269 z269
            obtain ⟨Nq269, hQ269⟩ := hQ269
            rcases hQ269 with ⟨rfl, eh269, hy269⟩ | ⟨rfl, eh269, hy269⟩
            · have N269 := Fr.app N266 Nq269
              refine Gl.back (fun _ k => st269.trans k) ?_
              show Gl _ _ _ _ _ _ _ (T269.setTop (mkF m 158 #[.val (.int x0), .val (.int x1), .val (.int x2), .val (.int x3), .val (.int x4), .val (.int ((x0 &&& (2147483647 : Int32)) % (7 : Int32))), .val (.int ca), .val (.int cb), .val (.int (0 : Int32)), .val (.ref b224), .val (.ref b228), .val (.int (((x4.toUInt32 >>> ((1 : Int32) &&& 31).toUInt32).toInt32) &&& (3 : Int32))), .val (.int sym), .val (.ref b260), .val (.int (1 : Int32))] [(.int (1 : Int32))]))
              refine Gl.back (fun _ k => XS.iload X269.here hx rfl (hb hby at_158) rfl k) ?_
              show Gl _ _ _ _ _ _ _ (T269.setTop (mkF m 160 #[.val (.int x0), .val (.int x1), .val (.int x2), .val (.int x3), .val (.int x4), .val (.int ((x0 &&& (2147483647 : Int32)) % (7 : Int32))), .val (.int ca), .val (.int cb), .val (.int (0 : Int32)), .val (.ref b224), .val (.ref b228), .val (.int (((x4.toUInt32 >>> ((1 : Int32) &&& 31).toUInt32).toInt32) &&& (3 : Int32))), .val (.int sym), .val (.ref b260), .val (.int (1 : Int32))] [(.int (1 : Int32)), (.int (1 : Int32))]))
              refine Gl.back (fun _ k => XS.icmpNo X269.here hx rfl (hb hby at_160) rfl (teq (rfl : (1 : Int32) = (1 : Int32))).2 k) ?_
              show Gl _ _ _ _ _ _ _ (T269.setTop (mkF m 163 #[.val (.int x0), .val (.int x1), .val (.int x2), .val (.int x3), .val (.int x4), .val (.int ((x0 &&& (2147483647 : Int32)) % (7 : Int32))), .val (.int ca), .val (.int cb), .val (.int (0 : Int32)), .val (.ref b224), .val (.ref b228), .val (.int (((x4.toUInt32 >>> ((1 : Int32) &&& 31).toUInt32).toInt32) &&& (3 : Int32))), .val (.int sym), .val (.ref b260), .val (.int (1 : Int32))] []))
              refine Gl.back (fun _ k => XS.iconst X269.here hx rfl (hb hby at_163) k) ?_
              show Gl _ _ _ _ _ _ _ (T269.setTop (mkF m 164 #[.val (.int x0), .val (.int x1), .val (.int x2), .val (.int x3), .val (.int x4), .val (.int ((x0 &&& (2147483647 : Int32)) % (7 : Int32))), .val (.int ca), .val (.int cb), .val (.int (0 : Int32)), .val (.ref b224), .val (.ref b228), .val (.int (((x4.toUInt32 >>> ((1 : Int32) &&& 31).toUInt32).toInt32) &&& (3 : Int32))), .val (.int sym), .val (.ref b260), .val (.int (1 : Int32))] [(.int (1 : Int32))]))
              refine Gl.back (fun _ k => XS.goto X269.here hx rfl (pc0 := 164) (pc' := 168) rfl (hb hby at_164) (by decide) (by decide) k) ?_
              show Gl _ _ _ _ _ _ _ (T269.setTop (mkF m 168 #[.val (.int x0), .val (.int x1), .val (.int x2), .val (.int x3), .val (.int x4), .val (.int ((x0 &&& (2147483647 : Int32)) % (7 : Int32))), .val (.int ca), .val (.int cb), .val (.int (0 : Int32)), .val (.ref b224), .val (.ref b228), .val (.int (((x4.toUInt32 >>> ((1 : Int32) &&& 31).toUInt32).toInt32) &&& (3 : Int32))), .val (.int sym), .val (.ref b260), .val (.int (1 : Int32))] [(.int (1 : Int32))]))
              exact Gl.ret X269 eh269 (v := (some (.int (1 : Int32)))) (fun h => by rw [Bd.returns] at h; cases h) Bd.notSynchronized (fun fs hr => retN X269 hx (t := .boolean) (z := (1 : Int32)) Bd.returns (by simp) (hb hby at_168) hr) ⟨N269, rfl⟩ (by decide) (by decide)
            · have N269 := Fr.app N266 Nq269
              refine Gl.back (fun _ k => st269.trans k) ?_
              show Gl _ _ _ _ _ _ _ (T269.setTop (mkF m 158 #[.val (.int x0), .val (.int x1), .val (.int x2), .val (.int x3), .val (.int x4), .val (.int ((x0 &&& (2147483647 : Int32)) % (7 : Int32))), .val (.int ca), .val (.int cb), .val (.int (0 : Int32)), .val (.ref b224), .val (.ref b228), .val (.int (((x4.toUInt32 >>> ((1 : Int32) &&& 31).toUInt32).toInt32) &&& (3 : Int32))), .val (.int sym), .val (.ref b260), .val (.int (1 : Int32))] [(.int (0 : Int32))]))
              refine Gl.back (fun _ k => XS.iload X269.here hx rfl (hb hby at_158) rfl k) ?_
              show Gl _ _ _ _ _ _ _ (T269.setTop (mkF m 160 #[.val (.int x0), .val (.int x1), .val (.int x2), .val (.int x3), .val (.int x4), .val (.int ((x0 &&& (2147483647 : Int32)) % (7 : Int32))), .val (.int ca), .val (.int cb), .val (.int (0 : Int32)), .val (.ref b224), .val (.ref b228), .val (.int (((x4.toUInt32 >>> ((1 : Int32) &&& 31).toUInt32).toInt32) &&& (3 : Int32))), .val (.int sym), .val (.ref b260), .val (.int (1 : Int32))] [(.int (1 : Int32)), (.int (0 : Int32))]))
              refine Gl.back (fun _ k => XS.icmpNo X269.here hx rfl (hb hby at_160) rfl (teq (absurd hc141_268 (hy269) : (0 : Int32) = (1 : Int32))).2 k) ?_
              show Gl _ _ _ _ _ _ _ (T269.setTop (mkF m 163 #[.val (.int x0), .val (.int x1), .val (.int x2), .val (.int x3), .val (.int x4), .val (.int ((x0 &&& (2147483647 : Int32)) % (7 : Int32))), .val (.int ca), .val (.int cb), .val (.int (0 : Int32)), .val (.ref b224), .val (.ref b228), .val (.int (((x4.toUInt32 >>> ((1 : Int32) &&& 31).toUInt32).toInt32) &&& (3 : Int32))), .val (.int sym), .val (.ref b260), .val (.int (1 : Int32))] []))
              refine Gl.back (fun _ k => XS.iconst X269.here hx rfl (hb hby at_163) k) ?_
              show Gl _ _ _ _ _ _ _ (T269.setTop (mkF m 164 #[.val (.int x0), .val (.int x1), .val (.int x2), .val (.int x3), .val (.int x4), .val (.int ((x0 &&& (2147483647 : Int32)) % (7 : Int32))), .val (.int ca), .val (.int cb), .val (.int (0 : Int32)), .val (.ref b224), .val (.ref b228), .val (.int (((x4.toUInt32 >>> ((1 : Int32) &&& 31).toUInt32).toInt32) &&& (3 : Int32))), .val (.int sym), .val (.ref b260), .val (.int (1 : Int32))] [(.int (1 : Int32))]))
              refine Gl.back (fun _ k => XS.goto X269.here hx rfl (pc0 := 164) (pc' := 168) rfl (hb hby at_164) (by decide) (by decide) k) ?_
              show Gl _ _ _ _ _ _ _ (T269.setTop (mkF m 168 #[.val (.int x0), .val (.int x1), .val (.int x2), .val (.int x3), .val (.int x4), .val (.int ((x0 &&& (2147483647 : Int32)) % (7 : Int32))), .val (.int ca), .val (.int cb), .val (.int (0 : Int32)), .val (.ref b224), .val (.ref b228), .val (.int (((x4.toUInt32 >>> ((1 : Int32) &&& 31).toUInt32).toInt32) &&& (3 : Int32))), .val (.int sym), .val (.ref b260), .val (.int (1 : Int32))] [(.int (1 : Int32))]))
              exact Gl.ret X269 eh269 (v := (some (.int (1 : Int32)))) (fun h => by rw [Bd.returns] at h; cases h) Bd.notSynchronized (fun fs hr => retN X269 hx (t := .boolean) (z := (1 : Int32)) Bd.returns (by simp) (hb hby at_168) hr) ⟨N269, rfl⟩ (by decide) (by decide)
          · refine Gl.back (fun _ k => XS.icmpYes X266.here hx rfl (pc0 := 141) (pc' := 148) rfl (hb hby at_141) rfl (feq hc141_268).2 (by decide) (by decide) k) ?_
            show Gl _ _ _ _ _ _ _ (T266.setTop (mkF m 148 #[.val (.int x0), .val (.int x1), .val (.int x2), .val (.int x3), .val (.int x4), .val (.int ((x0 &&& (2147483647 : Int32)) % (7 : Int32))), .val (.int ca), .val (.int cb), .val (.int (0 : Int32)), .val (.ref b224), .val (.ref b228), .val (.int (((x4.toUInt32 >>> ((1 : Int32) &&& 31).toUInt32).toInt32) &&& (3 : Int32))), .val (.int sym), .val (.ref b260), .unset] []))
            refine Gl.back (fun _ k => XS.iconst X266.here hx rfl (hb hby at_148) k) ?_
            show Gl _ _ _ _ _ _ _ (T266.setTop (mkF m 149 #[.val (.int x0), .val (.int x1), .val (.int x2), .val (.int x3), .val (.int x4), .val (.int ((x0 &&& (2147483647 : Int32)) % (7 : Int32))), .val (.int ca), .val (.int cb), .val (.int (0 : Int32)), .val (.ref b224), .val (.ref b228), .val (.int (((x4.toUInt32 >>> ((1 : Int32) &&& 31).toUInt32).toInt32) &&& (3 : Int32))), .val (.int sym), .val (.ref b260), .unset] [(.int (0 : Int32))]))
            refine Gl.back (fun _ k => XS.istore X266.here hx rfl (hb hby at_149) rfl (l' := #[.val (.int x0), .val (.int x1), .val (.int x2), .val (.int x3), .val (.int x4), .val (.int ((x0 &&& (2147483647 : Int32)) % (7 : Int32))), .val (.int ca), .val (.int cb), .val (.int (0 : Int32)), .val (.ref b224), .val (.ref b228), .val (.int (((x4.toUInt32 >>> ((1 : Int32) &&& 31).toUInt32).toInt32) &&& (3 : Int32))), .val (.int sym), .val (.ref b260), .val (.int (0 : Int32))]) rfl k) ?_
            show Gl _ _ _ _ _ _ _ (T266.setTop (mkF m 151 #[.val (.int x0), .val (.int x1), .val (.int x2), .val (.int x3), .val (.int x4), .val (.int ((x0 &&& (2147483647 : Int32)) % (7 : Int32))), .val (.int ca), .val (.int cb), .val (.int (0 : Int32)), .val (.ref b224), .val (.ref b228), .val (.int (((x4.toUInt32 >>> ((1 : Int32) &&& 31).toUInt32).toInt32) &&& (3 : Int32))), .val (.int sym), .val (.ref b260), .val (.int (0 : Int32))] []))
            refine Gl.back (fun _ k => XS.aload X266.here hx rfl (hb hby at_151) rfl rfl k) ?_
            show Gl _ _ _ _ _ _ _ (T266.setTop (mkF m 153 #[.val (.int x0), .val (.int x1), .val (.int x2), .val (.int x3), .val (.int x4), .val (.int ((x0 &&& (2147483647 : Int32)) % (7 : Int32))), .val (.int ca), .val (.int cb), .val (.int (0 : Int32)), .val (.ref b224), .val (.ref b228), .val (.int (((x4.toUInt32 >>> ((1 : Int32) &&& 31).toUInt32).toInt32) &&& (3 : Int32))), .val (.int sym), .val (.ref b260), .val (.int (0 : Int32))] [(.ref b260)]))
            refine Gl.back (fun _ k => XS.iload X266.here hx rfl (hb hby at_153) rfl k) ?_
            show Gl _ _ _ _ _ _ _ (T266.setTop (mkF m 155 #[.val (.int x0), .val (.int x1), .val (.int x2), .val (.int x3), .val (.int x4), .val (.int ((x0 &&& (2147483647 : Int32)) % (7 : Int32))), .val (.int ca), .val (.int cb), .val (.int (0 : Int32)), .val (.ref b224), .val (.ref b228), .val (.int (((x4.toUInt32 >>> ((1 : Int32) &&& 31).toUInt32).toInt32) &&& (3 : Int32))), .val (.int sym), .val (.ref b260), .val (.int (0 : Int32))] [(.int sym), (.ref b260)]))
            have hks := hk1263 hc134_267
            have f276 := ((f262.ext E260).keep Kq266)
            have f277 := ((Fc258.ext E260).keep Kq266 (ninS ne_b228_b260 nin0))
            have f278 := ((Fv258.ext E260).keep Kq266 (ninS ne_b228_b260 nin0))
            have f279 := ((Vt258.ext E260).keep Kq266 (ninS ne_t258_b260 nin0))
            have f280 := (A260.keep Kq266)
            obtain ⟨cq275, kq275, q275a, q275b, q275c⟩ := isOf hZ rfl f280
            obtain ⟨_, _, ⟨T275, L275, k275, n275⟩, -, X275, ⟨Lc275, hQ275, l275, y275, z275⟩, st275⟩ := X266.virtualBack hx (y := (⟨"com/example/partition_planner/partitionplanner/CqlLexer$Token", "isSymbol", "(C)Z"⟩ : MethodName)) (z := (⟨"com/example/partition_planner/partitionplanner/CqlLexer$Token", "isSymbol", "(C)Z"⟩ : MethodName)) hown (mvT hZ (hw _ (List.mem_of_getElem? (i := 60) rfl))) (mvT hZ (hw _ (List.mem_of_getElem? (i := 61) rfl))) (notFace_of_selects (args := #[]) (mvT hZ (hw _ (List.mem_of_getElem? (i := 63) rfl)))) (mvT hZ (hw _ (List.mem_of_getElem? (i := 63) rfl))) (mvT hZ (hw _ (List.mem_of_getElem? (i := 62) rfl))) (by decide) (backOf (W := 0) (rmsymL_1 l Z a0 hw [] b260 sym b228 t258 w_SYMBOL kb258 ca zc fm T266.heap n0 Zc266 Oc266 S_C P0 S_F hfm S_SYMBOL (hks ▸ Fk266) Fv266 f276 f277 f278 f279 (own_lat1 ⟨hcar.1, hA⟩)) hZ (hw _ (List.mem_of_getElem? (i := 64) rfl)) (hw _ (List.mem_of_getElem? (i := 33) rfl)) (by decide) (by decide)) q275a q275c (g := (mkF m 155 #[.val (.int x0), .val (.int x1), .val (.int x2), .val (.int x3), .val (.int x4), .val (.int ((x0 &&& (2147483647 : Int32)) % (7 : Int32))), .val (.int ca), .val (.int cb), .val (.int (0 : Int32)), .val (.ref b224), .val (.ref b228), .val (.int (((x4.toUInt32 >>> ((1 : Int32) &&& 31).toUInt32).toInt32) &&& (3 : Int32))), .val (.int sym), .val (.ref b260), .val (.int (0 : Int32))] [(.int sym), (.ref b260)])) rfl (by rw [hml]; rfl) (Steps.refl _) (argsL := [(.int sym)]) (rest := []) (lenOf pd__C_Z rfl) rfl (by show 2 * 0 + _ ≤ _; exact Nat.le_of_eq rfl) (hb hby at_155) (fun _ _ => ⟨rfl, rfl, (by decide : 4 + 0 ≤ _), (by decide : 11 + 0 ≤ _)⟩)
            dsimp only [Pt.U, Pt.locs, Pt.cells, Pt.slots] at X275 l275 y275 z275 st275 hQ275
            replace l275 := Eq.symm l275
            replace y275 := Eq.symm y275
            replace z275 := Eq.symm z275
            subst l275 y275 z275
            obtain ⟨Nq275, hQ275⟩ := hQ275
            rcases hQ275 with ⟨rfl, eh275, hy275⟩ | ⟨rfl, eh275, hy275⟩
            · have N275 := Fr.app N266 Nq275
              refine Gl.back (fun _ k => st275.trans k) ?_
              show Gl _ _ _ _ _ _ _ (T275.setTop (mkF m 158 #[.val (.int x0), .val (.int x1), .val (.int x2), .val (.int x3), .val (.int x4), .val (.int ((x0 &&& (2147483647 : Int32)) % (7 : Int32))), .val (.int ca), .val (.int cb), .val (.int (0 : Int32)), .val (.ref b224), .val (.ref b228), .val (.int (((x4.toUInt32 >>> ((1 : Int32) &&& 31).toUInt32).toInt32) &&& (3 : Int32))), .val (.int sym), .val (.ref b260), .val (.int (0 : Int32))] [(.int (1 : Int32))]))
              refine Gl.back (fun _ k => XS.iload X275.here hx rfl (hb hby at_158) rfl k) ?_
              show Gl _ _ _ _ _ _ _ (T275.setTop (mkF m 160 #[.val (.int x0), .val (.int x1), .val (.int x2), .val (.int x3), .val (.int x4), .val (.int ((x0 &&& (2147483647 : Int32)) % (7 : Int32))), .val (.int ca), .val (.int cb), .val (.int (0 : Int32)), .val (.ref b224), .val (.ref b228), .val (.int (((x4.toUInt32 >>> ((1 : Int32) &&& 31).toUInt32).toInt32) &&& (3 : Int32))), .val (.int sym), .val (.ref b260), .val (.int (0 : Int32))] [(.int (0 : Int32)), (.int (1 : Int32))]))
              refine Gl.back (fun _ k => XS.icmpNo X275.here hx rfl (hb hby at_160) rfl (teq (absurd (hy275) hc141_268 : (1 : Int32) = (0 : Int32))).2 k) ?_
              show Gl _ _ _ _ _ _ _ (T275.setTop (mkF m 163 #[.val (.int x0), .val (.int x1), .val (.int x2), .val (.int x3), .val (.int x4), .val (.int ((x0 &&& (2147483647 : Int32)) % (7 : Int32))), .val (.int ca), .val (.int cb), .val (.int (0 : Int32)), .val (.ref b224), .val (.ref b228), .val (.int (((x4.toUInt32 >>> ((1 : Int32) &&& 31).toUInt32).toInt32) &&& (3 : Int32))), .val (.int sym), .val (.ref b260), .val (.int (0 : Int32))] []))
              refine Gl.back (fun _ k => XS.iconst X275.here hx rfl (hb hby at_163) k) ?_
              show Gl _ _ _ _ _ _ _ (T275.setTop (mkF m 164 #[.val (.int x0), .val (.int x1), .val (.int x2), .val (.int x3), .val (.int x4), .val (.int ((x0 &&& (2147483647 : Int32)) % (7 : Int32))), .val (.int ca), .val (.int cb), .val (.int (0 : Int32)), .val (.ref b224), .val (.ref b228), .val (.int (((x4.toUInt32 >>> ((1 : Int32) &&& 31).toUInt32).toInt32) &&& (3 : Int32))), .val (.int sym), .val (.ref b260), .val (.int (0 : Int32))] [(.int (1 : Int32))]))
              refine Gl.back (fun _ k => XS.goto X275.here hx rfl (pc0 := 164) (pc' := 168) rfl (hb hby at_164) (by decide) (by decide) k) ?_
              show Gl _ _ _ _ _ _ _ (T275.setTop (mkF m 168 #[.val (.int x0), .val (.int x1), .val (.int x2), .val (.int x3), .val (.int x4), .val (.int ((x0 &&& (2147483647 : Int32)) % (7 : Int32))), .val (.int ca), .val (.int cb), .val (.int (0 : Int32)), .val (.ref b224), .val (.ref b228), .val (.int (((x4.toUInt32 >>> ((1 : Int32) &&& 31).toUInt32).toInt32) &&& (3 : Int32))), .val (.int sym), .val (.ref b260), .val (.int (0 : Int32))] [(.int (1 : Int32))]))
              exact Gl.ret X275 eh275 (v := (some (.int (1 : Int32)))) (fun h => by rw [Bd.returns] at h; cases h) Bd.notSynchronized (fun fs hr => retN X275 hx (t := .boolean) (z := (1 : Int32)) Bd.returns (by simp) (hb hby at_168) hr) ⟨N275, rfl⟩ (by decide) (by decide)
            · have N275 := Fr.app N266 Nq275
              refine Gl.back (fun _ k => st275.trans k) ?_
              show Gl _ _ _ _ _ _ _ (T275.setTop (mkF m 158 #[.val (.int x0), .val (.int x1), .val (.int x2), .val (.int x3), .val (.int x4), .val (.int ((x0 &&& (2147483647 : Int32)) % (7 : Int32))), .val (.int ca), .val (.int cb), .val (.int (0 : Int32)), .val (.ref b224), .val (.ref b228), .val (.int (((x4.toUInt32 >>> ((1 : Int32) &&& 31).toUInt32).toInt32) &&& (3 : Int32))), .val (.int sym), .val (.ref b260), .val (.int (0 : Int32))] [(.int (0 : Int32))]))
              refine Gl.back (fun _ k => XS.iload X275.here hx rfl (hb hby at_158) rfl k) ?_
              show Gl _ _ _ _ _ _ _ (T275.setTop (mkF m 160 #[.val (.int x0), .val (.int x1), .val (.int x2), .val (.int x3), .val (.int x4), .val (.int ((x0 &&& (2147483647 : Int32)) % (7 : Int32))), .val (.int ca), .val (.int cb), .val (.int (0 : Int32)), .val (.ref b224), .val (.ref b228), .val (.int (((x4.toUInt32 >>> ((1 : Int32) &&& 31).toUInt32).toInt32) &&& (3 : Int32))), .val (.int sym), .val (.ref b260), .val (.int (0 : Int32))] [(.int (0 : Int32)), (.int (0 : Int32))]))
              refine Gl.back (fun _ k => XS.icmpNo X275.here hx rfl (hb hby at_160) rfl (teq (rfl : (0 : Int32) = (0 : Int32))).2 k) ?_
              show Gl _ _ _ _ _ _ _ (T275.setTop (mkF m 163 #[.val (.int x0), .val (.int x1), .val (.int x2), .val (.int x3), .val (.int x4), .val (.int ((x0 &&& (2147483647 : Int32)) % (7 : Int32))), .val (.int ca), .val (.int cb), .val (.int (0 : Int32)), .val (.ref b224), .val (.ref b228), .val (.int (((x4.toUInt32 >>> ((1 : Int32) &&& 31).toUInt32).toInt32) &&& (3 : Int32))), .val (.int sym), .val (.ref b260), .val (.int (0 : Int32))] []))
              refine Gl.back (fun _ k => XS.iconst X275.here hx rfl (hb hby at_163) k) ?_
              show Gl _ _ _ _ _ _ _ (T275.setTop (mkF m 164 #[.val (.int x0), .val (.int x1), .val (.int x2), .val (.int x3), .val (.int x4), .val (.int ((x0 &&& (2147483647 : Int32)) % (7 : Int32))), .val (.int ca), .val (.int cb), .val (.int (0 : Int32)), .val (.ref b224), .val (.ref b228), .val (.int (((x4.toUInt32 >>> ((1 : Int32) &&& 31).toUInt32).toInt32) &&& (3 : Int32))), .val (.int sym), .val (.ref b260), .val (.int (0 : Int32))] [(.int (1 : Int32))]))
              refine Gl.back (fun _ k => XS.goto X275.here hx rfl (pc0 := 164) (pc' := 168) rfl (hb hby at_164) (by decide) (by decide) k) ?_
              show Gl _ _ _ _ _ _ _ (T275.setTop (mkF m 168 #[.val (.int x0), .val (.int x1), .val (.int x2), .val (.int x3), .val (.int x4), .val (.int ((x0 &&& (2147483647 : Int32)) % (7 : Int32))), .val (.int ca), .val (.int cb), .val (.int (0 : Int32)), .val (.ref b224), .val (.ref b228), .val (.int (((x4.toUInt32 >>> ((1 : Int32) &&& 31).toUInt32).toInt32) &&& (3 : Int32))), .val (.int sym), .val (.ref b260), .val (.int (0 : Int32))] [(.int (1 : Int32))]))
              exact Gl.ret X275 eh275 (v := (some (.int (1 : Int32)))) (fun h => by rw [Bd.returns] at h; cases h) Bd.notSynchronized (fun fs hr => retN X275 hx (t := .boolean) (z := (1 : Int32)) Bd.returns (by simp) (hb hby at_168) hr) ⟨N275, rfl⟩ (by decide) (by decide)
        · refine Gl.back (fun _ k => XS.icmpYes X266.here hx rfl (pc0 := 134) (pc' := 148) rfl (hb hby at_134) rfl (feq hc134_267).2 (by decide) (by decide) k) ?_
          show Gl _ _ _ _ _ _ _ (T266.setTop (mkF m 148 #[.val (.int x0), .val (.int x1), .val (.int x2), .val (.int x3), .val (.int x4), .val (.int ((x0 &&& (2147483647 : Int32)) % (7 : Int32))), .val (.int ca), .val (.int cb), .val (.int (0 : Int32)), .val (.ref b224), .val (.ref b228), .val (.int (((x4.toUInt32 >>> ((1 : Int32) &&& 31).toUInt32).toInt32) &&& (3 : Int32))), .val (.int sym), .val (.ref b260), .unset] []))
          refine Gl.back (fun _ k => XS.iconst X266.here hx rfl (hb hby at_148) k) ?_
          show Gl _ _ _ _ _ _ _ (T266.setTop (mkF m 149 #[.val (.int x0), .val (.int x1), .val (.int x2), .val (.int x3), .val (.int x4), .val (.int ((x0 &&& (2147483647 : Int32)) % (7 : Int32))), .val (.int ca), .val (.int cb), .val (.int (0 : Int32)), .val (.ref b224), .val (.ref b228), .val (.int (((x4.toUInt32 >>> ((1 : Int32) &&& 31).toUInt32).toInt32) &&& (3 : Int32))), .val (.int sym), .val (.ref b260), .unset] [(.int (0 : Int32))]))
          refine Gl.back (fun _ k => XS.istore X266.here hx rfl (hb hby at_149) rfl (l' := #[.val (.int x0), .val (.int x1), .val (.int x2), .val (.int x3), .val (.int x4), .val (.int ((x0 &&& (2147483647 : Int32)) % (7 : Int32))), .val (.int ca), .val (.int cb), .val (.int (0 : Int32)), .val (.ref b224), .val (.ref b228), .val (.int (((x4.toUInt32 >>> ((1 : Int32) &&& 31).toUInt32).toInt32) &&& (3 : Int32))), .val (.int sym), .val (.ref b260), .val (.int (0 : Int32))]) rfl k) ?_
          show Gl _ _ _ _ _ _ _ (T266.setTop (mkF m 151 #[.val (.int x0), .val (.int x1), .val (.int x2), .val (.int x3), .val (.int x4), .val (.int ((x0 &&& (2147483647 : Int32)) % (7 : Int32))), .val (.int ca), .val (.int cb), .val (.int (0 : Int32)), .val (.ref b224), .val (.ref b228), .val (.int (((x4.toUInt32 >>> ((1 : Int32) &&& 31).toUInt32).toInt32) &&& (3 : Int32))), .val (.int sym), .val (.ref b260), .val (.int (0 : Int32))] []))
          refine Gl.back (fun _ k => XS.aload X266.here hx rfl (hb hby at_151) rfl rfl k) ?_
          show Gl _ _ _ _ _ _ _ (T266.setTop (mkF m 153 #[.val (.int x0), .val (.int x1), .val (.int x2), .val (.int x3), .val (.int x4), .val (.int ((x0 &&& (2147483647 : Int32)) % (7 : Int32))), .val (.int ca), .val (.int cb), .val (.int (0 : Int32)), .val (.ref b224), .val (.ref b228), .val (.int (((x4.toUInt32 >>> ((1 : Int32) &&& 31).toUInt32).toInt32) &&& (3 : Int32))), .val (.int sym), .val (.ref b260), .val (.int (0 : Int32))] [(.ref b260)]))
          refine Gl.back (fun _ k => XS.iload X266.here hx rfl (hb hby at_153) rfl k) ?_
          show Gl _ _ _ _ _ _ _ (T266.setTop (mkF m 155 #[.val (.int x0), .val (.int x1), .val (.int x2), .val (.int x3), .val (.int x4), .val (.int ((x0 &&& (2147483647 : Int32)) % (7 : Int32))), .val (.int ca), .val (.int cb), .val (.int (0 : Int32)), .val (.ref b224), .val (.ref b228), .val (.int (((x4.toUInt32 >>> ((1 : Int32) &&& 31).toUInt32).toInt32) &&& (3 : Int32))), .val (.int sym), .val (.ref b260), .val (.int (0 : Int32))] [(.int sym), (.ref b260)]))
          have f282 := (A260.keep Kq266)
          obtain ⟨cq281, kq281, q281a, q281b, q281c⟩ := isOf hZ rfl f282
          obtain ⟨_, _, ⟨T281, L281, k281, n281⟩, -, X281, ⟨Lc281, hQ281, l281, y281, z281⟩, st281⟩ := X266.virtualBack hx (y := (⟨"com/example/partition_planner/partitionplanner/CqlLexer$Token", "isSymbol", "(C)Z"⟩ : MethodName)) (z := (⟨"com/example/partition_planner/partitionplanner/CqlLexer$Token", "isSymbol", "(C)Z"⟩ : MethodName)) hown (mvT hZ (hw _ (List.mem_of_getElem? (i := 60) rfl))) (mvT hZ (hw _ (List.mem_of_getElem? (i := 61) rfl))) (notFace_of_selects (args := #[]) (mvT hZ (hw _ (List.mem_of_getElem? (i := 63) rfl)))) (mvT hZ (hw _ (List.mem_of_getElem? (i := 63) rfl))) (mvT hZ (hw _ (List.mem_of_getElem? (i := 62) rfl))) (by decide) (backOf (W := 0) (rmsym0 l Z a0 hw [] b260 sym wk263 w_SYMBOL T266.heap n0 Zc266 Oc266 S_SYMBOL Fk266 (hk2263 hc134_267)) hZ (hw _ (List.mem_of_getElem? (i := 64) rfl)) (hw _ (List.mem_of_getElem? (i := 33) rfl)) (by decide) (by decide)) q281a q281c (g := (mkF m 155 #[.val (.int x0), .val (.int x1), .val (.int x2), .val (.int x3), .val (.int x4), .val (.int ((x0 &&& (2147483647 : Int32)) % (7 : Int32))), .val (.int ca), .val (.int cb), .val (.int (0 : Int32)), .val (.ref b224), .val (.ref b228), .val (.int (((x4.toUInt32 >>> ((1 : Int32) &&& 31).toUInt32).toInt32) &&& (3 : Int32))), .val (.int sym), .val (.ref b260), .val (.int (0 : Int32))] [(.int sym), (.ref b260)])) rfl (by rw [hml]; rfl) (Steps.refl _) (argsL := [(.int sym)]) (rest := []) (lenOf pd__C_Z rfl) rfl (by show 2 * 0 + _ ≤ _; exact Nat.le_of_eq rfl) (hb hby at_155) (fun _ _ => ⟨rfl, rfl, (by decide : 4 + 0 ≤ _), (by decide : 11 + 0 ≤ _)⟩)
          dsimp only [Pt.U, Pt.locs, Pt.cells, Pt.slots] at X281 l281 y281 z281 st281 hQ281
          replace l281 := Eq.symm l281
          replace y281 := Eq.symm y281
          replace z281 := Eq.symm z281
          subst l281 y281 z281
          obtain ⟨Nq281, rfl, eh281⟩ := hQ281
          have N281 := Fr.app N266 Nq281
          refine Gl.back (fun _ k => st281.trans k) ?_
          show Gl _ _ _ _ _ _ _ (T281.setTop (mkF m 158 #[.val (.int x0), .val (.int x1), .val (.int x2), .val (.int x3), .val (.int x4), .val (.int ((x0 &&& (2147483647 : Int32)) % (7 : Int32))), .val (.int ca), .val (.int cb), .val (.int (0 : Int32)), .val (.ref b224), .val (.ref b228), .val (.int (((x4.toUInt32 >>> ((1 : Int32) &&& 31).toUInt32).toInt32) &&& (3 : Int32))), .val (.int sym), .val (.ref b260), .val (.int (0 : Int32))] [(.int (0 : Int32))]))
          refine Gl.back (fun _ k => XS.iload X281.here hx rfl (hb hby at_158) rfl k) ?_
          show Gl _ _ _ _ _ _ _ (T281.setTop (mkF m 160 #[.val (.int x0), .val (.int x1), .val (.int x2), .val (.int x3), .val (.int x4), .val (.int ((x0 &&& (2147483647 : Int32)) % (7 : Int32))), .val (.int ca), .val (.int cb), .val (.int (0 : Int32)), .val (.ref b224), .val (.ref b228), .val (.int (((x4.toUInt32 >>> ((1 : Int32) &&& 31).toUInt32).toInt32) &&& (3 : Int32))), .val (.int sym), .val (.ref b260), .val (.int (0 : Int32))] [(.int (0 : Int32)), (.int (0 : Int32))]))
          refine Gl.back (fun _ k => XS.icmpNo X281.here hx rfl (hb hby at_160) rfl (teq (rfl : (0 : Int32) = (0 : Int32))).2 k) ?_
          show Gl _ _ _ _ _ _ _ (T281.setTop (mkF m 163 #[.val (.int x0), .val (.int x1), .val (.int x2), .val (.int x3), .val (.int x4), .val (.int ((x0 &&& (2147483647 : Int32)) % (7 : Int32))), .val (.int ca), .val (.int cb), .val (.int (0 : Int32)), .val (.ref b224), .val (.ref b228), .val (.int (((x4.toUInt32 >>> ((1 : Int32) &&& 31).toUInt32).toInt32) &&& (3 : Int32))), .val (.int sym), .val (.ref b260), .val (.int (0 : Int32))] []))
          refine Gl.back (fun _ k => XS.iconst X281.here hx rfl (hb hby at_163) k) ?_
          show Gl _ _ _ _ _ _ _ (T281.setTop (mkF m 164 #[.val (.int x0), .val (.int x1), .val (.int x2), .val (.int x3), .val (.int x4), .val (.int ((x0 &&& (2147483647 : Int32)) % (7 : Int32))), .val (.int ca), .val (.int cb), .val (.int (0 : Int32)), .val (.ref b224), .val (.ref b228), .val (.int (((x4.toUInt32 >>> ((1 : Int32) &&& 31).toUInt32).toInt32) &&& (3 : Int32))), .val (.int sym), .val (.ref b260), .val (.int (0 : Int32))] [(.int (1 : Int32))]))
          refine Gl.back (fun _ k => XS.goto X281.here hx rfl (pc0 := 164) (pc' := 168) rfl (hb hby at_164) (by decide) (by decide) k) ?_
          show Gl _ _ _ _ _ _ _ (T281.setTop (mkF m 168 #[.val (.int x0), .val (.int x1), .val (.int x2), .val (.int x3), .val (.int x4), .val (.int ((x0 &&& (2147483647 : Int32)) % (7 : Int32))), .val (.int ca), .val (.int cb), .val (.int (0 : Int32)), .val (.ref b224), .val (.ref b228), .val (.int (((x4.toUInt32 >>> ((1 : Int32) &&& 31).toUInt32).toInt32) &&& (3 : Int32))), .val (.int sym), .val (.ref b260), .val (.int (0 : Int32))] [(.int (1 : Int32))]))
          exact Gl.ret X281 eh281 (v := (some (.int (1 : Int32)))) (fun h => by rw [Bd.returns] at h; cases h) Bd.notSynchronized (fun fs hr => retN X281 hx (t := .boolean) (z := (1 : Int32)) Bd.returns (by simp) (hb hby at_168) hr) ⟨N281, rfl⟩ (by decide) (by decide)
      refine Gl.back (fun _ k => XS.iload X258.here hx rfl (hb hby at_73) rfl k) ?_
      show Gl _ _ _ _ _ _ _ (T258.setTop (mkF m 75 #[.val (.int x0), .val (.int x1), .val (.int x2), .val (.int x3), .val (.int x4), .val (.int ((x0 &&& (2147483647 : Int32)) % (7 : Int32))), .val (.int ca), .val (.int cb), .val (.int (0 : Int32)), .val (.ref b224), .val (.ref b228), .unset, .unset, .unset, .unset] [(.int x4)]))
      refine Gl.back (fun _ k => XS.iconst X258.here hx rfl (hb hby at_75) k) ?_
      show Gl _ _ _ _ _ _ _ (T258.setTop (mkF m 76 #[.val (.int x0), .val (.int x1), .val (.int x2), .val (.int x3), .val (.int x4), .val (.int ((x0 &&& (2147483647 : Int32)) % (7 : Int32))), .val (.int ca), .val (.int cb), .val (.int (0 : Int32)), .val (.ref b224), .val (.ref b228), .unset, .unset, .unset, .unset] [(.int (1 : Int32)), (.int x4)]))
      refine Gl.back (fun _ k => XS.iushr X258.here hx rfl (hb hby at_76) rfl k) ?_
      show Gl _ _ _ _ _ _ _ (T258.setTop (mkF m 77 #[.val (.int x0), .val (.int x1), .val (.int x2), .val (.int x3), .val (.int x4), .val (.int ((x0 &&& (2147483647 : Int32)) % (7 : Int32))), .val (.int ca), .val (.int cb), .val (.int (0 : Int32)), .val (.ref b224), .val (.ref b228), .unset, .unset, .unset, .unset] [(.int ((x4.toUInt32 >>> ((1 : Int32) &&& 31).toUInt32).toInt32))]))
      refine Gl.back (fun _ k => XS.iconst X258.here hx rfl (hb hby at_77) k) ?_
      show Gl _ _ _ _ _ _ _ (T258.setTop (mkF m 78 #[.val (.int x0), .val (.int x1), .val (.int x2), .val (.int x3), .val (.int x4), .val (.int ((x0 &&& (2147483647 : Int32)) % (7 : Int32))), .val (.int ca), .val (.int cb), .val (.int (0 : Int32)), .val (.ref b224), .val (.ref b228), .unset, .unset, .unset, .unset] [(.int (3 : Int32)), (.int ((x4.toUInt32 >>> ((1 : Int32) &&& 31).toUInt32).toInt32))]))
      refine Gl.back (fun _ k => XS.iand X258.here hx rfl (hb hby at_78) rfl k) ?_
      show Gl _ _ _ _ _ _ _ (T258.setTop (mkF m 79 #[.val (.int x0), .val (.int x1), .val (.int x2), .val (.int x3), .val (.int x4), .val (.int ((x0 &&& (2147483647 : Int32)) % (7 : Int32))), .val (.int ca), .val (.int cb), .val (.int (0 : Int32)), .val (.ref b224), .val (.ref b228), .unset, .unset, .unset, .unset] [(.int (((x4.toUInt32 >>> ((1 : Int32) &&& 31).toUInt32).toInt32) &&& (3 : Int32)))]))
      refine Gl.back (fun _ k => XS.istore X258.here hx rfl (hb hby at_79) rfl (l' := #[.val (.int x0), .val (.int x1), .val (.int x2), .val (.int x3), .val (.int x4), .val (.int ((x0 &&& (2147483647 : Int32)) % (7 : Int32))), .val (.int ca), .val (.int cb), .val (.int (0 : Int32)), .val (.ref b224), .val (.ref b228), .val (.int (((x4.toUInt32 >>> ((1 : Int32) &&& 31).toUInt32).toInt32) &&& (3 : Int32))), .unset, .unset, .unset]) rfl k) ?_
      show Gl _ _ _ _ _ _ _ (T258.setTop (mkF m 81 #[.val (.int x0), .val (.int x1), .val (.int x2), .val (.int x3), .val (.int x4), .val (.int ((x0 &&& (2147483647 : Int32)) % (7 : Int32))), .val (.int ca), .val (.int cb), .val (.int (0 : Int32)), .val (.ref b224), .val (.ref b228), .val (.int (((x4.toUInt32 >>> ((1 : Int32) &&& 31).toUInt32).toInt32) &&& (3 : Int32))), .unset, .unset, .unset] []))
      refine Gl.back (fun _ k => XS.iload X258.here hx rfl (hb hby at_81) rfl k) ?_
      show Gl _ _ _ _ _ _ _ (T258.setTop (mkF m 83 #[.val (.int x0), .val (.int x1), .val (.int x2), .val (.int x3), .val (.int x4), .val (.int ((x0 &&& (2147483647 : Int32)) % (7 : Int32))), .val (.int ca), .val (.int cb), .val (.int (0 : Int32)), .val (.ref b224), .val (.ref b228), .val (.int (((x4.toUInt32 >>> ((1 : Int32) &&& 31).toUInt32).toInt32) &&& (3 : Int32))), .unset, .unset, .unset] [(.int (((x4.toUInt32 >>> ((1 : Int32) &&& 31).toUInt32).toInt32) &&& (3 : Int32)))]))
      by_cases hc83_283 : (((x4.toUInt32 >>> ((1 : Int32) &&& 31).toUInt32).toInt32) &&& (3 : Int32)) = (0 : Int32)
      · refine Gl.back (fun _ k => XS.ifNo X258.here hx rfl (hb hby at_83) rfl ((if0 _ _).trans (teq hc83_283).2) k) ?_
        show Gl _ _ _ _ _ _ _ (T258.setTop (mkF m 86 #[.val (.int x0), .val (.int x1), .val (.int x2), .val (.int x3), .val (.int x4), .val (.int ((x0 &&& (2147483647 : Int32)) % (7 : Int32))), .val (.int ca), .val (.int cb), .val (.int (0 : Int32)), .val (.ref b224), .val (.ref b228), .val (.int (((x4.toUInt32 >>> ((1 : Int32) &&& 31).toUInt32).toInt32) &&& (3 : Int32))), .unset, .unset, .unset] []))
        refine Gl.back (fun _ k => XS.iload X258.here hx rfl (hb hby at_86) rfl k) ?_
        show Gl _ _ _ _ _ _ _ (T258.setTop (mkF m 88 #[.val (.int x0), .val (.int x1), .val (.int x2), .val (.int x3), .val (.int x4), .val (.int ((x0 &&& (2147483647 : Int32)) % (7 : Int32))), .val (.int ca), .val (.int cb), .val (.int (0 : Int32)), .val (.ref b224), .val (.ref b228), .val (.int (((x4.toUInt32 >>> ((1 : Int32) &&& 31).toUInt32).toInt32) &&& (3 : Int32))), .unset, .unset, .unset] [(.int ca)]))
        refine Gl.back (fun _ k => XS.istore X258.here hx rfl (hb hby at_88) rfl (l' := #[.val (.int x0), .val (.int x1), .val (.int x2), .val (.int x3), .val (.int x4), .val (.int ((x0 &&& (2147483647 : Int32)) % (7 : Int32))), .val (.int ca), .val (.int cb), .val (.int (0 : Int32)), .val (.ref b224), .val (.ref b228), .val (.int (((x4.toUInt32 >>> ((1 : Int32) &&& 31).toUInt32).toInt32) &&& (3 : Int32))), .val (.int ca), .unset, .unset]) rfl k) ?_
        show Gl _ _ _ _ _ _ _ (T258.setTop (mkF m 90 #[.val (.int x0), .val (.int x1), .val (.int x2), .val (.int x3), .val (.int x4), .val (.int ((x0 &&& (2147483647 : Int32)) % (7 : Int32))), .val (.int ca), .val (.int cb), .val (.int (0 : Int32)), .val (.ref b224), .val (.ref b228), .val (.int (((x4.toUInt32 >>> ((1 : Int32) &&& 31).toUInt32).toInt32) &&& (3 : Int32))), .val (.int ca), .unset, .unset] []))
        refine Gl.back (fun _ k => XS.goto X258.here hx rfl (pc0 := 90) (pc' := 110) rfl (hb hby at_90) (by decide) (by decide) k) ?_
        show Gl _ _ _ _ _ _ _ (T258.setTop (mkF m 110 #[.val (.int x0), .val (.int x1), .val (.int x2), .val (.int x3), .val (.int x4), .val (.int ((x0 &&& (2147483647 : Int32)) % (7 : Int32))), .val (.int ca), .val (.int cb), .val (.int (0 : Int32)), .val (.ref b224), .val (.ref b228), .val (.int (((x4.toUInt32 >>> ((1 : Int32) &&& 31).toUInt32).toInt32) &&& (3 : Int32))), .val (.int ca), .unset, .unset] []))
        exact J110 _
      · refine Gl.back (fun _ k => XS.ifYes X258.here hx rfl (pc0 := 83) (pc' := 93) rfl (hb hby at_83) rfl ((if0 _ _).trans (feq hc83_283).2) (by decide) (by decide) k) ?_
        show Gl _ _ _ _ _ _ _ (T258.setTop (mkF m 93 #[.val (.int x0), .val (.int x1), .val (.int x2), .val (.int x3), .val (.int x4), .val (.int ((x0 &&& (2147483647 : Int32)) % (7 : Int32))), .val (.int ca), .val (.int cb), .val (.int (0 : Int32)), .val (.ref b224), .val (.ref b228), .val (.int (((x4.toUInt32 >>> ((1 : Int32) &&& 31).toUInt32).toInt32) &&& (3 : Int32))), .unset, .unset, .unset] []))
        refine Gl.back (fun _ k => XS.iload X258.here hx rfl (hb hby at_93) rfl k) ?_
        show Gl _ _ _ _ _ _ _ (T258.setTop (mkF m 95 #[.val (.int x0), .val (.int x1), .val (.int x2), .val (.int x3), .val (.int x4), .val (.int ((x0 &&& (2147483647 : Int32)) % (7 : Int32))), .val (.int ca), .val (.int cb), .val (.int (0 : Int32)), .val (.ref b224), .val (.ref b228), .val (.int (((x4.toUInt32 >>> ((1 : Int32) &&& 31).toUInt32).toInt32) &&& (3 : Int32))), .unset, .unset, .unset] [(.int (((x4.toUInt32 >>> ((1 : Int32) &&& 31).toUInt32).toInt32) &&& (3 : Int32)))]))
        refine Gl.back (fun _ k => XS.iconst X258.here hx rfl (hb hby at_95) k) ?_
        show Gl _ _ _ _ _ _ _ (T258.setTop (mkF m 96 #[.val (.int x0), .val (.int x1), .val (.int x2), .val (.int x3), .val (.int x4), .val (.int ((x0 &&& (2147483647 : Int32)) % (7 : Int32))), .val (.int ca), .val (.int cb), .val (.int (0 : Int32)), .val (.ref b224), .val (.ref b228), .val (.int (((x4.toUInt32 >>> ((1 : Int32) &&& 31).toUInt32).toInt32) &&& (3 : Int32))), .unset, .unset, .unset] [(.int (1 : Int32)), (.int (((x4.toUInt32 >>> ((1 : Int32) &&& 31).toUInt32).toInt32) &&& (3 : Int32)))]))
        by_cases hc96_284 : (((x4.toUInt32 >>> ((1 : Int32) &&& 31).toUInt32).toInt32) &&& (3 : Int32)) = (1 : Int32)
        · refine Gl.back (fun _ k => XS.icmpNo X258.here hx rfl (hb hby at_96) rfl (teq hc96_284).2 k) ?_
          show Gl _ _ _ _ _ _ _ (T258.setTop (mkF m 99 #[.val (.int x0), .val (.int x1), .val (.int x2), .val (.int x3), .val (.int x4), .val (.int ((x0 &&& (2147483647 : Int32)) % (7 : Int32))), .val (.int ca), .val (.int cb), .val (.int (0 : Int32)), .val (.ref b224), .val (.ref b228), .val (.int (((x4.toUInt32 >>> ((1 : Int32) &&& 31).toUInt32).toInt32) &&& (3 : Int32))), .unset, .unset, .unset] []))
          refine Gl.back (fun _ k => XS.iload X258.here hx rfl (hb hby at_99) rfl k) ?_
          show Gl _ _ _ _ _ _ _ (T258.setTop (mkF m 101 #[.val (.int x0), .val (.int x1), .val (.int x2), .val (.int x3), .val (.int x4), .val (.int ((x0 &&& (2147483647 : Int32)) % (7 : Int32))), .val (.int ca), .val (.int cb), .val (.int (0 : Int32)), .val (.ref b224), .val (.ref b228), .val (.int (((x4.toUInt32 >>> ((1 : Int32) &&& 31).toUInt32).toInt32) &&& (3 : Int32))), .unset, .unset, .unset] [(.int cb)]))
          refine Gl.back (fun _ k => XS.istore X258.here hx rfl (hb hby at_101) rfl (l' := #[.val (.int x0), .val (.int x1), .val (.int x2), .val (.int x3), .val (.int x4), .val (.int ((x0 &&& (2147483647 : Int32)) % (7 : Int32))), .val (.int ca), .val (.int cb), .val (.int (0 : Int32)), .val (.ref b224), .val (.ref b228), .val (.int (((x4.toUInt32 >>> ((1 : Int32) &&& 31).toUInt32).toInt32) &&& (3 : Int32))), .val (.int cb), .unset, .unset]) rfl k) ?_
          show Gl _ _ _ _ _ _ _ (T258.setTop (mkF m 103 #[.val (.int x0), .val (.int x1), .val (.int x2), .val (.int x3), .val (.int x4), .val (.int ((x0 &&& (2147483647 : Int32)) % (7 : Int32))), .val (.int ca), .val (.int cb), .val (.int (0 : Int32)), .val (.ref b224), .val (.ref b228), .val (.int (((x4.toUInt32 >>> ((1 : Int32) &&& 31).toUInt32).toInt32) &&& (3 : Int32))), .val (.int cb), .unset, .unset] []))
          refine Gl.back (fun _ k => XS.goto X258.here hx rfl (pc0 := 103) (pc' := 110) rfl (hb hby at_103) (by decide) (by decide) k) ?_
          show Gl _ _ _ _ _ _ _ (T258.setTop (mkF m 110 #[.val (.int x0), .val (.int x1), .val (.int x2), .val (.int x3), .val (.int x4), .val (.int ((x0 &&& (2147483647 : Int32)) % (7 : Int32))), .val (.int ca), .val (.int cb), .val (.int (0 : Int32)), .val (.ref b224), .val (.ref b228), .val (.int (((x4.toUInt32 >>> ((1 : Int32) &&& 31).toUInt32).toInt32) &&& (3 : Int32))), .val (.int cb), .unset, .unset] []))
          exact J110 _
        · refine Gl.back (fun _ k => XS.icmpYes X258.here hx rfl (pc0 := 96) (pc' := 106) rfl (hb hby at_96) rfl (feq hc96_284).2 (by decide) (by decide) k) ?_
          show Gl _ _ _ _ _ _ _ (T258.setTop (mkF m 106 #[.val (.int x0), .val (.int x1), .val (.int x2), .val (.int x3), .val (.int x4), .val (.int ((x0 &&& (2147483647 : Int32)) % (7 : Int32))), .val (.int ca), .val (.int cb), .val (.int (0 : Int32)), .val (.ref b224), .val (.ref b228), .val (.int (((x4.toUInt32 >>> ((1 : Int32) &&& 31).toUInt32).toInt32) &&& (3 : Int32))), .unset, .unset, .unset] []))
          refine Gl.back (fun _ k => XS.iloadN X258.here hx rfl (hb hby at_106) rfl k) ?_
          show Gl _ _ _ _ _ _ _ (T258.setTop (mkF m 107 #[.val (.int x0), .val (.int x1), .val (.int x2), .val (.int x3), .val (.int x4), .val (.int ((x0 &&& (2147483647 : Int32)) % (7 : Int32))), .val (.int ca), .val (.int cb), .val (.int (0 : Int32)), .val (.ref b224), .val (.ref b228), .val (.int (((x4.toUInt32 >>> ((1 : Int32) &&& 31).toUInt32).toInt32) &&& (3 : Int32))), .unset, .unset, .unset] [(.int x3)]))
          refine Gl.back (fun _ k => XS.i2c X258.here hx rfl (hb hby at_107) rfl k) ?_
          show Gl _ _ _ _ _ _ _ (T258.setTop (mkF m 108 #[.val (.int x0), .val (.int x1), .val (.int x2), .val (.int x3), .val (.int x4), .val (.int ((x0 &&& (2147483647 : Int32)) % (7 : Int32))), .val (.int ca), .val (.int cb), .val (.int (0 : Int32)), .val (.ref b224), .val (.ref b228), .val (.int (((x4.toUInt32 >>> ((1 : Int32) &&& 31).toUInt32).toInt32) &&& (3 : Int32))), .unset, .unset, .unset] [(.int (x3.toUInt32.toUInt16.toUInt32.toInt32))]))
          refine Gl.back (fun _ k => XS.istore X258.here hx rfl (hb hby at_108) rfl (l' := #[.val (.int x0), .val (.int x1), .val (.int x2), .val (.int x3), .val (.int x4), .val (.int ((x0 &&& (2147483647 : Int32)) % (7 : Int32))), .val (.int ca), .val (.int cb), .val (.int (0 : Int32)), .val (.ref b224), .val (.ref b228), .val (.int (((x4.toUInt32 >>> ((1 : Int32) &&& 31).toUInt32).toInt32) &&& (3 : Int32))), .val (.int (x3.toUInt32.toUInt16.toUInt32.toInt32)), .unset, .unset]) rfl k) ?_
          show Gl _ _ _ _ _ _ _ (T258.setTop (mkF m 110 #[.val (.int x0), .val (.int x1), .val (.int x2), .val (.int x3), .val (.int x4), .val (.int ((x0 &&& (2147483647 : Int32)) % (7 : Int32))), .val (.int ca), .val (.int cb), .val (.int (0 : Int32)), .val (.ref b224), .val (.ref b228), .val (.int (((x4.toUInt32 >>> ((1 : Int32) &&& 31).toUInt32).toInt32) &&& (3 : Int32))), .val (.int (x3.toUInt32.toUInt16.toUInt32.toInt32)), .unset, .unset] []))
          exact J110 _
  · refine Gl.back (fun _ k => XS.ifNo X0.here hx rfl (hb hby at_21) rfl ((if0 _ _).trans (feq hc21_223).1) k) ?_
    show Gl _ _ _ _ _ _ _ (s₁.setTop (mkF m 24 #[.val (.int x0), .val (.int x1), .val (.int x2), .val (.int x3), .val (.int x4), .val (.int ((x0 &&& (2147483647 : Int32)) % (7 : Int32))), .val (.int ca), .val (.int cb), .unset, .unset, .unset, .unset, .unset, .unset, .unset] []))
    refine Gl.back (fun _ k => XS.iconst X0.here hx rfl (hb hby at_24) k) ?_
    show Gl _ _ _ _ _ _ _ (s₁.setTop (mkF m 25 #[.val (.int x0), .val (.int x1), .val (.int x2), .val (.int x3), .val (.int x4), .val (.int ((x0 &&& (2147483647 : Int32)) % (7 : Int32))), .val (.int ca), .val (.int cb), .unset, .unset, .unset, .unset, .unset, .unset, .unset] [(.int (1 : Int32))]))
    refine Gl.back (fun _ k => XS.goto X0.here hx rfl (pc0 := 25) (pc' := 29) rfl (hb hby at_25) (by decide) (by decide) k) ?_
    show Gl _ _ _ _ _ _ _ (s₁.setTop (mkF m 29 #[.val (.int x0), .val (.int x1), .val (.int x2), .val (.int x3), .val (.int x4), .val (.int ((x0 &&& (2147483647 : Int32)) % (7 : Int32))), .val (.int ca), .val (.int cb), .unset, .unset, .unset, .unset, .unset, .unset, .unset] [(.int (1 : Int32))]))
    refine Gl.back (fun _ k => XS.istore X0.here hx rfl (hb hby at_29) rfl (l' := #[.val (.int x0), .val (.int x1), .val (.int x2), .val (.int x3), .val (.int x4), .val (.int ((x0 &&& (2147483647 : Int32)) % (7 : Int32))), .val (.int ca), .val (.int cb), .val (.int (1 : Int32)), .unset, .unset, .unset, .unset, .unset, .unset]) rfl k) ?_
    show Gl _ _ _ _ _ _ _ (s₁.setTop (mkF m 31 #[.val (.int x0), .val (.int x1), .val (.int x2), .val (.int x3), .val (.int x4), .val (.int ((x0 &&& (2147483647 : Int32)) % (7 : Int32))), .val (.int ca), .val (.int cb), .val (.int (1 : Int32)), .unset, .unset, .unset, .unset, .unset, .unset] []))
    refine Gl.back (fun _ k => XS.iload X0.here hx rfl (hb hby at_31) rfl k) ?_
    show Gl _ _ _ _ _ _ _ (s₁.setTop (mkF m 33 #[.val (.int x0), .val (.int x1), .val (.int x2), .val (.int x3), .val (.int x4), .val (.int ((x0 &&& (2147483647 : Int32)) % (7 : Int32))), .val (.int ca), .val (.int cb), .val (.int (1 : Int32)), .unset, .unset, .unset, .unset, .unset, .unset] [(.int (1 : Int32))]))
    refine Gl.back (fun _ k => XS.ifNo X0.here hx rfl (hb hby at_33) rfl ((if0 _ _).trans (feq (by decide : ¬ (1 : Int32) = (0 : Int32))).1) k) ?_
    show Gl _ _ _ _ _ _ _ (s₁.setTop (mkF m 36 #[.val (.int x0), .val (.int x1), .val (.int x2), .val (.int x3), .val (.int x4), .val (.int ((x0 &&& (2147483647 : Int32)) % (7 : Int32))), .val (.int ca), .val (.int cb), .val (.int (1 : Int32)), .unset, .unset, .unset, .unset, .unset, .unset] []))
    refine Gl.back (fun _ k => XS.iconst X0.here hx rfl (hb hby at_36) k) ?_
    show Gl _ _ _ _ _ _ _ (s₁.setTop (mkF m 37 #[.val (.int x0), .val (.int x1), .val (.int x2), .val (.int x3), .val (.int x4), .val (.int ((x0 &&& (2147483647 : Int32)) % (7 : Int32))), .val (.int ca), .val (.int cb), .val (.int (1 : Int32)), .unset, .unset, .unset, .unset, .unset, .unset] [(.int (2 : Int32))]))
    obtain ⟨T285, h285, k285, X285, e285, E285, A285, st285⟩ := newP X0 hx hZ (hw _ (List.mem_of_getElem? (i := 1) rfl)) e0 (g := (mkF m 37 #[.val (.int x0), .val (.int x1), .val (.int x2), .val (.int x3), .val (.int x4), .val (.int ((x0 &&& (2147483647 : Int32)) % (7 : Int32))), .val (.int ca), .val (.int cb), .val (.int (1 : Int32)), .unset, .unset, .unset, .unset, .unset, .unset] [(.int (2 : Int32))])) rfl (hb hby at_37) rfl (by decide) (cap := 2) (by decide) (by decide) (by decide) (by decide)
    obtain ⟨b285, g285⟩ : ∃ z, z = h0.size := ⟨_, rfl⟩
    rw [← g285] at A285 st285
    have V285 : Arv Z h285 b285 k285 .char (2 : Int32) [(.int (0 : Int32)), (.int (0 : Int32))] (.int (0 : Int32)) := (Arv.new A285 (by decide)).pad (pad_rep [] (.int (0 : Int32)) 2)
    have g_b285 : n0 ≤ b285 := Nat.le_trans Z0 (Nat.le_of_eq g285.symm)
    have sz_b285 : h0.size ≤ b285 := Nat.le_trans (Keep.refl h0 []).1 (Nat.le_of_eq g285.symm)
    have Z285 : n0 ≤ h285.size := Nat.le_trans Z0 E285.1
    have K285 := Keep.ext (Keep.refl h0 []) E285
    have O285 := Old.ext O0 E285
    refine Gl.back (fun _ k => st285 _ k) ?_
    show Gl _ _ _ _ _ _ _ (T285.setTop (mkF m 39 #[.val (.int x0), .val (.int x1), .val (.int x2), .val (.int x3), .val (.int x4), .val (.int ((x0 &&& (2147483647 : Int32)) % (7 : Int32))), .val (.int ca), .val (.int cb), .val (.int (1 : Int32)), .unset, .unset, .unset, .unset, .unset, .unset] [(.ref b285)]))
    refine Gl.back (fun _ k => XS.dup X285.here hx rfl (hb hby at_39) rfl rfl k) ?_
    show Gl _ _ _ _ _ _ _ (T285.setTop (mkF m 40 #[.val (.int x0), .val (.int x1), .val (.int x2), .val (.int x3), .val (.int x4), .val (.int ((x0 &&& (2147483647 : Int32)) % (7 : Int32))), .val (.int ca), .val (.int cb), .val (.int (1 : Int32)), .unset, .unset, .unset, .unset, .unset, .unset] [(.ref b285), (.ref b285)]))
    refine Gl.back (fun _ k => XS.iconst X285.here hx rfl (hb hby at_40) k) ?_
    show Gl _ _ _ _ _ _ _ (T285.setTop (mkF m 41 #[.val (.int x0), .val (.int x1), .val (.int x2), .val (.int x3), .val (.int x4), .val (.int ((x0 &&& (2147483647 : Int32)) % (7 : Int32))), .val (.int ca), .val (.int cb), .val (.int (1 : Int32)), .unset, .unset, .unset, .unset, .unset, .unset] [(.int (0 : Int32)), (.ref b285), (.ref b285)]))
    refine Gl.back (fun _ k => XS.iload X285.here hx rfl (hb hby at_41) rfl k) ?_
    show Gl _ _ _ _ _ _ _ (T285.setTop (mkF m 43 #[.val (.int x0), .val (.int x1), .val (.int x2), .val (.int x3), .val (.int x4), .val (.int ((x0 &&& (2147483647 : Int32)) % (7 : Int32))), .val (.int ca), .val (.int cb), .val (.int (1 : Int32)), .unset, .unset, .unset, .unset, .unset, .unset] [(.int ca), (.int (0 : Int32)), (.ref b285), (.ref b285)]))
    obtain ⟨cl286, Ar286, q286, Sz286, Nn286, Hs286, Gf286⟩ := id V285
    have hin286 : ¬ ((0 : Int32) < 0 ∨ cl286.slots.size ≤ ((0 : Int32)).toNatClampNeg) := inb_of Sz286 ⟨by decide, by decide⟩
    obtain ⟨T287, h287, X287, e287, W287, st287⟩ := stC X285 hx hZ e285 Ar286 (j := (0 : Int32)) hin286 (g := (mkF m 43 #[.val (.int x0), .val (.int x1), .val (.int x2), .val (.int x3), .val (.int x4), .val (.int ((x0 &&& (2147483647 : Int32)) % (7 : Int32))), .val (.int ca), .val (.int cb), .val (.int (1 : Int32)), .unset, .unset, .unset, .unset, .unset, .unset] [(.int ca), (.int (0 : Int32)), (.ref b285), (.ref b285)])) rfl rfl (hb hby at_43)
    have V287 := Arv.set Ar286 q286 Sz286 Nn286 Hs286 Gf286 (fits_nar_char _) W287 0 rfl (Nat.le_of_ble_eq_true rfl)
    replace V287 : Arv Z h287 b285 k285 .char (2 : Int32) [(.int (nar .char ca)), (.int (0 : Int32))] (.int (0 : Int32)) := V287
    have K287 := Keep.wr K285 W287 (Or.inr sz_b285)
    have O287 := Old.wr O285 W287 g_b285
    have Z287 : n0 ≤ h287.size := Nat.le_trans Z285 (Keep.of_wr W287).1
    have N287 := Fr.snoc X287 N0 g_b285
    refine Gl.back (fun _ k => st287 _ k) ?_
    show Gl _ _ _ _ _ _ _ (T287.setTop (mkF m 44 #[.val (.int x0), .val (.int x1), .val (.int x2), .val (.int x3), .val (.int x4), .val (.int ((x0 &&& (2147483647 : Int32)) % (7 : Int32))), .val (.int ca), .val (.int cb), .val (.int (1 : Int32)), .unset, .unset, .unset, .unset, .unset, .unset] [(.ref b285)]))
    refine Gl.back (fun _ k => XS.dup X287.here hx rfl (hb hby at_44) rfl rfl k) ?_
    show Gl _ _ _ _ _ _ _ (T287.setTop (mkF m 45 #[.val (.int x0), .val (.int x1), .val (.int x2), .val (.int x3), .val (.int x4), .val (.int ((x0 &&& (2147483647 : Int32)) % (7 : Int32))), .val (.int ca), .val (.int cb), .val (.int (1 : Int32)), .unset, .unset, .unset, .unset, .unset, .unset] [(.ref b285), (.ref b285)]))
    refine Gl.back (fun _ k => XS.iconst X287.here hx rfl (hb hby at_45) k) ?_
    show Gl _ _ _ _ _ _ _ (T287.setTop (mkF m 46 #[.val (.int x0), .val (.int x1), .val (.int x2), .val (.int x3), .val (.int x4), .val (.int ((x0 &&& (2147483647 : Int32)) % (7 : Int32))), .val (.int ca), .val (.int cb), .val (.int (1 : Int32)), .unset, .unset, .unset, .unset, .unset, .unset] [(.int (1 : Int32)), (.ref b285), (.ref b285)]))
    refine Gl.back (fun _ k => XS.iload X287.here hx rfl (hb hby at_46) rfl k) ?_
    show Gl _ _ _ _ _ _ _ (T287.setTop (mkF m 48 #[.val (.int x0), .val (.int x1), .val (.int x2), .val (.int x3), .val (.int x4), .val (.int ((x0 &&& (2147483647 : Int32)) % (7 : Int32))), .val (.int ca), .val (.int cb), .val (.int (1 : Int32)), .unset, .unset, .unset, .unset, .unset, .unset] [(.int cb), (.int (1 : Int32)), (.ref b285), (.ref b285)]))
    obtain ⟨cl288, Ar288, q288, Sz288, Nn288, Hs288, Gf288⟩ := id V287
    have hin288 : ¬ ((1 : Int32) < 0 ∨ cl288.slots.size ≤ ((1 : Int32)).toNatClampNeg) := inb_of Sz288 ⟨by decide, by decide⟩
    obtain ⟨T289, h289, X289, e289, W289, st289⟩ := stC X287 hx hZ e287 Ar288 (j := (1 : Int32)) hin288 (g := (mkF m 48 #[.val (.int x0), .val (.int x1), .val (.int x2), .val (.int x3), .val (.int x4), .val (.int ((x0 &&& (2147483647 : Int32)) % (7 : Int32))), .val (.int ca), .val (.int cb), .val (.int (1 : Int32)), .unset, .unset, .unset, .unset, .unset, .unset] [(.int cb), (.int (1 : Int32)), (.ref b285), (.ref b285)])) rfl rfl (hb hby at_48)
    have V289 := Arv.set Ar288 q288 Sz288 Nn288 Hs288 Gf288 (fits_nar_char _) W289 1 rfl (Nat.le_of_ble_eq_true rfl)
    replace V289 : Arv Z h289 b285 k285 .char (2 : Int32) [(.int (nar .char ca)), (.int (nar .char cb))] (.int (0 : Int32)) := V289
    have K289 := Keep.wr K287 W289 (Or.inr sz_b285)
    have O289 := Old.wr O287 W289 g_b285
    have Z289 : n0 ≤ h289.size := Nat.le_trans Z287 (Keep.of_wr W289).1
    have N289 := Fr.snoc X289 N287 g_b285
    refine Gl.back (fun _ k => st289 _ k) ?_
    show Gl _ _ _ _ _ _ _ (T289.setTop (mkF m 49 #[.val (.int x0), .val (.int x1), .val (.int x2), .val (.int x3), .val (.int x4), .val (.int ((x0 &&& (2147483647 : Int32)) % (7 : Int32))), .val (.int ca), .val (.int cb), .val (.int (1 : Int32)), .unset, .unset, .unset, .unset, .unset, .unset] [(.ref b285)]))
    refine Gl.back (fun _ k => XS.goto X289.here hx rfl (pc0 := 49) (pc' := 60) rfl (hb hby at_49) (by decide) (by decide) k) ?_
    show Gl _ _ _ _ _ _ _ (T289.setTop (mkF m 60 #[.val (.int x0), .val (.int x1), .val (.int x2), .val (.int x3), .val (.int x4), .val (.int ((x0 &&& (2147483647 : Int32)) % (7 : Int32))), .val (.int ca), .val (.int cb), .val (.int (1 : Int32)), .unset, .unset, .unset, .unset, .unset, .unset] [(.ref b285)]))
    have Vn290 : Arv Z h289 b285 k285 .char (2 : Int32) [(.int ca), (.int cb)] (.int (0 : Int32)) := by rw [hcan, hcbn] at V289; exact V289
    refine Gl.back (fun _ k => XS.astore X289.here hx rfl (hb hby at_60) rfl rfl (l' := #[.val (.int x0), .val (.int x1), .val (.int x2), .val (.int x3), .val (.int x4), .val (.int ((x0 &&& (2147483647 : Int32)) % (7 : Int32))), .val (.int ca), .val (.int cb), .val (.int (1 : Int32)), .val (.ref b285), .unset, .unset, .unset, .unset, .unset]) rfl k) ?_
    show Gl _ _ _ _ _ _ _ (T289.setTop (mkF m 62 #[.val (.int x0), .val (.int x1), .val (.int x2), .val (.int x3), .val (.int x4), .val (.int ((x0 &&& (2147483647 : Int32)) % (7 : Int32))), .val (.int ca), .val (.int cb), .val (.int (1 : Int32)), .val (.ref b285), .unset, .unset, .unset, .unset, .unset] []))
    obtain ⟨T291, h291, X291, e291, E291, A291, D291, -, st291⟩ := newO X289 hx hZ hown (hw _ (List.mem_of_getElem? (i := 2) rfl)) (hw _ (List.mem_of_getElem? (i := 3) rfl)) (hw _ (List.mem_of_getElem? (i := 4) rfl)) e289 (g := (mkF m 62 #[.val (.int x0), .val (.int x1), .val (.int x2), .val (.int x3), .val (.int x4), .val (.int ((x0 &&& (2147483647 : Int32)) % (7 : Int32))), .val (.int ca), .val (.int cb), .val (.int (1 : Int32)), .val (.ref b285), .unset, .unset, .unset, .unset, .unset] [])) rfl (hb hby at_62) (by decide) (by decide)
    obtain ⟨b291, g291⟩ : ∃ z, z = h289.size := ⟨_, rfl⟩
    rw [← g291] at A291 D291 st291
    have ne_b285_b291 : b285 ≠ b291 := Nat.ne_of_lt (Nat.lt_of_lt_of_le Vn290.lt (Nat.le_of_eq g291.symm))
    have g_b291 : n0 ≤ b291 := Nat.le_trans Z289 (Nat.le_of_eq g291.symm)
    have sz_b291 : h0.size ≤ b291 := Nat.le_trans K289.1 (Nat.le_of_eq g291.symm)
    have Z291 : n0 ≤ h291.size := Nat.le_trans Z289 E291.1
    have K291 := Keep.ext K289 E291
    have O291 := Old.ext O289 E291
    have F291_coder : Fld Z h291 b291 "java/lang/String" "coder" "B" (.int (0 : Int32)) := D291 (Or.inr (hw _ (List.mem_of_getElem? (i := 28) rfl))) (ty := .byte) (by decide)
    have F291_value : Fld Z h291 b291 "java/lang/String" "value" "[B" .null := D291 (Or.inr (hw _ (List.mem_of_getElem? (i := 30) rfl))) (ty := (.array .byte)) (by decide)
    refine Gl.back (fun _ k => st291 _ k) ?_
    show Gl _ _ _ _ _ _ _ (T291.setTop (mkF m 65 #[.val (.int x0), .val (.int x1), .val (.int x2), .val (.int x3), .val (.int x4), .val (.int ((x0 &&& (2147483647 : Int32)) % (7 : Int32))), .val (.int ca), .val (.int cb), .val (.int (1 : Int32)), .val (.ref b285), .unset, .unset, .unset, .unset, .unset] [(.ref b291)]))
    refine Gl.back (fun _ k => XS.dup X291.here hx rfl (hb hby at_65) rfl rfl k) ?_
    show Gl _ _ _ _ _ _ _ (T291.setTop (mkF m 66 #[.val (.int x0), .val (.int x1), .val (.int x2), .val (.int x3), .val (.int x4), .val (.int ((x0 &&& (2147483647 : Int32)) % (7 : Int32))), .val (.int ca), .val (.int cb), .val (.int (1 : Int32)), .val (.ref b285), .unset, .unset, .unset, .unset, .unset] [(.ref b291), (.ref b291)]))
    refine Gl.back (fun _ k => XS.aload X291.here hx rfl (hb hby at_66) rfl rfl k) ?_
    show Gl _ _ _ _ _ _ _ (T291.setTop (mkF m 68 #[.val (.int x0), .val (.int x1), .val (.int x2), .val (.int x3), .val (.int x4), .val (.int ((x0 &&& (2147483647 : Int32)) % (7 : Int32))), .val (.int ca), .val (.int cb), .val (.int (1 : Int32)), .val (.ref b285), .unset, .unset, .unset, .unset, .unset] [(.ref b285), (.ref b291), (.ref b291)]))
    by_cases hA : (255 : Int32) < ca
    · show Gl _ _ _ _ _ _ _ (T291.setTop (mkF m 68 #[.val (.int x0), .val (.int x1), .val (.int x2), .val (.int x3), .val (.int x4), .val (.int ((x0 &&& (2147483647 : Int32)) % (7 : Int32))), .val (.int ca), .val (.int cb), .val (.int (1 : Int32)), .val (.ref b285), .unset, .unset, .unset, .unset, .unset] [(.ref b285), (.ref b291), (.ref b291)]))
      have f294 := (Vn290.ext E291)
      obtain ⟨_, _, ⟨T293, L293, k293, n293⟩, -, X293, ⟨Lc293, hQ293, l293, y293, z293⟩, st293⟩ := X291.specialBack hx (y := (⟨"java/lang/String", "<init>", "([C)V"⟩ : MethodName)) rfl hown (mvT hZ (hw _ (List.mem_of_getElem? (i := 5) rfl))) (mvT hZ (hw _ (List.mem_of_getElem? (i := 6) rfl))) (mvT hZ (hw _ (List.mem_of_getElem? (i := 7) rfl))) (by decide) (backOf (W := 1) (rmnew1_2_0 l Z a0 hw [] b291 b285 k285 ca cb zc h291 n0 Z291 O291 S_AD S_HI S_LO S_C P0 g_b291 A291 F291_value F291_coder f294 (Ne.symm ne_b285_b291) hA hcar hcbr) hZ (hw _ (List.mem_of_getElem? (i := 7) rfl)) (hw _ (List.mem_of_getElem? (i := 4) rfl)) (by decide) (by decide)) (g := (mkF m 68 #[.val (.int x0), .val (.int x1), .val (.int x2), .val (.int x3), .val (.int x4), .val (.int ((x0 &&& (2147483647 : Int32)) % (7 : Int32))), .val (.int ca), .val (.int cb), .val (.int (1 : Int32)), .val (.ref b285), .unset, .unset, .unset, .unset, .unset] [(.ref b285), (.ref b291), (.ref b291)])) rfl (by rw [hml]; rfl) (Steps.refl _) (a := b291) (argsL := [(.ref b285)]) (rest := [(.ref b291)]) (lenOf pd___C_V rfl) rfl (by show 2 * 0 + _ ≤ _; exact Nat.le_of_eq rfl) (hb hby at_68) (fun _ _ => ⟨rfl, e291, (by decide : 2 + 2 ≤ _), (by decide : 6 + 6 ≤ _)⟩)
      dsimp only [Pt.U, Pt.locs, Pt.cells, Pt.slots] at X293 l293 y293 z293 st293 hQ293
      replace l293 := Eq.symm l293
      replace y293 := Eq.symm y293
      replace z293 := Eq.symm z293
      subst l293 y293 z293
      obtain ⟨Nq293, rfl, Kq293, t293, k0293, Sz293, Gz293, Fc293, Fv293, V293⟩ := hQ293
      have N293 := Fr.app N289 Nq293
      have Kc293 := Keep.trans K291 Kq293 (allS (Or.inr sz_b291) all0)
      have Zc293 : n0 ≤ T293.heap.size := Nat.le_trans Z291 Kq293.1
      have Oc293 := Old.keep O291 Kq293 (allS g_b291 all0)
      have ne_b285_t293 : b285 ≠ t293 := Nat.ne_of_lt (Nat.lt_of_lt_of_le (f294).lt Sz293)
      have ne_b291_t293 : b291 ≠ t293 := Nat.ne_of_lt (Nat.lt_of_lt_of_le (A291).lt Sz293)
      have sz_t293 : h0.size ≤ t293 := Nat.le_trans K291.1 Sz293
      refine Gl.back (fun _ k => st293.trans k) ?_
      show Gl _ _ _ _ _ _ _ (T293.setTop (mkF m 71 #[.val (.int x0), .val (.int x1), .val (.int x2), .val (.int x3), .val (.int x4), .val (.int ((x0 &&& (2147483647 : Int32)) % (7 : Int32))), .val (.int ca), .val (.int cb), .val (.int (1 : Int32)), .val (.ref b285), .unset, .unset, .unset, .unset, .unset] [(.ref b291)]))
      refine Gl.back (fun _ k => XS.astore X293.here hx rfl (hb hby at_71) rfl rfl (l' := #[.val (.int x0), .val (.int x1), .val (.int x2), .val (.int x3), .val (.int x4), .val (.int ((x0 &&& (2147483647 : Int32)) % (7 : Int32))), .val (.int ca), .val (.int cb), .val (.int (1 : Int32)), .val (.ref b285), .val (.ref b291), .unset, .unset, .unset, .unset]) rfl k) ?_
      show Gl _ _ _ _ _ _ _ (T293.setTop (mkF m 73 #[.val (.int x0), .val (.int x1), .val (.int x2), .val (.int x3), .val (.int x4), .val (.int ((x0 &&& (2147483647 : Int32)) % (7 : Int32))), .val (.int ca), .val (.int cb), .val (.int (1 : Int32)), .val (.ref b285), .val (.ref b291), .unset, .unset, .unset, .unset] []))
      have J110 : ∀ (sym : Int32), Gl p e below s (Q0 Z x0 x1 x2 x3 x4 w_WORD w_QUOTED_NAME w_STRING w_DIGITS w_STRAY w_SYMBOL w_UNCLOSED zc fm h0 n0) room_1.cells room_1.slots (T293.setTop (mkF m 110 #[.val (.int x0), .val (.int x1), .val (.int x2), .val (.int x3), .val (.int x4), .val (.int ((x0 &&& (2147483647 : Int32)) % (7 : Int32))), .val (.int ca), .val (.int cb), .val (.int (1 : Int32)), .val (.ref b285), .val (.ref b291), .val (.int (((x4.toUInt32 >>> ((1 : Int32) &&& 31).toUInt32).toInt32) &&& (3 : Int32))), .val (.int sym), .unset, .unset] [])) := by
        intro sym
        show Gl _ _ _ _ _ _ _ (T293.setTop (mkF m 110 #[.val (.int x0), .val (.int x1), .val (.int x2), .val (.int x3), .val (.int x4), .val (.int ((x0 &&& (2147483647 : Int32)) % (7 : Int32))), .val (.int ca), .val (.int cb), .val (.int (1 : Int32)), .val (.ref b285), .val (.ref b291), .val (.int (((x4.toUInt32 >>> ((1 : Int32) &&& 31).toUInt32).toInt32) &&& (3 : Int32))), .val (.int sym), .unset, .unset] []))
        obtain ⟨T295, h295, X295, e295, E295, A295, D295, -, st295⟩ := newO X293 hx hZ hown (hw _ (List.mem_of_getElem? (i := 31) rfl)) (hw _ (List.mem_of_getElem? (i := 32) rfl)) (hw _ (List.mem_of_getElem? (i := 33) rfl)) rfl (g := (mkF m 110 #[.val (.int x0), .val (.int x1), .val (.int x2), .val (.int x3), .val (.int x4), .val (.int ((x0 &&& (2147483647 : Int32)) % (7 : Int32))), .val (.int ca), .val (.int cb), .val (.int (1 : Int32)), .val (.ref b285), .val (.ref b291), .val (.int (((x4.toUInt32 >>> ((1 : Int32) &&& 31).toUInt32).toInt32) &&& (3 : Int32))), .val (.int sym), .unset, .unset] [])) rfl (hb hby at_110) (by decide) (by decide)
        obtain ⟨b295, g295⟩ : ∃ z, z = T293.heap.size := ⟨_, rfl⟩
        rw [← g295] at A295 D295 st295
        have f296 := (f294.keep Kq293 (ninS ne_b285_b291 nin0))
        have ne_b285_b295 : b285 ≠ b295 := Nat.ne_of_lt (Nat.lt_of_lt_of_le f296.lt (Nat.le_of_eq g295.symm))
        have f297 := (A291.keep Kq293)
        have ne_b291_b295 : b291 ≠ b295 := Nat.ne_of_lt (Nat.lt_of_lt_of_le f297.lt (Nat.le_of_eq g295.symm))
        have ne_t293_b295 : t293 ≠ b295 := Nat.ne_of_lt (Nat.lt_of_lt_of_le V293.lt (Nat.le_of_eq g295.symm))
        have g_b295 : n0 ≤ b295 := Nat.le_trans Zc293 (Nat.le_of_eq g295.symm)
        have sz_b295 : h0.size ≤ b295 := Nat.le_trans Kc293.1 (Nat.le_of_eq g295.symm)
        have Z295 : n0 ≤ h295.size := Nat.le_trans Zc293 E295.1
        have K295 := Keep.ext Kc293 E295
        have O295 := Old.ext Oc293 E295
        have F295_kind : Fld Z h295 b295 "com/example/partition_planner/partitionplanner/CqlLexer$Token" "kind" "Lcom/example/partition_planner/partitionplanner/CqlLexer$Kind;" .null := D295 (Or.inr (hw _ (List.mem_of_getElem? (i := 51) rfl))) (ty := (.object "com/example/partition_planner/partitionplanner/CqlLexer$Kind")) (by decide)
        have F295_value : Fld Z h295 b295 "com/example/partition_planner/partitionplanner/CqlLexer$Token" "value" "Ljava/lang/String;" .null := D295 (Or.inr (hw _ (List.mem_of_getElem? (i := 53) rfl))) (ty := (.object "java/lang/String")) (by decide)
        have F295_start : Fld Z h295 b295 "com/example/partition_planner/partitionplanner/CqlLexer$Token" "start" "I" (.int (0 : Int32)) := D295 (Or.inr (hw _ (List.mem_of_getElem? (i := 55) rfl))) (ty := .int) (by decide)
        have F295_end : Fld Z h295 b295 "com/example/partition_planner/partitionplanner/CqlLexer$Token" "end" "I" (.int (0 : Int32)) := D295 (Or.inr (hw _ (List.mem_of_getElem? (i := 57) rfl))) (ty := .int) (by decide)
        have F295_line : Fld Z h295 b295 "com/example/partition_planner/partitionplanner/CqlLexer$Token" "line" "I" (.int (0 : Int32)) := D295 (Or.inr (hw _ (List.mem_of_getElem? (i := 59) rfl))) (ty := .int) (by decide)
        refine Gl.back (fun _ k => st295 _ k) ?_
        show Gl _ _ _ _ _ _ _ (T295.setTop (mkF m 113 #[.val (.int x0), .val (.int x1), .val (.int x2), .val (.int x3), .val (.int x4), .val (.int ((x0 &&& (2147483647 : Int32)) % (7 : Int32))), .val (.int ca), .val (.int cb), .val (.int (1 : Int32)), .val (.ref b285), .val (.ref b291), .val (.int (((x4.toUInt32 >>> ((1 : Int32) &&& 31).toUInt32).toInt32) &&& (3 : Int32))), .val (.int sym), .unset, .unset] [(.ref b295)]))
        refine Gl.back (fun _ k => XS.dup X295.here hx rfl (hb hby at_113) rfl rfl k) ?_
        show Gl _ _ _ _ _ _ _ (T295.setTop (mkF m 114 #[.val (.int x0), .val (.int x1), .val (.int x2), .val (.int x3), .val (.int x4), .val (.int ((x0 &&& (2147483647 : Int32)) % (7 : Int32))), .val (.int ca), .val (.int cb), .val (.int (1 : Int32)), .val (.ref b285), .val (.ref b291), .val (.int (((x4.toUInt32 >>> ((1 : Int32) &&& 31).toUInt32).toInt32) &&& (3 : Int32))), .val (.int sym), .unset, .unset] [(.ref b295), (.ref b295)]))
        refine Gl.back (fun _ k => XS.iload X295.here hx rfl (hb hby at_114) rfl k) ?_
        show Gl _ _ _ _ _ _ _ (T295.setTop (mkF m 116 #[.val (.int x0), .val (.int x1), .val (.int x2), .val (.int x3), .val (.int x4), .val (.int ((x0 &&& (2147483647 : Int32)) % (7 : Int32))), .val (.int ca), .val (.int cb), .val (.int (1 : Int32)), .val (.ref b285), .val (.ref b291), .val (.int (((x4.toUInt32 >>> ((1 : Int32) &&& 31).toUInt32).toInt32) &&& (3 : Int32))), .val (.int sym), .unset, .unset] [(.int ((x0 &&& (2147483647 : Int32)) % (7 : Int32))), (.ref b295), (.ref b295)]))
        obtain ⟨_, _, ⟨T298, L298, k298, n298⟩, -, X298, ⟨Lc298, hQ298, l298, y298, z298⟩, st298⟩ := Jvm.LawKit.callS X295 hx (y := (⟨"com/example/partition_planner/partitionplanner/TokenIsSymbolPinLaw", "kindOf", "(I)Lcom/example/partition_planner/partitionplanner/CqlLexer$Kind;"⟩ : MethodName)) hown (mvT hZ (hw _ (List.mem_of_getElem? (i := 34) rfl))) (mvT hZ (hw _ (List.mem_of_getElem? (i := 35) rfl))) (mvT hZ (hw _ (List.mem_of_getElem? (i := 36) rfl))) (mvT hZ (hw _ (List.mem_of_getElem? (i := 37) rfl))) (by decide) (backOf (W := 2) (rmkind l Z a0 hw [] ((x0 &&& (2147483647 : Int32)) % (7 : Int32)) w_WORD w_QUOTED_NAME w_STRING w_DIGITS w_STRAY w_SYMBOL w_UNCLOSED h295 n0 Z295 O295 S_WORD S_QUOTED_NAME S_STRING S_DIGITS S_STRAY S_SYMBOL S_UNCLOSED ne_WORD ne_QUOTED_NAME ne_STRING ne_DIGITS ne_STRAY ne_UNCLOSED) hZ (hw _ (List.mem_of_getElem? (i := 37) rfl)) (hw _ (List.mem_of_getElem? (i := 36) rfl)) (by decide) (by decide)) (g := (mkF m 116 #[.val (.int x0), .val (.int x1), .val (.int x2), .val (.int x3), .val (.int x4), .val (.int ((x0 &&& (2147483647 : Int32)) % (7 : Int32))), .val (.int ca), .val (.int cb), .val (.int (1 : Int32)), .val (.ref b285), .val (.ref b291), .val (.int (((x4.toUInt32 >>> ((1 : Int32) &&& 31).toUInt32).toInt32) &&& (3 : Int32))), .val (.int sym), .unset, .unset] [(.int ((x0 &&& (2147483647 : Int32)) % (7 : Int32))), (.ref b295), (.ref b295)])) rfl (by rw [hml]; rfl) (argsL := [(.int ((x0 &&& (2147483647 : Int32)) % (7 : Int32)))]) (rest := [(.ref b295), (.ref b295)]) (lenOf pd__I_Lcom_example_partition_planner_partitionplanner_CqlLexer_Kind_ rfl) rfl (by show 2 * 0 + _ ≤ _; exact Nat.le_of_eq rfl) (hb hby at_116) (fun _ _ => ⟨rfl, e295, (by decide : 5 + 0 ≤ _), (by decide : 17 + 0 ≤ _)⟩)
        dsimp only [Pt.U, Pt.locs, Pt.cells, Pt.slots] at X298 l298 y298 z298 st298 hQ298
        replace l298 := Eq.symm l298
        replace y298 := Eq.symm y298
        replace z298 := Eq.symm z298
        subst l298 y298 z298
        obtain ⟨Nq298, wk298, rfl, hk1298, hk2298, eh298⟩ := hQ298
        have N298 := Fr.app N293 Nq298
        refine Gl.back (fun _ k => st298 _ k) ?_
        show Gl _ _ _ _ _ _ _ (T298.setTop (mkF m 119 #[.val (.int x0), .val (.int x1), .val (.int x2), .val (.int x3), .val (.int x4), .val (.int ((x0 &&& (2147483647 : Int32)) % (7 : Int32))), .val (.int ca), .val (.int cb), .val (.int (1 : Int32)), .val (.ref b285), .val (.ref b291), .val (.int (((x4.toUInt32 >>> ((1 : Int32) &&& 31).toUInt32).toInt32) &&& (3 : Int32))), .val (.int sym), .unset, .unset] [(.ref wk298), (.ref b295), (.ref b295)]))
        refine Gl.back (fun _ k => XS.aload X298.here hx rfl (hb hby at_119) rfl rfl k) ?_
        show Gl _ _ _ _ _ _ _ (T298.setTop (mkF m 121 #[.val (.int x0), .val (.int x1), .val (.int x2), .val (.int x3), .val (.int x4), .val (.int ((x0 &&& (2147483647 : Int32)) % (7 : Int32))), .val (.int ca), .val (.int cb), .val (.int (1 : Int32)), .val (.ref b285), .val (.ref b291), .val (.int (((x4.toUInt32 >>> ((1 : Int32) &&& 31).toUInt32).toInt32) &&& (3 : Int32))), .val (.int sym), .unset, .unset] [(.ref b291), (.ref wk298), (.ref b295), (.ref b295)]))
        refine Gl.back (fun _ k => XS.iconst X298.here hx rfl (hb hby at_121) k) ?_
        show Gl _ _ _ _ _ _ _ (T298.setTop (mkF m 122 #[.val (.int x0), .val (.int x1), .val (.int x2), .val (.int x3), .val (.int x4), .val (.int ((x0 &&& (2147483647 : Int32)) % (7 : Int32))), .val (.int ca), .val (.int cb), .val (.int (1 : Int32)), .val (.ref b285), .val (.ref b291), .val (.int (((x4.toUInt32 >>> ((1 : Int32) &&& 31).toUInt32).toInt32) &&& (3 : Int32))), .val (.int sym), .unset, .unset] [(.int (0 : Int32)), (.ref b291), (.ref wk298), (.ref b295), (.ref b295)]))
        refine Gl.back (fun _ k => XS.aload X298.here hx rfl (hb hby at_122) rfl rfl k) ?_
        show Gl _ _ _ _ _ _ _ (T298.setTop (mkF m 124 #[.val (.int x0), .val (.int x1), .val (.int x2), .val (.int x3), .val (.int x4), .val (.int ((x0 &&& (2147483647 : Int32)) % (7 : Int32))), .val (.int ca), .val (.int cb), .val (.int (1 : Int32)), .val (.ref b285), .val (.ref b291), .val (.int (((x4.toUInt32 >>> ((1 : Int32) &&& 31).toUInt32).toInt32) &&& (3 : Int32))), .val (.int sym), .unset, .unset] [(.ref b285), (.int (0 : Int32)), (.ref b291), (.ref wk298), (.ref b295), (.ref b295)]))
        have f299 := (f296.ext E295)
        obtain ⟨cl300, Ar300, -, Sz300, Nn300, -, -⟩ := id f299
        refine Gl.back (fun _ k => X298.arraylength hx (by rw [eh298]; exact Ar300.1) (State.isArrayOf_alike hZ.alike Ar300.2.1) (g := (mkF m 124 #[.val (.int x0), .val (.int x1), .val (.int x2), .val (.int x3), .val (.int x4), .val (.int ((x0 &&& (2147483647 : Int32)) % (7 : Int32))), .val (.int ca), .val (.int cb), .val (.int (1 : Int32)), .val (.ref b285), .val (.ref b291), .val (.int (((x4.toUInt32 >>> ((1 : Int32) &&& 31).toUInt32).toInt32) &&& (3 : Int32))), .val (.int sym), .unset, .unset] [(.ref b285), (.int (0 : Int32)), (.ref b291), (.ref wk298), (.ref b295), (.ref b295)])) rfl rfl (hb hby at_124) _ k) ?_
        rw [len_of Sz300 Nn300]
        show Gl _ _ _ _ _ _ _ (T298.setTop (mkF m 125 #[.val (.int x0), .val (.int x1), .val (.int x2), .val (.int x3), .val (.int x4), .val (.int ((x0 &&& (2147483647 : Int32)) % (7 : Int32))), .val (.int ca), .val (.int cb), .val (.int (1 : Int32)), .val (.ref b285), .val (.ref b291), .val (.int (((x4.toUInt32 >>> ((1 : Int32) &&& 31).toUInt32).toInt32) &&& (3 : Int32))), .val (.int sym), .unset, .unset] [(.int (2 : Int32)), (.int (0 : Int32)), (.ref b291), (.ref wk298), (.ref b295), (.ref b295)]))
        refine Gl.back (fun _ k => XS.iconst X298.here hx rfl (hb hby at_125) k) ?_
        show Gl _ _ _ _ _ _ _ (T298.setTop (mkF m 126 #[.val (.int x0), .val (.int x1), .val (.int x2), .val (.int x3), .val (.int x4), .val (.int ((x0 &&& (2147483647 : Int32)) % (7 : Int32))), .val (.int ca), .val (.int cb), .val (.int (1 : Int32)), .val (.ref b285), .val (.ref b291), .val (.int (((x4.toUInt32 >>> ((1 : Int32) &&& 31).toUInt32).toInt32) &&& (3 : Int32))), .val (.int sym), .unset, .unset] [(.int (1 : Int32)), (.int (2 : Int32)), (.int (0 : Int32)), (.ref b291), (.ref wk298), (.ref b295), (.ref b295)]))
        obtain ⟨_, _, ⟨T301, L301, k301, n301⟩, -, X301, ⟨Lc301, hQ301, l301, y301, z301⟩, st301⟩ := X298.specialBack hx (y := (⟨"com/example/partition_planner/partitionplanner/CqlLexer$Token", "<init>", "(Lcom/example/partition_planner/partitionplanner/CqlLexer$Kind;Ljava/lang/String;III)V"⟩ : MethodName)) rfl hown (mvT hZ (hw _ (List.mem_of_getElem? (i := 41) rfl))) (mvT hZ (hw _ (List.mem_of_getElem? (i := 42) rfl))) (mvT hZ (hw _ (List.mem_of_getElem? (i := 43) rfl))) (by decide) (backOf (W := 1) (rmtok l Z a0 hw [] b295 wk298 b291 (0 : Int32) (2 : Int32) (1 : Int32)  h295 n0 Z295 g_b295 A295 F295_kind F295_value F295_start F295_end F295_line) hZ (hw _ (List.mem_of_getElem? (i := 43) rfl)) (hw _ (List.mem_of_getElem? (i := 33) rfl)) (by decide) (by decide)) (g := (mkF m 126 #[.val (.int x0), .val (.int x1), .val (.int x2), .val (.int x3), .val (.int x4), .val (.int ((x0 &&& (2147483647 : Int32)) % (7 : Int32))), .val (.int ca), .val (.int cb), .val (.int (1 : Int32)), .val (.ref b285), .val (.ref b291), .val (.int (((x4.toUInt32 >>> ((1 : Int32) &&& 31).toUInt32).toInt32) &&& (3 : Int32))), .val (.int sym), .unset, .unset] [(.int (1 : Int32)), (.int (2 : Int32)), (.int (0 : Int32)), (.ref b291), (.ref wk298), (.ref b295), (.ref b295)])) rfl (by rw [hml]; rfl) (Steps.refl _) (a := b295) (argsL := [(.ref wk298), (.ref b291), (.int (0 : Int32)), (.int (2 : Int32)), (.int (1 : Int32))]) (rest := [(.ref b295)]) (lenOf pd__Lcom_example_partition_planner_partitionplanner_CqlLexer_Kind_Ljava_lang_String_III_V rfl) rfl (by show 2 * 0 + _ ≤ _; exact Nat.le_of_eq rfl) (hb hby at_126) (fun _ _ => ⟨rfl, eh298, (by decide : 5 + 0 ≤ _), (by decide : 17 + 0 ≤ _)⟩)
        dsimp only [Pt.U, Pt.locs, Pt.cells, Pt.slots] at X301 l301 y301 z301 st301 hQ301
        replace l301 := Eq.symm l301
        replace y301 := Eq.symm y301
        replace z301 := Eq.symm z301
        subst l301 y301 z301
        obtain ⟨Nq301, rfl, Kq301, Fk301, Fv301⟩ := hQ301
        have N301 := Fr.app N298 Nq301
        have Kc301 := Keep.trans K295 Kq301 (allS (Or.inr sz_b295) all0)
        have Zc301 : n0 ≤ T301.heap.size := Nat.le_trans Z295 Kq301.1
        have Oc301 := Old.keep O295 Kq301 (allS g_b295 all0)
        refine Gl.back (fun _ k => st301.trans k) ?_
        show Gl _ _ _ _ _ _ _ (T301.setTop (mkF m 129 #[.val (.int x0), .val (.int x1), .val (.int x2), .val (.int x3), .val (.int x4), .val (.int ((x0 &&& (2147483647 : Int32)) % (7 : Int32))), .val (.int ca), .val (.int cb), .val (.int (1 : Int32)), .val (.ref b285), .val (.ref b291), .val (.int (((x4.toUInt32 >>> ((1 : Int32) &&& 31).toUInt32).toInt32) &&& (3 : Int32))), .val (.int sym), .unset, .unset] [(.ref b295)]))
        refine Gl.back (fun _ k => XS.astore X301.here hx rfl (hb hby at_129) rfl rfl (l' := #[.val (.int x0), .val (.int x1), .val (.int x2), .val (.int x3), .val (.int x4), .val (.int ((x0 &&& (2147483647 : Int32)) % (7 : Int32))), .val (.int ca), .val (.int cb), .val (.int (1 : Int32)), .val (.ref b285), .val (.ref b291), .val (.int (((x4.toUInt32 >>> ((1 : Int32) &&& 31).toUInt32).toInt32) &&& (3 : Int32))), .val (.int sym), .val (.ref b295), .unset]) rfl k) ?_
        show Gl _ _ _ _ _ _ _ (T301.setTop (mkF m 131 #[.val (.int x0), .val (.int x1), .val (.int x2), .val (.int x3), .val (.int x4), .val (.int ((x0 &&& (2147483647 : Int32)) % (7 : Int32))), .val (.int ca), .val (.int cb), .val (.int (1 : Int32)), .val (.ref b285), .val (.ref b291), .val (.int (((x4.toUInt32 >>> ((1 : Int32) &&& 31).toUInt32).toInt32) &&& (3 : Int32))), .val (.int sym), .val (.ref b295), .unset] []))
        refine Gl.back (fun _ k => XS.iload X301.here hx rfl (hb hby at_131) rfl k) ?_
        show Gl _ _ _ _ _ _ _ (T301.setTop (mkF m 133 #[.val (.int x0), .val (.int x1), .val (.int x2), .val (.int x3), .val (.int x4), .val (.int ((x0 &&& (2147483647 : Int32)) % (7 : Int32))), .val (.int ca), .val (.int cb), .val (.int (1 : Int32)), .val (.ref b285), .val (.ref b291), .val (.int (((x4.toUInt32 >>> ((1 : Int32) &&& 31).toUInt32).toInt32) &&& (3 : Int32))), .val (.int sym), .val (.ref b295), .unset] [(.int ((x0 &&& (2147483647 : Int32)) % (7 : Int32)))]))
        refine Gl.back (fun _ k => XS.iconst X301.here hx rfl (hb hby at_133) k) ?_
        show Gl _ _ _ _ _ _ _ (T301.setTop (mkF m 134 #[.val (.int x0), .val (.int x1), .val (.int x2), .val (.int x3), .val (.int x4), .val (.int ((x0 &&& (2147483647 : Int32)) % (7 : Int32))), .val (.int ca), .val (.int cb), .val (.int (1 : Int32)), .val (.ref b285), .val (.ref b291), .val (.int (((x4.toUInt32 >>> ((1 : Int32) &&& 31).toUInt32).toInt32) &&& (3 : Int32))), .val (.int sym), .val (.ref b295), .unset] [(.int (5 : Int32)), (.int ((x0 &&& (2147483647 : Int32)) % (7 : Int32)))]))
        by_cases hc134_302 : ((x0 &&& (2147483647 : Int32)) % (7 : Int32)) = (5 : Int32)
        · refine Gl.back (fun _ k => XS.icmpNo X301.here hx rfl (hb hby at_134) rfl (teq hc134_302).2 k) ?_
          show Gl _ _ _ _ _ _ _ (T301.setTop (mkF m 137 #[.val (.int x0), .val (.int x1), .val (.int x2), .val (.int x3), .val (.int x4), .val (.int ((x0 &&& (2147483647 : Int32)) % (7 : Int32))), .val (.int ca), .val (.int cb), .val (.int (1 : Int32)), .val (.ref b285), .val (.ref b291), .val (.int (((x4.toUInt32 >>> ((1 : Int32) &&& 31).toUInt32).toInt32) &&& (3 : Int32))), .val (.int sym), .val (.ref b295), .unset] []))
          refine Gl.back (fun _ k => XS.iload X301.here hx rfl (hb hby at_137) rfl k) ?_
          show Gl _ _ _ _ _ _ _ (T301.setTop (mkF m 139 #[.val (.int x0), .val (.int x1), .val (.int x2), .val (.int x3), .val (.int x4), .val (.int ((x0 &&& (2147483647 : Int32)) % (7 : Int32))), .val (.int ca), .val (.int cb), .val (.int (1 : Int32)), .val (.ref b285), .val (.ref b291), .val (.int (((x4.toUInt32 >>> ((1 : Int32) &&& 31).toUInt32).toInt32) &&& (3 : Int32))), .val (.int sym), .val (.ref b295), .unset] [(.int ca)]))
          refine Gl.back (fun _ k => XS.iload X301.here hx rfl (hb hby at_139) rfl k) ?_
          show Gl _ _ _ _ _ _ _ (T301.setTop (mkF m 141 #[.val (.int x0), .val (.int x1), .val (.int x2), .val (.int x3), .val (.int x4), .val (.int ((x0 &&& (2147483647 : Int32)) % (7 : Int32))), .val (.int ca), .val (.int cb), .val (.int (1 : Int32)), .val (.ref b285), .val (.ref b291), .val (.int (((x4.toUInt32 >>> ((1 : Int32) &&& 31).toUInt32).toInt32) &&& (3 : Int32))), .val (.int sym), .val (.ref b295), .unset] [(.int sym), (.int ca)]))
          by_cases hc141_303 : ca = sym
          · refine Gl.back (fun _ k => XS.icmpNo X301.here hx rfl (hb hby at_141) rfl (teq hc141_303).2 k) ?_
            show Gl _ _ _ _ _ _ _ (T301.setTop (mkF m 144 #[.val (.int x0), .val (.int x1), .val (.int x2), .val (.int x3), .val (.int x4), .val (.int ((x0 &&& (2147483647 : Int32)) % (7 : Int32))), .val (.int ca), .val (.int cb), .val (.int (1 : Int32)), .val (.ref b285), .val (.ref b291), .val (.int (((x4.toUInt32 >>> ((1 : Int32) &&& 31).toUInt32).toInt32) &&& (3 : Int32))), .val (.int sym), .val (.ref b295), .unset] []))
            refine Gl.back (fun _ k => XS.iconst X301.here hx rfl (hb hby at_144) k) ?_
            show Gl _ _ _ _ _ _ _ (T301.setTop (mkF m 145 #[.val (.int x0), .val (.int x1), .val (.int x2), .val (.int x3), .val (.int x4), .val (.int ((x0 &&& (2147483647 : Int32)) % (7 : Int32))), .val (.int ca), .val (.int cb), .val (.int (1 : Int32)), .val (.ref b285), .val (.ref b291), .val (.int (((x4.toUInt32 >>> ((1 : Int32) &&& 31).toUInt32).toInt32) &&& (3 : Int32))), .val (.int sym), .val (.ref b295), .unset] [(.int (1 : Int32))]))
            refine Gl.back (fun _ k => XS.goto X301.here hx rfl (pc0 := 145) (pc' := 149) rfl (hb hby at_145) (by decide) (by decide) k) ?_
            show Gl _ _ _ _ _ _ _ (T301.setTop (mkF m 149 #[.val (.int x0), .val (.int x1), .val (.int x2), .val (.int x3), .val (.int x4), .val (.int ((x0 &&& (2147483647 : Int32)) % (7 : Int32))), .val (.int ca), .val (.int cb), .val (.int (1 : Int32)), .val (.ref b285), .val (.ref b291), .val (.int (((x4.toUInt32 >>> ((1 : Int32) &&& 31).toUInt32).toInt32) &&& (3 : Int32))), .val (.int sym), .val (.ref b295), .unset] [(.int (1 : Int32))]))
            refine Gl.back (fun _ k => XS.istore X301.here hx rfl (hb hby at_149) rfl (l' := #[.val (.int x0), .val (.int x1), .val (.int x2), .val (.int x3), .val (.int x4), .val (.int ((x0 &&& (2147483647 : Int32)) % (7 : Int32))), .val (.int ca), .val (.int cb), .val (.int (1 : Int32)), .val (.ref b285), .val (.ref b291), .val (.int (((x4.toUInt32 >>> ((1 : Int32) &&& 31).toUInt32).toInt32) &&& (3 : Int32))), .val (.int sym), .val (.ref b295), .val (.int (1 : Int32))]) rfl k) ?_
            show Gl _ _ _ _ _ _ _ (T301.setTop (mkF m 151 #[.val (.int x0), .val (.int x1), .val (.int x2), .val (.int x3), .val (.int x4), .val (.int ((x0 &&& (2147483647 : Int32)) % (7 : Int32))), .val (.int ca), .val (.int cb), .val (.int (1 : Int32)), .val (.ref b285), .val (.ref b291), .val (.int (((x4.toUInt32 >>> ((1 : Int32) &&& 31).toUInt32).toInt32) &&& (3 : Int32))), .val (.int sym), .val (.ref b295), .val (.int (1 : Int32))] []))
            refine Gl.back (fun _ k => XS.aload X301.here hx rfl (hb hby at_151) rfl rfl k) ?_
            show Gl _ _ _ _ _ _ _ (T301.setTop (mkF m 153 #[.val (.int x0), .val (.int x1), .val (.int x2), .val (.int x3), .val (.int x4), .val (.int ((x0 &&& (2147483647 : Int32)) % (7 : Int32))), .val (.int ca), .val (.int cb), .val (.int (1 : Int32)), .val (.ref b285), .val (.ref b291), .val (.int (((x4.toUInt32 >>> ((1 : Int32) &&& 31).toUInt32).toInt32) &&& (3 : Int32))), .val (.int sym), .val (.ref b295), .val (.int (1 : Int32))] [(.ref b295)]))
            refine Gl.back (fun _ k => XS.iload X301.here hx rfl (hb hby at_153) rfl k) ?_
            show Gl _ _ _ _ _ _ _ (T301.setTop (mkF m 155 #[.val (.int x0), .val (.int x1), .val (.int x2), .val (.int x3), .val (.int x4), .val (.int ((x0 &&& (2147483647 : Int32)) % (7 : Int32))), .val (.int ca), .val (.int cb), .val (.int (1 : Int32)), .val (.ref b285), .val (.ref b291), .val (.int (((x4.toUInt32 >>> ((1 : Int32) &&& 31).toUInt32).toInt32) &&& (3 : Int32))), .val (.int sym), .val (.ref b295), .val (.int (1 : Int32))] [(.int sym), (.ref b295)]))
            have hks := hk1298 hc134_302
            have f305 := ((f297.ext E295).keep Kq301)
            have f306 := ((Fc293.ext E295).keep Kq301 (ninS ne_b291_b295 nin0))
            have f307 := ((Fv293.ext E295).keep Kq301 (ninS ne_b291_b295 nin0))
            have f308 := ((V293.ext E295).keep Kq301 (ninS ne_t293_b295 nin0))
            have f309 := (A295.keep Kq301)
            obtain ⟨cq304, kq304, q304a, q304b, q304c⟩ := isOf hZ rfl f309
            obtain ⟨_, _, ⟨T304, L304, k304, n304⟩, -, X304, ⟨Lc304, hQ304, l304, y304, z304⟩, st304⟩ := X301.virtualBack hx (y := (⟨"com/example/partition_planner/partitionplanner/CqlLexer$Token", "isSymbol", "(C)Z"⟩ : MethodName)) (z := (⟨"com/example/partition_planner/partitionplanner/CqlLexer$Token", "isSymbol", "(C)Z"⟩ : MethodName)) hown (mvT hZ (hw _ (List.mem_of_getElem? (i := 60) rfl))) (mvT hZ (hw _ (List.mem_of_getElem? (i := 61) rfl))) (notFace_of_selects (args := #[]) (mvT hZ (hw _ (List.mem_of_getElem? (i := 63) rfl)))) (mvT hZ (hw _ (List.mem_of_getElem? (i := 63) rfl))) (mvT hZ (hw _ (List.mem_of_getElem? (i := 62) rfl))) (by decide) (backOf (W := 0) (rmsymU_2 l Z a0 hw [] b295 sym b291 t293 w_SYMBOL k0293 (own_b0 ca) (own_b1 ca) (own_b0 cb) (own_b1 cb) zc fm T301.heap n0 Zc301 Oc301 S_AD S_HI S_LO S_C P0 S_F hfm S_SYMBOL (hks ▸ Fk301) Fv301 f305 f306 f307 f308) hZ (hw _ (List.mem_of_getElem? (i := 64) rfl)) (hw _ (List.mem_of_getElem? (i := 33) rfl)) (by decide) (by decide)) q304a q304c (g := (mkF m 155 #[.val (.int x0), .val (.int x1), .val (.int x2), .val (.int x3), .val (.int x4), .val (.int ((x0 &&& (2147483647 : Int32)) % (7 : Int32))), .val (.int ca), .val (.int cb), .val (.int (1 : Int32)), .val (.ref b285), .val (.ref b291), .val (.int (((x4.toUInt32 >>> ((1 : Int32) &&& 31).toUInt32).toInt32) &&& (3 : Int32))), .val (.int sym), .val (.ref b295), .val (.int (1 : Int32))] [(.int sym), (.ref b295)])) rfl (by rw [hml]; rfl) (Steps.refl _) (argsL := [(.int sym)]) (rest := []) (lenOf pd__C_Z rfl) rfl (by show 2 * 0 + _ ≤ _; exact Nat.le_of_eq rfl) (hb hby at_155) (fun _ _ => ⟨rfl, rfl, (by decide : 5 + 0 ≤ _), (by decide : 17 + 0 ≤ _)⟩)
            dsimp only [Pt.U, Pt.locs, Pt.cells, Pt.slots] at X304 l304 y304 z304 st304 hQ304
            replace l304 := Eq.symm l304
            replace y304 := Eq.symm y304
            replace z304 := Eq.symm z304
            subst l304 y304 z304
            obtain ⟨Nq304, hQ304⟩ := hQ304
            rcases hQ304 with ⟨rfl, eh304, hy304⟩ | ⟨rfl, eh304, hy304⟩
            · have N304 := Fr.app N301 Nq304
              refine Gl.back (fun _ k => st304.trans k) ?_
              show Gl _ _ _ _ _ _ _ (T304.setTop (mkF m 158 #[.val (.int x0), .val (.int x1), .val (.int x2), .val (.int x3), .val (.int x4), .val (.int ((x0 &&& (2147483647 : Int32)) % (7 : Int32))), .val (.int ca), .val (.int cb), .val (.int (1 : Int32)), .val (.ref b285), .val (.ref b291), .val (.int (((x4.toUInt32 >>> ((1 : Int32) &&& 31).toUInt32).toInt32) &&& (3 : Int32))), .val (.int sym), .val (.ref b295), .val (.int (1 : Int32))] [(.int (1 : Int32))]))
              refine Gl.back (fun _ k => XS.iload X304.here hx rfl (hb hby at_158) rfl k) ?_
              show Gl _ _ _ _ _ _ _ (T304.setTop (mkF m 160 #[.val (.int x0), .val (.int x1), .val (.int x2), .val (.int x3), .val (.int x4), .val (.int ((x0 &&& (2147483647 : Int32)) % (7 : Int32))), .val (.int ca), .val (.int cb), .val (.int (1 : Int32)), .val (.ref b285), .val (.ref b291), .val (.int (((x4.toUInt32 >>> ((1 : Int32) &&& 31).toUInt32).toInt32) &&& (3 : Int32))), .val (.int sym), .val (.ref b295), .val (.int (1 : Int32))] [(.int (1 : Int32)), (.int (1 : Int32))]))
              refine Gl.back (fun _ k => XS.icmpNo X304.here hx rfl (hb hby at_160) rfl (teq (rfl : (1 : Int32) = (1 : Int32))).2 k) ?_
              show Gl _ _ _ _ _ _ _ (T304.setTop (mkF m 163 #[.val (.int x0), .val (.int x1), .val (.int x2), .val (.int x3), .val (.int x4), .val (.int ((x0 &&& (2147483647 : Int32)) % (7 : Int32))), .val (.int ca), .val (.int cb), .val (.int (1 : Int32)), .val (.ref b285), .val (.ref b291), .val (.int (((x4.toUInt32 >>> ((1 : Int32) &&& 31).toUInt32).toInt32) &&& (3 : Int32))), .val (.int sym), .val (.ref b295), .val (.int (1 : Int32))] []))
              refine Gl.back (fun _ k => XS.iconst X304.here hx rfl (hb hby at_163) k) ?_
              show Gl _ _ _ _ _ _ _ (T304.setTop (mkF m 164 #[.val (.int x0), .val (.int x1), .val (.int x2), .val (.int x3), .val (.int x4), .val (.int ((x0 &&& (2147483647 : Int32)) % (7 : Int32))), .val (.int ca), .val (.int cb), .val (.int (1 : Int32)), .val (.ref b285), .val (.ref b291), .val (.int (((x4.toUInt32 >>> ((1 : Int32) &&& 31).toUInt32).toInt32) &&& (3 : Int32))), .val (.int sym), .val (.ref b295), .val (.int (1 : Int32))] [(.int (1 : Int32))]))
              refine Gl.back (fun _ k => XS.goto X304.here hx rfl (pc0 := 164) (pc' := 168) rfl (hb hby at_164) (by decide) (by decide) k) ?_
              show Gl _ _ _ _ _ _ _ (T304.setTop (mkF m 168 #[.val (.int x0), .val (.int x1), .val (.int x2), .val (.int x3), .val (.int x4), .val (.int ((x0 &&& (2147483647 : Int32)) % (7 : Int32))), .val (.int ca), .val (.int cb), .val (.int (1 : Int32)), .val (.ref b285), .val (.ref b291), .val (.int (((x4.toUInt32 >>> ((1 : Int32) &&& 31).toUInt32).toInt32) &&& (3 : Int32))), .val (.int sym), .val (.ref b295), .val (.int (1 : Int32))] [(.int (1 : Int32))]))
              exact Gl.ret X304 eh304 (v := (some (.int (1 : Int32)))) (fun h => by rw [Bd.returns] at h; cases h) Bd.notSynchronized (fun fs hr => retN X304 hx (t := .boolean) (z := (1 : Int32)) Bd.returns (by simp) (hb hby at_168) hr) ⟨N304, rfl⟩ (by decide) (by decide)
            · have N304 := Fr.app N301 Nq304
              refine Gl.back (fun _ k => st304.trans k) ?_
              show Gl _ _ _ _ _ _ _ (T304.setTop (mkF m 158 #[.val (.int x0), .val (.int x1), .val (.int x2), .val (.int x3), .val (.int x4), .val (.int ((x0 &&& (2147483647 : Int32)) % (7 : Int32))), .val (.int ca), .val (.int cb), .val (.int (1 : Int32)), .val (.ref b285), .val (.ref b291), .val (.int (((x4.toUInt32 >>> ((1 : Int32) &&& 31).toUInt32).toInt32) &&& (3 : Int32))), .val (.int sym), .val (.ref b295), .val (.int (1 : Int32))] [(.int (0 : Int32))]))
              refine Gl.back (fun _ k => XS.iload X304.here hx rfl (hb hby at_158) rfl k) ?_
              show Gl _ _ _ _ _ _ _ (T304.setTop (mkF m 160 #[.val (.int x0), .val (.int x1), .val (.int x2), .val (.int x3), .val (.int x4), .val (.int ((x0 &&& (2147483647 : Int32)) % (7 : Int32))), .val (.int ca), .val (.int cb), .val (.int (1 : Int32)), .val (.ref b285), .val (.ref b291), .val (.int (((x4.toUInt32 >>> ((1 : Int32) &&& 31).toUInt32).toInt32) &&& (3 : Int32))), .val (.int sym), .val (.ref b295), .val (.int (1 : Int32))] [(.int (1 : Int32)), (.int (0 : Int32))]))
              refine Gl.back (fun _ k => XS.icmpNo X304.here hx rfl (hb hby at_160) rfl (teq (absurd hc141_303 ((own_gc2 hcar) ▸ hy304) : (0 : Int32) = (1 : Int32))).2 k) ?_
              show Gl _ _ _ _ _ _ _ (T304.setTop (mkF m 163 #[.val (.int x0), .val (.int x1), .val (.int x2), .val (.int x3), .val (.int x4), .val (.int ((x0 &&& (2147483647 : Int32)) % (7 : Int32))), .val (.int ca), .val (.int cb), .val (.int (1 : Int32)), .val (.ref b285), .val (.ref b291), .val (.int (((x4.toUInt32 >>> ((1 : Int32) &&& 31).toUInt32).toInt32) &&& (3 : Int32))), .val (.int sym), .val (.ref b295), .val (.int (1 : Int32))] []))
              refine Gl.back (fun _ k => XS.iconst X304.here hx rfl (hb hby at_163) k) ?_
              show Gl _ _ _ _ _ _ _ (T304.setTop (mkF m 164 #[.val (.int x0), .val (.int x1), .val (.int x2), .val (.int x3), .val (.int x4), .val (.int ((x0 &&& (2147483647 : Int32)) % (7 : Int32))), .val (.int ca), .val (.int cb), .val (.int (1 : Int32)), .val (.ref b285), .val (.ref b291), .val (.int (((x4.toUInt32 >>> ((1 : Int32) &&& 31).toUInt32).toInt32) &&& (3 : Int32))), .val (.int sym), .val (.ref b295), .val (.int (1 : Int32))] [(.int (1 : Int32))]))
              refine Gl.back (fun _ k => XS.goto X304.here hx rfl (pc0 := 164) (pc' := 168) rfl (hb hby at_164) (by decide) (by decide) k) ?_
              show Gl _ _ _ _ _ _ _ (T304.setTop (mkF m 168 #[.val (.int x0), .val (.int x1), .val (.int x2), .val (.int x3), .val (.int x4), .val (.int ((x0 &&& (2147483647 : Int32)) % (7 : Int32))), .val (.int ca), .val (.int cb), .val (.int (1 : Int32)), .val (.ref b285), .val (.ref b291), .val (.int (((x4.toUInt32 >>> ((1 : Int32) &&& 31).toUInt32).toInt32) &&& (3 : Int32))), .val (.int sym), .val (.ref b295), .val (.int (1 : Int32))] [(.int (1 : Int32))]))
              exact Gl.ret X304 eh304 (v := (some (.int (1 : Int32)))) (fun h => by rw [Bd.returns] at h; cases h) Bd.notSynchronized (fun fs hr => retN X304 hx (t := .boolean) (z := (1 : Int32)) Bd.returns (by simp) (hb hby at_168) hr) ⟨N304, rfl⟩ (by decide) (by decide)
          · refine Gl.back (fun _ k => XS.icmpYes X301.here hx rfl (pc0 := 141) (pc' := 148) rfl (hb hby at_141) rfl (feq hc141_303).2 (by decide) (by decide) k) ?_
            show Gl _ _ _ _ _ _ _ (T301.setTop (mkF m 148 #[.val (.int x0), .val (.int x1), .val (.int x2), .val (.int x3), .val (.int x4), .val (.int ((x0 &&& (2147483647 : Int32)) % (7 : Int32))), .val (.int ca), .val (.int cb), .val (.int (1 : Int32)), .val (.ref b285), .val (.ref b291), .val (.int (((x4.toUInt32 >>> ((1 : Int32) &&& 31).toUInt32).toInt32) &&& (3 : Int32))), .val (.int sym), .val (.ref b295), .unset] []))
            refine Gl.back (fun _ k => XS.iconst X301.here hx rfl (hb hby at_148) k) ?_
            show Gl _ _ _ _ _ _ _ (T301.setTop (mkF m 149 #[.val (.int x0), .val (.int x1), .val (.int x2), .val (.int x3), .val (.int x4), .val (.int ((x0 &&& (2147483647 : Int32)) % (7 : Int32))), .val (.int ca), .val (.int cb), .val (.int (1 : Int32)), .val (.ref b285), .val (.ref b291), .val (.int (((x4.toUInt32 >>> ((1 : Int32) &&& 31).toUInt32).toInt32) &&& (3 : Int32))), .val (.int sym), .val (.ref b295), .unset] [(.int (0 : Int32))]))
            refine Gl.back (fun _ k => XS.istore X301.here hx rfl (hb hby at_149) rfl (l' := #[.val (.int x0), .val (.int x1), .val (.int x2), .val (.int x3), .val (.int x4), .val (.int ((x0 &&& (2147483647 : Int32)) % (7 : Int32))), .val (.int ca), .val (.int cb), .val (.int (1 : Int32)), .val (.ref b285), .val (.ref b291), .val (.int (((x4.toUInt32 >>> ((1 : Int32) &&& 31).toUInt32).toInt32) &&& (3 : Int32))), .val (.int sym), .val (.ref b295), .val (.int (0 : Int32))]) rfl k) ?_
            show Gl _ _ _ _ _ _ _ (T301.setTop (mkF m 151 #[.val (.int x0), .val (.int x1), .val (.int x2), .val (.int x3), .val (.int x4), .val (.int ((x0 &&& (2147483647 : Int32)) % (7 : Int32))), .val (.int ca), .val (.int cb), .val (.int (1 : Int32)), .val (.ref b285), .val (.ref b291), .val (.int (((x4.toUInt32 >>> ((1 : Int32) &&& 31).toUInt32).toInt32) &&& (3 : Int32))), .val (.int sym), .val (.ref b295), .val (.int (0 : Int32))] []))
            refine Gl.back (fun _ k => XS.aload X301.here hx rfl (hb hby at_151) rfl rfl k) ?_
            show Gl _ _ _ _ _ _ _ (T301.setTop (mkF m 153 #[.val (.int x0), .val (.int x1), .val (.int x2), .val (.int x3), .val (.int x4), .val (.int ((x0 &&& (2147483647 : Int32)) % (7 : Int32))), .val (.int ca), .val (.int cb), .val (.int (1 : Int32)), .val (.ref b285), .val (.ref b291), .val (.int (((x4.toUInt32 >>> ((1 : Int32) &&& 31).toUInt32).toInt32) &&& (3 : Int32))), .val (.int sym), .val (.ref b295), .val (.int (0 : Int32))] [(.ref b295)]))
            refine Gl.back (fun _ k => XS.iload X301.here hx rfl (hb hby at_153) rfl k) ?_
            show Gl _ _ _ _ _ _ _ (T301.setTop (mkF m 155 #[.val (.int x0), .val (.int x1), .val (.int x2), .val (.int x3), .val (.int x4), .val (.int ((x0 &&& (2147483647 : Int32)) % (7 : Int32))), .val (.int ca), .val (.int cb), .val (.int (1 : Int32)), .val (.ref b285), .val (.ref b291), .val (.int (((x4.toUInt32 >>> ((1 : Int32) &&& 31).toUInt32).toInt32) &&& (3 : Int32))), .val (.int sym), .val (.ref b295), .val (.int (0 : Int32))] [(.int sym), (.ref b295)]))
            have hks := hk1298 hc134_302
            have f311 := ((f297.ext E295).keep Kq301)
            have f312 := ((Fc293.ext E295).keep Kq301 (ninS ne_b291_b295 nin0))
            have f313 := ((Fv293.ext E295).keep Kq301 (ninS ne_b291_b295 nin0))
            have f314 := ((V293.ext E295).keep Kq301 (ninS ne_t293_b295 nin0))
            have f315 := (A295.keep Kq301)
            obtain ⟨cq310, kq310, q310a, q310b, q310c⟩ := isOf hZ rfl f315
            obtain ⟨_, _, ⟨T310, L310, k310, n310⟩, -, X310, ⟨Lc310, hQ310, l310, y310, z310⟩, st310⟩ := X301.virtualBack hx (y := (⟨"com/example/partition_planner/partitionplanner/CqlLexer$Token", "isSymbol", "(C)Z"⟩ : MethodName)) (z := (⟨"com/example/partition_planner/partitionplanner/CqlLexer$Token", "isSymbol", "(C)Z"⟩ : MethodName)) hown (mvT hZ (hw _ (List.mem_of_getElem? (i := 60) rfl))) (mvT hZ (hw _ (List.mem_of_getElem? (i := 61) rfl))) (notFace_of_selects (args := #[]) (mvT hZ (hw _ (List.mem_of_getElem? (i := 63) rfl)))) (mvT hZ (hw _ (List.mem_of_getElem? (i := 63) rfl))) (mvT hZ (hw _ (List.mem_of_getElem? (i := 62) rfl))) (by decide) (backOf (W := 0) (rmsymU_2 l Z a0 hw [] b295 sym b291 t293 w_SYMBOL k0293 (own_b0 ca) (own_b1 ca) (own_b0 cb) (own_b1 cb) zc fm T301.heap n0 Zc301 Oc301 S_AD S_HI S_LO S_C P0 S_F hfm S_SYMBOL (hks ▸ Fk301) Fv301 f311 f312 f313 f314) hZ (hw _ (List.mem_of_getElem? (i := 64) rfl)) (hw _ (List.mem_of_getElem? (i := 33) rfl)) (by decide) (by decide)) q310a q310c (g := (mkF m 155 #[.val (.int x0), .val (.int x1), .val (.int x2), .val (.int x3), .val (.int x4), .val (.int ((x0 &&& (2147483647 : Int32)) % (7 : Int32))), .val (.int ca), .val (.int cb), .val (.int (1 : Int32)), .val (.ref b285), .val (.ref b291), .val (.int (((x4.toUInt32 >>> ((1 : Int32) &&& 31).toUInt32).toInt32) &&& (3 : Int32))), .val (.int sym), .val (.ref b295), .val (.int (0 : Int32))] [(.int sym), (.ref b295)])) rfl (by rw [hml]; rfl) (Steps.refl _) (argsL := [(.int sym)]) (rest := []) (lenOf pd__C_Z rfl) rfl (by show 2 * 0 + _ ≤ _; exact Nat.le_of_eq rfl) (hb hby at_155) (fun _ _ => ⟨rfl, rfl, (by decide : 5 + 0 ≤ _), (by decide : 17 + 0 ≤ _)⟩)
            dsimp only [Pt.U, Pt.locs, Pt.cells, Pt.slots] at X310 l310 y310 z310 st310 hQ310
            replace l310 := Eq.symm l310
            replace y310 := Eq.symm y310
            replace z310 := Eq.symm z310
            subst l310 y310 z310
            obtain ⟨Nq310, hQ310⟩ := hQ310
            rcases hQ310 with ⟨rfl, eh310, hy310⟩ | ⟨rfl, eh310, hy310⟩
            · have N310 := Fr.app N301 Nq310
              refine Gl.back (fun _ k => st310.trans k) ?_
              show Gl _ _ _ _ _ _ _ (T310.setTop (mkF m 158 #[.val (.int x0), .val (.int x1), .val (.int x2), .val (.int x3), .val (.int x4), .val (.int ((x0 &&& (2147483647 : Int32)) % (7 : Int32))), .val (.int ca), .val (.int cb), .val (.int (1 : Int32)), .val (.ref b285), .val (.ref b291), .val (.int (((x4.toUInt32 >>> ((1 : Int32) &&& 31).toUInt32).toInt32) &&& (3 : Int32))), .val (.int sym), .val (.ref b295), .val (.int (0 : Int32))] [(.int (1 : Int32))]))
              refine Gl.back (fun _ k => XS.iload X310.here hx rfl (hb hby at_158) rfl k) ?_
              show Gl _ _ _ _ _ _ _ (T310.setTop (mkF m 160 #[.val (.int x0), .val (.int x1), .val (.int x2), .val (.int x3), .val (.int x4), .val (.int ((x0 &&& (2147483647 : Int32)) % (7 : Int32))), .val (.int ca), .val (.int cb), .val (.int (1 : Int32)), .val (.ref b285), .val (.ref b291), .val (.int (((x4.toUInt32 >>> ((1 : Int32) &&& 31).toUInt32).toInt32) &&& (3 : Int32))), .val (.int sym), .val (.ref b295), .val (.int (0 : Int32))] [(.int (0 : Int32)), (.int (1 : Int32))]))
              refine Gl.back (fun _ k => XS.icmpNo X310.here hx rfl (hb hby at_160) rfl (teq (absurd ((own_gc2 hcar) ▸ hy310) hc141_303 : (1 : Int32) = (0 : Int32))).2 k) ?_
              show Gl _ _ _ _ _ _ _ (T310.setTop (mkF m 163 #[.val (.int x0), .val (.int x1), .val (.int x2), .val (.int x3), .val (.int x4), .val (.int ((x0 &&& (2147483647 : Int32)) % (7 : Int32))), .val (.int ca), .val (.int cb), .val (.int (1 : Int32)), .val (.ref b285), .val (.ref b291), .val (.int (((x4.toUInt32 >>> ((1 : Int32) &&& 31).toUInt32).toInt32) &&& (3 : Int32))), .val (.int sym), .val (.ref b295), .val (.int (0 : Int32))] []))
              refine Gl.back (fun _ k => XS.iconst X310.here hx rfl (hb hby at_163) k) ?_
              show Gl _ _ _ _ _ _ _ (T310.setTop (mkF m 164 #[.val (.int x0), .val (.int x1), .val (.int x2), .val (.int x3), .val (.int x4), .val (.int ((x0 &&& (2147483647 : Int32)) % (7 : Int32))), .val (.int ca), .val (.int cb), .val (.int (1 : Int32)), .val (.ref b285), .val (.ref b291), .val (.int (((x4.toUInt32 >>> ((1 : Int32) &&& 31).toUInt32).toInt32) &&& (3 : Int32))), .val (.int sym), .val (.ref b295), .val (.int (0 : Int32))] [(.int (1 : Int32))]))
              refine Gl.back (fun _ k => XS.goto X310.here hx rfl (pc0 := 164) (pc' := 168) rfl (hb hby at_164) (by decide) (by decide) k) ?_
              show Gl _ _ _ _ _ _ _ (T310.setTop (mkF m 168 #[.val (.int x0), .val (.int x1), .val (.int x2), .val (.int x3), .val (.int x4), .val (.int ((x0 &&& (2147483647 : Int32)) % (7 : Int32))), .val (.int ca), .val (.int cb), .val (.int (1 : Int32)), .val (.ref b285), .val (.ref b291), .val (.int (((x4.toUInt32 >>> ((1 : Int32) &&& 31).toUInt32).toInt32) &&& (3 : Int32))), .val (.int sym), .val (.ref b295), .val (.int (0 : Int32))] [(.int (1 : Int32))]))
              exact Gl.ret X310 eh310 (v := (some (.int (1 : Int32)))) (fun h => by rw [Bd.returns] at h; cases h) Bd.notSynchronized (fun fs hr => retN X310 hx (t := .boolean) (z := (1 : Int32)) Bd.returns (by simp) (hb hby at_168) hr) ⟨N310, rfl⟩ (by decide) (by decide)
            · have N310 := Fr.app N301 Nq310
              refine Gl.back (fun _ k => st310.trans k) ?_
              show Gl _ _ _ _ _ _ _ (T310.setTop (mkF m 158 #[.val (.int x0), .val (.int x1), .val (.int x2), .val (.int x3), .val (.int x4), .val (.int ((x0 &&& (2147483647 : Int32)) % (7 : Int32))), .val (.int ca), .val (.int cb), .val (.int (1 : Int32)), .val (.ref b285), .val (.ref b291), .val (.int (((x4.toUInt32 >>> ((1 : Int32) &&& 31).toUInt32).toInt32) &&& (3 : Int32))), .val (.int sym), .val (.ref b295), .val (.int (0 : Int32))] [(.int (0 : Int32))]))
              refine Gl.back (fun _ k => XS.iload X310.here hx rfl (hb hby at_158) rfl k) ?_
              show Gl _ _ _ _ _ _ _ (T310.setTop (mkF m 160 #[.val (.int x0), .val (.int x1), .val (.int x2), .val (.int x3), .val (.int x4), .val (.int ((x0 &&& (2147483647 : Int32)) % (7 : Int32))), .val (.int ca), .val (.int cb), .val (.int (1 : Int32)), .val (.ref b285), .val (.ref b291), .val (.int (((x4.toUInt32 >>> ((1 : Int32) &&& 31).toUInt32).toInt32) &&& (3 : Int32))), .val (.int sym), .val (.ref b295), .val (.int (0 : Int32))] [(.int (0 : Int32)), (.int (0 : Int32))]))
              refine Gl.back (fun _ k => XS.icmpNo X310.here hx rfl (hb hby at_160) rfl (teq (rfl : (0 : Int32) = (0 : Int32))).2 k) ?_
              show Gl _ _ _ _ _ _ _ (T310.setTop (mkF m 163 #[.val (.int x0), .val (.int x1), .val (.int x2), .val (.int x3), .val (.int x4), .val (.int ((x0 &&& (2147483647 : Int32)) % (7 : Int32))), .val (.int ca), .val (.int cb), .val (.int (1 : Int32)), .val (.ref b285), .val (.ref b291), .val (.int (((x4.toUInt32 >>> ((1 : Int32) &&& 31).toUInt32).toInt32) &&& (3 : Int32))), .val (.int sym), .val (.ref b295), .val (.int (0 : Int32))] []))
              refine Gl.back (fun _ k => XS.iconst X310.here hx rfl (hb hby at_163) k) ?_
              show Gl _ _ _ _ _ _ _ (T310.setTop (mkF m 164 #[.val (.int x0), .val (.int x1), .val (.int x2), .val (.int x3), .val (.int x4), .val (.int ((x0 &&& (2147483647 : Int32)) % (7 : Int32))), .val (.int ca), .val (.int cb), .val (.int (1 : Int32)), .val (.ref b285), .val (.ref b291), .val (.int (((x4.toUInt32 >>> ((1 : Int32) &&& 31).toUInt32).toInt32) &&& (3 : Int32))), .val (.int sym), .val (.ref b295), .val (.int (0 : Int32))] [(.int (1 : Int32))]))
              refine Gl.back (fun _ k => XS.goto X310.here hx rfl (pc0 := 164) (pc' := 168) rfl (hb hby at_164) (by decide) (by decide) k) ?_
              show Gl _ _ _ _ _ _ _ (T310.setTop (mkF m 168 #[.val (.int x0), .val (.int x1), .val (.int x2), .val (.int x3), .val (.int x4), .val (.int ((x0 &&& (2147483647 : Int32)) % (7 : Int32))), .val (.int ca), .val (.int cb), .val (.int (1 : Int32)), .val (.ref b285), .val (.ref b291), .val (.int (((x4.toUInt32 >>> ((1 : Int32) &&& 31).toUInt32).toInt32) &&& (3 : Int32))), .val (.int sym), .val (.ref b295), .val (.int (0 : Int32))] [(.int (1 : Int32))]))
              exact Gl.ret X310 eh310 (v := (some (.int (1 : Int32)))) (fun h => by rw [Bd.returns] at h; cases h) Bd.notSynchronized (fun fs hr => retN X310 hx (t := .boolean) (z := (1 : Int32)) Bd.returns (by simp) (hb hby at_168) hr) ⟨N310, rfl⟩ (by decide) (by decide)
        · refine Gl.back (fun _ k => XS.icmpYes X301.here hx rfl (pc0 := 134) (pc' := 148) rfl (hb hby at_134) rfl (feq hc134_302).2 (by decide) (by decide) k) ?_
          show Gl _ _ _ _ _ _ _ (T301.setTop (mkF m 148 #[.val (.int x0), .val (.int x1), .val (.int x2), .val (.int x3), .val (.int x4), .val (.int ((x0 &&& (2147483647 : Int32)) % (7 : Int32))), .val (.int ca), .val (.int cb), .val (.int (1 : Int32)), .val (.ref b285), .val (.ref b291), .val (.int (((x4.toUInt32 >>> ((1 : Int32) &&& 31).toUInt32).toInt32) &&& (3 : Int32))), .val (.int sym), .val (.ref b295), .unset] []))
          refine Gl.back (fun _ k => XS.iconst X301.here hx rfl (hb hby at_148) k) ?_
          show Gl _ _ _ _ _ _ _ (T301.setTop (mkF m 149 #[.val (.int x0), .val (.int x1), .val (.int x2), .val (.int x3), .val (.int x4), .val (.int ((x0 &&& (2147483647 : Int32)) % (7 : Int32))), .val (.int ca), .val (.int cb), .val (.int (1 : Int32)), .val (.ref b285), .val (.ref b291), .val (.int (((x4.toUInt32 >>> ((1 : Int32) &&& 31).toUInt32).toInt32) &&& (3 : Int32))), .val (.int sym), .val (.ref b295), .unset] [(.int (0 : Int32))]))
          refine Gl.back (fun _ k => XS.istore X301.here hx rfl (hb hby at_149) rfl (l' := #[.val (.int x0), .val (.int x1), .val (.int x2), .val (.int x3), .val (.int x4), .val (.int ((x0 &&& (2147483647 : Int32)) % (7 : Int32))), .val (.int ca), .val (.int cb), .val (.int (1 : Int32)), .val (.ref b285), .val (.ref b291), .val (.int (((x4.toUInt32 >>> ((1 : Int32) &&& 31).toUInt32).toInt32) &&& (3 : Int32))), .val (.int sym), .val (.ref b295), .val (.int (0 : Int32))]) rfl k) ?_
          show Gl _ _ _ _ _ _ _ (T301.setTop (mkF m 151 #[.val (.int x0), .val (.int x1), .val (.int x2), .val (.int x3), .val (.int x4), .val (.int ((x0 &&& (2147483647 : Int32)) % (7 : Int32))), .val (.int ca), .val (.int cb), .val (.int (1 : Int32)), .val (.ref b285), .val (.ref b291), .val (.int (((x4.toUInt32 >>> ((1 : Int32) &&& 31).toUInt32).toInt32) &&& (3 : Int32))), .val (.int sym), .val (.ref b295), .val (.int (0 : Int32))] []))
          refine Gl.back (fun _ k => XS.aload X301.here hx rfl (hb hby at_151) rfl rfl k) ?_
          show Gl _ _ _ _ _ _ _ (T301.setTop (mkF m 153 #[.val (.int x0), .val (.int x1), .val (.int x2), .val (.int x3), .val (.int x4), .val (.int ((x0 &&& (2147483647 : Int32)) % (7 : Int32))), .val (.int ca), .val (.int cb), .val (.int (1 : Int32)), .val (.ref b285), .val (.ref b291), .val (.int (((x4.toUInt32 >>> ((1 : Int32) &&& 31).toUInt32).toInt32) &&& (3 : Int32))), .val (.int sym), .val (.ref b295), .val (.int (0 : Int32))] [(.ref b295)]))
          refine Gl.back (fun _ k => XS.iload X301.here hx rfl (hb hby at_153) rfl k) ?_
          show Gl _ _ _ _ _ _ _ (T301.setTop (mkF m 155 #[.val (.int x0), .val (.int x1), .val (.int x2), .val (.int x3), .val (.int x4), .val (.int ((x0 &&& (2147483647 : Int32)) % (7 : Int32))), .val (.int ca), .val (.int cb), .val (.int (1 : Int32)), .val (.ref b285), .val (.ref b291), .val (.int (((x4.toUInt32 >>> ((1 : Int32) &&& 31).toUInt32).toInt32) &&& (3 : Int32))), .val (.int sym), .val (.ref b295), .val (.int (0 : Int32))] [(.int sym), (.ref b295)]))
          have f317 := (A295.keep Kq301)
          obtain ⟨cq316, kq316, q316a, q316b, q316c⟩ := isOf hZ rfl f317
          obtain ⟨_, _, ⟨T316, L316, k316, n316⟩, -, X316, ⟨Lc316, hQ316, l316, y316, z316⟩, st316⟩ := X301.virtualBack hx (y := (⟨"com/example/partition_planner/partitionplanner/CqlLexer$Token", "isSymbol", "(C)Z"⟩ : MethodName)) (z := (⟨"com/example/partition_planner/partitionplanner/CqlLexer$Token", "isSymbol", "(C)Z"⟩ : MethodName)) hown (mvT hZ (hw _ (List.mem_of_getElem? (i := 60) rfl))) (mvT hZ (hw _ (List.mem_of_getElem? (i := 61) rfl))) (notFace_of_selects (args := #[]) (mvT hZ (hw _ (List.mem_of_getElem? (i := 63) rfl)))) (mvT hZ (hw _ (List.mem_of_getElem? (i := 63) rfl))) (mvT hZ (hw _ (List.mem_of_getElem? (i := 62) rfl))) (by decide) (backOf (W := 0) (rmsym0 l Z a0 hw [] b295 sym wk298 w_SYMBOL T301.heap n0 Zc301 Oc301 S_SYMBOL Fk301 (hk2298 hc134_302)) hZ (hw _ (List.mem_of_getElem? (i := 64) rfl)) (hw _ (List.mem_of_getElem? (i := 33) rfl)) (by decide) (by decide)) q316a q316c (g := (mkF m 155 #[.val (.int x0), .val (.int x1), .val (.int x2), .val (.int x3), .val (.int x4), .val (.int ((x0 &&& (2147483647 : Int32)) % (7 : Int32))), .val (.int ca), .val (.int cb), .val (.int (1 : Int32)), .val (.ref b285), .val (.ref b291), .val (.int (((x4.toUInt32 >>> ((1 : Int32) &&& 31).toUInt32).toInt32) &&& (3 : Int32))), .val (.int sym), .val (.ref b295), .val (.int (0 : Int32))] [(.int sym), (.ref b295)])) rfl (by rw [hml]; rfl) (Steps.refl _) (argsL := [(.int sym)]) (rest := []) (lenOf pd__C_Z rfl) rfl (by show 2 * 0 + _ ≤ _; exact Nat.le_of_eq rfl) (hb hby at_155) (fun _ _ => ⟨rfl, rfl, (by decide : 5 + 0 ≤ _), (by decide : 17 + 0 ≤ _)⟩)
          dsimp only [Pt.U, Pt.locs, Pt.cells, Pt.slots] at X316 l316 y316 z316 st316 hQ316
          replace l316 := Eq.symm l316
          replace y316 := Eq.symm y316
          replace z316 := Eq.symm z316
          subst l316 y316 z316
          obtain ⟨Nq316, rfl, eh316⟩ := hQ316
          have N316 := Fr.app N301 Nq316
          refine Gl.back (fun _ k => st316.trans k) ?_
          show Gl _ _ _ _ _ _ _ (T316.setTop (mkF m 158 #[.val (.int x0), .val (.int x1), .val (.int x2), .val (.int x3), .val (.int x4), .val (.int ((x0 &&& (2147483647 : Int32)) % (7 : Int32))), .val (.int ca), .val (.int cb), .val (.int (1 : Int32)), .val (.ref b285), .val (.ref b291), .val (.int (((x4.toUInt32 >>> ((1 : Int32) &&& 31).toUInt32).toInt32) &&& (3 : Int32))), .val (.int sym), .val (.ref b295), .val (.int (0 : Int32))] [(.int (0 : Int32))]))
          refine Gl.back (fun _ k => XS.iload X316.here hx rfl (hb hby at_158) rfl k) ?_
          show Gl _ _ _ _ _ _ _ (T316.setTop (mkF m 160 #[.val (.int x0), .val (.int x1), .val (.int x2), .val (.int x3), .val (.int x4), .val (.int ((x0 &&& (2147483647 : Int32)) % (7 : Int32))), .val (.int ca), .val (.int cb), .val (.int (1 : Int32)), .val (.ref b285), .val (.ref b291), .val (.int (((x4.toUInt32 >>> ((1 : Int32) &&& 31).toUInt32).toInt32) &&& (3 : Int32))), .val (.int sym), .val (.ref b295), .val (.int (0 : Int32))] [(.int (0 : Int32)), (.int (0 : Int32))]))
          refine Gl.back (fun _ k => XS.icmpNo X316.here hx rfl (hb hby at_160) rfl (teq (rfl : (0 : Int32) = (0 : Int32))).2 k) ?_
          show Gl _ _ _ _ _ _ _ (T316.setTop (mkF m 163 #[.val (.int x0), .val (.int x1), .val (.int x2), .val (.int x3), .val (.int x4), .val (.int ((x0 &&& (2147483647 : Int32)) % (7 : Int32))), .val (.int ca), .val (.int cb), .val (.int (1 : Int32)), .val (.ref b285), .val (.ref b291), .val (.int (((x4.toUInt32 >>> ((1 : Int32) &&& 31).toUInt32).toInt32) &&& (3 : Int32))), .val (.int sym), .val (.ref b295), .val (.int (0 : Int32))] []))
          refine Gl.back (fun _ k => XS.iconst X316.here hx rfl (hb hby at_163) k) ?_
          show Gl _ _ _ _ _ _ _ (T316.setTop (mkF m 164 #[.val (.int x0), .val (.int x1), .val (.int x2), .val (.int x3), .val (.int x4), .val (.int ((x0 &&& (2147483647 : Int32)) % (7 : Int32))), .val (.int ca), .val (.int cb), .val (.int (1 : Int32)), .val (.ref b285), .val (.ref b291), .val (.int (((x4.toUInt32 >>> ((1 : Int32) &&& 31).toUInt32).toInt32) &&& (3 : Int32))), .val (.int sym), .val (.ref b295), .val (.int (0 : Int32))] [(.int (1 : Int32))]))
          refine Gl.back (fun _ k => XS.goto X316.here hx rfl (pc0 := 164) (pc' := 168) rfl (hb hby at_164) (by decide) (by decide) k) ?_
          show Gl _ _ _ _ _ _ _ (T316.setTop (mkF m 168 #[.val (.int x0), .val (.int x1), .val (.int x2), .val (.int x3), .val (.int x4), .val (.int ((x0 &&& (2147483647 : Int32)) % (7 : Int32))), .val (.int ca), .val (.int cb), .val (.int (1 : Int32)), .val (.ref b285), .val (.ref b291), .val (.int (((x4.toUInt32 >>> ((1 : Int32) &&& 31).toUInt32).toInt32) &&& (3 : Int32))), .val (.int sym), .val (.ref b295), .val (.int (0 : Int32))] [(.int (1 : Int32))]))
          exact Gl.ret X316 eh316 (v := (some (.int (1 : Int32)))) (fun h => by rw [Bd.returns] at h; cases h) Bd.notSynchronized (fun fs hr => retN X316 hx (t := .boolean) (z := (1 : Int32)) Bd.returns (by simp) (hb hby at_168) hr) ⟨N316, rfl⟩ (by decide) (by decide)
      refine Gl.back (fun _ k => XS.iload X293.here hx rfl (hb hby at_73) rfl k) ?_
      show Gl _ _ _ _ _ _ _ (T293.setTop (mkF m 75 #[.val (.int x0), .val (.int x1), .val (.int x2), .val (.int x3), .val (.int x4), .val (.int ((x0 &&& (2147483647 : Int32)) % (7 : Int32))), .val (.int ca), .val (.int cb), .val (.int (1 : Int32)), .val (.ref b285), .val (.ref b291), .unset, .unset, .unset, .unset] [(.int x4)]))
      refine Gl.back (fun _ k => XS.iconst X293.here hx rfl (hb hby at_75) k) ?_
      show Gl _ _ _ _ _ _ _ (T293.setTop (mkF m 76 #[.val (.int x0), .val (.int x1), .val (.int x2), .val (.int x3), .val (.int x4), .val (.int ((x0 &&& (2147483647 : Int32)) % (7 : Int32))), .val (.int ca), .val (.int cb), .val (.int (1 : Int32)), .val (.ref b285), .val (.ref b291), .unset, .unset, .unset, .unset] [(.int (1 : Int32)), (.int x4)]))
      refine Gl.back (fun _ k => XS.iushr X293.here hx rfl (hb hby at_76) rfl k) ?_
      show Gl _ _ _ _ _ _ _ (T293.setTop (mkF m 77 #[.val (.int x0), .val (.int x1), .val (.int x2), .val (.int x3), .val (.int x4), .val (.int ((x0 &&& (2147483647 : Int32)) % (7 : Int32))), .val (.int ca), .val (.int cb), .val (.int (1 : Int32)), .val (.ref b285), .val (.ref b291), .unset, .unset, .unset, .unset] [(.int ((x4.toUInt32 >>> ((1 : Int32) &&& 31).toUInt32).toInt32))]))
      refine Gl.back (fun _ k => XS.iconst X293.here hx rfl (hb hby at_77) k) ?_
      show Gl _ _ _ _ _ _ _ (T293.setTop (mkF m 78 #[.val (.int x0), .val (.int x1), .val (.int x2), .val (.int x3), .val (.int x4), .val (.int ((x0 &&& (2147483647 : Int32)) % (7 : Int32))), .val (.int ca), .val (.int cb), .val (.int (1 : Int32)), .val (.ref b285), .val (.ref b291), .unset, .unset, .unset, .unset] [(.int (3 : Int32)), (.int ((x4.toUInt32 >>> ((1 : Int32) &&& 31).toUInt32).toInt32))]))
      refine Gl.back (fun _ k => XS.iand X293.here hx rfl (hb hby at_78) rfl k) ?_
      show Gl _ _ _ _ _ _ _ (T293.setTop (mkF m 79 #[.val (.int x0), .val (.int x1), .val (.int x2), .val (.int x3), .val (.int x4), .val (.int ((x0 &&& (2147483647 : Int32)) % (7 : Int32))), .val (.int ca), .val (.int cb), .val (.int (1 : Int32)), .val (.ref b285), .val (.ref b291), .unset, .unset, .unset, .unset] [(.int (((x4.toUInt32 >>> ((1 : Int32) &&& 31).toUInt32).toInt32) &&& (3 : Int32)))]))
      refine Gl.back (fun _ k => XS.istore X293.here hx rfl (hb hby at_79) rfl (l' := #[.val (.int x0), .val (.int x1), .val (.int x2), .val (.int x3), .val (.int x4), .val (.int ((x0 &&& (2147483647 : Int32)) % (7 : Int32))), .val (.int ca), .val (.int cb), .val (.int (1 : Int32)), .val (.ref b285), .val (.ref b291), .val (.int (((x4.toUInt32 >>> ((1 : Int32) &&& 31).toUInt32).toInt32) &&& (3 : Int32))), .unset, .unset, .unset]) rfl k) ?_
      show Gl _ _ _ _ _ _ _ (T293.setTop (mkF m 81 #[.val (.int x0), .val (.int x1), .val (.int x2), .val (.int x3), .val (.int x4), .val (.int ((x0 &&& (2147483647 : Int32)) % (7 : Int32))), .val (.int ca), .val (.int cb), .val (.int (1 : Int32)), .val (.ref b285), .val (.ref b291), .val (.int (((x4.toUInt32 >>> ((1 : Int32) &&& 31).toUInt32).toInt32) &&& (3 : Int32))), .unset, .unset, .unset] []))
      refine Gl.back (fun _ k => XS.iload X293.here hx rfl (hb hby at_81) rfl k) ?_
      show Gl _ _ _ _ _ _ _ (T293.setTop (mkF m 83 #[.val (.int x0), .val (.int x1), .val (.int x2), .val (.int x3), .val (.int x4), .val (.int ((x0 &&& (2147483647 : Int32)) % (7 : Int32))), .val (.int ca), .val (.int cb), .val (.int (1 : Int32)), .val (.ref b285), .val (.ref b291), .val (.int (((x4.toUInt32 >>> ((1 : Int32) &&& 31).toUInt32).toInt32) &&& (3 : Int32))), .unset, .unset, .unset] [(.int (((x4.toUInt32 >>> ((1 : Int32) &&& 31).toUInt32).toInt32) &&& (3 : Int32)))]))
      by_cases hc83_318 : (((x4.toUInt32 >>> ((1 : Int32) &&& 31).toUInt32).toInt32) &&& (3 : Int32)) = (0 : Int32)
      · refine Gl.back (fun _ k => XS.ifNo X293.here hx rfl (hb hby at_83) rfl ((if0 _ _).trans (teq hc83_318).2) k) ?_
        show Gl _ _ _ _ _ _ _ (T293.setTop (mkF m 86 #[.val (.int x0), .val (.int x1), .val (.int x2), .val (.int x3), .val (.int x4), .val (.int ((x0 &&& (2147483647 : Int32)) % (7 : Int32))), .val (.int ca), .val (.int cb), .val (.int (1 : Int32)), .val (.ref b285), .val (.ref b291), .val (.int (((x4.toUInt32 >>> ((1 : Int32) &&& 31).toUInt32).toInt32) &&& (3 : Int32))), .unset, .unset, .unset] []))
        refine Gl.back (fun _ k => XS.iload X293.here hx rfl (hb hby at_86) rfl k) ?_
        show Gl _ _ _ _ _ _ _ (T293.setTop (mkF m 88 #[.val (.int x0), .val (.int x1), .val (.int x2), .val (.int x3), .val (.int x4), .val (.int ((x0 &&& (2147483647 : Int32)) % (7 : Int32))), .val (.int ca), .val (.int cb), .val (.int (1 : Int32)), .val (.ref b285), .val (.ref b291), .val (.int (((x4.toUInt32 >>> ((1 : Int32) &&& 31).toUInt32).toInt32) &&& (3 : Int32))), .unset, .unset, .unset] [(.int ca)]))
        refine Gl.back (fun _ k => XS.istore X293.here hx rfl (hb hby at_88) rfl (l' := #[.val (.int x0), .val (.int x1), .val (.int x2), .val (.int x3), .val (.int x4), .val (.int ((x0 &&& (2147483647 : Int32)) % (7 : Int32))), .val (.int ca), .val (.int cb), .val (.int (1 : Int32)), .val (.ref b285), .val (.ref b291), .val (.int (((x4.toUInt32 >>> ((1 : Int32) &&& 31).toUInt32).toInt32) &&& (3 : Int32))), .val (.int ca), .unset, .unset]) rfl k) ?_
        show Gl _ _ _ _ _ _ _ (T293.setTop (mkF m 90 #[.val (.int x0), .val (.int x1), .val (.int x2), .val (.int x3), .val (.int x4), .val (.int ((x0 &&& (2147483647 : Int32)) % (7 : Int32))), .val (.int ca), .val (.int cb), .val (.int (1 : Int32)), .val (.ref b285), .val (.ref b291), .val (.int (((x4.toUInt32 >>> ((1 : Int32) &&& 31).toUInt32).toInt32) &&& (3 : Int32))), .val (.int ca), .unset, .unset] []))
        refine Gl.back (fun _ k => XS.goto X293.here hx rfl (pc0 := 90) (pc' := 110) rfl (hb hby at_90) (by decide) (by decide) k) ?_
        show Gl _ _ _ _ _ _ _ (T293.setTop (mkF m 110 #[.val (.int x0), .val (.int x1), .val (.int x2), .val (.int x3), .val (.int x4), .val (.int ((x0 &&& (2147483647 : Int32)) % (7 : Int32))), .val (.int ca), .val (.int cb), .val (.int (1 : Int32)), .val (.ref b285), .val (.ref b291), .val (.int (((x4.toUInt32 >>> ((1 : Int32) &&& 31).toUInt32).toInt32) &&& (3 : Int32))), .val (.int ca), .unset, .unset] []))
        exact J110 _
      · refine Gl.back (fun _ k => XS.ifYes X293.here hx rfl (pc0 := 83) (pc' := 93) rfl (hb hby at_83) rfl ((if0 _ _).trans (feq hc83_318).2) (by decide) (by decide) k) ?_
        show Gl _ _ _ _ _ _ _ (T293.setTop (mkF m 93 #[.val (.int x0), .val (.int x1), .val (.int x2), .val (.int x3), .val (.int x4), .val (.int ((x0 &&& (2147483647 : Int32)) % (7 : Int32))), .val (.int ca), .val (.int cb), .val (.int (1 : Int32)), .val (.ref b285), .val (.ref b291), .val (.int (((x4.toUInt32 >>> ((1 : Int32) &&& 31).toUInt32).toInt32) &&& (3 : Int32))), .unset, .unset, .unset] []))
        refine Gl.back (fun _ k => XS.iload X293.here hx rfl (hb hby at_93) rfl k) ?_
        show Gl _ _ _ _ _ _ _ (T293.setTop (mkF m 95 #[.val (.int x0), .val (.int x1), .val (.int x2), .val (.int x3), .val (.int x4), .val (.int ((x0 &&& (2147483647 : Int32)) % (7 : Int32))), .val (.int ca), .val (.int cb), .val (.int (1 : Int32)), .val (.ref b285), .val (.ref b291), .val (.int (((x4.toUInt32 >>> ((1 : Int32) &&& 31).toUInt32).toInt32) &&& (3 : Int32))), .unset, .unset, .unset] [(.int (((x4.toUInt32 >>> ((1 : Int32) &&& 31).toUInt32).toInt32) &&& (3 : Int32)))]))
        refine Gl.back (fun _ k => XS.iconst X293.here hx rfl (hb hby at_95) k) ?_
        show Gl _ _ _ _ _ _ _ (T293.setTop (mkF m 96 #[.val (.int x0), .val (.int x1), .val (.int x2), .val (.int x3), .val (.int x4), .val (.int ((x0 &&& (2147483647 : Int32)) % (7 : Int32))), .val (.int ca), .val (.int cb), .val (.int (1 : Int32)), .val (.ref b285), .val (.ref b291), .val (.int (((x4.toUInt32 >>> ((1 : Int32) &&& 31).toUInt32).toInt32) &&& (3 : Int32))), .unset, .unset, .unset] [(.int (1 : Int32)), (.int (((x4.toUInt32 >>> ((1 : Int32) &&& 31).toUInt32).toInt32) &&& (3 : Int32)))]))
        by_cases hc96_319 : (((x4.toUInt32 >>> ((1 : Int32) &&& 31).toUInt32).toInt32) &&& (3 : Int32)) = (1 : Int32)
        · refine Gl.back (fun _ k => XS.icmpNo X293.here hx rfl (hb hby at_96) rfl (teq hc96_319).2 k) ?_
          show Gl _ _ _ _ _ _ _ (T293.setTop (mkF m 99 #[.val (.int x0), .val (.int x1), .val (.int x2), .val (.int x3), .val (.int x4), .val (.int ((x0 &&& (2147483647 : Int32)) % (7 : Int32))), .val (.int ca), .val (.int cb), .val (.int (1 : Int32)), .val (.ref b285), .val (.ref b291), .val (.int (((x4.toUInt32 >>> ((1 : Int32) &&& 31).toUInt32).toInt32) &&& (3 : Int32))), .unset, .unset, .unset] []))
          refine Gl.back (fun _ k => XS.iload X293.here hx rfl (hb hby at_99) rfl k) ?_
          show Gl _ _ _ _ _ _ _ (T293.setTop (mkF m 101 #[.val (.int x0), .val (.int x1), .val (.int x2), .val (.int x3), .val (.int x4), .val (.int ((x0 &&& (2147483647 : Int32)) % (7 : Int32))), .val (.int ca), .val (.int cb), .val (.int (1 : Int32)), .val (.ref b285), .val (.ref b291), .val (.int (((x4.toUInt32 >>> ((1 : Int32) &&& 31).toUInt32).toInt32) &&& (3 : Int32))), .unset, .unset, .unset] [(.int cb)]))
          refine Gl.back (fun _ k => XS.istore X293.here hx rfl (hb hby at_101) rfl (l' := #[.val (.int x0), .val (.int x1), .val (.int x2), .val (.int x3), .val (.int x4), .val (.int ((x0 &&& (2147483647 : Int32)) % (7 : Int32))), .val (.int ca), .val (.int cb), .val (.int (1 : Int32)), .val (.ref b285), .val (.ref b291), .val (.int (((x4.toUInt32 >>> ((1 : Int32) &&& 31).toUInt32).toInt32) &&& (3 : Int32))), .val (.int cb), .unset, .unset]) rfl k) ?_
          show Gl _ _ _ _ _ _ _ (T293.setTop (mkF m 103 #[.val (.int x0), .val (.int x1), .val (.int x2), .val (.int x3), .val (.int x4), .val (.int ((x0 &&& (2147483647 : Int32)) % (7 : Int32))), .val (.int ca), .val (.int cb), .val (.int (1 : Int32)), .val (.ref b285), .val (.ref b291), .val (.int (((x4.toUInt32 >>> ((1 : Int32) &&& 31).toUInt32).toInt32) &&& (3 : Int32))), .val (.int cb), .unset, .unset] []))
          refine Gl.back (fun _ k => XS.goto X293.here hx rfl (pc0 := 103) (pc' := 110) rfl (hb hby at_103) (by decide) (by decide) k) ?_
          show Gl _ _ _ _ _ _ _ (T293.setTop (mkF m 110 #[.val (.int x0), .val (.int x1), .val (.int x2), .val (.int x3), .val (.int x4), .val (.int ((x0 &&& (2147483647 : Int32)) % (7 : Int32))), .val (.int ca), .val (.int cb), .val (.int (1 : Int32)), .val (.ref b285), .val (.ref b291), .val (.int (((x4.toUInt32 >>> ((1 : Int32) &&& 31).toUInt32).toInt32) &&& (3 : Int32))), .val (.int cb), .unset, .unset] []))
          exact J110 _
        · refine Gl.back (fun _ k => XS.icmpYes X293.here hx rfl (pc0 := 96) (pc' := 106) rfl (hb hby at_96) rfl (feq hc96_319).2 (by decide) (by decide) k) ?_
          show Gl _ _ _ _ _ _ _ (T293.setTop (mkF m 106 #[.val (.int x0), .val (.int x1), .val (.int x2), .val (.int x3), .val (.int x4), .val (.int ((x0 &&& (2147483647 : Int32)) % (7 : Int32))), .val (.int ca), .val (.int cb), .val (.int (1 : Int32)), .val (.ref b285), .val (.ref b291), .val (.int (((x4.toUInt32 >>> ((1 : Int32) &&& 31).toUInt32).toInt32) &&& (3 : Int32))), .unset, .unset, .unset] []))
          refine Gl.back (fun _ k => XS.iloadN X293.here hx rfl (hb hby at_106) rfl k) ?_
          show Gl _ _ _ _ _ _ _ (T293.setTop (mkF m 107 #[.val (.int x0), .val (.int x1), .val (.int x2), .val (.int x3), .val (.int x4), .val (.int ((x0 &&& (2147483647 : Int32)) % (7 : Int32))), .val (.int ca), .val (.int cb), .val (.int (1 : Int32)), .val (.ref b285), .val (.ref b291), .val (.int (((x4.toUInt32 >>> ((1 : Int32) &&& 31).toUInt32).toInt32) &&& (3 : Int32))), .unset, .unset, .unset] [(.int x3)]))
          refine Gl.back (fun _ k => XS.i2c X293.here hx rfl (hb hby at_107) rfl k) ?_
          show Gl _ _ _ _ _ _ _ (T293.setTop (mkF m 108 #[.val (.int x0), .val (.int x1), .val (.int x2), .val (.int x3), .val (.int x4), .val (.int ((x0 &&& (2147483647 : Int32)) % (7 : Int32))), .val (.int ca), .val (.int cb), .val (.int (1 : Int32)), .val (.ref b285), .val (.ref b291), .val (.int (((x4.toUInt32 >>> ((1 : Int32) &&& 31).toUInt32).toInt32) &&& (3 : Int32))), .unset, .unset, .unset] [(.int (x3.toUInt32.toUInt16.toUInt32.toInt32))]))
          refine Gl.back (fun _ k => XS.istore X293.here hx rfl (hb hby at_108) rfl (l' := #[.val (.int x0), .val (.int x1), .val (.int x2), .val (.int x3), .val (.int x4), .val (.int ((x0 &&& (2147483647 : Int32)) % (7 : Int32))), .val (.int ca), .val (.int cb), .val (.int (1 : Int32)), .val (.ref b285), .val (.ref b291), .val (.int (((x4.toUInt32 >>> ((1 : Int32) &&& 31).toUInt32).toInt32) &&& (3 : Int32))), .val (.int (x3.toUInt32.toUInt16.toUInt32.toInt32)), .unset, .unset]) rfl k) ?_
          show Gl _ _ _ _ _ _ _ (T293.setTop (mkF m 110 #[.val (.int x0), .val (.int x1), .val (.int x2), .val (.int x3), .val (.int x4), .val (.int ((x0 &&& (2147483647 : Int32)) % (7 : Int32))), .val (.int ca), .val (.int cb), .val (.int (1 : Int32)), .val (.ref b285), .val (.ref b291), .val (.int (((x4.toUInt32 >>> ((1 : Int32) &&& 31).toUInt32).toInt32) &&& (3 : Int32))), .val (.int (x3.toUInt32.toUInt16.toUInt32.toInt32)), .unset, .unset] []))
          exact J110 _
    · by_cases hB : (255 : Int32) < cb
      · show Gl _ _ _ _ _ _ _ (T291.setTop (mkF m 68 #[.val (.int x0), .val (.int x1), .val (.int x2), .val (.int x3), .val (.int x4), .val (.int ((x0 &&& (2147483647 : Int32)) % (7 : Int32))), .val (.int ca), .val (.int cb), .val (.int (1 : Int32)), .val (.ref b285), .unset, .unset, .unset, .unset, .unset] [(.ref b285), (.ref b291), (.ref b291)]))
        have f322 := (Vn290.ext E291)
        obtain ⟨_, _, ⟨T321, L321, k321, n321⟩, -, X321, ⟨Lc321, hQ321, l321, y321, z321⟩, st321⟩ := X291.specialBack hx (y := (⟨"java/lang/String", "<init>", "([C)V"⟩ : MethodName)) rfl hown (mvT hZ (hw _ (List.mem_of_getElem? (i := 5) rfl))) (mvT hZ (hw _ (List.mem_of_getElem? (i := 6) rfl))) (mvT hZ (hw _ (List.mem_of_getElem? (i := 7) rfl))) (by decide) (backOf (W := 1) (rmnew1_2_1 l Z a0 hw [] b291 b285 k285 ca cb zc h291 n0 Z291 O291 S_AD S_HI S_LO S_C P0 g_b291 A291 F291_value F291_coder f322 (Ne.symm ne_b285_b291) hA hB hcar hcbr) hZ (hw _ (List.mem_of_getElem? (i := 7) rfl)) (hw _ (List.mem_of_getElem? (i := 4) rfl)) (by decide) (by decide)) (g := (mkF m 68 #[.val (.int x0), .val (.int x1), .val (.int x2), .val (.int x3), .val (.int x4), .val (.int ((x0 &&& (2147483647 : Int32)) % (7 : Int32))), .val (.int ca), .val (.int cb), .val (.int (1 : Int32)), .val (.ref b285), .unset, .unset, .unset, .unset, .unset] [(.ref b285), (.ref b291), (.ref b291)])) rfl (by rw [hml]; rfl) (Steps.refl _) (a := b291) (argsL := [(.ref b285)]) (rest := [(.ref b291)]) (lenOf pd___C_V rfl) rfl (by show 2 * 0 + _ ≤ _; exact Nat.le_of_eq rfl) (hb hby at_68) (fun _ _ => ⟨rfl, e291, (by decide : 2 + 2 ≤ _), (by decide : 6 + 6 ≤ _)⟩)
        dsimp only [Pt.U, Pt.locs, Pt.cells, Pt.slots] at X321 l321 y321 z321 st321 hQ321
        replace l321 := Eq.symm l321
        replace y321 := Eq.symm y321
        replace z321 := Eq.symm z321
        subst l321 y321 z321
        obtain ⟨Nq321, rfl, Kq321, t321, k0321, Sz321, Gz321, Fc321, Fv321, V321⟩ := hQ321
        have N321 := Fr.app N289 Nq321
        have Kc321 := Keep.trans K291 Kq321 (allS (Or.inr sz_b291) all0)
        have Zc321 : n0 ≤ T321.heap.size := Nat.le_trans Z291 Kq321.1
        have Oc321 := Old.keep O291 Kq321 (allS g_b291 all0)
        have ne_b285_t321 : b285 ≠ t321 := Nat.ne_of_lt (Nat.lt_of_lt_of_le (f322).lt Sz321)
        have ne_b291_t321 : b291 ≠ t321 := Nat.ne_of_lt (Nat.lt_of_lt_of_le (A291).lt Sz321)
        have sz_t321 : h0.size ≤ t321 := Nat.le_trans K291.1 Sz321
        refine Gl.back (fun _ k => st321.trans k) ?_
        show Gl _ _ _ _ _ _ _ (T321.setTop (mkF m 71 #[.val (.int x0), .val (.int x1), .val (.int x2), .val (.int x3), .val (.int x4), .val (.int ((x0 &&& (2147483647 : Int32)) % (7 : Int32))), .val (.int ca), .val (.int cb), .val (.int (1 : Int32)), .val (.ref b285), .unset, .unset, .unset, .unset, .unset] [(.ref b291)]))
        refine Gl.back (fun _ k => XS.astore X321.here hx rfl (hb hby at_71) rfl rfl (l' := #[.val (.int x0), .val (.int x1), .val (.int x2), .val (.int x3), .val (.int x4), .val (.int ((x0 &&& (2147483647 : Int32)) % (7 : Int32))), .val (.int ca), .val (.int cb), .val (.int (1 : Int32)), .val (.ref b285), .val (.ref b291), .unset, .unset, .unset, .unset]) rfl k) ?_
        show Gl _ _ _ _ _ _ _ (T321.setTop (mkF m 73 #[.val (.int x0), .val (.int x1), .val (.int x2), .val (.int x3), .val (.int x4), .val (.int ((x0 &&& (2147483647 : Int32)) % (7 : Int32))), .val (.int ca), .val (.int cb), .val (.int (1 : Int32)), .val (.ref b285), .val (.ref b291), .unset, .unset, .unset, .unset] []))
        have J110 : ∀ (sym : Int32), Gl p e below s (Q0 Z x0 x1 x2 x3 x4 w_WORD w_QUOTED_NAME w_STRING w_DIGITS w_STRAY w_SYMBOL w_UNCLOSED zc fm h0 n0) room_1.cells room_1.slots (T321.setTop (mkF m 110 #[.val (.int x0), .val (.int x1), .val (.int x2), .val (.int x3), .val (.int x4), .val (.int ((x0 &&& (2147483647 : Int32)) % (7 : Int32))), .val (.int ca), .val (.int cb), .val (.int (1 : Int32)), .val (.ref b285), .val (.ref b291), .val (.int (((x4.toUInt32 >>> ((1 : Int32) &&& 31).toUInt32).toInt32) &&& (3 : Int32))), .val (.int sym), .unset, .unset] [])) := by
          intro sym
          show Gl _ _ _ _ _ _ _ (T321.setTop (mkF m 110 #[.val (.int x0), .val (.int x1), .val (.int x2), .val (.int x3), .val (.int x4), .val (.int ((x0 &&& (2147483647 : Int32)) % (7 : Int32))), .val (.int ca), .val (.int cb), .val (.int (1 : Int32)), .val (.ref b285), .val (.ref b291), .val (.int (((x4.toUInt32 >>> ((1 : Int32) &&& 31).toUInt32).toInt32) &&& (3 : Int32))), .val (.int sym), .unset, .unset] []))
          obtain ⟨T323, h323, X323, e323, E323, A323, D323, -, st323⟩ := newO X321 hx hZ hown (hw _ (List.mem_of_getElem? (i := 31) rfl)) (hw _ (List.mem_of_getElem? (i := 32) rfl)) (hw _ (List.mem_of_getElem? (i := 33) rfl)) rfl (g := (mkF m 110 #[.val (.int x0), .val (.int x1), .val (.int x2), .val (.int x3), .val (.int x4), .val (.int ((x0 &&& (2147483647 : Int32)) % (7 : Int32))), .val (.int ca), .val (.int cb), .val (.int (1 : Int32)), .val (.ref b285), .val (.ref b291), .val (.int (((x4.toUInt32 >>> ((1 : Int32) &&& 31).toUInt32).toInt32) &&& (3 : Int32))), .val (.int sym), .unset, .unset] [])) rfl (hb hby at_110) (by decide) (by decide)
          obtain ⟨b323, g323⟩ : ∃ z, z = T321.heap.size := ⟨_, rfl⟩
          rw [← g323] at A323 D323 st323
          have f324 := (f322.keep Kq321 (ninS ne_b285_b291 nin0))
          have ne_b285_b323 : b285 ≠ b323 := Nat.ne_of_lt (Nat.lt_of_lt_of_le f324.lt (Nat.le_of_eq g323.symm))
          have f325 := (A291.keep Kq321)
          have ne_b291_b323 : b291 ≠ b323 := Nat.ne_of_lt (Nat.lt_of_lt_of_le f325.lt (Nat.le_of_eq g323.symm))
          have ne_t321_b323 : t321 ≠ b323 := Nat.ne_of_lt (Nat.lt_of_lt_of_le V321.lt (Nat.le_of_eq g323.symm))
          have g_b323 : n0 ≤ b323 := Nat.le_trans Zc321 (Nat.le_of_eq g323.symm)
          have sz_b323 : h0.size ≤ b323 := Nat.le_trans Kc321.1 (Nat.le_of_eq g323.symm)
          have Z323 : n0 ≤ h323.size := Nat.le_trans Zc321 E323.1
          have K323 := Keep.ext Kc321 E323
          have O323 := Old.ext Oc321 E323
          have F323_kind : Fld Z h323 b323 "com/example/partition_planner/partitionplanner/CqlLexer$Token" "kind" "Lcom/example/partition_planner/partitionplanner/CqlLexer$Kind;" .null := D323 (Or.inr (hw _ (List.mem_of_getElem? (i := 51) rfl))) (ty := (.object "com/example/partition_planner/partitionplanner/CqlLexer$Kind")) (by decide)
          have F323_value : Fld Z h323 b323 "com/example/partition_planner/partitionplanner/CqlLexer$Token" "value" "Ljava/lang/String;" .null := D323 (Or.inr (hw _ (List.mem_of_getElem? (i := 53) rfl))) (ty := (.object "java/lang/String")) (by decide)
          have F323_start : Fld Z h323 b323 "com/example/partition_planner/partitionplanner/CqlLexer$Token" "start" "I" (.int (0 : Int32)) := D323 (Or.inr (hw _ (List.mem_of_getElem? (i := 55) rfl))) (ty := .int) (by decide)
          have F323_end : Fld Z h323 b323 "com/example/partition_planner/partitionplanner/CqlLexer$Token" "end" "I" (.int (0 : Int32)) := D323 (Or.inr (hw _ (List.mem_of_getElem? (i := 57) rfl))) (ty := .int) (by decide)
          have F323_line : Fld Z h323 b323 "com/example/partition_planner/partitionplanner/CqlLexer$Token" "line" "I" (.int (0 : Int32)) := D323 (Or.inr (hw _ (List.mem_of_getElem? (i := 59) rfl))) (ty := .int) (by decide)
          refine Gl.back (fun _ k => st323 _ k) ?_
          show Gl _ _ _ _ _ _ _ (T323.setTop (mkF m 113 #[.val (.int x0), .val (.int x1), .val (.int x2), .val (.int x3), .val (.int x4), .val (.int ((x0 &&& (2147483647 : Int32)) % (7 : Int32))), .val (.int ca), .val (.int cb), .val (.int (1 : Int32)), .val (.ref b285), .val (.ref b291), .val (.int (((x4.toUInt32 >>> ((1 : Int32) &&& 31).toUInt32).toInt32) &&& (3 : Int32))), .val (.int sym), .unset, .unset] [(.ref b323)]))
          refine Gl.back (fun _ k => XS.dup X323.here hx rfl (hb hby at_113) rfl rfl k) ?_
          show Gl _ _ _ _ _ _ _ (T323.setTop (mkF m 114 #[.val (.int x0), .val (.int x1), .val (.int x2), .val (.int x3), .val (.int x4), .val (.int ((x0 &&& (2147483647 : Int32)) % (7 : Int32))), .val (.int ca), .val (.int cb), .val (.int (1 : Int32)), .val (.ref b285), .val (.ref b291), .val (.int (((x4.toUInt32 >>> ((1 : Int32) &&& 31).toUInt32).toInt32) &&& (3 : Int32))), .val (.int sym), .unset, .unset] [(.ref b323), (.ref b323)]))
          refine Gl.back (fun _ k => XS.iload X323.here hx rfl (hb hby at_114) rfl k) ?_
          show Gl _ _ _ _ _ _ _ (T323.setTop (mkF m 116 #[.val (.int x0), .val (.int x1), .val (.int x2), .val (.int x3), .val (.int x4), .val (.int ((x0 &&& (2147483647 : Int32)) % (7 : Int32))), .val (.int ca), .val (.int cb), .val (.int (1 : Int32)), .val (.ref b285), .val (.ref b291), .val (.int (((x4.toUInt32 >>> ((1 : Int32) &&& 31).toUInt32).toInt32) &&& (3 : Int32))), .val (.int sym), .unset, .unset] [(.int ((x0 &&& (2147483647 : Int32)) % (7 : Int32))), (.ref b323), (.ref b323)]))
          obtain ⟨_, _, ⟨T326, L326, k326, n326⟩, -, X326, ⟨Lc326, hQ326, l326, y326, z326⟩, st326⟩ := Jvm.LawKit.callS X323 hx (y := (⟨"com/example/partition_planner/partitionplanner/TokenIsSymbolPinLaw", "kindOf", "(I)Lcom/example/partition_planner/partitionplanner/CqlLexer$Kind;"⟩ : MethodName)) hown (mvT hZ (hw _ (List.mem_of_getElem? (i := 34) rfl))) (mvT hZ (hw _ (List.mem_of_getElem? (i := 35) rfl))) (mvT hZ (hw _ (List.mem_of_getElem? (i := 36) rfl))) (mvT hZ (hw _ (List.mem_of_getElem? (i := 37) rfl))) (by decide) (backOf (W := 2) (rmkind l Z a0 hw [] ((x0 &&& (2147483647 : Int32)) % (7 : Int32)) w_WORD w_QUOTED_NAME w_STRING w_DIGITS w_STRAY w_SYMBOL w_UNCLOSED h323 n0 Z323 O323 S_WORD S_QUOTED_NAME S_STRING S_DIGITS S_STRAY S_SYMBOL S_UNCLOSED ne_WORD ne_QUOTED_NAME ne_STRING ne_DIGITS ne_STRAY ne_UNCLOSED) hZ (hw _ (List.mem_of_getElem? (i := 37) rfl)) (hw _ (List.mem_of_getElem? (i := 36) rfl)) (by decide) (by decide)) (g := (mkF m 116 #[.val (.int x0), .val (.int x1), .val (.int x2), .val (.int x3), .val (.int x4), .val (.int ((x0 &&& (2147483647 : Int32)) % (7 : Int32))), .val (.int ca), .val (.int cb), .val (.int (1 : Int32)), .val (.ref b285), .val (.ref b291), .val (.int (((x4.toUInt32 >>> ((1 : Int32) &&& 31).toUInt32).toInt32) &&& (3 : Int32))), .val (.int sym), .unset, .unset] [(.int ((x0 &&& (2147483647 : Int32)) % (7 : Int32))), (.ref b323), (.ref b323)])) rfl (by rw [hml]; rfl) (argsL := [(.int ((x0 &&& (2147483647 : Int32)) % (7 : Int32)))]) (rest := [(.ref b323), (.ref b323)]) (lenOf pd__I_Lcom_example_partition_planner_partitionplanner_CqlLexer_Kind_ rfl) rfl (by show 2 * 0 + _ ≤ _; exact Nat.le_of_eq rfl) (hb hby at_116) (fun _ _ => ⟨rfl, e323, (by decide : 5 + 0 ≤ _), (by decide : 17 + 0 ≤ _)⟩)
          dsimp only [Pt.U, Pt.locs, Pt.cells, Pt.slots] at X326 l326 y326 z326 st326 hQ326
          replace l326 := Eq.symm l326
          replace y326 := Eq.symm y326
          replace z326 := Eq.symm z326
          subst l326 y326 z326
          obtain ⟨Nq326, wk326, rfl, hk1326, hk2326, eh326⟩ := hQ326
          have N326 := Fr.app N321 Nq326
          refine Gl.back (fun _ k => st326 _ k) ?_
          show Gl _ _ _ _ _ _ _ (T326.setTop (mkF m 119 #[.val (.int x0), .val (.int x1), .val (.int x2), .val (.int x3), .val (.int x4), .val (.int ((x0 &&& (2147483647 : Int32)) % (7 : Int32))), .val (.int ca), .val (.int cb), .val (.int (1 : Int32)), .val (.ref b285), .val (.ref b291), .val (.int (((x4.toUInt32 >>> ((1 : Int32) &&& 31).toUInt32).toInt32) &&& (3 : Int32))), .val (.int sym), .unset, .unset] [(.ref wk326), (.ref b323), (.ref b323)]))
          refine Gl.back (fun _ k => XS.aload X326.here hx rfl (hb hby at_119) rfl rfl k) ?_
          show Gl _ _ _ _ _ _ _ (T326.setTop (mkF m 121 #[.val (.int x0), .val (.int x1), .val (.int x2), .val (.int x3), .val (.int x4), .val (.int ((x0 &&& (2147483647 : Int32)) % (7 : Int32))), .val (.int ca), .val (.int cb), .val (.int (1 : Int32)), .val (.ref b285), .val (.ref b291), .val (.int (((x4.toUInt32 >>> ((1 : Int32) &&& 31).toUInt32).toInt32) &&& (3 : Int32))), .val (.int sym), .unset, .unset] [(.ref b291), (.ref wk326), (.ref b323), (.ref b323)]))
          refine Gl.back (fun _ k => XS.iconst X326.here hx rfl (hb hby at_121) k) ?_
          show Gl _ _ _ _ _ _ _ (T326.setTop (mkF m 122 #[.val (.int x0), .val (.int x1), .val (.int x2), .val (.int x3), .val (.int x4), .val (.int ((x0 &&& (2147483647 : Int32)) % (7 : Int32))), .val (.int ca), .val (.int cb), .val (.int (1 : Int32)), .val (.ref b285), .val (.ref b291), .val (.int (((x4.toUInt32 >>> ((1 : Int32) &&& 31).toUInt32).toInt32) &&& (3 : Int32))), .val (.int sym), .unset, .unset] [(.int (0 : Int32)), (.ref b291), (.ref wk326), (.ref b323), (.ref b323)]))
          refine Gl.back (fun _ k => XS.aload X326.here hx rfl (hb hby at_122) rfl rfl k) ?_
          show Gl _ _ _ _ _ _ _ (T326.setTop (mkF m 124 #[.val (.int x0), .val (.int x1), .val (.int x2), .val (.int x3), .val (.int x4), .val (.int ((x0 &&& (2147483647 : Int32)) % (7 : Int32))), .val (.int ca), .val (.int cb), .val (.int (1 : Int32)), .val (.ref b285), .val (.ref b291), .val (.int (((x4.toUInt32 >>> ((1 : Int32) &&& 31).toUInt32).toInt32) &&& (3 : Int32))), .val (.int sym), .unset, .unset] [(.ref b285), (.int (0 : Int32)), (.ref b291), (.ref wk326), (.ref b323), (.ref b323)]))
          have f327 := (f324.ext E323)
          obtain ⟨cl328, Ar328, -, Sz328, Nn328, -, -⟩ := id f327
          refine Gl.back (fun _ k => X326.arraylength hx (by rw [eh326]; exact Ar328.1) (State.isArrayOf_alike hZ.alike Ar328.2.1) (g := (mkF m 124 #[.val (.int x0), .val (.int x1), .val (.int x2), .val (.int x3), .val (.int x4), .val (.int ((x0 &&& (2147483647 : Int32)) % (7 : Int32))), .val (.int ca), .val (.int cb), .val (.int (1 : Int32)), .val (.ref b285), .val (.ref b291), .val (.int (((x4.toUInt32 >>> ((1 : Int32) &&& 31).toUInt32).toInt32) &&& (3 : Int32))), .val (.int sym), .unset, .unset] [(.ref b285), (.int (0 : Int32)), (.ref b291), (.ref wk326), (.ref b323), (.ref b323)])) rfl rfl (hb hby at_124) _ k) ?_
          rw [len_of Sz328 Nn328]
          show Gl _ _ _ _ _ _ _ (T326.setTop (mkF m 125 #[.val (.int x0), .val (.int x1), .val (.int x2), .val (.int x3), .val (.int x4), .val (.int ((x0 &&& (2147483647 : Int32)) % (7 : Int32))), .val (.int ca), .val (.int cb), .val (.int (1 : Int32)), .val (.ref b285), .val (.ref b291), .val (.int (((x4.toUInt32 >>> ((1 : Int32) &&& 31).toUInt32).toInt32) &&& (3 : Int32))), .val (.int sym), .unset, .unset] [(.int (2 : Int32)), (.int (0 : Int32)), (.ref b291), (.ref wk326), (.ref b323), (.ref b323)]))
          refine Gl.back (fun _ k => XS.iconst X326.here hx rfl (hb hby at_125) k) ?_
          show Gl _ _ _ _ _ _ _ (T326.setTop (mkF m 126 #[.val (.int x0), .val (.int x1), .val (.int x2), .val (.int x3), .val (.int x4), .val (.int ((x0 &&& (2147483647 : Int32)) % (7 : Int32))), .val (.int ca), .val (.int cb), .val (.int (1 : Int32)), .val (.ref b285), .val (.ref b291), .val (.int (((x4.toUInt32 >>> ((1 : Int32) &&& 31).toUInt32).toInt32) &&& (3 : Int32))), .val (.int sym), .unset, .unset] [(.int (1 : Int32)), (.int (2 : Int32)), (.int (0 : Int32)), (.ref b291), (.ref wk326), (.ref b323), (.ref b323)]))
          obtain ⟨_, _, ⟨T329, L329, k329, n329⟩, -, X329, ⟨Lc329, hQ329, l329, y329, z329⟩, st329⟩ := X326.specialBack hx (y := (⟨"com/example/partition_planner/partitionplanner/CqlLexer$Token", "<init>", "(Lcom/example/partition_planner/partitionplanner/CqlLexer$Kind;Ljava/lang/String;III)V"⟩ : MethodName)) rfl hown (mvT hZ (hw _ (List.mem_of_getElem? (i := 41) rfl))) (mvT hZ (hw _ (List.mem_of_getElem? (i := 42) rfl))) (mvT hZ (hw _ (List.mem_of_getElem? (i := 43) rfl))) (by decide) (backOf (W := 1) (rmtok l Z a0 hw [] b323 wk326 b291 (0 : Int32) (2 : Int32) (1 : Int32)  h323 n0 Z323 g_b323 A323 F323_kind F323_value F323_start F323_end F323_line) hZ (hw _ (List.mem_of_getElem? (i := 43) rfl)) (hw _ (List.mem_of_getElem? (i := 33) rfl)) (by decide) (by decide)) (g := (mkF m 126 #[.val (.int x0), .val (.int x1), .val (.int x2), .val (.int x3), .val (.int x4), .val (.int ((x0 &&& (2147483647 : Int32)) % (7 : Int32))), .val (.int ca), .val (.int cb), .val (.int (1 : Int32)), .val (.ref b285), .val (.ref b291), .val (.int (((x4.toUInt32 >>> ((1 : Int32) &&& 31).toUInt32).toInt32) &&& (3 : Int32))), .val (.int sym), .unset, .unset] [(.int (1 : Int32)), (.int (2 : Int32)), (.int (0 : Int32)), (.ref b291), (.ref wk326), (.ref b323), (.ref b323)])) rfl (by rw [hml]; rfl) (Steps.refl _) (a := b323) (argsL := [(.ref wk326), (.ref b291), (.int (0 : Int32)), (.int (2 : Int32)), (.int (1 : Int32))]) (rest := [(.ref b323)]) (lenOf pd__Lcom_example_partition_planner_partitionplanner_CqlLexer_Kind_Ljava_lang_String_III_V rfl) rfl (by show 2 * 0 + _ ≤ _; exact Nat.le_of_eq rfl) (hb hby at_126) (fun _ _ => ⟨rfl, eh326, (by decide : 5 + 0 ≤ _), (by decide : 17 + 0 ≤ _)⟩)
          dsimp only [Pt.U, Pt.locs, Pt.cells, Pt.slots] at X329 l329 y329 z329 st329 hQ329
          replace l329 := Eq.symm l329
          replace y329 := Eq.symm y329
          replace z329 := Eq.symm z329
          subst l329 y329 z329
          obtain ⟨Nq329, rfl, Kq329, Fk329, Fv329⟩ := hQ329
          have N329 := Fr.app N326 Nq329
          have Kc329 := Keep.trans K323 Kq329 (allS (Or.inr sz_b323) all0)
          have Zc329 : n0 ≤ T329.heap.size := Nat.le_trans Z323 Kq329.1
          have Oc329 := Old.keep O323 Kq329 (allS g_b323 all0)
          refine Gl.back (fun _ k => st329.trans k) ?_
          show Gl _ _ _ _ _ _ _ (T329.setTop (mkF m 129 #[.val (.int x0), .val (.int x1), .val (.int x2), .val (.int x3), .val (.int x4), .val (.int ((x0 &&& (2147483647 : Int32)) % (7 : Int32))), .val (.int ca), .val (.int cb), .val (.int (1 : Int32)), .val (.ref b285), .val (.ref b291), .val (.int (((x4.toUInt32 >>> ((1 : Int32) &&& 31).toUInt32).toInt32) &&& (3 : Int32))), .val (.int sym), .unset, .unset] [(.ref b323)]))
          refine Gl.back (fun _ k => XS.astore X329.here hx rfl (hb hby at_129) rfl rfl (l' := #[.val (.int x0), .val (.int x1), .val (.int x2), .val (.int x3), .val (.int x4), .val (.int ((x0 &&& (2147483647 : Int32)) % (7 : Int32))), .val (.int ca), .val (.int cb), .val (.int (1 : Int32)), .val (.ref b285), .val (.ref b291), .val (.int (((x4.toUInt32 >>> ((1 : Int32) &&& 31).toUInt32).toInt32) &&& (3 : Int32))), .val (.int sym), .val (.ref b323), .unset]) rfl k) ?_
          show Gl _ _ _ _ _ _ _ (T329.setTop (mkF m 131 #[.val (.int x0), .val (.int x1), .val (.int x2), .val (.int x3), .val (.int x4), .val (.int ((x0 &&& (2147483647 : Int32)) % (7 : Int32))), .val (.int ca), .val (.int cb), .val (.int (1 : Int32)), .val (.ref b285), .val (.ref b291), .val (.int (((x4.toUInt32 >>> ((1 : Int32) &&& 31).toUInt32).toInt32) &&& (3 : Int32))), .val (.int sym), .val (.ref b323), .unset] []))
          refine Gl.back (fun _ k => XS.iload X329.here hx rfl (hb hby at_131) rfl k) ?_
          show Gl _ _ _ _ _ _ _ (T329.setTop (mkF m 133 #[.val (.int x0), .val (.int x1), .val (.int x2), .val (.int x3), .val (.int x4), .val (.int ((x0 &&& (2147483647 : Int32)) % (7 : Int32))), .val (.int ca), .val (.int cb), .val (.int (1 : Int32)), .val (.ref b285), .val (.ref b291), .val (.int (((x4.toUInt32 >>> ((1 : Int32) &&& 31).toUInt32).toInt32) &&& (3 : Int32))), .val (.int sym), .val (.ref b323), .unset] [(.int ((x0 &&& (2147483647 : Int32)) % (7 : Int32)))]))
          refine Gl.back (fun _ k => XS.iconst X329.here hx rfl (hb hby at_133) k) ?_
          show Gl _ _ _ _ _ _ _ (T329.setTop (mkF m 134 #[.val (.int x0), .val (.int x1), .val (.int x2), .val (.int x3), .val (.int x4), .val (.int ((x0 &&& (2147483647 : Int32)) % (7 : Int32))), .val (.int ca), .val (.int cb), .val (.int (1 : Int32)), .val (.ref b285), .val (.ref b291), .val (.int (((x4.toUInt32 >>> ((1 : Int32) &&& 31).toUInt32).toInt32) &&& (3 : Int32))), .val (.int sym), .val (.ref b323), .unset] [(.int (5 : Int32)), (.int ((x0 &&& (2147483647 : Int32)) % (7 : Int32)))]))
          by_cases hc134_330 : ((x0 &&& (2147483647 : Int32)) % (7 : Int32)) = (5 : Int32)
          · refine Gl.back (fun _ k => XS.icmpNo X329.here hx rfl (hb hby at_134) rfl (teq hc134_330).2 k) ?_
            show Gl _ _ _ _ _ _ _ (T329.setTop (mkF m 137 #[.val (.int x0), .val (.int x1), .val (.int x2), .val (.int x3), .val (.int x4), .val (.int ((x0 &&& (2147483647 : Int32)) % (7 : Int32))), .val (.int ca), .val (.int cb), .val (.int (1 : Int32)), .val (.ref b285), .val (.ref b291), .val (.int (((x4.toUInt32 >>> ((1 : Int32) &&& 31).toUInt32).toInt32) &&& (3 : Int32))), .val (.int sym), .val (.ref b323), .unset] []))
            refine Gl.back (fun _ k => XS.iload X329.here hx rfl (hb hby at_137) rfl k) ?_
            show Gl _ _ _ _ _ _ _ (T329.setTop (mkF m 139 #[.val (.int x0), .val (.int x1), .val (.int x2), .val (.int x3), .val (.int x4), .val (.int ((x0 &&& (2147483647 : Int32)) % (7 : Int32))), .val (.int ca), .val (.int cb), .val (.int (1 : Int32)), .val (.ref b285), .val (.ref b291), .val (.int (((x4.toUInt32 >>> ((1 : Int32) &&& 31).toUInt32).toInt32) &&& (3 : Int32))), .val (.int sym), .val (.ref b323), .unset] [(.int ca)]))
            refine Gl.back (fun _ k => XS.iload X329.here hx rfl (hb hby at_139) rfl k) ?_
            show Gl _ _ _ _ _ _ _ (T329.setTop (mkF m 141 #[.val (.int x0), .val (.int x1), .val (.int x2), .val (.int x3), .val (.int x4), .val (.int ((x0 &&& (2147483647 : Int32)) % (7 : Int32))), .val (.int ca), .val (.int cb), .val (.int (1 : Int32)), .val (.ref b285), .val (.ref b291), .val (.int (((x4.toUInt32 >>> ((1 : Int32) &&& 31).toUInt32).toInt32) &&& (3 : Int32))), .val (.int sym), .val (.ref b323), .unset] [(.int sym), (.int ca)]))
            by_cases hc141_331 : ca = sym
            · refine Gl.back (fun _ k => XS.icmpNo X329.here hx rfl (hb hby at_141) rfl (teq hc141_331).2 k) ?_
              show Gl _ _ _ _ _ _ _ (T329.setTop (mkF m 144 #[.val (.int x0), .val (.int x1), .val (.int x2), .val (.int x3), .val (.int x4), .val (.int ((x0 &&& (2147483647 : Int32)) % (7 : Int32))), .val (.int ca), .val (.int cb), .val (.int (1 : Int32)), .val (.ref b285), .val (.ref b291), .val (.int (((x4.toUInt32 >>> ((1 : Int32) &&& 31).toUInt32).toInt32) &&& (3 : Int32))), .val (.int sym), .val (.ref b323), .unset] []))
              refine Gl.back (fun _ k => XS.iconst X329.here hx rfl (hb hby at_144) k) ?_
              show Gl _ _ _ _ _ _ _ (T329.setTop (mkF m 145 #[.val (.int x0), .val (.int x1), .val (.int x2), .val (.int x3), .val (.int x4), .val (.int ((x0 &&& (2147483647 : Int32)) % (7 : Int32))), .val (.int ca), .val (.int cb), .val (.int (1 : Int32)), .val (.ref b285), .val (.ref b291), .val (.int (((x4.toUInt32 >>> ((1 : Int32) &&& 31).toUInt32).toInt32) &&& (3 : Int32))), .val (.int sym), .val (.ref b323), .unset] [(.int (1 : Int32))]))
              refine Gl.back (fun _ k => XS.goto X329.here hx rfl (pc0 := 145) (pc' := 149) rfl (hb hby at_145) (by decide) (by decide) k) ?_
              show Gl _ _ _ _ _ _ _ (T329.setTop (mkF m 149 #[.val (.int x0), .val (.int x1), .val (.int x2), .val (.int x3), .val (.int x4), .val (.int ((x0 &&& (2147483647 : Int32)) % (7 : Int32))), .val (.int ca), .val (.int cb), .val (.int (1 : Int32)), .val (.ref b285), .val (.ref b291), .val (.int (((x4.toUInt32 >>> ((1 : Int32) &&& 31).toUInt32).toInt32) &&& (3 : Int32))), .val (.int sym), .val (.ref b323), .unset] [(.int (1 : Int32))]))
              refine Gl.back (fun _ k => XS.istore X329.here hx rfl (hb hby at_149) rfl (l' := #[.val (.int x0), .val (.int x1), .val (.int x2), .val (.int x3), .val (.int x4), .val (.int ((x0 &&& (2147483647 : Int32)) % (7 : Int32))), .val (.int ca), .val (.int cb), .val (.int (1 : Int32)), .val (.ref b285), .val (.ref b291), .val (.int (((x4.toUInt32 >>> ((1 : Int32) &&& 31).toUInt32).toInt32) &&& (3 : Int32))), .val (.int sym), .val (.ref b323), .val (.int (1 : Int32))]) rfl k) ?_
              show Gl _ _ _ _ _ _ _ (T329.setTop (mkF m 151 #[.val (.int x0), .val (.int x1), .val (.int x2), .val (.int x3), .val (.int x4), .val (.int ((x0 &&& (2147483647 : Int32)) % (7 : Int32))), .val (.int ca), .val (.int cb), .val (.int (1 : Int32)), .val (.ref b285), .val (.ref b291), .val (.int (((x4.toUInt32 >>> ((1 : Int32) &&& 31).toUInt32).toInt32) &&& (3 : Int32))), .val (.int sym), .val (.ref b323), .val (.int (1 : Int32))] []))
              refine Gl.back (fun _ k => XS.aload X329.here hx rfl (hb hby at_151) rfl rfl k) ?_
              show Gl _ _ _ _ _ _ _ (T329.setTop (mkF m 153 #[.val (.int x0), .val (.int x1), .val (.int x2), .val (.int x3), .val (.int x4), .val (.int ((x0 &&& (2147483647 : Int32)) % (7 : Int32))), .val (.int ca), .val (.int cb), .val (.int (1 : Int32)), .val (.ref b285), .val (.ref b291), .val (.int (((x4.toUInt32 >>> ((1 : Int32) &&& 31).toUInt32).toInt32) &&& (3 : Int32))), .val (.int sym), .val (.ref b323), .val (.int (1 : Int32))] [(.ref b323)]))
              refine Gl.back (fun _ k => XS.iload X329.here hx rfl (hb hby at_153) rfl k) ?_
              show Gl _ _ _ _ _ _ _ (T329.setTop (mkF m 155 #[.val (.int x0), .val (.int x1), .val (.int x2), .val (.int x3), .val (.int x4), .val (.int ((x0 &&& (2147483647 : Int32)) % (7 : Int32))), .val (.int ca), .val (.int cb), .val (.int (1 : Int32)), .val (.ref b285), .val (.ref b291), .val (.int (((x4.toUInt32 >>> ((1 : Int32) &&& 31).toUInt32).toInt32) &&& (3 : Int32))), .val (.int sym), .val (.ref b323), .val (.int (1 : Int32))] [(.int sym), (.ref b323)]))
              have hks := hk1326 hc134_330
              have f333 := ((f325.ext E323).keep Kq329)
              have f334 := ((Fc321.ext E323).keep Kq329 (ninS ne_b291_b323 nin0))
              have f335 := ((Fv321.ext E323).keep Kq329 (ninS ne_b291_b323 nin0))
              have f336 := ((V321.ext E323).keep Kq329 (ninS ne_t321_b323 nin0))
              have f337 := (A323.keep Kq329)
              obtain ⟨cq332, kq332, q332a, q332b, q332c⟩ := isOf hZ rfl f337
              obtain ⟨_, _, ⟨T332, L332, k332, n332⟩, -, X332, ⟨Lc332, hQ332, l332, y332, z332⟩, st332⟩ := X329.virtualBack hx (y := (⟨"com/example/partition_planner/partitionplanner/CqlLexer$Token", "isSymbol", "(C)Z"⟩ : MethodName)) (z := (⟨"com/example/partition_planner/partitionplanner/CqlLexer$Token", "isSymbol", "(C)Z"⟩ : MethodName)) hown (mvT hZ (hw _ (List.mem_of_getElem? (i := 60) rfl))) (mvT hZ (hw _ (List.mem_of_getElem? (i := 61) rfl))) (notFace_of_selects (args := #[]) (mvT hZ (hw _ (List.mem_of_getElem? (i := 63) rfl)))) (mvT hZ (hw _ (List.mem_of_getElem? (i := 63) rfl))) (mvT hZ (hw _ (List.mem_of_getElem? (i := 62) rfl))) (by decide) (backOf (W := 0) (rmsymU_2 l Z a0 hw [] b323 sym b291 t321 w_SYMBOL k0321 (own_b0 ca) (own_b1 ca) (own_b0 cb) (own_b1 cb) zc fm T329.heap n0 Zc329 Oc329 S_AD S_HI S_LO S_C P0 S_F hfm S_SYMBOL (hks ▸ Fk329) Fv329 f333 f334 f335 f336) hZ (hw _ (List.mem_of_getElem? (i := 64) rfl)) (hw _ (List.mem_of_getElem? (i := 33) rfl)) (by decide) (by decide)) q332a q332c (g := (mkF m 155 #[.val (.int x0), .val (.int x1), .val (.int x2), .val (.int x3), .val (.int x4), .val (.int ((x0 &&& (2147483647 : Int32)) % (7 : Int32))), .val (.int ca), .val (.int cb), .val (.int (1 : Int32)), .val (.ref b285), .val (.ref b291), .val (.int (((x4.toUInt32 >>> ((1 : Int32) &&& 31).toUInt32).toInt32) &&& (3 : Int32))), .val (.int sym), .val (.ref b323), .val (.int (1 : Int32))] [(.int sym), (.ref b323)])) rfl (by rw [hml]; rfl) (Steps.refl _) (argsL := [(.int sym)]) (rest := []) (lenOf pd__C_Z rfl) rfl (by show 2 * 0 + _ ≤ _; exact Nat.le_of_eq rfl) (hb hby at_155) (fun _ _ => ⟨rfl, rfl, (by decide : 5 + 0 ≤ _), (by decide : 17 + 0 ≤ _)⟩)
              dsimp only [Pt.U, Pt.locs, Pt.cells, Pt.slots] at X332 l332 y332 z332 st332 hQ332
              replace l332 := Eq.symm l332
              replace y332 := Eq.symm y332
              replace z332 := Eq.symm z332
              subst l332 y332 z332
              obtain ⟨Nq332, hQ332⟩ := hQ332
              rcases hQ332 with ⟨rfl, eh332, hy332⟩ | ⟨rfl, eh332, hy332⟩
              · have N332 := Fr.app N329 Nq332
                refine Gl.back (fun _ k => st332.trans k) ?_
                show Gl _ _ _ _ _ _ _ (T332.setTop (mkF m 158 #[.val (.int x0), .val (.int x1), .val (.int x2), .val (.int x3), .val (.int x4), .val (.int ((x0 &&& (2147483647 : Int32)) % (7 : Int32))), .val (.int ca), .val (.int cb), .val (.int (1 : Int32)), .val (.ref b285), .val (.ref b291), .val (.int (((x4.toUInt32 >>> ((1 : Int32) &&& 31).toUInt32).toInt32) &&& (3 : Int32))), .val (.int sym), .val (.ref b323), .val (.int (1 : Int32))] [(.int (1 : Int32))]))
                refine Gl.back (fun _ k => XS.iload X332.here hx rfl (hb hby at_158) rfl k) ?_
                show Gl _ _ _ _ _ _ _ (T332.setTop (mkF m 160 #[.val (.int x0), .val (.int x1), .val (.int x2), .val (.int x3), .val (.int x4), .val (.int ((x0 &&& (2147483647 : Int32)) % (7 : Int32))), .val (.int ca), .val (.int cb), .val (.int (1 : Int32)), .val (.ref b285), .val (.ref b291), .val (.int (((x4.toUInt32 >>> ((1 : Int32) &&& 31).toUInt32).toInt32) &&& (3 : Int32))), .val (.int sym), .val (.ref b323), .val (.int (1 : Int32))] [(.int (1 : Int32)), (.int (1 : Int32))]))
                refine Gl.back (fun _ k => XS.icmpNo X332.here hx rfl (hb hby at_160) rfl (teq (rfl : (1 : Int32) = (1 : Int32))).2 k) ?_
                show Gl _ _ _ _ _ _ _ (T332.setTop (mkF m 163 #[.val (.int x0), .val (.int x1), .val (.int x2), .val (.int x3), .val (.int x4), .val (.int ((x0 &&& (2147483647 : Int32)) % (7 : Int32))), .val (.int ca), .val (.int cb), .val (.int (1 : Int32)), .val (.ref b285), .val (.ref b291), .val (.int (((x4.toUInt32 >>> ((1 : Int32) &&& 31).toUInt32).toInt32) &&& (3 : Int32))), .val (.int sym), .val (.ref b323), .val (.int (1 : Int32))] []))
                refine Gl.back (fun _ k => XS.iconst X332.here hx rfl (hb hby at_163) k) ?_
                show Gl _ _ _ _ _ _ _ (T332.setTop (mkF m 164 #[.val (.int x0), .val (.int x1), .val (.int x2), .val (.int x3), .val (.int x4), .val (.int ((x0 &&& (2147483647 : Int32)) % (7 : Int32))), .val (.int ca), .val (.int cb), .val (.int (1 : Int32)), .val (.ref b285), .val (.ref b291), .val (.int (((x4.toUInt32 >>> ((1 : Int32) &&& 31).toUInt32).toInt32) &&& (3 : Int32))), .val (.int sym), .val (.ref b323), .val (.int (1 : Int32))] [(.int (1 : Int32))]))
                refine Gl.back (fun _ k => XS.goto X332.here hx rfl (pc0 := 164) (pc' := 168) rfl (hb hby at_164) (by decide) (by decide) k) ?_
                show Gl _ _ _ _ _ _ _ (T332.setTop (mkF m 168 #[.val (.int x0), .val (.int x1), .val (.int x2), .val (.int x3), .val (.int x4), .val (.int ((x0 &&& (2147483647 : Int32)) % (7 : Int32))), .val (.int ca), .val (.int cb), .val (.int (1 : Int32)), .val (.ref b285), .val (.ref b291), .val (.int (((x4.toUInt32 >>> ((1 : Int32) &&& 31).toUInt32).toInt32) &&& (3 : Int32))), .val (.int sym), .val (.ref b323), .val (.int (1 : Int32))] [(.int (1 : Int32))]))
                exact Gl.ret X332 eh332 (v := (some (.int (1 : Int32)))) (fun h => by rw [Bd.returns] at h; cases h) Bd.notSynchronized (fun fs hr => retN X332 hx (t := .boolean) (z := (1 : Int32)) Bd.returns (by simp) (hb hby at_168) hr) ⟨N332, rfl⟩ (by decide) (by decide)
              · have N332 := Fr.app N329 Nq332
                refine Gl.back (fun _ k => st332.trans k) ?_
                show Gl _ _ _ _ _ _ _ (T332.setTop (mkF m 158 #[.val (.int x0), .val (.int x1), .val (.int x2), .val (.int x3), .val (.int x4), .val (.int ((x0 &&& (2147483647 : Int32)) % (7 : Int32))), .val (.int ca), .val (.int cb), .val (.int (1 : Int32)), .val (.ref b285), .val (.ref b291), .val (.int (((x4.toUInt32 >>> ((1 : Int32) &&& 31).toUInt32).toInt32) &&& (3 : Int32))), .val (.int sym), .val (.ref b323), .val (.int (1 : Int32))] [(.int (0 : Int32))]))
                refine Gl.back (fun _ k => XS.iload X332.here hx rfl (hb hby at_158) rfl k) ?_
                show Gl _ _ _ _ _ _ _ (T332.setTop (mkF m 160 #[.val (.int x0), .val (.int x1), .val (.int x2), .val (.int x3), .val (.int x4), .val (.int ((x0 &&& (2147483647 : Int32)) % (7 : Int32))), .val (.int ca), .val (.int cb), .val (.int (1 : Int32)), .val (.ref b285), .val (.ref b291), .val (.int (((x4.toUInt32 >>> ((1 : Int32) &&& 31).toUInt32).toInt32) &&& (3 : Int32))), .val (.int sym), .val (.ref b323), .val (.int (1 : Int32))] [(.int (1 : Int32)), (.int (0 : Int32))]))
                refine Gl.back (fun _ k => XS.icmpNo X332.here hx rfl (hb hby at_160) rfl (teq (absurd hc141_331 ((own_gc2 hcar) ▸ hy332) : (0 : Int32) = (1 : Int32))).2 k) ?_
                show Gl _ _ _ _ _ _ _ (T332.setTop (mkF m 163 #[.val (.int x0), .val (.int x1), .val (.int x2), .val (.int x3), .val (.int x4), .val (.int ((x0 &&& (2147483647 : Int32)) % (7 : Int32))), .val (.int ca), .val (.int cb), .val (.int (1 : Int32)), .val (.ref b285), .val (.ref b291), .val (.int (((x4.toUInt32 >>> ((1 : Int32) &&& 31).toUInt32).toInt32) &&& (3 : Int32))), .val (.int sym), .val (.ref b323), .val (.int (1 : Int32))] []))
                refine Gl.back (fun _ k => XS.iconst X332.here hx rfl (hb hby at_163) k) ?_
                show Gl _ _ _ _ _ _ _ (T332.setTop (mkF m 164 #[.val (.int x0), .val (.int x1), .val (.int x2), .val (.int x3), .val (.int x4), .val (.int ((x0 &&& (2147483647 : Int32)) % (7 : Int32))), .val (.int ca), .val (.int cb), .val (.int (1 : Int32)), .val (.ref b285), .val (.ref b291), .val (.int (((x4.toUInt32 >>> ((1 : Int32) &&& 31).toUInt32).toInt32) &&& (3 : Int32))), .val (.int sym), .val (.ref b323), .val (.int (1 : Int32))] [(.int (1 : Int32))]))
                refine Gl.back (fun _ k => XS.goto X332.here hx rfl (pc0 := 164) (pc' := 168) rfl (hb hby at_164) (by decide) (by decide) k) ?_
                show Gl _ _ _ _ _ _ _ (T332.setTop (mkF m 168 #[.val (.int x0), .val (.int x1), .val (.int x2), .val (.int x3), .val (.int x4), .val (.int ((x0 &&& (2147483647 : Int32)) % (7 : Int32))), .val (.int ca), .val (.int cb), .val (.int (1 : Int32)), .val (.ref b285), .val (.ref b291), .val (.int (((x4.toUInt32 >>> ((1 : Int32) &&& 31).toUInt32).toInt32) &&& (3 : Int32))), .val (.int sym), .val (.ref b323), .val (.int (1 : Int32))] [(.int (1 : Int32))]))
                exact Gl.ret X332 eh332 (v := (some (.int (1 : Int32)))) (fun h => by rw [Bd.returns] at h; cases h) Bd.notSynchronized (fun fs hr => retN X332 hx (t := .boolean) (z := (1 : Int32)) Bd.returns (by simp) (hb hby at_168) hr) ⟨N332, rfl⟩ (by decide) (by decide)
            · refine Gl.back (fun _ k => XS.icmpYes X329.here hx rfl (pc0 := 141) (pc' := 148) rfl (hb hby at_141) rfl (feq hc141_331).2 (by decide) (by decide) k) ?_
              show Gl _ _ _ _ _ _ _ (T329.setTop (mkF m 148 #[.val (.int x0), .val (.int x1), .val (.int x2), .val (.int x3), .val (.int x4), .val (.int ((x0 &&& (2147483647 : Int32)) % (7 : Int32))), .val (.int ca), .val (.int cb), .val (.int (1 : Int32)), .val (.ref b285), .val (.ref b291), .val (.int (((x4.toUInt32 >>> ((1 : Int32) &&& 31).toUInt32).toInt32) &&& (3 : Int32))), .val (.int sym), .val (.ref b323), .unset] []))
              refine Gl.back (fun _ k => XS.iconst X329.here hx rfl (hb hby at_148) k) ?_
              show Gl _ _ _ _ _ _ _ (T329.setTop (mkF m 149 #[.val (.int x0), .val (.int x1), .val (.int x2), .val (.int x3), .val (.int x4), .val (.int ((x0 &&& (2147483647 : Int32)) % (7 : Int32))), .val (.int ca), .val (.int cb), .val (.int (1 : Int32)), .val (.ref b285), .val (.ref b291), .val (.int (((x4.toUInt32 >>> ((1 : Int32) &&& 31).toUInt32).toInt32) &&& (3 : Int32))), .val (.int sym), .val (.ref b323), .unset] [(.int (0 : Int32))]))
              refine Gl.back (fun _ k => XS.istore X329.here hx rfl (hb hby at_149) rfl (l' := #[.val (.int x0), .val (.int x1), .val (.int x2), .val (.int x3), .val (.int x4), .val (.int ((x0 &&& (2147483647 : Int32)) % (7 : Int32))), .val (.int ca), .val (.int cb), .val (.int (1 : Int32)), .val (.ref b285), .val (.ref b291), .val (.int (((x4.toUInt32 >>> ((1 : Int32) &&& 31).toUInt32).toInt32) &&& (3 : Int32))), .val (.int sym), .val (.ref b323), .val (.int (0 : Int32))]) rfl k) ?_
              show Gl _ _ _ _ _ _ _ (T329.setTop (mkF m 151 #[.val (.int x0), .val (.int x1), .val (.int x2), .val (.int x3), .val (.int x4), .val (.int ((x0 &&& (2147483647 : Int32)) % (7 : Int32))), .val (.int ca), .val (.int cb), .val (.int (1 : Int32)), .val (.ref b285), .val (.ref b291), .val (.int (((x4.toUInt32 >>> ((1 : Int32) &&& 31).toUInt32).toInt32) &&& (3 : Int32))), .val (.int sym), .val (.ref b323), .val (.int (0 : Int32))] []))
              refine Gl.back (fun _ k => XS.aload X329.here hx rfl (hb hby at_151) rfl rfl k) ?_
              show Gl _ _ _ _ _ _ _ (T329.setTop (mkF m 153 #[.val (.int x0), .val (.int x1), .val (.int x2), .val (.int x3), .val (.int x4), .val (.int ((x0 &&& (2147483647 : Int32)) % (7 : Int32))), .val (.int ca), .val (.int cb), .val (.int (1 : Int32)), .val (.ref b285), .val (.ref b291), .val (.int (((x4.toUInt32 >>> ((1 : Int32) &&& 31).toUInt32).toInt32) &&& (3 : Int32))), .val (.int sym), .val (.ref b323), .val (.int (0 : Int32))] [(.ref b323)]))
              refine Gl.back (fun _ k => XS.iload X329.here hx rfl (hb hby at_153) rfl k) ?_
              show Gl _ _ _ _ _ _ _ (T329.setTop (mkF m 155 #[.val (.int x0), .val (.int x1), .val (.int x2), .val (.int x3), .val (.int x4), .val (.int ((x0 &&& (2147483647 : Int32)) % (7 : Int32))), .val (.int ca), .val (.int cb), .val (.int (1 : Int32)), .val (.ref b285), .val (.ref b291), .val (.int (((x4.toUInt32 >>> ((1 : Int32) &&& 31).toUInt32).toInt32) &&& (3 : Int32))), .val (.int sym), .val (.ref b323), .val (.int (0 : Int32))] [(.int sym), (.ref b323)]))
              have hks := hk1326 hc134_330
              have f339 := ((f325.ext E323).keep Kq329)
              have f340 := ((Fc321.ext E323).keep Kq329 (ninS ne_b291_b323 nin0))
              have f341 := ((Fv321.ext E323).keep Kq329 (ninS ne_b291_b323 nin0))
              have f342 := ((V321.ext E323).keep Kq329 (ninS ne_t321_b323 nin0))
              have f343 := (A323.keep Kq329)
              obtain ⟨cq338, kq338, q338a, q338b, q338c⟩ := isOf hZ rfl f343
              obtain ⟨_, _, ⟨T338, L338, k338, n338⟩, -, X338, ⟨Lc338, hQ338, l338, y338, z338⟩, st338⟩ := X329.virtualBack hx (y := (⟨"com/example/partition_planner/partitionplanner/CqlLexer$Token", "isSymbol", "(C)Z"⟩ : MethodName)) (z := (⟨"com/example/partition_planner/partitionplanner/CqlLexer$Token", "isSymbol", "(C)Z"⟩ : MethodName)) hown (mvT hZ (hw _ (List.mem_of_getElem? (i := 60) rfl))) (mvT hZ (hw _ (List.mem_of_getElem? (i := 61) rfl))) (notFace_of_selects (args := #[]) (mvT hZ (hw _ (List.mem_of_getElem? (i := 63) rfl)))) (mvT hZ (hw _ (List.mem_of_getElem? (i := 63) rfl))) (mvT hZ (hw _ (List.mem_of_getElem? (i := 62) rfl))) (by decide) (backOf (W := 0) (rmsymU_2 l Z a0 hw [] b323 sym b291 t321 w_SYMBOL k0321 (own_b0 ca) (own_b1 ca) (own_b0 cb) (own_b1 cb) zc fm T329.heap n0 Zc329 Oc329 S_AD S_HI S_LO S_C P0 S_F hfm S_SYMBOL (hks ▸ Fk329) Fv329 f339 f340 f341 f342) hZ (hw _ (List.mem_of_getElem? (i := 64) rfl)) (hw _ (List.mem_of_getElem? (i := 33) rfl)) (by decide) (by decide)) q338a q338c (g := (mkF m 155 #[.val (.int x0), .val (.int x1), .val (.int x2), .val (.int x3), .val (.int x4), .val (.int ((x0 &&& (2147483647 : Int32)) % (7 : Int32))), .val (.int ca), .val (.int cb), .val (.int (1 : Int32)), .val (.ref b285), .val (.ref b291), .val (.int (((x4.toUInt32 >>> ((1 : Int32) &&& 31).toUInt32).toInt32) &&& (3 : Int32))), .val (.int sym), .val (.ref b323), .val (.int (0 : Int32))] [(.int sym), (.ref b323)])) rfl (by rw [hml]; rfl) (Steps.refl _) (argsL := [(.int sym)]) (rest := []) (lenOf pd__C_Z rfl) rfl (by show 2 * 0 + _ ≤ _; exact Nat.le_of_eq rfl) (hb hby at_155) (fun _ _ => ⟨rfl, rfl, (by decide : 5 + 0 ≤ _), (by decide : 17 + 0 ≤ _)⟩)
              dsimp only [Pt.U, Pt.locs, Pt.cells, Pt.slots] at X338 l338 y338 z338 st338 hQ338
              replace l338 := Eq.symm l338
              replace y338 := Eq.symm y338
              replace z338 := Eq.symm z338
              subst l338 y338 z338
              obtain ⟨Nq338, hQ338⟩ := hQ338
              rcases hQ338 with ⟨rfl, eh338, hy338⟩ | ⟨rfl, eh338, hy338⟩
              · have N338 := Fr.app N329 Nq338
                refine Gl.back (fun _ k => st338.trans k) ?_
                show Gl _ _ _ _ _ _ _ (T338.setTop (mkF m 158 #[.val (.int x0), .val (.int x1), .val (.int x2), .val (.int x3), .val (.int x4), .val (.int ((x0 &&& (2147483647 : Int32)) % (7 : Int32))), .val (.int ca), .val (.int cb), .val (.int (1 : Int32)), .val (.ref b285), .val (.ref b291), .val (.int (((x4.toUInt32 >>> ((1 : Int32) &&& 31).toUInt32).toInt32) &&& (3 : Int32))), .val (.int sym), .val (.ref b323), .val (.int (0 : Int32))] [(.int (1 : Int32))]))
                refine Gl.back (fun _ k => XS.iload X338.here hx rfl (hb hby at_158) rfl k) ?_
                show Gl _ _ _ _ _ _ _ (T338.setTop (mkF m 160 #[.val (.int x0), .val (.int x1), .val (.int x2), .val (.int x3), .val (.int x4), .val (.int ((x0 &&& (2147483647 : Int32)) % (7 : Int32))), .val (.int ca), .val (.int cb), .val (.int (1 : Int32)), .val (.ref b285), .val (.ref b291), .val (.int (((x4.toUInt32 >>> ((1 : Int32) &&& 31).toUInt32).toInt32) &&& (3 : Int32))), .val (.int sym), .val (.ref b323), .val (.int (0 : Int32))] [(.int (0 : Int32)), (.int (1 : Int32))]))
                refine Gl.back (fun _ k => XS.icmpNo X338.here hx rfl (hb hby at_160) rfl (teq (absurd ((own_gc2 hcar) ▸ hy338) hc141_331 : (1 : Int32) = (0 : Int32))).2 k) ?_
                show Gl _ _ _ _ _ _ _ (T338.setTop (mkF m 163 #[.val (.int x0), .val (.int x1), .val (.int x2), .val (.int x3), .val (.int x4), .val (.int ((x0 &&& (2147483647 : Int32)) % (7 : Int32))), .val (.int ca), .val (.int cb), .val (.int (1 : Int32)), .val (.ref b285), .val (.ref b291), .val (.int (((x4.toUInt32 >>> ((1 : Int32) &&& 31).toUInt32).toInt32) &&& (3 : Int32))), .val (.int sym), .val (.ref b323), .val (.int (0 : Int32))] []))
                refine Gl.back (fun _ k => XS.iconst X338.here hx rfl (hb hby at_163) k) ?_
                show Gl _ _ _ _ _ _ _ (T338.setTop (mkF m 164 #[.val (.int x0), .val (.int x1), .val (.int x2), .val (.int x3), .val (.int x4), .val (.int ((x0 &&& (2147483647 : Int32)) % (7 : Int32))), .val (.int ca), .val (.int cb), .val (.int (1 : Int32)), .val (.ref b285), .val (.ref b291), .val (.int (((x4.toUInt32 >>> ((1 : Int32) &&& 31).toUInt32).toInt32) &&& (3 : Int32))), .val (.int sym), .val (.ref b323), .val (.int (0 : Int32))] [(.int (1 : Int32))]))
                refine Gl.back (fun _ k => XS.goto X338.here hx rfl (pc0 := 164) (pc' := 168) rfl (hb hby at_164) (by decide) (by decide) k) ?_
                show Gl _ _ _ _ _ _ _ (T338.setTop (mkF m 168 #[.val (.int x0), .val (.int x1), .val (.int x2), .val (.int x3), .val (.int x4), .val (.int ((x0 &&& (2147483647 : Int32)) % (7 : Int32))), .val (.int ca), .val (.int cb), .val (.int (1 : Int32)), .val (.ref b285), .val (.ref b291), .val (.int (((x4.toUInt32 >>> ((1 : Int32) &&& 31).toUInt32).toInt32) &&& (3 : Int32))), .val (.int sym), .val (.ref b323), .val (.int (0 : Int32))] [(.int (1 : Int32))]))
                exact Gl.ret X338 eh338 (v := (some (.int (1 : Int32)))) (fun h => by rw [Bd.returns] at h; cases h) Bd.notSynchronized (fun fs hr => retN X338 hx (t := .boolean) (z := (1 : Int32)) Bd.returns (by simp) (hb hby at_168) hr) ⟨N338, rfl⟩ (by decide) (by decide)
              · have N338 := Fr.app N329 Nq338
                refine Gl.back (fun _ k => st338.trans k) ?_
                show Gl _ _ _ _ _ _ _ (T338.setTop (mkF m 158 #[.val (.int x0), .val (.int x1), .val (.int x2), .val (.int x3), .val (.int x4), .val (.int ((x0 &&& (2147483647 : Int32)) % (7 : Int32))), .val (.int ca), .val (.int cb), .val (.int (1 : Int32)), .val (.ref b285), .val (.ref b291), .val (.int (((x4.toUInt32 >>> ((1 : Int32) &&& 31).toUInt32).toInt32) &&& (3 : Int32))), .val (.int sym), .val (.ref b323), .val (.int (0 : Int32))] [(.int (0 : Int32))]))
                refine Gl.back (fun _ k => XS.iload X338.here hx rfl (hb hby at_158) rfl k) ?_
                show Gl _ _ _ _ _ _ _ (T338.setTop (mkF m 160 #[.val (.int x0), .val (.int x1), .val (.int x2), .val (.int x3), .val (.int x4), .val (.int ((x0 &&& (2147483647 : Int32)) % (7 : Int32))), .val (.int ca), .val (.int cb), .val (.int (1 : Int32)), .val (.ref b285), .val (.ref b291), .val (.int (((x4.toUInt32 >>> ((1 : Int32) &&& 31).toUInt32).toInt32) &&& (3 : Int32))), .val (.int sym), .val (.ref b323), .val (.int (0 : Int32))] [(.int (0 : Int32)), (.int (0 : Int32))]))
                refine Gl.back (fun _ k => XS.icmpNo X338.here hx rfl (hb hby at_160) rfl (teq (rfl : (0 : Int32) = (0 : Int32))).2 k) ?_
                show Gl _ _ _ _ _ _ _ (T338.setTop (mkF m 163 #[.val (.int x0), .val (.int x1), .val (.int x2), .val (.int x3), .val (.int x4), .val (.int ((x0 &&& (2147483647 : Int32)) % (7 : Int32))), .val (.int ca), .val (.int cb), .val (.int (1 : Int32)), .val (.ref b285), .val (.ref b291), .val (.int (((x4.toUInt32 >>> ((1 : Int32) &&& 31).toUInt32).toInt32) &&& (3 : Int32))), .val (.int sym), .val (.ref b323), .val (.int (0 : Int32))] []))
                refine Gl.back (fun _ k => XS.iconst X338.here hx rfl (hb hby at_163) k) ?_
                show Gl _ _ _ _ _ _ _ (T338.setTop (mkF m 164 #[.val (.int x0), .val (.int x1), .val (.int x2), .val (.int x3), .val (.int x4), .val (.int ((x0 &&& (2147483647 : Int32)) % (7 : Int32))), .val (.int ca), .val (.int cb), .val (.int (1 : Int32)), .val (.ref b285), .val (.ref b291), .val (.int (((x4.toUInt32 >>> ((1 : Int32) &&& 31).toUInt32).toInt32) &&& (3 : Int32))), .val (.int sym), .val (.ref b323), .val (.int (0 : Int32))] [(.int (1 : Int32))]))
                refine Gl.back (fun _ k => XS.goto X338.here hx rfl (pc0 := 164) (pc' := 168) rfl (hb hby at_164) (by decide) (by decide) k) ?_
                show Gl _ _ _ _ _ _ _ (T338.setTop (mkF m 168 #[.val (.int x0), .val (.int x1), .val (.int x2), .val (.int x3), .val (.int x4), .val (.int ((x0 &&& (2147483647 : Int32)) % (7 : Int32))), .val (.int ca), .val (.int cb), .val (.int (1 : Int32)), .val (.ref b285), .val (.ref b291), .val (.int (((x4.toUInt32 >>> ((1 : Int32) &&& 31).toUInt32).toInt32) &&& (3 : Int32))), .val (.int sym), .val (.ref b323), .val (.int (0 : Int32))] [(.int (1 : Int32))]))
                exact Gl.ret X338 eh338 (v := (some (.int (1 : Int32)))) (fun h => by rw [Bd.returns] at h; cases h) Bd.notSynchronized (fun fs hr => retN X338 hx (t := .boolean) (z := (1 : Int32)) Bd.returns (by simp) (hb hby at_168) hr) ⟨N338, rfl⟩ (by decide) (by decide)
          · refine Gl.back (fun _ k => XS.icmpYes X329.here hx rfl (pc0 := 134) (pc' := 148) rfl (hb hby at_134) rfl (feq hc134_330).2 (by decide) (by decide) k) ?_
            show Gl _ _ _ _ _ _ _ (T329.setTop (mkF m 148 #[.val (.int x0), .val (.int x1), .val (.int x2), .val (.int x3), .val (.int x4), .val (.int ((x0 &&& (2147483647 : Int32)) % (7 : Int32))), .val (.int ca), .val (.int cb), .val (.int (1 : Int32)), .val (.ref b285), .val (.ref b291), .val (.int (((x4.toUInt32 >>> ((1 : Int32) &&& 31).toUInt32).toInt32) &&& (3 : Int32))), .val (.int sym), .val (.ref b323), .unset] []))
            refine Gl.back (fun _ k => XS.iconst X329.here hx rfl (hb hby at_148) k) ?_
            show Gl _ _ _ _ _ _ _ (T329.setTop (mkF m 149 #[.val (.int x0), .val (.int x1), .val (.int x2), .val (.int x3), .val (.int x4), .val (.int ((x0 &&& (2147483647 : Int32)) % (7 : Int32))), .val (.int ca), .val (.int cb), .val (.int (1 : Int32)), .val (.ref b285), .val (.ref b291), .val (.int (((x4.toUInt32 >>> ((1 : Int32) &&& 31).toUInt32).toInt32) &&& (3 : Int32))), .val (.int sym), .val (.ref b323), .unset] [(.int (0 : Int32))]))
            refine Gl.back (fun _ k => XS.istore X329.here hx rfl (hb hby at_149) rfl (l' := #[.val (.int x0), .val (.int x1), .val (.int x2), .val (.int x3), .val (.int x4), .val (.int ((x0 &&& (2147483647 : Int32)) % (7 : Int32))), .val (.int ca), .val (.int cb), .val (.int (1 : Int32)), .val (.ref b285), .val (.ref b291), .val (.int (((x4.toUInt32 >>> ((1 : Int32) &&& 31).toUInt32).toInt32) &&& (3 : Int32))), .val (.int sym), .val (.ref b323), .val (.int (0 : Int32))]) rfl k) ?_
            show Gl _ _ _ _ _ _ _ (T329.setTop (mkF m 151 #[.val (.int x0), .val (.int x1), .val (.int x2), .val (.int x3), .val (.int x4), .val (.int ((x0 &&& (2147483647 : Int32)) % (7 : Int32))), .val (.int ca), .val (.int cb), .val (.int (1 : Int32)), .val (.ref b285), .val (.ref b291), .val (.int (((x4.toUInt32 >>> ((1 : Int32) &&& 31).toUInt32).toInt32) &&& (3 : Int32))), .val (.int sym), .val (.ref b323), .val (.int (0 : Int32))] []))
            refine Gl.back (fun _ k => XS.aload X329.here hx rfl (hb hby at_151) rfl rfl k) ?_
            show Gl _ _ _ _ _ _ _ (T329.setTop (mkF m 153 #[.val (.int x0), .val (.int x1), .val (.int x2), .val (.int x3), .val (.int x4), .val (.int ((x0 &&& (2147483647 : Int32)) % (7 : Int32))), .val (.int ca), .val (.int cb), .val (.int (1 : Int32)), .val (.ref b285), .val (.ref b291), .val (.int (((x4.toUInt32 >>> ((1 : Int32) &&& 31).toUInt32).toInt32) &&& (3 : Int32))), .val (.int sym), .val (.ref b323), .val (.int (0 : Int32))] [(.ref b323)]))
            refine Gl.back (fun _ k => XS.iload X329.here hx rfl (hb hby at_153) rfl k) ?_
            show Gl _ _ _ _ _ _ _ (T329.setTop (mkF m 155 #[.val (.int x0), .val (.int x1), .val (.int x2), .val (.int x3), .val (.int x4), .val (.int ((x0 &&& (2147483647 : Int32)) % (7 : Int32))), .val (.int ca), .val (.int cb), .val (.int (1 : Int32)), .val (.ref b285), .val (.ref b291), .val (.int (((x4.toUInt32 >>> ((1 : Int32) &&& 31).toUInt32).toInt32) &&& (3 : Int32))), .val (.int sym), .val (.ref b323), .val (.int (0 : Int32))] [(.int sym), (.ref b323)]))
            have f345 := (A323.keep Kq329)
            obtain ⟨cq344, kq344, q344a, q344b, q344c⟩ := isOf hZ rfl f345
            obtain ⟨_, _, ⟨T344, L344, k344, n344⟩, -, X344, ⟨Lc344, hQ344, l344, y344, z344⟩, st344⟩ := X329.virtualBack hx (y := (⟨"com/example/partition_planner/partitionplanner/CqlLexer$Token", "isSymbol", "(C)Z"⟩ : MethodName)) (z := (⟨"com/example/partition_planner/partitionplanner/CqlLexer$Token", "isSymbol", "(C)Z"⟩ : MethodName)) hown (mvT hZ (hw _ (List.mem_of_getElem? (i := 60) rfl))) (mvT hZ (hw _ (List.mem_of_getElem? (i := 61) rfl))) (notFace_of_selects (args := #[]) (mvT hZ (hw _ (List.mem_of_getElem? (i := 63) rfl)))) (mvT hZ (hw _ (List.mem_of_getElem? (i := 63) rfl))) (mvT hZ (hw _ (List.mem_of_getElem? (i := 62) rfl))) (by decide) (backOf (W := 0) (rmsym0 l Z a0 hw [] b323 sym wk326 w_SYMBOL T329.heap n0 Zc329 Oc329 S_SYMBOL Fk329 (hk2326 hc134_330)) hZ (hw _ (List.mem_of_getElem? (i := 64) rfl)) (hw _ (List.mem_of_getElem? (i := 33) rfl)) (by decide) (by decide)) q344a q344c (g := (mkF m 155 #[.val (.int x0), .val (.int x1), .val (.int x2), .val (.int x3), .val (.int x4), .val (.int ((x0 &&& (2147483647 : Int32)) % (7 : Int32))), .val (.int ca), .val (.int cb), .val (.int (1 : Int32)), .val (.ref b285), .val (.ref b291), .val (.int (((x4.toUInt32 >>> ((1 : Int32) &&& 31).toUInt32).toInt32) &&& (3 : Int32))), .val (.int sym), .val (.ref b323), .val (.int (0 : Int32))] [(.int sym), (.ref b323)])) rfl (by rw [hml]; rfl) (Steps.refl _) (argsL := [(.int sym)]) (rest := []) (lenOf pd__C_Z rfl) rfl (by show 2 * 0 + _ ≤ _; exact Nat.le_of_eq rfl) (hb hby at_155) (fun _ _ => ⟨rfl, rfl, (by decide : 5 + 0 ≤ _), (by decide : 17 + 0 ≤ _)⟩)
            dsimp only [Pt.U, Pt.locs, Pt.cells, Pt.slots] at X344 l344 y344 z344 st344 hQ344
            replace l344 := Eq.symm l344
            replace y344 := Eq.symm y344
            replace z344 := Eq.symm z344
            subst l344 y344 z344
            obtain ⟨Nq344, rfl, eh344⟩ := hQ344
            have N344 := Fr.app N329 Nq344
            refine Gl.back (fun _ k => st344.trans k) ?_
            show Gl _ _ _ _ _ _ _ (T344.setTop (mkF m 158 #[.val (.int x0), .val (.int x1), .val (.int x2), .val (.int x3), .val (.int x4), .val (.int ((x0 &&& (2147483647 : Int32)) % (7 : Int32))), .val (.int ca), .val (.int cb), .val (.int (1 : Int32)), .val (.ref b285), .val (.ref b291), .val (.int (((x4.toUInt32 >>> ((1 : Int32) &&& 31).toUInt32).toInt32) &&& (3 : Int32))), .val (.int sym), .val (.ref b323), .val (.int (0 : Int32))] [(.int (0 : Int32))]))
            refine Gl.back (fun _ k => XS.iload X344.here hx rfl (hb hby at_158) rfl k) ?_
            show Gl _ _ _ _ _ _ _ (T344.setTop (mkF m 160 #[.val (.int x0), .val (.int x1), .val (.int x2), .val (.int x3), .val (.int x4), .val (.int ((x0 &&& (2147483647 : Int32)) % (7 : Int32))), .val (.int ca), .val (.int cb), .val (.int (1 : Int32)), .val (.ref b285), .val (.ref b291), .val (.int (((x4.toUInt32 >>> ((1 : Int32) &&& 31).toUInt32).toInt32) &&& (3 : Int32))), .val (.int sym), .val (.ref b323), .val (.int (0 : Int32))] [(.int (0 : Int32)), (.int (0 : Int32))]))
            refine Gl.back (fun _ k => XS.icmpNo X344.here hx rfl (hb hby at_160) rfl (teq (rfl : (0 : Int32) = (0 : Int32))).2 k) ?_
            show Gl _ _ _ _ _ _ _ (T344.setTop (mkF m 163 #[.val (.int x0), .val (.int x1), .val (.int x2), .val (.int x3), .val (.int x4), .val (.int ((x0 &&& (2147483647 : Int32)) % (7 : Int32))), .val (.int ca), .val (.int cb), .val (.int (1 : Int32)), .val (.ref b285), .val (.ref b291), .val (.int (((x4.toUInt32 >>> ((1 : Int32) &&& 31).toUInt32).toInt32) &&& (3 : Int32))), .val (.int sym), .val (.ref b323), .val (.int (0 : Int32))] []))
            refine Gl.back (fun _ k => XS.iconst X344.here hx rfl (hb hby at_163) k) ?_
            show Gl _ _ _ _ _ _ _ (T344.setTop (mkF m 164 #[.val (.int x0), .val (.int x1), .val (.int x2), .val (.int x3), .val (.int x4), .val (.int ((x0 &&& (2147483647 : Int32)) % (7 : Int32))), .val (.int ca), .val (.int cb), .val (.int (1 : Int32)), .val (.ref b285), .val (.ref b291), .val (.int (((x4.toUInt32 >>> ((1 : Int32) &&& 31).toUInt32).toInt32) &&& (3 : Int32))), .val (.int sym), .val (.ref b323), .val (.int (0 : Int32))] [(.int (1 : Int32))]))
            refine Gl.back (fun _ k => XS.goto X344.here hx rfl (pc0 := 164) (pc' := 168) rfl (hb hby at_164) (by decide) (by decide) k) ?_
            show Gl _ _ _ _ _ _ _ (T344.setTop (mkF m 168 #[.val (.int x0), .val (.int x1), .val (.int x2), .val (.int x3), .val (.int x4), .val (.int ((x0 &&& (2147483647 : Int32)) % (7 : Int32))), .val (.int ca), .val (.int cb), .val (.int (1 : Int32)), .val (.ref b285), .val (.ref b291), .val (.int (((x4.toUInt32 >>> ((1 : Int32) &&& 31).toUInt32).toInt32) &&& (3 : Int32))), .val (.int sym), .val (.ref b323), .val (.int (0 : Int32))] [(.int (1 : Int32))]))
            exact Gl.ret X344 eh344 (v := (some (.int (1 : Int32)))) (fun h => by rw [Bd.returns] at h; cases h) Bd.notSynchronized (fun fs hr => retN X344 hx (t := .boolean) (z := (1 : Int32)) Bd.returns (by simp) (hb hby at_168) hr) ⟨N344, rfl⟩ (by decide) (by decide)
        refine Gl.back (fun _ k => XS.iload X321.here hx rfl (hb hby at_73) rfl k) ?_
        show Gl _ _ _ _ _ _ _ (T321.setTop (mkF m 75 #[.val (.int x0), .val (.int x1), .val (.int x2), .val (.int x3), .val (.int x4), .val (.int ((x0 &&& (2147483647 : Int32)) % (7 : Int32))), .val (.int ca), .val (.int cb), .val (.int (1 : Int32)), .val (.ref b285), .val (.ref b291), .unset, .unset, .unset, .unset] [(.int x4)]))
        refine Gl.back (fun _ k => XS.iconst X321.here hx rfl (hb hby at_75) k) ?_
        show Gl _ _ _ _ _ _ _ (T321.setTop (mkF m 76 #[.val (.int x0), .val (.int x1), .val (.int x2), .val (.int x3), .val (.int x4), .val (.int ((x0 &&& (2147483647 : Int32)) % (7 : Int32))), .val (.int ca), .val (.int cb), .val (.int (1 : Int32)), .val (.ref b285), .val (.ref b291), .unset, .unset, .unset, .unset] [(.int (1 : Int32)), (.int x4)]))
        refine Gl.back (fun _ k => XS.iushr X321.here hx rfl (hb hby at_76) rfl k) ?_
        show Gl _ _ _ _ _ _ _ (T321.setTop (mkF m 77 #[.val (.int x0), .val (.int x1), .val (.int x2), .val (.int x3), .val (.int x4), .val (.int ((x0 &&& (2147483647 : Int32)) % (7 : Int32))), .val (.int ca), .val (.int cb), .val (.int (1 : Int32)), .val (.ref b285), .val (.ref b291), .unset, .unset, .unset, .unset] [(.int ((x4.toUInt32 >>> ((1 : Int32) &&& 31).toUInt32).toInt32))]))
        refine Gl.back (fun _ k => XS.iconst X321.here hx rfl (hb hby at_77) k) ?_
        show Gl _ _ _ _ _ _ _ (T321.setTop (mkF m 78 #[.val (.int x0), .val (.int x1), .val (.int x2), .val (.int x3), .val (.int x4), .val (.int ((x0 &&& (2147483647 : Int32)) % (7 : Int32))), .val (.int ca), .val (.int cb), .val (.int (1 : Int32)), .val (.ref b285), .val (.ref b291), .unset, .unset, .unset, .unset] [(.int (3 : Int32)), (.int ((x4.toUInt32 >>> ((1 : Int32) &&& 31).toUInt32).toInt32))]))
        refine Gl.back (fun _ k => XS.iand X321.here hx rfl (hb hby at_78) rfl k) ?_
        show Gl _ _ _ _ _ _ _ (T321.setTop (mkF m 79 #[.val (.int x0), .val (.int x1), .val (.int x2), .val (.int x3), .val (.int x4), .val (.int ((x0 &&& (2147483647 : Int32)) % (7 : Int32))), .val (.int ca), .val (.int cb), .val (.int (1 : Int32)), .val (.ref b285), .val (.ref b291), .unset, .unset, .unset, .unset] [(.int (((x4.toUInt32 >>> ((1 : Int32) &&& 31).toUInt32).toInt32) &&& (3 : Int32)))]))
        refine Gl.back (fun _ k => XS.istore X321.here hx rfl (hb hby at_79) rfl (l' := #[.val (.int x0), .val (.int x1), .val (.int x2), .val (.int x3), .val (.int x4), .val (.int ((x0 &&& (2147483647 : Int32)) % (7 : Int32))), .val (.int ca), .val (.int cb), .val (.int (1 : Int32)), .val (.ref b285), .val (.ref b291), .val (.int (((x4.toUInt32 >>> ((1 : Int32) &&& 31).toUInt32).toInt32) &&& (3 : Int32))), .unset, .unset, .unset]) rfl k) ?_
        show Gl _ _ _ _ _ _ _ (T321.setTop (mkF m 81 #[.val (.int x0), .val (.int x1), .val (.int x2), .val (.int x3), .val (.int x4), .val (.int ((x0 &&& (2147483647 : Int32)) % (7 : Int32))), .val (.int ca), .val (.int cb), .val (.int (1 : Int32)), .val (.ref b285), .val (.ref b291), .val (.int (((x4.toUInt32 >>> ((1 : Int32) &&& 31).toUInt32).toInt32) &&& (3 : Int32))), .unset, .unset, .unset] []))
        refine Gl.back (fun _ k => XS.iload X321.here hx rfl (hb hby at_81) rfl k) ?_
        show Gl _ _ _ _ _ _ _ (T321.setTop (mkF m 83 #[.val (.int x0), .val (.int x1), .val (.int x2), .val (.int x3), .val (.int x4), .val (.int ((x0 &&& (2147483647 : Int32)) % (7 : Int32))), .val (.int ca), .val (.int cb), .val (.int (1 : Int32)), .val (.ref b285), .val (.ref b291), .val (.int (((x4.toUInt32 >>> ((1 : Int32) &&& 31).toUInt32).toInt32) &&& (3 : Int32))), .unset, .unset, .unset] [(.int (((x4.toUInt32 >>> ((1 : Int32) &&& 31).toUInt32).toInt32) &&& (3 : Int32)))]))
        by_cases hc83_346 : (((x4.toUInt32 >>> ((1 : Int32) &&& 31).toUInt32).toInt32) &&& (3 : Int32)) = (0 : Int32)
        · refine Gl.back (fun _ k => XS.ifNo X321.here hx rfl (hb hby at_83) rfl ((if0 _ _).trans (teq hc83_346).2) k) ?_
          show Gl _ _ _ _ _ _ _ (T321.setTop (mkF m 86 #[.val (.int x0), .val (.int x1), .val (.int x2), .val (.int x3), .val (.int x4), .val (.int ((x0 &&& (2147483647 : Int32)) % (7 : Int32))), .val (.int ca), .val (.int cb), .val (.int (1 : Int32)), .val (.ref b285), .val (.ref b291), .val (.int (((x4.toUInt32 >>> ((1 : Int32) &&& 31).toUInt32).toInt32) &&& (3 : Int32))), .unset, .unset, .unset] []))
          refine Gl.back (fun _ k => XS.iload X321.here hx rfl (hb hby at_86) rfl k) ?_
          show Gl _ _ _ _ _ _ _ (T321.setTop (mkF m 88 #[.val (.int x0), .val (.int x1), .val (.int x2), .val (.int x3), .val (.int x4), .val (.int ((x0 &&& (2147483647 : Int32)) % (7 : Int32))), .val (.int ca), .val (.int cb), .val (.int (1 : Int32)), .val (.ref b285), .val (.ref b291), .val (.int (((x4.toUInt32 >>> ((1 : Int32) &&& 31).toUInt32).toInt32) &&& (3 : Int32))), .unset, .unset, .unset] [(.int ca)]))
          refine Gl.back (fun _ k => XS.istore X321.here hx rfl (hb hby at_88) rfl (l' := #[.val (.int x0), .val (.int x1), .val (.int x2), .val (.int x3), .val (.int x4), .val (.int ((x0 &&& (2147483647 : Int32)) % (7 : Int32))), .val (.int ca), .val (.int cb), .val (.int (1 : Int32)), .val (.ref b285), .val (.ref b291), .val (.int (((x4.toUInt32 >>> ((1 : Int32) &&& 31).toUInt32).toInt32) &&& (3 : Int32))), .val (.int ca), .unset, .unset]) rfl k) ?_
          show Gl _ _ _ _ _ _ _ (T321.setTop (mkF m 90 #[.val (.int x0), .val (.int x1), .val (.int x2), .val (.int x3), .val (.int x4), .val (.int ((x0 &&& (2147483647 : Int32)) % (7 : Int32))), .val (.int ca), .val (.int cb), .val (.int (1 : Int32)), .val (.ref b285), .val (.ref b291), .val (.int (((x4.toUInt32 >>> ((1 : Int32) &&& 31).toUInt32).toInt32) &&& (3 : Int32))), .val (.int ca), .unset, .unset] []))
          refine Gl.back (fun _ k => XS.goto X321.here hx rfl (pc0 := 90) (pc' := 110) rfl (hb hby at_90) (by decide) (by decide) k) ?_
          show Gl _ _ _ _ _ _ _ (T321.setTop (mkF m 110 #[.val (.int x0), .val (.int x1), .val (.int x2), .val (.int x3), .val (.int x4), .val (.int ((x0 &&& (2147483647 : Int32)) % (7 : Int32))), .val (.int ca), .val (.int cb), .val (.int (1 : Int32)), .val (.ref b285), .val (.ref b291), .val (.int (((x4.toUInt32 >>> ((1 : Int32) &&& 31).toUInt32).toInt32) &&& (3 : Int32))), .val (.int ca), .unset, .unset] []))
          exact J110 _
        · refine Gl.back (fun _ k => XS.ifYes X321.here hx rfl (pc0 := 83) (pc' := 93) rfl (hb hby at_83) rfl ((if0 _ _).trans (feq hc83_346).2) (by decide) (by decide) k) ?_
          show Gl _ _ _ _ _ _ _ (T321.setTop (mkF m 93 #[.val (.int x0), .val (.int x1), .val (.int x2), .val (.int x3), .val (.int x4), .val (.int ((x0 &&& (2147483647 : Int32)) % (7 : Int32))), .val (.int ca), .val (.int cb), .val (.int (1 : Int32)), .val (.ref b285), .val (.ref b291), .val (.int (((x4.toUInt32 >>> ((1 : Int32) &&& 31).toUInt32).toInt32) &&& (3 : Int32))), .unset, .unset, .unset] []))
          refine Gl.back (fun _ k => XS.iload X321.here hx rfl (hb hby at_93) rfl k) ?_
          show Gl _ _ _ _ _ _ _ (T321.setTop (mkF m 95 #[.val (.int x0), .val (.int x1), .val (.int x2), .val (.int x3), .val (.int x4), .val (.int ((x0 &&& (2147483647 : Int32)) % (7 : Int32))), .val (.int ca), .val (.int cb), .val (.int (1 : Int32)), .val (.ref b285), .val (.ref b291), .val (.int (((x4.toUInt32 >>> ((1 : Int32) &&& 31).toUInt32).toInt32) &&& (3 : Int32))), .unset, .unset, .unset] [(.int (((x4.toUInt32 >>> ((1 : Int32) &&& 31).toUInt32).toInt32) &&& (3 : Int32)))]))
          refine Gl.back (fun _ k => XS.iconst X321.here hx rfl (hb hby at_95) k) ?_
          show Gl _ _ _ _ _ _ _ (T321.setTop (mkF m 96 #[.val (.int x0), .val (.int x1), .val (.int x2), .val (.int x3), .val (.int x4), .val (.int ((x0 &&& (2147483647 : Int32)) % (7 : Int32))), .val (.int ca), .val (.int cb), .val (.int (1 : Int32)), .val (.ref b285), .val (.ref b291), .val (.int (((x4.toUInt32 >>> ((1 : Int32) &&& 31).toUInt32).toInt32) &&& (3 : Int32))), .unset, .unset, .unset] [(.int (1 : Int32)), (.int (((x4.toUInt32 >>> ((1 : Int32) &&& 31).toUInt32).toInt32) &&& (3 : Int32)))]))
          by_cases hc96_347 : (((x4.toUInt32 >>> ((1 : Int32) &&& 31).toUInt32).toInt32) &&& (3 : Int32)) = (1 : Int32)
          · refine Gl.back (fun _ k => XS.icmpNo X321.here hx rfl (hb hby at_96) rfl (teq hc96_347).2 k) ?_
            show Gl _ _ _ _ _ _ _ (T321.setTop (mkF m 99 #[.val (.int x0), .val (.int x1), .val (.int x2), .val (.int x3), .val (.int x4), .val (.int ((x0 &&& (2147483647 : Int32)) % (7 : Int32))), .val (.int ca), .val (.int cb), .val (.int (1 : Int32)), .val (.ref b285), .val (.ref b291), .val (.int (((x4.toUInt32 >>> ((1 : Int32) &&& 31).toUInt32).toInt32) &&& (3 : Int32))), .unset, .unset, .unset] []))
            refine Gl.back (fun _ k => XS.iload X321.here hx rfl (hb hby at_99) rfl k) ?_
            show Gl _ _ _ _ _ _ _ (T321.setTop (mkF m 101 #[.val (.int x0), .val (.int x1), .val (.int x2), .val (.int x3), .val (.int x4), .val (.int ((x0 &&& (2147483647 : Int32)) % (7 : Int32))), .val (.int ca), .val (.int cb), .val (.int (1 : Int32)), .val (.ref b285), .val (.ref b291), .val (.int (((x4.toUInt32 >>> ((1 : Int32) &&& 31).toUInt32).toInt32) &&& (3 : Int32))), .unset, .unset, .unset] [(.int cb)]))
            refine Gl.back (fun _ k => XS.istore X321.here hx rfl (hb hby at_101) rfl (l' := #[.val (.int x0), .val (.int x1), .val (.int x2), .val (.int x3), .val (.int x4), .val (.int ((x0 &&& (2147483647 : Int32)) % (7 : Int32))), .val (.int ca), .val (.int cb), .val (.int (1 : Int32)), .val (.ref b285), .val (.ref b291), .val (.int (((x4.toUInt32 >>> ((1 : Int32) &&& 31).toUInt32).toInt32) &&& (3 : Int32))), .val (.int cb), .unset, .unset]) rfl k) ?_
            show Gl _ _ _ _ _ _ _ (T321.setTop (mkF m 103 #[.val (.int x0), .val (.int x1), .val (.int x2), .val (.int x3), .val (.int x4), .val (.int ((x0 &&& (2147483647 : Int32)) % (7 : Int32))), .val (.int ca), .val (.int cb), .val (.int (1 : Int32)), .val (.ref b285), .val (.ref b291), .val (.int (((x4.toUInt32 >>> ((1 : Int32) &&& 31).toUInt32).toInt32) &&& (3 : Int32))), .val (.int cb), .unset, .unset] []))
            refine Gl.back (fun _ k => XS.goto X321.here hx rfl (pc0 := 103) (pc' := 110) rfl (hb hby at_103) (by decide) (by decide) k) ?_
            show Gl _ _ _ _ _ _ _ (T321.setTop (mkF m 110 #[.val (.int x0), .val (.int x1), .val (.int x2), .val (.int x3), .val (.int x4), .val (.int ((x0 &&& (2147483647 : Int32)) % (7 : Int32))), .val (.int ca), .val (.int cb), .val (.int (1 : Int32)), .val (.ref b285), .val (.ref b291), .val (.int (((x4.toUInt32 >>> ((1 : Int32) &&& 31).toUInt32).toInt32) &&& (3 : Int32))), .val (.int cb), .unset, .unset] []))
            exact J110 _
          · refine Gl.back (fun _ k => XS.icmpYes X321.here hx rfl (pc0 := 96) (pc' := 106) rfl (hb hby at_96) rfl (feq hc96_347).2 (by decide) (by decide) k) ?_
            show Gl _ _ _ _ _ _ _ (T321.setTop (mkF m 106 #[.val (.int x0), .val (.int x1), .val (.int x2), .val (.int x3), .val (.int x4), .val (.int ((x0 &&& (2147483647 : Int32)) % (7 : Int32))), .val (.int ca), .val (.int cb), .val (.int (1 : Int32)), .val (.ref b285), .val (.ref b291), .val (.int (((x4.toUInt32 >>> ((1 : Int32) &&& 31).toUInt32).toInt32) &&& (3 : Int32))), .unset, .unset, .unset] []))
            refine Gl.back (fun _ k => XS.iloadN X321.here hx rfl (hb hby at_106) rfl k) ?_
            show Gl _ _ _ _ _ _ _ (T321.setTop (mkF m 107 #[.val (.int x0), .val (.int x1), .val (.int x2), .val (.int x3), .val (.int x4), .val (.int ((x0 &&& (2147483647 : Int32)) % (7 : Int32))), .val (.int ca), .val (.int cb), .val (.int (1 : Int32)), .val (.ref b285), .val (.ref b291), .val (.int (((x4.toUInt32 >>> ((1 : Int32) &&& 31).toUInt32).toInt32) &&& (3 : Int32))), .unset, .unset, .unset] [(.int x3)]))
            refine Gl.back (fun _ k => XS.i2c X321.here hx rfl (hb hby at_107) rfl k) ?_
            show Gl _ _ _ _ _ _ _ (T321.setTop (mkF m 108 #[.val (.int x0), .val (.int x1), .val (.int x2), .val (.int x3), .val (.int x4), .val (.int ((x0 &&& (2147483647 : Int32)) % (7 : Int32))), .val (.int ca), .val (.int cb), .val (.int (1 : Int32)), .val (.ref b285), .val (.ref b291), .val (.int (((x4.toUInt32 >>> ((1 : Int32) &&& 31).toUInt32).toInt32) &&& (3 : Int32))), .unset, .unset, .unset] [(.int (x3.toUInt32.toUInt16.toUInt32.toInt32))]))
            refine Gl.back (fun _ k => XS.istore X321.here hx rfl (hb hby at_108) rfl (l' := #[.val (.int x0), .val (.int x1), .val (.int x2), .val (.int x3), .val (.int x4), .val (.int ((x0 &&& (2147483647 : Int32)) % (7 : Int32))), .val (.int ca), .val (.int cb), .val (.int (1 : Int32)), .val (.ref b285), .val (.ref b291), .val (.int (((x4.toUInt32 >>> ((1 : Int32) &&& 31).toUInt32).toInt32) &&& (3 : Int32))), .val (.int (x3.toUInt32.toUInt16.toUInt32.toInt32)), .unset, .unset]) rfl k) ?_
            show Gl _ _ _ _ _ _ _ (T321.setTop (mkF m 110 #[.val (.int x0), .val (.int x1), .val (.int x2), .val (.int x3), .val (.int x4), .val (.int ((x0 &&& (2147483647 : Int32)) % (7 : Int32))), .val (.int ca), .val (.int cb), .val (.int (1 : Int32)), .val (.ref b285), .val (.ref b291), .val (.int (((x4.toUInt32 >>> ((1 : Int32) &&& 31).toUInt32).toInt32) &&& (3 : Int32))), .val (.int (x3.toUInt32.toUInt16.toUInt32.toInt32)), .unset, .unset] []))
            exact J110 _
      · show Gl _ _ _ _ _ _ _ (T291.setTop (mkF m 68 #[.val (.int x0), .val (.int x1), .val (.int x2), .val (.int x3), .val (.int x4), .val (.int ((x0 &&& (2147483647 : Int32)) % (7 : Int32))), .val (.int ca), .val (.int cb), .val (.int (1 : Int32)), .val (.ref b285), .unset, .unset, .unset, .unset, .unset] [(.ref b285), (.ref b291), (.ref b291)]))
        have f348 := (Vn290.ext E291)
        have hws350 : ∀ d ∈ StrChars.Road.words, d.before a0 Z = true := fun d hd => hw d ((by decide +kernel : ∀ d ∈ StrChars.Road.words, d ∈ tables_1) d hd)
        have hlat350 : ∀ c ∈ [ca, cb], ¬ c < 0 ∧ ¬ (255 : Int32) < c := by
          intro c hc
          simp only [List.mem_cons, List.not_mem_nil, or_false] at hc
          rcases hc with rfl | rfl
          · exact ⟨hcar.1, hA⟩
          · exact ⟨hcbr.1, hB⟩
        obtain ⟨_, _, ⟨T349, L349, k349, n349⟩, -, X349, ⟨Lc349, hQ349, l349, y349, z349⟩, st349⟩ := X291.specialBack hx (y := (⟨"java/lang/String", "<init>", "([C)V"⟩ : MethodName)) rfl hown (mvT hZ (hw _ (List.mem_of_getElem? (i := 5) rfl))) (mvT hZ (hw _ (List.mem_of_getElem? (i := 6) rfl))) (mvT hZ (hw _ (List.mem_of_getElem? (i := 7) rfl))) (by decide) (StrChars.Road.backV (W := 1) hZ hws350 (kI := 4) (hw _ (List.mem_of_getElem? (i := 3) rfl)) (cs := [ca, cb]) (bs := [(ca).toInt8.toInt32, (cb).toInt8.toInt32]) (n := 2) g_b291 Z291 A291 F291_value F291_coder f348 (S_C.ext O291.2) P0 rfl rfl (by decide) (by decide) hlat350 rfl (by decide) (by decide)) (g := (mkF m 68 #[.val (.int x0), .val (.int x1), .val (.int x2), .val (.int x3), .val (.int x4), .val (.int ((x0 &&& (2147483647 : Int32)) % (7 : Int32))), .val (.int ca), .val (.int cb), .val (.int (1 : Int32)), .val (.ref b285), .unset, .unset, .unset, .unset, .unset] [(.ref b285), (.ref b291), (.ref b291)])) rfl (by rw [hml]; rfl) (Steps.refl _) (a := b291) (argsL := [(.ref b285)]) (rest := [(.ref b291)]) (lenOf pd___C_V rfl) rfl (by show 2 * 0 + _ ≤ _; exact Nat.le_of_eq rfl) (hb hby at_68) (fun _ _ => ⟨rfl, e291, (by decide : 2 + 1 ≤ _), (by decide : 6 + 2 ≤ _)⟩)
        dsimp only [Pt.U, Pt.locs, Pt.cells, Pt.slots] at X349 l349 y349 z349 st349 hQ349
        replace l349 := Eq.symm l349
        replace y349 := Eq.symm y349
        replace z349 := Eq.symm z349
        subst l349 y349 z349
        obtain ⟨rfl, Nq349, Kq349, -, Fc349, t349, kb349, Gt349, St349, Nt349, Fv349, Vt349⟩ := hQ349
        have N349 := Fr.app N289 Nq349
        have Kc349 := Keep.trans K291 Kq349 (allS (Or.inr sz_b291) all0)
        have Zc349 : n0 ≤ T349.heap.size := Nat.le_trans Z291 Kq349.1
        have Oc349 := Old.keep O291 Kq349 (allS g_b291 all0)
        have ne_b285_t349 : b285 ≠ t349 := Nat.ne_of_lt (Nat.lt_of_lt_of_le (f348).lt St349)
        have szt349 : h0.size ≤ t349 := Nat.le_trans K291.1 St349
        refine Gl.back (fun _ k => st349.trans k) ?_
        show Gl _ _ _ _ _ _ _ (T349.setTop (mkF m 71 #[.val (.int x0), .val (.int x1), .val (.int x2), .val (.int x3), .val (.int x4), .val (.int ((x0 &&& (2147483647 : Int32)) % (7 : Int32))), .val (.int ca), .val (.int cb), .val (.int (1 : Int32)), .val (.ref b285), .unset, .unset, .unset, .unset, .unset] [(.ref b291)]))
        refine Gl.back (fun _ k => XS.astore X349.here hx rfl (hb hby at_71) rfl rfl (l' := #[.val (.int x0), .val (.int x1), .val (.int x2), .val (.int x3), .val (.int x4), .val (.int ((x0 &&& (2147483647 : Int32)) % (7 : Int32))), .val (.int ca), .val (.int cb), .val (.int (1 : Int32)), .val (.ref b285), .val (.ref b291), .unset, .unset, .unset, .unset]) rfl k) ?_
        show Gl _ _ _ _ _ _ _ (T349.setTop (mkF m 73 #[.val (.int x0), .val (.int x1), .val (.int x2), .val (.int x3), .val (.int x4), .val (.int ((x0 &&& (2147483647 : Int32)) % (7 : Int32))), .val (.int ca), .val (.int cb), .val (.int (1 : Int32)), .val (.ref b285), .val (.ref b291), .unset, .unset, .unset, .unset] []))
        have J110 : ∀ (sym : Int32), Gl p e below s (Q0 Z x0 x1 x2 x3 x4 w_WORD w_QUOTED_NAME w_STRING w_DIGITS w_STRAY w_SYMBOL w_UNCLOSED zc fm h0 n0) room_1.cells room_1.slots (T349.setTop (mkF m 110 #[.val (.int x0), .val (.int x1), .val (.int x2), .val (.int x3), .val (.int x4), .val (.int ((x0 &&& (2147483647 : Int32)) % (7 : Int32))), .val (.int ca), .val (.int cb), .val (.int (1 : Int32)), .val (.ref b285), .val (.ref b291), .val (.int (((x4.toUInt32 >>> ((1 : Int32) &&& 31).toUInt32).toInt32) &&& (3 : Int32))), .val (.int sym), .unset, .unset] [])) := by
          intro sym
          show Gl _ _ _ _ _ _ _ (T349.setTop (mkF m 110 #[.val (.int x0), .val (.int x1), .val (.int x2), .val (.int x3), .val (.int x4), .val (.int ((x0 &&& (2147483647 : Int32)) % (7 : Int32))), .val (.int ca), .val (.int cb), .val (.int (1 : Int32)), .val (.ref b285), .val (.ref b291), .val (.int (((x4.toUInt32 >>> ((1 : Int32) &&& 31).toUInt32).toInt32) &&& (3 : Int32))), .val (.int sym), .unset, .unset] []))
          obtain ⟨T351, h351, X351, e351, E351, A351, D351, -, st351⟩ := newO X349 hx hZ hown (hw _ (List.mem_of_getElem? (i := 31) rfl)) (hw _ (List.mem_of_getElem? (i := 32) rfl)) (hw _ (List.mem_of_getElem? (i := 33) rfl)) rfl (g := (mkF m 110 #[.val (.int x0), .val (.int x1), .val (.int x2), .val (.int x3), .val (.int x4), .val (.int ((x0 &&& (2147483647 : Int32)) % (7 : Int32))), .val (.int ca), .val (.int cb), .val (.int (1 : Int32)), .val (.ref b285), .val (.ref b291), .val (.int (((x4.toUInt32 >>> ((1 : Int32) &&& 31).toUInt32).toInt32) &&& (3 : Int32))), .val (.int sym), .unset, .unset] [])) rfl (hb hby at_110) (by decide) (by decide)
          obtain ⟨b351, g351⟩ : ∃ z, z = T349.heap.size := ⟨_, rfl⟩
          rw [← g351] at A351 D351 st351
          have f352 := (f348.keep Kq349 (ninS ne_b285_b291 nin0))
          have ne_b285_b351 : b285 ≠ b351 := Nat.ne_of_lt (Nat.lt_of_lt_of_le f352.lt (Nat.le_of_eq g351.symm))
          have f353 := (A291.keep Kq349)
          have ne_b291_b351 : b291 ≠ b351 := Nat.ne_of_lt (Nat.lt_of_lt_of_le f353.lt (Nat.le_of_eq g351.symm))
          have ne_t349_b351 : t349 ≠ b351 := Nat.ne_of_lt (Nat.lt_of_lt_of_le Vt349.lt (Nat.le_of_eq g351.symm))
          have g_b351 : n0 ≤ b351 := Nat.le_trans Zc349 (Nat.le_of_eq g351.symm)
          have sz_b351 : h0.size ≤ b351 := Nat.le_trans Kc349.1 (Nat.le_of_eq g351.symm)
          have Z351 : n0 ≤ h351.size := Nat.le_trans Zc349 E351.1
          have K351 := Keep.ext Kc349 E351
          have O351 := Old.ext Oc349 E351
          have F351_kind : Fld Z h351 b351 "com/example/partition_planner/partitionplanner/CqlLexer$Token" "kind" "Lcom/example/partition_planner/partitionplanner/CqlLexer$Kind;" .null := D351 (Or.inr (hw _ (List.mem_of_getElem? (i := 51) rfl))) (ty := (.object "com/example/partition_planner/partitionplanner/CqlLexer$Kind")) (by decide)
          have F351_value : Fld Z h351 b351 "com/example/partition_planner/partitionplanner/CqlLexer$Token" "value" "Ljava/lang/String;" .null := D351 (Or.inr (hw _ (List.mem_of_getElem? (i := 53) rfl))) (ty := (.object "java/lang/String")) (by decide)
          have F351_start : Fld Z h351 b351 "com/example/partition_planner/partitionplanner/CqlLexer$Token" "start" "I" (.int (0 : Int32)) := D351 (Or.inr (hw _ (List.mem_of_getElem? (i := 55) rfl))) (ty := .int) (by decide)
          have F351_end : Fld Z h351 b351 "com/example/partition_planner/partitionplanner/CqlLexer$Token" "end" "I" (.int (0 : Int32)) := D351 (Or.inr (hw _ (List.mem_of_getElem? (i := 57) rfl))) (ty := .int) (by decide)
          have F351_line : Fld Z h351 b351 "com/example/partition_planner/partitionplanner/CqlLexer$Token" "line" "I" (.int (0 : Int32)) := D351 (Or.inr (hw _ (List.mem_of_getElem? (i := 59) rfl))) (ty := .int) (by decide)
          refine Gl.back (fun _ k => st351 _ k) ?_
          show Gl _ _ _ _ _ _ _ (T351.setTop (mkF m 113 #[.val (.int x0), .val (.int x1), .val (.int x2), .val (.int x3), .val (.int x4), .val (.int ((x0 &&& (2147483647 : Int32)) % (7 : Int32))), .val (.int ca), .val (.int cb), .val (.int (1 : Int32)), .val (.ref b285), .val (.ref b291), .val (.int (((x4.toUInt32 >>> ((1 : Int32) &&& 31).toUInt32).toInt32) &&& (3 : Int32))), .val (.int sym), .unset, .unset] [(.ref b351)]))
          refine Gl.back (fun _ k => XS.dup X351.here hx rfl (hb hby at_113) rfl rfl k) ?_
          show Gl _ _ _ _ _ _ _ (T351.setTop (mkF m 114 #[.val (.int x0), .val (.int x1), .val (.int x2), .val (.int x3), .val (.int x4), .val (.int ((x0 &&& (2147483647 : Int32)) % (7 : Int32))), .val (.int ca), .val (.int cb), .val (.int (1 : Int32)), .val (.ref b285), .val (.ref b291), .val (.int (((x4.toUInt32 >>> ((1 : Int32) &&& 31).toUInt32).toInt32) &&& (3 : Int32))), .val (.int sym), .unset, .unset] [(.ref b351), (.ref b351)]))
          refine Gl.back (fun _ k => XS.iload X351.here hx rfl (hb hby at_114) rfl k) ?_
          show Gl _ _ _ _ _ _ _ (T351.setTop (mkF m 116 #[.val (.int x0), .val (.int x1), .val (.int x2), .val (.int x3), .val (.int x4), .val (.int ((x0 &&& (2147483647 : Int32)) % (7 : Int32))), .val (.int ca), .val (.int cb), .val (.int (1 : Int32)), .val (.ref b285), .val (.ref b291), .val (.int (((x4.toUInt32 >>> ((1 : Int32) &&& 31).toUInt32).toInt32) &&& (3 : Int32))), .val (.int sym), .unset, .unset] [(.int ((x0 &&& (2147483647 : Int32)) % (7 : Int32))), (.ref b351), (.ref b351)]))
          obtain ⟨_, _, ⟨T354, L354, k354, n354⟩, -, X354, ⟨Lc354, hQ354, l354, y354, z354⟩, st354⟩ := Jvm.LawKit.callS X351 hx (y := (⟨"com/example/partition_planner/partitionplanner/TokenIsSymbolPinLaw", "kindOf", "(I)Lcom/example/partition_planner/partitionplanner/CqlLexer$Kind;"⟩ : MethodName)) hown (mvT hZ (hw _ (List.mem_of_getElem? (i := 34) rfl))) (mvT hZ (hw _ (List.mem_of_getElem? (i := 35) rfl))) (mvT hZ (hw _ (List.mem_of_getElem? (i := 36) rfl))) (mvT hZ (hw _ (List.mem_of_getElem? (i := 37) rfl))) (by decide) (backOf (W := 2) (rmkind l Z a0 hw [] ((x0 &&& (2147483647 : Int32)) % (7 : Int32)) w_WORD w_QUOTED_NAME w_STRING w_DIGITS w_STRAY w_SYMBOL w_UNCLOSED h351 n0 Z351 O351 S_WORD S_QUOTED_NAME S_STRING S_DIGITS S_STRAY S_SYMBOL S_UNCLOSED ne_WORD ne_QUOTED_NAME ne_STRING ne_DIGITS ne_STRAY ne_UNCLOSED) hZ (hw _ (List.mem_of_getElem? (i := 37) rfl)) (hw _ (List.mem_of_getElem? (i := 36) rfl)) (by decide) (by decide)) (g := (mkF m 116 #[.val (.int x0), .val (.int x1), .val (.int x2), .val (.int x3), .val (.int x4), .val (.int ((x0 &&& (2147483647 : Int32)) % (7 : Int32))), .val (.int ca), .val (.int cb), .val (.int (1 : Int32)), .val (.ref b285), .val (.ref b291), .val (.int (((x4.toUInt32 >>> ((1 : Int32) &&& 31).toUInt32).toInt32) &&& (3 : Int32))), .val (.int sym), .unset, .unset] [(.int ((x0 &&& (2147483647 : Int32)) % (7 : Int32))), (.ref b351), (.ref b351)])) rfl (by rw [hml]; rfl) (argsL := [(.int ((x0 &&& (2147483647 : Int32)) % (7 : Int32)))]) (rest := [(.ref b351), (.ref b351)]) (lenOf pd__I_Lcom_example_partition_planner_partitionplanner_CqlLexer_Kind_ rfl) rfl (by show 2 * 0 + _ ≤ _; exact Nat.le_of_eq rfl) (hb hby at_116) (fun _ _ => ⟨rfl, e351, (by decide : 4 + 0 ≤ _), (by decide : 13 + 0 ≤ _)⟩)
          dsimp only [Pt.U, Pt.locs, Pt.cells, Pt.slots] at X354 l354 y354 z354 st354 hQ354
          replace l354 := Eq.symm l354
          replace y354 := Eq.symm y354
          replace z354 := Eq.symm z354
          subst l354 y354 z354
          obtain ⟨Nq354, wk354, rfl, hk1354, hk2354, eh354⟩ := hQ354
          have N354 := Fr.app N349 Nq354
          refine Gl.back (fun _ k => st354 _ k) ?_
          show Gl _ _ _ _ _ _ _ (T354.setTop (mkF m 119 #[.val (.int x0), .val (.int x1), .val (.int x2), .val (.int x3), .val (.int x4), .val (.int ((x0 &&& (2147483647 : Int32)) % (7 : Int32))), .val (.int ca), .val (.int cb), .val (.int (1 : Int32)), .val (.ref b285), .val (.ref b291), .val (.int (((x4.toUInt32 >>> ((1 : Int32) &&& 31).toUInt32).toInt32) &&& (3 : Int32))), .val (.int sym), .unset, .unset] [(.ref wk354), (.ref b351), (.ref b351)]))
          refine Gl.back (fun _ k => XS.aload X354.here hx rfl (hb hby at_119) rfl rfl k) ?_
          show Gl _ _ _ _ _ _ _ (T354.setTop (mkF m 121 #[.val (.int x0), .val (.int x1), .val (.int x2), .val (.int x3), .val (.int x4), .val (.int ((x0 &&& (2147483647 : Int32)) % (7 : Int32))), .val (.int ca), .val (.int cb), .val (.int (1 : Int32)), .val (.ref b285), .val (.ref b291), .val (.int (((x4.toUInt32 >>> ((1 : Int32) &&& 31).toUInt32).toInt32) &&& (3 : Int32))), .val (.int sym), .unset, .unset] [(.ref b291), (.ref wk354), (.ref b351), (.ref b351)]))
          refine Gl.back (fun _ k => XS.iconst X354.here hx rfl (hb hby at_121) k) ?_
          show Gl _ _ _ _ _ _ _ (T354.setTop (mkF m 122 #[.val (.int x0), .val (.int x1), .val (.int x2), .val (.int x3), .val (.int x4), .val (.int ((x0 &&& (2147483647 : Int32)) % (7 : Int32))), .val (.int ca), .val (.int cb), .val (.int (1 : Int32)), .val (.ref b285), .val (.ref b291), .val (.int (((x4.toUInt32 >>> ((1 : Int32) &&& 31).toUInt32).toInt32) &&& (3 : Int32))), .val (.int sym), .unset, .unset] [(.int (0 : Int32)), (.ref b291), (.ref wk354), (.ref b351), (.ref b351)]))
          refine Gl.back (fun _ k => XS.aload X354.here hx rfl (hb hby at_122) rfl rfl k) ?_
          show Gl _ _ _ _ _ _ _ (T354.setTop (mkF m 124 #[.val (.int x0), .val (.int x1), .val (.int x2), .val (.int x3), .val (.int x4), .val (.int ((x0 &&& (2147483647 : Int32)) % (7 : Int32))), .val (.int ca), .val (.int cb), .val (.int (1 : Int32)), .val (.ref b285), .val (.ref b291), .val (.int (((x4.toUInt32 >>> ((1 : Int32) &&& 31).toUInt32).toInt32) &&& (3 : Int32))), .val (.int sym), .unset, .unset] [(.ref b285), (.int (0 : Int32)), (.ref b291), (.ref wk354), (.ref b351), (.ref b351)]))
          have f355 := (f352.ext E351)
          obtain ⟨cl356, Ar356, -, Sz356, Nn356, -, -⟩ := id f355
          refine Gl.back (fun _ k => X354.arraylength hx (by rw [eh354]; exact Ar356.1) (State.isArrayOf_alike hZ.alike Ar356.2.1) (g := (mkF m 124 #[.val (.int x0), .val (.int x1), .val (.int x2), .val (.int x3), .val (.int x4), .val (.int ((x0 &&& (2147483647 : Int32)) % (7 : Int32))), .val (.int ca), .val (.int cb), .val (.int (1 : Int32)), .val (.ref b285), .val (.ref b291), .val (.int (((x4.toUInt32 >>> ((1 : Int32) &&& 31).toUInt32).toInt32) &&& (3 : Int32))), .val (.int sym), .unset, .unset] [(.ref b285), (.int (0 : Int32)), (.ref b291), (.ref wk354), (.ref b351), (.ref b351)])) rfl rfl (hb hby at_124) _ k) ?_
          rw [len_of Sz356 Nn356]
          show Gl _ _ _ _ _ _ _ (T354.setTop (mkF m 125 #[.val (.int x0), .val (.int x1), .val (.int x2), .val (.int x3), .val (.int x4), .val (.int ((x0 &&& (2147483647 : Int32)) % (7 : Int32))), .val (.int ca), .val (.int cb), .val (.int (1 : Int32)), .val (.ref b285), .val (.ref b291), .val (.int (((x4.toUInt32 >>> ((1 : Int32) &&& 31).toUInt32).toInt32) &&& (3 : Int32))), .val (.int sym), .unset, .unset] [(.int (2 : Int32)), (.int (0 : Int32)), (.ref b291), (.ref wk354), (.ref b351), (.ref b351)]))
          refine Gl.back (fun _ k => XS.iconst X354.here hx rfl (hb hby at_125) k) ?_
          show Gl _ _ _ _ _ _ _ (T354.setTop (mkF m 126 #[.val (.int x0), .val (.int x1), .val (.int x2), .val (.int x3), .val (.int x4), .val (.int ((x0 &&& (2147483647 : Int32)) % (7 : Int32))), .val (.int ca), .val (.int cb), .val (.int (1 : Int32)), .val (.ref b285), .val (.ref b291), .val (.int (((x4.toUInt32 >>> ((1 : Int32) &&& 31).toUInt32).toInt32) &&& (3 : Int32))), .val (.int sym), .unset, .unset] [(.int (1 : Int32)), (.int (2 : Int32)), (.int (0 : Int32)), (.ref b291), (.ref wk354), (.ref b351), (.ref b351)]))
          obtain ⟨_, _, ⟨T357, L357, k357, n357⟩, -, X357, ⟨Lc357, hQ357, l357, y357, z357⟩, st357⟩ := X354.specialBack hx (y := (⟨"com/example/partition_planner/partitionplanner/CqlLexer$Token", "<init>", "(Lcom/example/partition_planner/partitionplanner/CqlLexer$Kind;Ljava/lang/String;III)V"⟩ : MethodName)) rfl hown (mvT hZ (hw _ (List.mem_of_getElem? (i := 41) rfl))) (mvT hZ (hw _ (List.mem_of_getElem? (i := 42) rfl))) (mvT hZ (hw _ (List.mem_of_getElem? (i := 43) rfl))) (by decide) (backOf (W := 1) (rmtok l Z a0 hw [] b351 wk354 b291 (0 : Int32) (2 : Int32) (1 : Int32)  h351 n0 Z351 g_b351 A351 F351_kind F351_value F351_start F351_end F351_line) hZ (hw _ (List.mem_of_getElem? (i := 43) rfl)) (hw _ (List.mem_of_getElem? (i := 33) rfl)) (by decide) (by decide)) (g := (mkF m 126 #[.val (.int x0), .val (.int x1), .val (.int x2), .val (.int x3), .val (.int x4), .val (.int ((x0 &&& (2147483647 : Int32)) % (7 : Int32))), .val (.int ca), .val (.int cb), .val (.int (1 : Int32)), .val (.ref b285), .val (.ref b291), .val (.int (((x4.toUInt32 >>> ((1 : Int32) &&& 31).toUInt32).toInt32) &&& (3 : Int32))), .val (.int sym), .unset, .unset] [(.int (1 : Int32)), (.int (2 : Int32)), (.int (0 : Int32)), (.ref b291), (.ref wk354), (.ref b351), (.ref b351)])) rfl (by rw [hml]; rfl) (Steps.refl _) (a := b351) (argsL := [(.ref wk354), (.ref b291), (.int (0 : Int32)), (.int (2 : Int32)), (.int (1 : Int32))]) (rest := [(.ref b351)]) (lenOf pd__Lcom_example_partition_planner_partitionplanner_CqlLexer_Kind_Ljava_lang_String_III_V rfl) rfl (by show 2 * 0 + _ ≤ _; exact Nat.le_of_eq rfl) (hb hby at_126) (fun _ _ => ⟨rfl, eh354, (by decide : 4 + 0 ≤ _), (by decide : 13 + 0 ≤ _)⟩)
          dsimp only [Pt.U, Pt.locs, Pt.cells, Pt.slots] at X357 l357 y357 z357 st357 hQ357
          replace l357 := Eq.symm l357
          replace y357 := Eq.symm y357
          replace z357 := Eq.symm z357
          subst l357 y357 z357
          obtain ⟨Nq357, rfl, Kq357, Fk357, Fv357⟩ := hQ357
          have N357 := Fr.app N354 Nq357
          have Kc357 := Keep.trans K351 Kq357 (allS (Or.inr sz_b351) all0)
          have Zc357 : n0 ≤ T357.heap.size := Nat.le_trans Z351 Kq357.1
          have Oc357 := Old.keep O351 Kq357 (allS g_b351 all0)
          refine Gl.back (fun _ k => st357.trans k) ?_
          show Gl _ _ _ _ _ _ _ (T357.setTop (mkF m 129 #[.val (.int x0), .val (.int x1), .val (.int x2), .val (.int x3), .val (.int x4), .val (.int ((x0 &&& (2147483647 : Int32)) % (7 : Int32))), .val (.int ca), .val (.int cb), .val (.int (1 : Int32)), .val (.ref b285), .val (.ref b291), .val (.int (((x4.toUInt32 >>> ((1 : Int32) &&& 31).toUInt32).toInt32) &&& (3 : Int32))), .val (.int sym), .unset, .unset] [(.ref b351)]))
          refine Gl.back (fun _ k => XS.astore X357.here hx rfl (hb hby at_129) rfl rfl (l' := #[.val (.int x0), .val (.int x1), .val (.int x2), .val (.int x3), .val (.int x4), .val (.int ((x0 &&& (2147483647 : Int32)) % (7 : Int32))), .val (.int ca), .val (.int cb), .val (.int (1 : Int32)), .val (.ref b285), .val (.ref b291), .val (.int (((x4.toUInt32 >>> ((1 : Int32) &&& 31).toUInt32).toInt32) &&& (3 : Int32))), .val (.int sym), .val (.ref b351), .unset]) rfl k) ?_
          show Gl _ _ _ _ _ _ _ (T357.setTop (mkF m 131 #[.val (.int x0), .val (.int x1), .val (.int x2), .val (.int x3), .val (.int x4), .val (.int ((x0 &&& (2147483647 : Int32)) % (7 : Int32))), .val (.int ca), .val (.int cb), .val (.int (1 : Int32)), .val (.ref b285), .val (.ref b291), .val (.int (((x4.toUInt32 >>> ((1 : Int32) &&& 31).toUInt32).toInt32) &&& (3 : Int32))), .val (.int sym), .val (.ref b351), .unset] []))
          refine Gl.back (fun _ k => XS.iload X357.here hx rfl (hb hby at_131) rfl k) ?_
          show Gl _ _ _ _ _ _ _ (T357.setTop (mkF m 133 #[.val (.int x0), .val (.int x1), .val (.int x2), .val (.int x3), .val (.int x4), .val (.int ((x0 &&& (2147483647 : Int32)) % (7 : Int32))), .val (.int ca), .val (.int cb), .val (.int (1 : Int32)), .val (.ref b285), .val (.ref b291), .val (.int (((x4.toUInt32 >>> ((1 : Int32) &&& 31).toUInt32).toInt32) &&& (3 : Int32))), .val (.int sym), .val (.ref b351), .unset] [(.int ((x0 &&& (2147483647 : Int32)) % (7 : Int32)))]))
          refine Gl.back (fun _ k => XS.iconst X357.here hx rfl (hb hby at_133) k) ?_
          show Gl _ _ _ _ _ _ _ (T357.setTop (mkF m 134 #[.val (.int x0), .val (.int x1), .val (.int x2), .val (.int x3), .val (.int x4), .val (.int ((x0 &&& (2147483647 : Int32)) % (7 : Int32))), .val (.int ca), .val (.int cb), .val (.int (1 : Int32)), .val (.ref b285), .val (.ref b291), .val (.int (((x4.toUInt32 >>> ((1 : Int32) &&& 31).toUInt32).toInt32) &&& (3 : Int32))), .val (.int sym), .val (.ref b351), .unset] [(.int (5 : Int32)), (.int ((x0 &&& (2147483647 : Int32)) % (7 : Int32)))]))
          by_cases hc134_358 : ((x0 &&& (2147483647 : Int32)) % (7 : Int32)) = (5 : Int32)
          · refine Gl.back (fun _ k => XS.icmpNo X357.here hx rfl (hb hby at_134) rfl (teq hc134_358).2 k) ?_
            show Gl _ _ _ _ _ _ _ (T357.setTop (mkF m 137 #[.val (.int x0), .val (.int x1), .val (.int x2), .val (.int x3), .val (.int x4), .val (.int ((x0 &&& (2147483647 : Int32)) % (7 : Int32))), .val (.int ca), .val (.int cb), .val (.int (1 : Int32)), .val (.ref b285), .val (.ref b291), .val (.int (((x4.toUInt32 >>> ((1 : Int32) &&& 31).toUInt32).toInt32) &&& (3 : Int32))), .val (.int sym), .val (.ref b351), .unset] []))
            refine Gl.back (fun _ k => XS.iload X357.here hx rfl (hb hby at_137) rfl k) ?_
            show Gl _ _ _ _ _ _ _ (T357.setTop (mkF m 139 #[.val (.int x0), .val (.int x1), .val (.int x2), .val (.int x3), .val (.int x4), .val (.int ((x0 &&& (2147483647 : Int32)) % (7 : Int32))), .val (.int ca), .val (.int cb), .val (.int (1 : Int32)), .val (.ref b285), .val (.ref b291), .val (.int (((x4.toUInt32 >>> ((1 : Int32) &&& 31).toUInt32).toInt32) &&& (3 : Int32))), .val (.int sym), .val (.ref b351), .unset] [(.int ca)]))
            refine Gl.back (fun _ k => XS.iload X357.here hx rfl (hb hby at_139) rfl k) ?_
            show Gl _ _ _ _ _ _ _ (T357.setTop (mkF m 141 #[.val (.int x0), .val (.int x1), .val (.int x2), .val (.int x3), .val (.int x4), .val (.int ((x0 &&& (2147483647 : Int32)) % (7 : Int32))), .val (.int ca), .val (.int cb), .val (.int (1 : Int32)), .val (.ref b285), .val (.ref b291), .val (.int (((x4.toUInt32 >>> ((1 : Int32) &&& 31).toUInt32).toInt32) &&& (3 : Int32))), .val (.int sym), .val (.ref b351), .unset] [(.int sym), (.int ca)]))
            by_cases hc141_359 : ca = sym
            · refine Gl.back (fun _ k => XS.icmpNo X357.here hx rfl (hb hby at_141) rfl (teq hc141_359).2 k) ?_
              show Gl _ _ _ _ _ _ _ (T357.setTop (mkF m 144 #[.val (.int x0), .val (.int x1), .val (.int x2), .val (.int x3), .val (.int x4), .val (.int ((x0 &&& (2147483647 : Int32)) % (7 : Int32))), .val (.int ca), .val (.int cb), .val (.int (1 : Int32)), .val (.ref b285), .val (.ref b291), .val (.int (((x4.toUInt32 >>> ((1 : Int32) &&& 31).toUInt32).toInt32) &&& (3 : Int32))), .val (.int sym), .val (.ref b351), .unset] []))
              refine Gl.back (fun _ k => XS.iconst X357.here hx rfl (hb hby at_144) k) ?_
              show Gl _ _ _ _ _ _ _ (T357.setTop (mkF m 145 #[.val (.int x0), .val (.int x1), .val (.int x2), .val (.int x3), .val (.int x4), .val (.int ((x0 &&& (2147483647 : Int32)) % (7 : Int32))), .val (.int ca), .val (.int cb), .val (.int (1 : Int32)), .val (.ref b285), .val (.ref b291), .val (.int (((x4.toUInt32 >>> ((1 : Int32) &&& 31).toUInt32).toInt32) &&& (3 : Int32))), .val (.int sym), .val (.ref b351), .unset] [(.int (1 : Int32))]))
              refine Gl.back (fun _ k => XS.goto X357.here hx rfl (pc0 := 145) (pc' := 149) rfl (hb hby at_145) (by decide) (by decide) k) ?_
              show Gl _ _ _ _ _ _ _ (T357.setTop (mkF m 149 #[.val (.int x0), .val (.int x1), .val (.int x2), .val (.int x3), .val (.int x4), .val (.int ((x0 &&& (2147483647 : Int32)) % (7 : Int32))), .val (.int ca), .val (.int cb), .val (.int (1 : Int32)), .val (.ref b285), .val (.ref b291), .val (.int (((x4.toUInt32 >>> ((1 : Int32) &&& 31).toUInt32).toInt32) &&& (3 : Int32))), .val (.int sym), .val (.ref b351), .unset] [(.int (1 : Int32))]))
              refine Gl.back (fun _ k => XS.istore X357.here hx rfl (hb hby at_149) rfl (l' := #[.val (.int x0), .val (.int x1), .val (.int x2), .val (.int x3), .val (.int x4), .val (.int ((x0 &&& (2147483647 : Int32)) % (7 : Int32))), .val (.int ca), .val (.int cb), .val (.int (1 : Int32)), .val (.ref b285), .val (.ref b291), .val (.int (((x4.toUInt32 >>> ((1 : Int32) &&& 31).toUInt32).toInt32) &&& (3 : Int32))), .val (.int sym), .val (.ref b351), .val (.int (1 : Int32))]) rfl k) ?_
              show Gl _ _ _ _ _ _ _ (T357.setTop (mkF m 151 #[.val (.int x0), .val (.int x1), .val (.int x2), .val (.int x3), .val (.int x4), .val (.int ((x0 &&& (2147483647 : Int32)) % (7 : Int32))), .val (.int ca), .val (.int cb), .val (.int (1 : Int32)), .val (.ref b285), .val (.ref b291), .val (.int (((x4.toUInt32 >>> ((1 : Int32) &&& 31).toUInt32).toInt32) &&& (3 : Int32))), .val (.int sym), .val (.ref b351), .val (.int (1 : Int32))] []))
              refine Gl.back (fun _ k => XS.aload X357.here hx rfl (hb hby at_151) rfl rfl k) ?_
              show Gl _ _ _ _ _ _ _ (T357.setTop (mkF m 153 #[.val (.int x0), .val (.int x1), .val (.int x2), .val (.int x3), .val (.int x4), .val (.int ((x0 &&& (2147483647 : Int32)) % (7 : Int32))), .val (.int ca), .val (.int cb), .val (.int (1 : Int32)), .val (.ref b285), .val (.ref b291), .val (.int (((x4.toUInt32 >>> ((1 : Int32) &&& 31).toUInt32).toInt32) &&& (3 : Int32))), .val (.int sym), .val (.ref b351), .val (.int (1 : Int32))] [(.ref b351)]))
              refine Gl.back (fun _ k => XS.iload X357.here hx rfl (hb hby at_153) rfl k) ?_
              show Gl _ _ _ _ _ _ _ (T357.setTop (mkF m 155 #[.val (.int x0), .val (.int x1), .val (.int x2), .val (.int x3), .val (.int x4), .val (.int ((x0 &&& (2147483647 : Int32)) % (7 : Int32))), .val (.int ca), .val (.int cb), .val (.int (1 : Int32)), .val (.ref b285), .val (.ref b291), .val (.int (((x4.toUInt32 >>> ((1 : Int32) &&& 31).toUInt32).toInt32) &&& (3 : Int32))), .val (.int sym), .val (.ref b351), .val (.int (1 : Int32))] [(.int sym), (.ref b351)]))
              have hks := hk1354 hc134_358
              have f361 := ((f353.ext E351).keep Kq357)
              have f362 := ((Fc349.ext E351).keep Kq357 (ninS ne_b291_b351 nin0))
              have f363 := ((Fv349.ext E351).keep Kq357 (ninS ne_b291_b351 nin0))
              have f364 := ((Vt349.ext E351).keep Kq357 (ninS ne_t349_b351 nin0))
              have f365 := (A351.keep Kq357)
              obtain ⟨cq360, kq360, q360a, q360b, q360c⟩ := isOf hZ rfl f365
              obtain ⟨_, _, ⟨T360, L360, k360, n360⟩, -, X360, ⟨Lc360, hQ360, l360, y360, z360⟩, st360⟩ := X357.virtualBack hx (y := (⟨"com/example/partition_planner/partitionplanner/CqlLexer$Token", "isSymbol", "(C)Z"⟩ : MethodName)) (z := (⟨"com/example/partition_planner/partitionplanner/CqlLexer$Token", "isSymbol", "(C)Z"⟩ : MethodName)) hown (mvT hZ (hw _ (List.mem_of_getElem? (i := 60) rfl))) (mvT hZ (hw _ (List.mem_of_getElem? (i := 61) rfl))) (notFace_of_selects (args := #[]) (mvT hZ (hw _ (List.mem_of_getElem? (i := 63) rfl)))) (mvT hZ (hw _ (List.mem_of_getElem? (i := 63) rfl))) (mvT hZ (hw _ (List.mem_of_getElem? (i := 62) rfl))) (by decide) (backOf (W := 0) (rmsymL_2 l Z a0 hw [] b351 sym b291 t349 w_SYMBOL kb349 ca cb zc fm T357.heap n0 Zc357 Oc357 S_C P0 S_F hfm S_SYMBOL (hks ▸ Fk357) Fv357 f361 f362 f363 f364 (own_lat2 ⟨hcar.1, hA⟩ ⟨hcbr.1, hB⟩)) hZ (hw _ (List.mem_of_getElem? (i := 64) rfl)) (hw _ (List.mem_of_getElem? (i := 33) rfl)) (by decide) (by decide)) q360a q360c (g := (mkF m 155 #[.val (.int x0), .val (.int x1), .val (.int x2), .val (.int x3), .val (.int x4), .val (.int ((x0 &&& (2147483647 : Int32)) % (7 : Int32))), .val (.int ca), .val (.int cb), .val (.int (1 : Int32)), .val (.ref b285), .val (.ref b291), .val (.int (((x4.toUInt32 >>> ((1 : Int32) &&& 31).toUInt32).toInt32) &&& (3 : Int32))), .val (.int sym), .val (.ref b351), .val (.int (1 : Int32))] [(.int sym), (.ref b351)])) rfl (by rw [hml]; rfl) (Steps.refl _) (argsL := [(.int sym)]) (rest := []) (lenOf pd__C_Z rfl) rfl (by show 2 * 0 + _ ≤ _; exact Nat.le_of_eq rfl) (hb hby at_155) (fun _ _ => ⟨rfl, rfl, (by decide : 4 + 0 ≤ _), (by decide : 13 + 0 ≤ _)⟩)
              dsimp only [Pt.U, Pt.locs, Pt.cells, Pt.slots] at X360 l360 y360 z360 st360 hQ360
              replace l360 := Eq.symm l360
              replace y360 := Eq.symm y360
              replace z360 := Eq.symm z360
              subst l360 y360 z360
              obtain ⟨Nq360, hQ360⟩ := hQ360
              rcases hQ360 with ⟨rfl, eh360, hy360⟩ | ⟨rfl, eh360, hy360⟩
              · have N360 := Fr.app N357 Nq360
                refine Gl.back (fun _ k => st360.trans k) ?_
                show Gl _ _ _ _ _ _ _ (T360.setTop (mkF m 158 #[.val (.int x0), .val (.int x1), .val (.int x2), .val (.int x3), .val (.int x4), .val (.int ((x0 &&& (2147483647 : Int32)) % (7 : Int32))), .val (.int ca), .val (.int cb), .val (.int (1 : Int32)), .val (.ref b285), .val (.ref b291), .val (.int (((x4.toUInt32 >>> ((1 : Int32) &&& 31).toUInt32).toInt32) &&& (3 : Int32))), .val (.int sym), .val (.ref b351), .val (.int (1 : Int32))] [(.int (1 : Int32))]))
                refine Gl.back (fun _ k => XS.iload X360.here hx rfl (hb hby at_158) rfl k) ?_
                show Gl _ _ _ _ _ _ _ (T360.setTop (mkF m 160 #[.val (.int x0), .val (.int x1), .val (.int x2), .val (.int x3), .val (.int x4), .val (.int ((x0 &&& (2147483647 : Int32)) % (7 : Int32))), .val (.int ca), .val (.int cb), .val (.int (1 : Int32)), .val (.ref b285), .val (.ref b291), .val (.int (((x4.toUInt32 >>> ((1 : Int32) &&& 31).toUInt32).toInt32) &&& (3 : Int32))), .val (.int sym), .val (.ref b351), .val (.int (1 : Int32))] [(.int (1 : Int32)), (.int (1 : Int32))]))
                refine Gl.back (fun _ k => XS.icmpNo X360.here hx rfl (hb hby at_160) rfl (teq (rfl : (1 : Int32) = (1 : Int32))).2 k) ?_
                show Gl _ _ _ _ _ _ _ (T360.setTop (mkF m 163 #[.val (.int x0), .val (.int x1), .val (.int x2), .val (.int x3), .val (.int x4), .val (.int ((x0 &&& (2147483647 : Int32)) % (7 : Int32))), .val (.int ca), .val (.int cb), .val (.int (1 : Int32)), .val (.ref b285), .val (.ref b291), .val (.int (((x4.toUInt32 >>> ((1 : Int32) &&& 31).toUInt32).toInt32) &&& (3 : Int32))), .val (.int sym), .val (.ref b351), .val (.int (1 : Int32))] []))
                refine Gl.back (fun _ k => XS.iconst X360.here hx rfl (hb hby at_163) k) ?_
                show Gl _ _ _ _ _ _ _ (T360.setTop (mkF m 164 #[.val (.int x0), .val (.int x1), .val (.int x2), .val (.int x3), .val (.int x4), .val (.int ((x0 &&& (2147483647 : Int32)) % (7 : Int32))), .val (.int ca), .val (.int cb), .val (.int (1 : Int32)), .val (.ref b285), .val (.ref b291), .val (.int (((x4.toUInt32 >>> ((1 : Int32) &&& 31).toUInt32).toInt32) &&& (3 : Int32))), .val (.int sym), .val (.ref b351), .val (.int (1 : Int32))] [(.int (1 : Int32))]))
                refine Gl.back (fun _ k => XS.goto X360.here hx rfl (pc0 := 164) (pc' := 168) rfl (hb hby at_164) (by decide) (by decide) k) ?_
                show Gl _ _ _ _ _ _ _ (T360.setTop (mkF m 168 #[.val (.int x0), .val (.int x1), .val (.int x2), .val (.int x3), .val (.int x4), .val (.int ((x0 &&& (2147483647 : Int32)) % (7 : Int32))), .val (.int ca), .val (.int cb), .val (.int (1 : Int32)), .val (.ref b285), .val (.ref b291), .val (.int (((x4.toUInt32 >>> ((1 : Int32) &&& 31).toUInt32).toInt32) &&& (3 : Int32))), .val (.int sym), .val (.ref b351), .val (.int (1 : Int32))] [(.int (1 : Int32))]))
                exact Gl.ret X360 eh360 (v := (some (.int (1 : Int32)))) (fun h => by rw [Bd.returns] at h; cases h) Bd.notSynchronized (fun fs hr => retN X360 hx (t := .boolean) (z := (1 : Int32)) Bd.returns (by simp) (hb hby at_168) hr) ⟨N360, rfl⟩ (by decide) (by decide)
              · have N360 := Fr.app N357 Nq360
                refine Gl.back (fun _ k => st360.trans k) ?_
                show Gl _ _ _ _ _ _ _ (T360.setTop (mkF m 158 #[.val (.int x0), .val (.int x1), .val (.int x2), .val (.int x3), .val (.int x4), .val (.int ((x0 &&& (2147483647 : Int32)) % (7 : Int32))), .val (.int ca), .val (.int cb), .val (.int (1 : Int32)), .val (.ref b285), .val (.ref b291), .val (.int (((x4.toUInt32 >>> ((1 : Int32) &&& 31).toUInt32).toInt32) &&& (3 : Int32))), .val (.int sym), .val (.ref b351), .val (.int (1 : Int32))] [(.int (0 : Int32))]))
                refine Gl.back (fun _ k => XS.iload X360.here hx rfl (hb hby at_158) rfl k) ?_
                show Gl _ _ _ _ _ _ _ (T360.setTop (mkF m 160 #[.val (.int x0), .val (.int x1), .val (.int x2), .val (.int x3), .val (.int x4), .val (.int ((x0 &&& (2147483647 : Int32)) % (7 : Int32))), .val (.int ca), .val (.int cb), .val (.int (1 : Int32)), .val (.ref b285), .val (.ref b291), .val (.int (((x4.toUInt32 >>> ((1 : Int32) &&& 31).toUInt32).toInt32) &&& (3 : Int32))), .val (.int sym), .val (.ref b351), .val (.int (1 : Int32))] [(.int (1 : Int32)), (.int (0 : Int32))]))
                refine Gl.back (fun _ k => XS.icmpNo X360.here hx rfl (hb hby at_160) rfl (teq (absurd hc141_359 (hy360) : (0 : Int32) = (1 : Int32))).2 k) ?_
                show Gl _ _ _ _ _ _ _ (T360.setTop (mkF m 163 #[.val (.int x0), .val (.int x1), .val (.int x2), .val (.int x3), .val (.int x4), .val (.int ((x0 &&& (2147483647 : Int32)) % (7 : Int32))), .val (.int ca), .val (.int cb), .val (.int (1 : Int32)), .val (.ref b285), .val (.ref b291), .val (.int (((x4.toUInt32 >>> ((1 : Int32) &&& 31).toUInt32).toInt32) &&& (3 : Int32))), .val (.int sym), .val (.ref b351), .val (.int (1 : Int32))] []))
                refine Gl.back (fun _ k => XS.iconst X360.here hx rfl (hb hby at_163) k) ?_
                show Gl _ _ _ _ _ _ _ (T360.setTop (mkF m 164 #[.val (.int x0), .val (.int x1), .val (.int x2), .val (.int x3), .val (.int x4), .val (.int ((x0 &&& (2147483647 : Int32)) % (7 : Int32))), .val (.int ca), .val (.int cb), .val (.int (1 : Int32)), .val (.ref b285), .val (.ref b291), .val (.int (((x4.toUInt32 >>> ((1 : Int32) &&& 31).toUInt32).toInt32) &&& (3 : Int32))), .val (.int sym), .val (.ref b351), .val (.int (1 : Int32))] [(.int (1 : Int32))]))
                refine Gl.back (fun _ k => XS.goto X360.here hx rfl (pc0 := 164) (pc' := 168) rfl (hb hby at_164) (by decide) (by decide) k) ?_
                show Gl _ _ _ _ _ _ _ (T360.setTop (mkF m 168 #[.val (.int x0), .val (.int x1), .val (.int x2), .val (.int x3), .val (.int x4), .val (.int ((x0 &&& (2147483647 : Int32)) % (7 : Int32))), .val (.int ca), .val (.int cb), .val (.int (1 : Int32)), .val (.ref b285), .val (.ref b291), .val (.int (((x4.toUInt32 >>> ((1 : Int32) &&& 31).toUInt32).toInt32) &&& (3 : Int32))), .val (.int sym), .val (.ref b351), .val (.int (1 : Int32))] [(.int (1 : Int32))]))
                exact Gl.ret X360 eh360 (v := (some (.int (1 : Int32)))) (fun h => by rw [Bd.returns] at h; cases h) Bd.notSynchronized (fun fs hr => retN X360 hx (t := .boolean) (z := (1 : Int32)) Bd.returns (by simp) (hb hby at_168) hr) ⟨N360, rfl⟩ (by decide) (by decide)
            · refine Gl.back (fun _ k => XS.icmpYes X357.here hx rfl (pc0 := 141) (pc' := 148) rfl (hb hby at_141) rfl (feq hc141_359).2 (by decide) (by decide) k) ?_
              show Gl _ _ _ _ _ _ _ (T357.setTop (mkF m 148 #[.val (.int x0), .val (.int x1), .val (.int x2), .val (.int x3), .val (.int x4), .val (.int ((x0 &&& (2147483647 : Int32)) % (7 : Int32))), .val (.int ca), .val (.int cb), .val (.int (1 : Int32)), .val (.ref b285), .val (.ref b291), .val (.int (((x4.toUInt32 >>> ((1 : Int32) &&& 31).toUInt32).toInt32) &&& (3 : Int32))), .val (.int sym), .val (.ref b351), .unset] []))
              refine Gl.back (fun _ k => XS.iconst X357.here hx rfl (hb hby at_148) k) ?_
              show Gl _ _ _ _ _ _ _ (T357.setTop (mkF m 149 #[.val (.int x0), .val (.int x1), .val (.int x2), .val (.int x3), .val (.int x4), .val (.int ((x0 &&& (2147483647 : Int32)) % (7 : Int32))), .val (.int ca), .val (.int cb), .val (.int (1 : Int32)), .val (.ref b285), .val (.ref b291), .val (.int (((x4.toUInt32 >>> ((1 : Int32) &&& 31).toUInt32).toInt32) &&& (3 : Int32))), .val (.int sym), .val (.ref b351), .unset] [(.int (0 : Int32))]))
              refine Gl.back (fun _ k => XS.istore X357.here hx rfl (hb hby at_149) rfl (l' := #[.val (.int x0), .val (.int x1), .val (.int x2), .val (.int x3), .val (.int x4), .val (.int ((x0 &&& (2147483647 : Int32)) % (7 : Int32))), .val (.int ca), .val (.int cb), .val (.int (1 : Int32)), .val (.ref b285), .val (.ref b291), .val (.int (((x4.toUInt32 >>> ((1 : Int32) &&& 31).toUInt32).toInt32) &&& (3 : Int32))), .val (.int sym), .val (.ref b351), .val (.int (0 : Int32))]) rfl k) ?_
              show Gl _ _ _ _ _ _ _ (T357.setTop (mkF m 151 #[.val (.int x0), .val (.int x1), .val (.int x2), .val (.int x3), .val (.int x4), .val (.int ((x0 &&& (2147483647 : Int32)) % (7 : Int32))), .val (.int ca), .val (.int cb), .val (.int (1 : Int32)), .val (.ref b285), .val (.ref b291), .val (.int (((x4.toUInt32 >>> ((1 : Int32) &&& 31).toUInt32).toInt32) &&& (3 : Int32))), .val (.int sym), .val (.ref b351), .val (.int (0 : Int32))] []))
              refine Gl.back (fun _ k => XS.aload X357.here hx rfl (hb hby at_151) rfl rfl k) ?_
              show Gl _ _ _ _ _ _ _ (T357.setTop (mkF m 153 #[.val (.int x0), .val (.int x1), .val (.int x2), .val (.int x3), .val (.int x4), .val (.int ((x0 &&& (2147483647 : Int32)) % (7 : Int32))), .val (.int ca), .val (.int cb), .val (.int (1 : Int32)), .val (.ref b285), .val (.ref b291), .val (.int (((x4.toUInt32 >>> ((1 : Int32) &&& 31).toUInt32).toInt32) &&& (3 : Int32))), .val (.int sym), .val (.ref b351), .val (.int (0 : Int32))] [(.ref b351)]))
              refine Gl.back (fun _ k => XS.iload X357.here hx rfl (hb hby at_153) rfl k) ?_
              show Gl _ _ _ _ _ _ _ (T357.setTop (mkF m 155 #[.val (.int x0), .val (.int x1), .val (.int x2), .val (.int x3), .val (.int x4), .val (.int ((x0 &&& (2147483647 : Int32)) % (7 : Int32))), .val (.int ca), .val (.int cb), .val (.int (1 : Int32)), .val (.ref b285), .val (.ref b291), .val (.int (((x4.toUInt32 >>> ((1 : Int32) &&& 31).toUInt32).toInt32) &&& (3 : Int32))), .val (.int sym), .val (.ref b351), .val (.int (0 : Int32))] [(.int sym), (.ref b351)]))
              have hks := hk1354 hc134_358
              have f367 := ((f353.ext E351).keep Kq357)
              have f368 := ((Fc349.ext E351).keep Kq357 (ninS ne_b291_b351 nin0))
              have f369 := ((Fv349.ext E351).keep Kq357 (ninS ne_b291_b351 nin0))
              have f370 := ((Vt349.ext E351).keep Kq357 (ninS ne_t349_b351 nin0))
              have f371 := (A351.keep Kq357)
              obtain ⟨cq366, kq366, q366a, q366b, q366c⟩ := isOf hZ rfl f371
              obtain ⟨_, _, ⟨T366, L366, k366, n366⟩, -, X366, ⟨Lc366, hQ366, l366, y366, z366⟩, st366⟩ := X357.virtualBack hx (y := (⟨"com/example/partition_planner/partitionplanner/CqlLexer$Token", "isSymbol", "(C)Z"⟩ : MethodName)) (z := (⟨"com/example/partition_planner/partitionplanner/CqlLexer$Token", "isSymbol", "(C)Z"⟩ : MethodName)) hown (mvT hZ (hw _ (List.mem_of_getElem? (i := 60) rfl))) (mvT hZ (hw _ (List.mem_of_getElem? (i := 61) rfl))) (notFace_of_selects (args := #[]) (mvT hZ (hw _ (List.mem_of_getElem? (i := 63) rfl)))) (mvT hZ (hw _ (List.mem_of_getElem? (i := 63) rfl))) (mvT hZ (hw _ (List.mem_of_getElem? (i := 62) rfl))) (by decide) (backOf (W := 0) (rmsymL_2 l Z a0 hw [] b351 sym b291 t349 w_SYMBOL kb349 ca cb zc fm T357.heap n0 Zc357 Oc357 S_C P0 S_F hfm S_SYMBOL (hks ▸ Fk357) Fv357 f367 f368 f369 f370 (own_lat2 ⟨hcar.1, hA⟩ ⟨hcbr.1, hB⟩)) hZ (hw _ (List.mem_of_getElem? (i := 64) rfl)) (hw _ (List.mem_of_getElem? (i := 33) rfl)) (by decide) (by decide)) q366a q366c (g := (mkF m 155 #[.val (.int x0), .val (.int x1), .val (.int x2), .val (.int x3), .val (.int x4), .val (.int ((x0 &&& (2147483647 : Int32)) % (7 : Int32))), .val (.int ca), .val (.int cb), .val (.int (1 : Int32)), .val (.ref b285), .val (.ref b291), .val (.int (((x4.toUInt32 >>> ((1 : Int32) &&& 31).toUInt32).toInt32) &&& (3 : Int32))), .val (.int sym), .val (.ref b351), .val (.int (0 : Int32))] [(.int sym), (.ref b351)])) rfl (by rw [hml]; rfl) (Steps.refl _) (argsL := [(.int sym)]) (rest := []) (lenOf pd__C_Z rfl) rfl (by show 2 * 0 + _ ≤ _; exact Nat.le_of_eq rfl) (hb hby at_155) (fun _ _ => ⟨rfl, rfl, (by decide : 4 + 0 ≤ _), (by decide : 13 + 0 ≤ _)⟩)
              dsimp only [Pt.U, Pt.locs, Pt.cells, Pt.slots] at X366 l366 y366 z366 st366 hQ366
              replace l366 := Eq.symm l366
              replace y366 := Eq.symm y366
              replace z366 := Eq.symm z366
              subst l366 y366 z366
              obtain ⟨Nq366, hQ366⟩ := hQ366
              rcases hQ366 with ⟨rfl, eh366, hy366⟩ | ⟨rfl, eh366, hy366⟩
              · have N366 := Fr.app N357 Nq366
                refine Gl.back (fun _ k => st366.trans k) ?_
                show Gl _ _ _ _ _ _ _ (T366.setTop (mkF m 158 #[.val (.int x0), .val (.int x1), .val (.int x2), .val (.int x3), .val (.int x4), .val (.int ((x0 &&& (2147483647 : Int32)) % (7 : Int32))), .val (.int ca), .val (.int cb), .val (.int (1 : Int32)), .val (.ref b285), .val (.ref b291), .val (.int (((x4.toUInt32 >>> ((1 : Int32) &&& 31).toUInt32).toInt32) &&& (3 : Int32))), .val (.int sym), .val (.ref b351), .val (.int (0 : Int32))] [(.int (1 : Int32))]))
                refine Gl.back (fun _ k => XS.iload X366.here hx rfl (hb hby at_158) rfl k) ?_
                show Gl _ _ _ _ _ _ _ (T366.setTop (mkF m 160 #[.val (.int x0), .val (.int x1), .val (.int x2), .val (.int x3), .val (.int x4), .val (.int ((x0 &&& (2147483647 : Int32)) % (7 : Int32))), .val (.int ca), .val (.int cb), .val (.int (1 : Int32)), .val (.ref b285), .val (.ref b291), .val (.int (((x4.toUInt32 >>> ((1 : Int32) &&& 31).toUInt32).toInt32) &&& (3 : Int32))), .val (.int sym), .val (.ref b351), .val (.int (0 : Int32))] [(.int (0 : Int32)), (.int (1 : Int32))]))
                refine Gl.back (fun _ k => XS.icmpNo X366.here hx rfl (hb hby at_160) rfl (teq (absurd (hy366) hc141_359 : (1 : Int32) = (0 : Int32))).2 k) ?_
                show Gl _ _ _ _ _ _ _ (T366.setTop (mkF m 163 #[.val (.int x0), .val (.int x1), .val (.int x2), .val (.int x3), .val (.int x4), .val (.int ((x0 &&& (2147483647 : Int32)) % (7 : Int32))), .val (.int ca), .val (.int cb), .val (.int (1 : Int32)), .val (.ref b285), .val (.ref b291), .val (.int (((x4.toUInt32 >>> ((1 : Int32) &&& 31).toUInt32).toInt32) &&& (3 : Int32))), .val (.int sym), .val (.ref b351), .val (.int (0 : Int32))] []))
                refine Gl.back (fun _ k => XS.iconst X366.here hx rfl (hb hby at_163) k) ?_
                show Gl _ _ _ _ _ _ _ (T366.setTop (mkF m 164 #[.val (.int x0), .val (.int x1), .val (.int x2), .val (.int x3), .val (.int x4), .val (.int ((x0 &&& (2147483647 : Int32)) % (7 : Int32))), .val (.int ca), .val (.int cb), .val (.int (1 : Int32)), .val (.ref b285), .val (.ref b291), .val (.int (((x4.toUInt32 >>> ((1 : Int32) &&& 31).toUInt32).toInt32) &&& (3 : Int32))), .val (.int sym), .val (.ref b351), .val (.int (0 : Int32))] [(.int (1 : Int32))]))
                refine Gl.back (fun _ k => XS.goto X366.here hx rfl (pc0 := 164) (pc' := 168) rfl (hb hby at_164) (by decide) (by decide) k) ?_
                show Gl _ _ _ _ _ _ _ (T366.setTop (mkF m 168 #[.val (.int x0), .val (.int x1), .val (.int x2), .val (.int x3), .val (.int x4), .val (.int ((x0 &&& (2147483647 : Int32)) % (7 : Int32))), .val (.int ca), .val (.int cb), .val (.int (1 : Int32)), .val (.ref b285), .val (.ref b291), .val (.int (((x4.toUInt32 >>> ((1 : Int32) &&& 31).toUInt32).toInt32) &&& (3 : Int32))), .val (.int sym), .val (.ref b351), .val (.int (0 : Int32))] [(.int (1 : Int32))]))
                exact Gl.ret X366 eh366 (v := (some (.int (1 : Int32)))) (fun h => by rw [Bd.returns] at h; cases h) Bd.notSynchronized (fun fs hr => retN X366 hx (t := .boolean) (z := (1 : Int32)) Bd.returns (by simp) (hb hby at_168) hr) ⟨N366, rfl⟩ (by decide) (by decide)
              · have N366 := Fr.app N357 Nq366
                refine Gl.back (fun _ k => st366.trans k) ?_
                show Gl _ _ _ _ _ _ _ (T366.setTop (mkF m 158 #[.val (.int x0), .val (.int x1), .val (.int x2), .val (.int x3), .val (.int x4), .val (.int ((x0 &&& (2147483647 : Int32)) % (7 : Int32))), .val (.int ca), .val (.int cb), .val (.int (1 : Int32)), .val (.ref b285), .val (.ref b291), .val (.int (((x4.toUInt32 >>> ((1 : Int32) &&& 31).toUInt32).toInt32) &&& (3 : Int32))), .val (.int sym), .val (.ref b351), .val (.int (0 : Int32))] [(.int (0 : Int32))]))
                refine Gl.back (fun _ k => XS.iload X366.here hx rfl (hb hby at_158) rfl k) ?_
                show Gl _ _ _ _ _ _ _ (T366.setTop (mkF m 160 #[.val (.int x0), .val (.int x1), .val (.int x2), .val (.int x3), .val (.int x4), .val (.int ((x0 &&& (2147483647 : Int32)) % (7 : Int32))), .val (.int ca), .val (.int cb), .val (.int (1 : Int32)), .val (.ref b285), .val (.ref b291), .val (.int (((x4.toUInt32 >>> ((1 : Int32) &&& 31).toUInt32).toInt32) &&& (3 : Int32))), .val (.int sym), .val (.ref b351), .val (.int (0 : Int32))] [(.int (0 : Int32)), (.int (0 : Int32))]))
                refine Gl.back (fun _ k => XS.icmpNo X366.here hx rfl (hb hby at_160) rfl (teq (rfl : (0 : Int32) = (0 : Int32))).2 k) ?_
                show Gl _ _ _ _ _ _ _ (T366.setTop (mkF m 163 #[.val (.int x0), .val (.int x1), .val (.int x2), .val (.int x3), .val (.int x4), .val (.int ((x0 &&& (2147483647 : Int32)) % (7 : Int32))), .val (.int ca), .val (.int cb), .val (.int (1 : Int32)), .val (.ref b285), .val (.ref b291), .val (.int (((x4.toUInt32 >>> ((1 : Int32) &&& 31).toUInt32).toInt32) &&& (3 : Int32))), .val (.int sym), .val (.ref b351), .val (.int (0 : Int32))] []))
                refine Gl.back (fun _ k => XS.iconst X366.here hx rfl (hb hby at_163) k) ?_
                show Gl _ _ _ _ _ _ _ (T366.setTop (mkF m 164 #[.val (.int x0), .val (.int x1), .val (.int x2), .val (.int x3), .val (.int x4), .val (.int ((x0 &&& (2147483647 : Int32)) % (7 : Int32))), .val (.int ca), .val (.int cb), .val (.int (1 : Int32)), .val (.ref b285), .val (.ref b291), .val (.int (((x4.toUInt32 >>> ((1 : Int32) &&& 31).toUInt32).toInt32) &&& (3 : Int32))), .val (.int sym), .val (.ref b351), .val (.int (0 : Int32))] [(.int (1 : Int32))]))
                refine Gl.back (fun _ k => XS.goto X366.here hx rfl (pc0 := 164) (pc' := 168) rfl (hb hby at_164) (by decide) (by decide) k) ?_
                show Gl _ _ _ _ _ _ _ (T366.setTop (mkF m 168 #[.val (.int x0), .val (.int x1), .val (.int x2), .val (.int x3), .val (.int x4), .val (.int ((x0 &&& (2147483647 : Int32)) % (7 : Int32))), .val (.int ca), .val (.int cb), .val (.int (1 : Int32)), .val (.ref b285), .val (.ref b291), .val (.int (((x4.toUInt32 >>> ((1 : Int32) &&& 31).toUInt32).toInt32) &&& (3 : Int32))), .val (.int sym), .val (.ref b351), .val (.int (0 : Int32))] [(.int (1 : Int32))]))
                exact Gl.ret X366 eh366 (v := (some (.int (1 : Int32)))) (fun h => by rw [Bd.returns] at h; cases h) Bd.notSynchronized (fun fs hr => retN X366 hx (t := .boolean) (z := (1 : Int32)) Bd.returns (by simp) (hb hby at_168) hr) ⟨N366, rfl⟩ (by decide) (by decide)
          · refine Gl.back (fun _ k => XS.icmpYes X357.here hx rfl (pc0 := 134) (pc' := 148) rfl (hb hby at_134) rfl (feq hc134_358).2 (by decide) (by decide) k) ?_
            show Gl _ _ _ _ _ _ _ (T357.setTop (mkF m 148 #[.val (.int x0), .val (.int x1), .val (.int x2), .val (.int x3), .val (.int x4), .val (.int ((x0 &&& (2147483647 : Int32)) % (7 : Int32))), .val (.int ca), .val (.int cb), .val (.int (1 : Int32)), .val (.ref b285), .val (.ref b291), .val (.int (((x4.toUInt32 >>> ((1 : Int32) &&& 31).toUInt32).toInt32) &&& (3 : Int32))), .val (.int sym), .val (.ref b351), .unset] []))
            refine Gl.back (fun _ k => XS.iconst X357.here hx rfl (hb hby at_148) k) ?_
            show Gl _ _ _ _ _ _ _ (T357.setTop (mkF m 149 #[.val (.int x0), .val (.int x1), .val (.int x2), .val (.int x3), .val (.int x4), .val (.int ((x0 &&& (2147483647 : Int32)) % (7 : Int32))), .val (.int ca), .val (.int cb), .val (.int (1 : Int32)), .val (.ref b285), .val (.ref b291), .val (.int (((x4.toUInt32 >>> ((1 : Int32) &&& 31).toUInt32).toInt32) &&& (3 : Int32))), .val (.int sym), .val (.ref b351), .unset] [(.int (0 : Int32))]))
            refine Gl.back (fun _ k => XS.istore X357.here hx rfl (hb hby at_149) rfl (l' := #[.val (.int x0), .val (.int x1), .val (.int x2), .val (.int x3), .val (.int x4), .val (.int ((x0 &&& (2147483647 : Int32)) % (7 : Int32))), .val (.int ca), .val (.int cb), .val (.int (1 : Int32)), .val (.ref b285), .val (.ref b291), .val (.int (((x4.toUInt32 >>> ((1 : Int32) &&& 31).toUInt32).toInt32) &&& (3 : Int32))), .val (.int sym), .val (.ref b351), .val (.int (0 : Int32))]) rfl k) ?_
            show Gl _ _ _ _ _ _ _ (T357.setTop (mkF m 151 #[.val (.int x0), .val (.int x1), .val (.int x2), .val (.int x3), .val (.int x4), .val (.int ((x0 &&& (2147483647 : Int32)) % (7 : Int32))), .val (.int ca), .val (.int cb), .val (.int (1 : Int32)), .val (.ref b285), .val (.ref b291), .val (.int (((x4.toUInt32 >>> ((1 : Int32) &&& 31).toUInt32).toInt32) &&& (3 : Int32))), .val (.int sym), .val (.ref b351), .val (.int (0 : Int32))] []))
            refine Gl.back (fun _ k => XS.aload X357.here hx rfl (hb hby at_151) rfl rfl k) ?_
            show Gl _ _ _ _ _ _ _ (T357.setTop (mkF m 153 #[.val (.int x0), .val (.int x1), .val (.int x2), .val (.int x3), .val (.int x4), .val (.int ((x0 &&& (2147483647 : Int32)) % (7 : Int32))), .val (.int ca), .val (.int cb), .val (.int (1 : Int32)), .val (.ref b285), .val (.ref b291), .val (.int (((x4.toUInt32 >>> ((1 : Int32) &&& 31).toUInt32).toInt32) &&& (3 : Int32))), .val (.int sym), .val (.ref b351), .val (.int (0 : Int32))] [(.ref b351)]))
            refine Gl.back (fun _ k => XS.iload X357.here hx rfl (hb hby at_153) rfl k) ?_
            show Gl _ _ _ _ _ _ _ (T357.setTop (mkF m 155 #[.val (.int x0), .val (.int x1), .val (.int x2), .val (.int x3), .val (.int x4), .val (.int ((x0 &&& (2147483647 : Int32)) % (7 : Int32))), .val (.int ca), .val (.int cb), .val (.int (1 : Int32)), .val (.ref b285), .val (.ref b291), .val (.int (((x4.toUInt32 >>> ((1 : Int32) &&& 31).toUInt32).toInt32) &&& (3 : Int32))), .val (.int sym), .val (.ref b351), .val (.int (0 : Int32))] [(.int sym), (.ref b351)]))
            have f373 := (A351.keep Kq357)
            obtain ⟨cq372, kq372, q372a, q372b, q372c⟩ := isOf hZ rfl f373
            obtain ⟨_, _, ⟨T372, L372, k372, n372⟩, -, X372, ⟨Lc372, hQ372, l372, y372, z372⟩, st372⟩ := X357.virtualBack hx (y := (⟨"com/example/partition_planner/partitionplanner/CqlLexer$Token", "isSymbol", "(C)Z"⟩ : MethodName)) (z := (⟨"com/example/partition_planner/partitionplanner/CqlLexer$Token", "isSymbol", "(C)Z"⟩ : MethodName)) hown (mvT hZ (hw _ (List.mem_of_getElem? (i := 60) rfl))) (mvT hZ (hw _ (List.mem_of_getElem? (i := 61) rfl))) (notFace_of_selects (args := #[]) (mvT hZ (hw _ (List.mem_of_getElem? (i := 63) rfl)))) (mvT hZ (hw _ (List.mem_of_getElem? (i := 63) rfl))) (mvT hZ (hw _ (List.mem_of_getElem? (i := 62) rfl))) (by decide) (backOf (W := 0) (rmsym0 l Z a0 hw [] b351 sym wk354 w_SYMBOL T357.heap n0 Zc357 Oc357 S_SYMBOL Fk357 (hk2354 hc134_358)) hZ (hw _ (List.mem_of_getElem? (i := 64) rfl)) (hw _ (List.mem_of_getElem? (i := 33) rfl)) (by decide) (by decide)) q372a q372c (g := (mkF m 155 #[.val (.int x0), .val (.int x1), .val (.int x2), .val (.int x3), .val (.int x4), .val (.int ((x0 &&& (2147483647 : Int32)) % (7 : Int32))), .val (.int ca), .val (.int cb), .val (.int (1 : Int32)), .val (.ref b285), .val (.ref b291), .val (.int (((x4.toUInt32 >>> ((1 : Int32) &&& 31).toUInt32).toInt32) &&& (3 : Int32))), .val (.int sym), .val (.ref b351), .val (.int (0 : Int32))] [(.int sym), (.ref b351)])) rfl (by rw [hml]; rfl) (Steps.refl _) (argsL := [(.int sym)]) (rest := []) (lenOf pd__C_Z rfl) rfl (by show 2 * 0 + _ ≤ _; exact Nat.le_of_eq rfl) (hb hby at_155) (fun _ _ => ⟨rfl, rfl, (by decide : 4 + 0 ≤ _), (by decide : 13 + 0 ≤ _)⟩)
            dsimp only [Pt.U, Pt.locs, Pt.cells, Pt.slots] at X372 l372 y372 z372 st372 hQ372
            replace l372 := Eq.symm l372
            replace y372 := Eq.symm y372
            replace z372 := Eq.symm z372
            subst l372 y372 z372
            obtain ⟨Nq372, rfl, eh372⟩ := hQ372
            have N372 := Fr.app N357 Nq372
            refine Gl.back (fun _ k => st372.trans k) ?_
            show Gl _ _ _ _ _ _ _ (T372.setTop (mkF m 158 #[.val (.int x0), .val (.int x1), .val (.int x2), .val (.int x3), .val (.int x4), .val (.int ((x0 &&& (2147483647 : Int32)) % (7 : Int32))), .val (.int ca), .val (.int cb), .val (.int (1 : Int32)), .val (.ref b285), .val (.ref b291), .val (.int (((x4.toUInt32 >>> ((1 : Int32) &&& 31).toUInt32).toInt32) &&& (3 : Int32))), .val (.int sym), .val (.ref b351), .val (.int (0 : Int32))] [(.int (0 : Int32))]))
            refine Gl.back (fun _ k => XS.iload X372.here hx rfl (hb hby at_158) rfl k) ?_
            show Gl _ _ _ _ _ _ _ (T372.setTop (mkF m 160 #[.val (.int x0), .val (.int x1), .val (.int x2), .val (.int x3), .val (.int x4), .val (.int ((x0 &&& (2147483647 : Int32)) % (7 : Int32))), .val (.int ca), .val (.int cb), .val (.int (1 : Int32)), .val (.ref b285), .val (.ref b291), .val (.int (((x4.toUInt32 >>> ((1 : Int32) &&& 31).toUInt32).toInt32) &&& (3 : Int32))), .val (.int sym), .val (.ref b351), .val (.int (0 : Int32))] [(.int (0 : Int32)), (.int (0 : Int32))]))
            refine Gl.back (fun _ k => XS.icmpNo X372.here hx rfl (hb hby at_160) rfl (teq (rfl : (0 : Int32) = (0 : Int32))).2 k) ?_
            show Gl _ _ _ _ _ _ _ (T372.setTop (mkF m 163 #[.val (.int x0), .val (.int x1), .val (.int x2), .val (.int x3), .val (.int x4), .val (.int ((x0 &&& (2147483647 : Int32)) % (7 : Int32))), .val (.int ca), .val (.int cb), .val (.int (1 : Int32)), .val (.ref b285), .val (.ref b291), .val (.int (((x4.toUInt32 >>> ((1 : Int32) &&& 31).toUInt32).toInt32) &&& (3 : Int32))), .val (.int sym), .val (.ref b351), .val (.int (0 : Int32))] []))
            refine Gl.back (fun _ k => XS.iconst X372.here hx rfl (hb hby at_163) k) ?_
            show Gl _ _ _ _ _ _ _ (T372.setTop (mkF m 164 #[.val (.int x0), .val (.int x1), .val (.int x2), .val (.int x3), .val (.int x4), .val (.int ((x0 &&& (2147483647 : Int32)) % (7 : Int32))), .val (.int ca), .val (.int cb), .val (.int (1 : Int32)), .val (.ref b285), .val (.ref b291), .val (.int (((x4.toUInt32 >>> ((1 : Int32) &&& 31).toUInt32).toInt32) &&& (3 : Int32))), .val (.int sym), .val (.ref b351), .val (.int (0 : Int32))] [(.int (1 : Int32))]))
            refine Gl.back (fun _ k => XS.goto X372.here hx rfl (pc0 := 164) (pc' := 168) rfl (hb hby at_164) (by decide) (by decide) k) ?_
            show Gl _ _ _ _ _ _ _ (T372.setTop (mkF m 168 #[.val (.int x0), .val (.int x1), .val (.int x2), .val (.int x3), .val (.int x4), .val (.int ((x0 &&& (2147483647 : Int32)) % (7 : Int32))), .val (.int ca), .val (.int cb), .val (.int (1 : Int32)), .val (.ref b285), .val (.ref b291), .val (.int (((x4.toUInt32 >>> ((1 : Int32) &&& 31).toUInt32).toInt32) &&& (3 : Int32))), .val (.int sym), .val (.ref b351), .val (.int (0 : Int32))] [(.int (1 : Int32))]))
            exact Gl.ret X372 eh372 (v := (some (.int (1 : Int32)))) (fun h => by rw [Bd.returns] at h; cases h) Bd.notSynchronized (fun fs hr => retN X372 hx (t := .boolean) (z := (1 : Int32)) Bd.returns (by simp) (hb hby at_168) hr) ⟨N372, rfl⟩ (by decide) (by decide)
        refine Gl.back (fun _ k => XS.iload X349.here hx rfl (hb hby at_73) rfl k) ?_
        show Gl _ _ _ _ _ _ _ (T349.setTop (mkF m 75 #[.val (.int x0), .val (.int x1), .val (.int x2), .val (.int x3), .val (.int x4), .val (.int ((x0 &&& (2147483647 : Int32)) % (7 : Int32))), .val (.int ca), .val (.int cb), .val (.int (1 : Int32)), .val (.ref b285), .val (.ref b291), .unset, .unset, .unset, .unset] [(.int x4)]))
        refine Gl.back (fun _ k => XS.iconst X349.here hx rfl (hb hby at_75) k) ?_
        show Gl _ _ _ _ _ _ _ (T349.setTop (mkF m 76 #[.val (.int x0), .val (.int x1), .val (.int x2), .val (.int x3), .val (.int x4), .val (.int ((x0 &&& (2147483647 : Int32)) % (7 : Int32))), .val (.int ca), .val (.int cb), .val (.int (1 : Int32)), .val (.ref b285), .val (.ref b291), .unset, .unset, .unset, .unset] [(.int (1 : Int32)), (.int x4)]))
        refine Gl.back (fun _ k => XS.iushr X349.here hx rfl (hb hby at_76) rfl k) ?_
        show Gl _ _ _ _ _ _ _ (T349.setTop (mkF m 77 #[.val (.int x0), .val (.int x1), .val (.int x2), .val (.int x3), .val (.int x4), .val (.int ((x0 &&& (2147483647 : Int32)) % (7 : Int32))), .val (.int ca), .val (.int cb), .val (.int (1 : Int32)), .val (.ref b285), .val (.ref b291), .unset, .unset, .unset, .unset] [(.int ((x4.toUInt32 >>> ((1 : Int32) &&& 31).toUInt32).toInt32))]))
        refine Gl.back (fun _ k => XS.iconst X349.here hx rfl (hb hby at_77) k) ?_
        show Gl _ _ _ _ _ _ _ (T349.setTop (mkF m 78 #[.val (.int x0), .val (.int x1), .val (.int x2), .val (.int x3), .val (.int x4), .val (.int ((x0 &&& (2147483647 : Int32)) % (7 : Int32))), .val (.int ca), .val (.int cb), .val (.int (1 : Int32)), .val (.ref b285), .val (.ref b291), .unset, .unset, .unset, .unset] [(.int (3 : Int32)), (.int ((x4.toUInt32 >>> ((1 : Int32) &&& 31).toUInt32).toInt32))]))
        refine Gl.back (fun _ k => XS.iand X349.here hx rfl (hb hby at_78) rfl k) ?_
        show Gl _ _ _ _ _ _ _ (T349.setTop (mkF m 79 #[.val (.int x0), .val (.int x1), .val (.int x2), .val (.int x3), .val (.int x4), .val (.int ((x0 &&& (2147483647 : Int32)) % (7 : Int32))), .val (.int ca), .val (.int cb), .val (.int (1 : Int32)), .val (.ref b285), .val (.ref b291), .unset, .unset, .unset, .unset] [(.int (((x4.toUInt32 >>> ((1 : Int32) &&& 31).toUInt32).toInt32) &&& (3 : Int32)))]))
        refine Gl.back (fun _ k => XS.istore X349.here hx rfl (hb hby at_79) rfl (l' := #[.val (.int x0), .val (.int x1), .val (.int x2), .val (.int x3), .val (.int x4), .val (.int ((x0 &&& (2147483647 : Int32)) % (7 : Int32))), .val (.int ca), .val (.int cb), .val (.int (1 : Int32)), .val (.ref b285), .val (.ref b291), .val (.int (((x4.toUInt32 >>> ((1 : Int32) &&& 31).toUInt32).toInt32) &&& (3 : Int32))), .unset, .unset, .unset]) rfl k) ?_
        show Gl _ _ _ _ _ _ _ (T349.setTop (mkF m 81 #[.val (.int x0), .val (.int x1), .val (.int x2), .val (.int x3), .val (.int x4), .val (.int ((x0 &&& (2147483647 : Int32)) % (7 : Int32))), .val (.int ca), .val (.int cb), .val (.int (1 : Int32)), .val (.ref b285), .val (.ref b291), .val (.int (((x4.toUInt32 >>> ((1 : Int32) &&& 31).toUInt32).toInt32) &&& (3 : Int32))), .unset, .unset, .unset] []))
        refine Gl.back (fun _ k => XS.iload X349.here hx rfl (hb hby at_81) rfl k) ?_
        show Gl _ _ _ _ _ _ _ (T349.setTop (mkF m 83 #[.val (.int x0), .val (.int x1), .val (.int x2), .val (.int x3), .val (.int x4), .val (.int ((x0 &&& (2147483647 : Int32)) % (7 : Int32))), .val (.int ca), .val (.int cb), .val (.int (1 : Int32)), .val (.ref b285), .val (.ref b291), .val (.int (((x4.toUInt32 >>> ((1 : Int32) &&& 31).toUInt32).toInt32) &&& (3 : Int32))), .unset, .unset, .unset] [(.int (((x4.toUInt32 >>> ((1 : Int32) &&& 31).toUInt32).toInt32) &&& (3 : Int32)))]))
        by_cases hc83_374 : (((x4.toUInt32 >>> ((1 : Int32) &&& 31).toUInt32).toInt32) &&& (3 : Int32)) = (0 : Int32)
        · refine Gl.back (fun _ k => XS.ifNo X349.here hx rfl (hb hby at_83) rfl ((if0 _ _).trans (teq hc83_374).2) k) ?_
          show Gl _ _ _ _ _ _ _ (T349.setTop (mkF m 86 #[.val (.int x0), .val (.int x1), .val (.int x2), .val (.int x3), .val (.int x4), .val (.int ((x0 &&& (2147483647 : Int32)) % (7 : Int32))), .val (.int ca), .val (.int cb), .val (.int (1 : Int32)), .val (.ref b285), .val (.ref b291), .val (.int (((x4.toUInt32 >>> ((1 : Int32) &&& 31).toUInt32).toInt32) &&& (3 : Int32))), .unset, .unset, .unset] []))
          refine Gl.back (fun _ k => XS.iload X349.here hx rfl (hb hby at_86) rfl k) ?_
          show Gl _ _ _ _ _ _ _ (T349.setTop (mkF m 88 #[.val (.int x0), .val (.int x1), .val (.int x2), .val (.int x3), .val (.int x4), .val (.int ((x0 &&& (2147483647 : Int32)) % (7 : Int32))), .val (.int ca), .val (.int cb), .val (.int (1 : Int32)), .val (.ref b285), .val (.ref b291), .val (.int (((x4.toUInt32 >>> ((1 : Int32) &&& 31).toUInt32).toInt32) &&& (3 : Int32))), .unset, .unset, .unset] [(.int ca)]))
          refine Gl.back (fun _ k => XS.istore X349.here hx rfl (hb hby at_88) rfl (l' := #[.val (.int x0), .val (.int x1), .val (.int x2), .val (.int x3), .val (.int x4), .val (.int ((x0 &&& (2147483647 : Int32)) % (7 : Int32))), .val (.int ca), .val (.int cb), .val (.int (1 : Int32)), .val (.ref b285), .val (.ref b291), .val (.int (((x4.toUInt32 >>> ((1 : Int32) &&& 31).toUInt32).toInt32) &&& (3 : Int32))), .val (.int ca), .unset, .unset]) rfl k) ?_
          show Gl _ _ _ _ _ _ _ (T349.setTop (mkF m 90 #[.val (.int x0), .val (.int x1), .val (.int x2), .val (.int x3), .val (.int x4), .val (.int ((x0 &&& (2147483647 : Int32)) % (7 : Int32))), .val (.int ca), .val (.int cb), .val (.int (1 : Int32)), .val (.ref b285), .val (.ref b291), .val (.int (((x4.toUInt32 >>> ((1 : Int32) &&& 31).toUInt32).toInt32) &&& (3 : Int32))), .val (.int ca), .unset, .unset] []))
          refine Gl.back (fun _ k => XS.goto X349.here hx rfl (pc0 := 90) (pc' := 110) rfl (hb hby at_90) (by decide) (by decide) k) ?_
          show Gl _ _ _ _ _ _ _ (T349.setTop (mkF m 110 #[.val (.int x0), .val (.int x1), .val (.int x2), .val (.int x3), .val (.int x4), .val (.int ((x0 &&& (2147483647 : Int32)) % (7 : Int32))), .val (.int ca), .val (.int cb), .val (.int (1 : Int32)), .val (.ref b285), .val (.ref b291), .val (.int (((x4.toUInt32 >>> ((1 : Int32) &&& 31).toUInt32).toInt32) &&& (3 : Int32))), .val (.int ca), .unset, .unset] []))
          exact J110 _
        · refine Gl.back (fun _ k => XS.ifYes X349.here hx rfl (pc0 := 83) (pc' := 93) rfl (hb hby at_83) rfl ((if0 _ _).trans (feq hc83_374).2) (by decide) (by decide) k) ?_
          show Gl _ _ _ _ _ _ _ (T349.setTop (mkF m 93 #[.val (.int x0), .val (.int x1), .val (.int x2), .val (.int x3), .val (.int x4), .val (.int ((x0 &&& (2147483647 : Int32)) % (7 : Int32))), .val (.int ca), .val (.int cb), .val (.int (1 : Int32)), .val (.ref b285), .val (.ref b291), .val (.int (((x4.toUInt32 >>> ((1 : Int32) &&& 31).toUInt32).toInt32) &&& (3 : Int32))), .unset, .unset, .unset] []))
          refine Gl.back (fun _ k => XS.iload X349.here hx rfl (hb hby at_93) rfl k) ?_
          show Gl _ _ _ _ _ _ _ (T349.setTop (mkF m 95 #[.val (.int x0), .val (.int x1), .val (.int x2), .val (.int x3), .val (.int x4), .val (.int ((x0 &&& (2147483647 : Int32)) % (7 : Int32))), .val (.int ca), .val (.int cb), .val (.int (1 : Int32)), .val (.ref b285), .val (.ref b291), .val (.int (((x4.toUInt32 >>> ((1 : Int32) &&& 31).toUInt32).toInt32) &&& (3 : Int32))), .unset, .unset, .unset] [(.int (((x4.toUInt32 >>> ((1 : Int32) &&& 31).toUInt32).toInt32) &&& (3 : Int32)))]))
          refine Gl.back (fun _ k => XS.iconst X349.here hx rfl (hb hby at_95) k) ?_
          show Gl _ _ _ _ _ _ _ (T349.setTop (mkF m 96 #[.val (.int x0), .val (.int x1), .val (.int x2), .val (.int x3), .val (.int x4), .val (.int ((x0 &&& (2147483647 : Int32)) % (7 : Int32))), .val (.int ca), .val (.int cb), .val (.int (1 : Int32)), .val (.ref b285), .val (.ref b291), .val (.int (((x4.toUInt32 >>> ((1 : Int32) &&& 31).toUInt32).toInt32) &&& (3 : Int32))), .unset, .unset, .unset] [(.int (1 : Int32)), (.int (((x4.toUInt32 >>> ((1 : Int32) &&& 31).toUInt32).toInt32) &&& (3 : Int32)))]))
          by_cases hc96_375 : (((x4.toUInt32 >>> ((1 : Int32) &&& 31).toUInt32).toInt32) &&& (3 : Int32)) = (1 : Int32)
          · refine Gl.back (fun _ k => XS.icmpNo X349.here hx rfl (hb hby at_96) rfl (teq hc96_375).2 k) ?_
            show Gl _ _ _ _ _ _ _ (T349.setTop (mkF m 99 #[.val (.int x0), .val (.int x1), .val (.int x2), .val (.int x3), .val (.int x4), .val (.int ((x0 &&& (2147483647 : Int32)) % (7 : Int32))), .val (.int ca), .val (.int cb), .val (.int (1 : Int32)), .val (.ref b285), .val (.ref b291), .val (.int (((x4.toUInt32 >>> ((1 : Int32) &&& 31).toUInt32).toInt32) &&& (3 : Int32))), .unset, .unset, .unset] []))
            refine Gl.back (fun _ k => XS.iload X349.here hx rfl (hb hby at_99) rfl k) ?_
            show Gl _ _ _ _ _ _ _ (T349.setTop (mkF m 101 #[.val (.int x0), .val (.int x1), .val (.int x2), .val (.int x3), .val (.int x4), .val (.int ((x0 &&& (2147483647 : Int32)) % (7 : Int32))), .val (.int ca), .val (.int cb), .val (.int (1 : Int32)), .val (.ref b285), .val (.ref b291), .val (.int (((x4.toUInt32 >>> ((1 : Int32) &&& 31).toUInt32).toInt32) &&& (3 : Int32))), .unset, .unset, .unset] [(.int cb)]))
            refine Gl.back (fun _ k => XS.istore X349.here hx rfl (hb hby at_101) rfl (l' := #[.val (.int x0), .val (.int x1), .val (.int x2), .val (.int x3), .val (.int x4), .val (.int ((x0 &&& (2147483647 : Int32)) % (7 : Int32))), .val (.int ca), .val (.int cb), .val (.int (1 : Int32)), .val (.ref b285), .val (.ref b291), .val (.int (((x4.toUInt32 >>> ((1 : Int32) &&& 31).toUInt32).toInt32) &&& (3 : Int32))), .val (.int cb), .unset, .unset]) rfl k) ?_
            show Gl _ _ _ _ _ _ _ (T349.setTop (mkF m 103 #[.val (.int x0), .val (.int x1), .val (.int x2), .val (.int x3), .val (.int x4), .val (.int ((x0 &&& (2147483647 : Int32)) % (7 : Int32))), .val (.int ca), .val (.int cb), .val (.int (1 : Int32)), .val (.ref b285), .val (.ref b291), .val (.int (((x4.toUInt32 >>> ((1 : Int32) &&& 31).toUInt32).toInt32) &&& (3 : Int32))), .val (.int cb), .unset, .unset] []))
            refine Gl.back (fun _ k => XS.goto X349.here hx rfl (pc0 := 103) (pc' := 110) rfl (hb hby at_103) (by decide) (by decide) k) ?_
            show Gl _ _ _ _ _ _ _ (T349.setTop (mkF m 110 #[.val (.int x0), .val (.int x1), .val (.int x2), .val (.int x3), .val (.int x4), .val (.int ((x0 &&& (2147483647 : Int32)) % (7 : Int32))), .val (.int ca), .val (.int cb), .val (.int (1 : Int32)), .val (.ref b285), .val (.ref b291), .val (.int (((x4.toUInt32 >>> ((1 : Int32) &&& 31).toUInt32).toInt32) &&& (3 : Int32))), .val (.int cb), .unset, .unset] []))
            exact J110 _
          · refine Gl.back (fun _ k => XS.icmpYes X349.here hx rfl (pc0 := 96) (pc' := 106) rfl (hb hby at_96) rfl (feq hc96_375).2 (by decide) (by decide) k) ?_
            show Gl _ _ _ _ _ _ _ (T349.setTop (mkF m 106 #[.val (.int x0), .val (.int x1), .val (.int x2), .val (.int x3), .val (.int x4), .val (.int ((x0 &&& (2147483647 : Int32)) % (7 : Int32))), .val (.int ca), .val (.int cb), .val (.int (1 : Int32)), .val (.ref b285), .val (.ref b291), .val (.int (((x4.toUInt32 >>> ((1 : Int32) &&& 31).toUInt32).toInt32) &&& (3 : Int32))), .unset, .unset, .unset] []))
            refine Gl.back (fun _ k => XS.iloadN X349.here hx rfl (hb hby at_106) rfl k) ?_
            show Gl _ _ _ _ _ _ _ (T349.setTop (mkF m 107 #[.val (.int x0), .val (.int x1), .val (.int x2), .val (.int x3), .val (.int x4), .val (.int ((x0 &&& (2147483647 : Int32)) % (7 : Int32))), .val (.int ca), .val (.int cb), .val (.int (1 : Int32)), .val (.ref b285), .val (.ref b291), .val (.int (((x4.toUInt32 >>> ((1 : Int32) &&& 31).toUInt32).toInt32) &&& (3 : Int32))), .unset, .unset, .unset] [(.int x3)]))
            refine Gl.back (fun _ k => XS.i2c X349.here hx rfl (hb hby at_107) rfl k) ?_
            show Gl _ _ _ _ _ _ _ (T349.setTop (mkF m 108 #[.val (.int x0), .val (.int x1), .val (.int x2), .val (.int x3), .val (.int x4), .val (.int ((x0 &&& (2147483647 : Int32)) % (7 : Int32))), .val (.int ca), .val (.int cb), .val (.int (1 : Int32)), .val (.ref b285), .val (.ref b291), .val (.int (((x4.toUInt32 >>> ((1 : Int32) &&& 31).toUInt32).toInt32) &&& (3 : Int32))), .unset, .unset, .unset] [(.int (x3.toUInt32.toUInt16.toUInt32.toInt32))]))
            refine Gl.back (fun _ k => XS.istore X349.here hx rfl (hb hby at_108) rfl (l' := #[.val (.int x0), .val (.int x1), .val (.int x2), .val (.int x3), .val (.int x4), .val (.int ((x0 &&& (2147483647 : Int32)) % (7 : Int32))), .val (.int ca), .val (.int cb), .val (.int (1 : Int32)), .val (.ref b285), .val (.ref b291), .val (.int (((x4.toUInt32 >>> ((1 : Int32) &&& 31).toUInt32).toInt32) &&& (3 : Int32))), .val (.int (x3.toUInt32.toUInt16.toUInt32.toInt32)), .unset, .unset]) rfl k) ?_
            show Gl _ _ _ _ _ _ _ (T349.setTop (mkF m 110 #[.val (.int x0), .val (.int x1), .val (.int x2), .val (.int x3), .val (.int x4), .val (.int ((x0 &&& (2147483647 : Int32)) % (7 : Int32))), .val (.int ca), .val (.int cb), .val (.int (1 : Int32)), .val (.ref b285), .val (.ref b291), .val (.int (((x4.toUInt32 >>> ((1 : Int32) &&& 31).toUInt32).toInt32) &&& (3 : Int32))), .val (.int (x3.toUInt32.toUInt16.toUInt32.toInt32)), .unset, .unset] []))
            exact J110 _
set_option maxRecDepth 65536 in
set_option maxHeartbeats 40000000 in
theorem comes_1 {Post : Tables → Env → Array Value → State → Outcome → State → Prop} (hpost : ∀ tb e args s v u, (limb_1_1.after args s (.returned v) u = true ∧ limb_1_2.after args s (.returned v) u = true ∧ True) → FrameEnd s (.returned v) u (Jvm.fieldLocs frame_1_writes args s ++ Jvm.arrayLocs frame_1_arrays args s ++ Jvm.staticLocs frame_1_statics s) 24 128 → Post tb e args s (.returned v) u) :
    ArmFor flags0 classFile x code maxLocals ret World_1 tables_1 room_1 Calls_1 rest_1 Pre_1 Post := by
  intro l hfl _ _ p e ha hc hk s m args below hf hA hF happ hP
  obtain ⟨hcalls, hrest, hpre⟩ := hP
  obtain ⟨-, -, -, hnamed, -, -, -, hat⟩ := (Spec.applies_iff hf).mp happ
  obtain ⟨hg, hn⟩ := and_e (Cond.before_iff.mp (show (Jvm.Cond.and given_1 narrow_1).before args s = true from hpre))
  obtain ⟨gv376, gv377⟩ := and_e hg
  obtain ⟨gv378, gv379⟩ := and_e gv377
  obtain ⟨gv380, gv381⟩ := and_e gv379
  obtain ⟨gv382, gv383⟩ := and_e gv381
  obtain ⟨gv384, gv385⟩ := and_e gv383
  obtain ⟨w0, w1, w2, w3, w4, rfl⟩ : ∃ w0 w1 w2 w3 w4 : Value, args = #[w0, w1, w2, w3, w4] := by
    have hs : args.size = 5 := by simpa [Cond.value, given_1] using gv376
    obtain ⟨L⟩ := args
    match L, hs with
    | [w0, w1, w2, w3, w4], _ => exact ⟨w0, w1, w2, w3, w4, rfl⟩
  have hw := fun d (hd : d ∈ tables_1) => atoms_spec (ws := Jvm.Cond.code x code maxLocals ret :: tables_1) hat d (List.mem_cons_of_mem _ hd)
  have hfit : Fit s := fun {y c} hc i hi => by
    obtain ⟨ha, rfl⟩ := Array.getElem?_eq_some_iff.mp hc
    have q := List.all_eq_true.mp ((Array.all_eq_true_iff_forall_mem.mp hF) _ (Array.getElem_mem ha)) i (List.mem_range.mpr hi)
    simpa [Array.getElem?_eq_getElem hi] using q
  obtain ⟨hsets, hown0⟩ := atoms_of _ (rest_1_c_eq ▸ (show rest_1_c.before _ s = true from hrest))
  have hr0 := Cond.before_iff.mp hown0
  obtain ⟨i0, ei0⟩ := is_v gv378
  obtain rfl : w0 = (.int i0) := Option.some.inj ei0
  obtain ⟨i1, ei1⟩ := is_v gv380
  obtain rfl : w1 = (.int i1) := Option.some.inj ei1
  obtain ⟨i2, ei2⟩ := is_v gv382
  obtain rfl : w2 = (.int i2) := Option.some.inj ei2
  obtain ⟨i3, ei3⟩ := is_v gv384
  obtain rfl : w3 = (.int i3) := Option.some.inj ei3
  obtain ⟨i4, ei4⟩ := is_v gv385
  obtain rfl : w4 = (.int i4) := Option.some.inj ei4
  obtain ⟨gn121, gn122⟩ := and_e hn
  obtain ⟨w_WORD, ev_WORD⟩ := exa_v gn121
  have S_WORD := Sta.start ev_WORD (Or.inr ⟨(hw _ (List.mem_of_getElem? (i := 39) rfl)), (hw _ (List.mem_of_getElem? (i := 40) rfl))⟩)
  have E_WORD := Exa.start ev_WORD gn121
  obtain ⟨gn123, gn124⟩ := and_e gn122
  obtain ⟨w_SYMBOL, ev_SYMBOL⟩ := exa_v gn123
  have S_SYMBOL := Sta.start ev_SYMBOL (Or.inr ⟨(hw _ (List.mem_of_getElem? (i := 39) rfl)), (hw _ (List.mem_of_getElem? (i := 66) rfl))⟩)
  have E_SYMBOL := Exa.start ev_SYMBOL gn123
  obtain ⟨gn125, gn126⟩ := and_e gn124
  obtain ⟨gn127, gn128⟩ := and_e gn126
  obtain ⟨gn129, gn130⟩ := and_e gn128
  obtain ⟨w_DIGITS, ev_DIGITS⟩ := exa_v gn129
  have S_DIGITS := Sta.start ev_DIGITS (Or.inr ⟨(hw _ (List.mem_of_getElem? (i := 39) rfl)), (hw _ (List.mem_of_getElem? (i := 68) rfl))⟩)
  have E_DIGITS := Exa.start ev_DIGITS gn129
  obtain ⟨gn131, gn132⟩ := and_e gn130
  obtain ⟨gn133, gn134⟩ := and_e gn132
  obtain ⟨w_QUOTED_NAME, ev_QUOTED_NAME⟩ := exa_v gn133
  have S_QUOTED_NAME := Sta.start ev_QUOTED_NAME (Or.inr ⟨(hw _ (List.mem_of_getElem? (i := 39) rfl)), (hw _ (List.mem_of_getElem? (i := 112) rfl))⟩)
  have E_QUOTED_NAME := Exa.start ev_QUOTED_NAME gn133
  obtain ⟨gn135, gn136⟩ := and_e gn134
  obtain ⟨gn137, gn138⟩ := and_e gn136
  obtain ⟨w_UNCLOSED, ev_UNCLOSED⟩ := exa_v gn137
  have S_UNCLOSED := Sta.start ev_UNCLOSED (Or.inr ⟨(hw _ (List.mem_of_getElem? (i := 39) rfl)), (hw _ (List.mem_of_getElem? (i := 114) rfl))⟩)
  have E_UNCLOSED := Exa.start ev_UNCLOSED gn137
  obtain ⟨gn139, gn140⟩ := and_e gn138
  obtain ⟨gn141, gn142⟩ := and_e gn140
  obtain ⟨w_STRING, ev_STRING⟩ := exa_v gn141
  have S_STRING := Sta.start ev_STRING (Or.inr ⟨(hw _ (List.mem_of_getElem? (i := 39) rfl)), (hw _ (List.mem_of_getElem? (i := 126) rfl))⟩)
  have E_STRING := Exa.start ev_STRING gn141
  obtain ⟨gn143, gn144⟩ := and_e gn142
  obtain ⟨gn145, gn146⟩ := and_e gn144
  obtain ⟨w_STRAY, ev_STRAY⟩ := exa_v gn145
  have S_STRAY := Sta.start ev_STRAY (Or.inr ⟨(hw _ (List.mem_of_getElem? (i := 39) rfl)), (hw _ (List.mem_of_getElem? (i := 128) rfl))⟩)
  have E_STRAY := Exa.start ev_STRAY gn145
  have F_WORD_ordinal := own_fldI ev_WORD gn125
  have F_SYMBOL_ordinal := own_fldI ev_SYMBOL gn127
  have F_DIGITS_ordinal := own_fldI ev_DIGITS gn131
  have F_QUOTED_NAME_ordinal := own_fldI ev_QUOTED_NAME gn135
  have F_UNCLOSED_ordinal := own_fldI ev_UNCLOSED gn139
  have F_STRING_ordinal := own_fldI ev_STRING gn143
  have F_STRAY_ordinal := own_fldI ev_STRAY gn146
  have nz := not_v (Cond.before_iff.mp (hsets _ (List.mem_of_getElem? (i := 2) rfl)))
  obtain ⟨zc, ez⟩ := is_v (Cond.before_iff.mp (hsets _ (List.mem_of_getElem? (i := 1) rfl)))
  have S_C : Sta s s.heap "java/lang/String" "COMPACT_STRINGS" "Z" (.int zc) := Sta.start ez (Or.inl (hsets _ (List.mem_of_getElem? (i := 0) rfl)))
  have P0 : ¬ (zc = (0 : Int32)) := gotF (Jvm.Cond.eq_ints ez (Term.int_eval (0))) nz
  obtain ⟨fm, efm, hfm⟩ := isR_v (Cond.before_iff.mp (hsets _ (List.mem_of_getElem? (i := 8) rfl)))
  have S_F := Sta.start efm (Or.inl (hsets _ (List.mem_of_getElem? (i := 7) rfl)))
  have S_AD := own_staI (hsets _ (List.mem_of_getElem? (i := 12) rfl)) (Or.inl (hsets _ (List.mem_of_getElem? (i := 11) rfl)))
  have S_HI := own_staI (hsets _ (List.mem_of_getElem? (i := 15) rfl)) (Or.inl (hsets _ (List.mem_of_getElem? (i := 14) rfl)))
  have S_LO := own_staI (hsets _ (List.mem_of_getElem? (i := 18) rfl)) (Or.inl (hsets _ (List.mem_of_getElem? (i := 17) rfl)))
  obtain ⟨n, o, h1, h2, h3, _, L, rfl, ⟨N, rfl⟩, hq⟩ := rm0 l s _ hw tables_1 i0 i1 i2 i3 i4 w_WORD w_QUOTED_NAME w_STRING w_DIGITS w_STRAY w_SYMBOL w_UNCLOSED zc fm s.heap s.heap.size (Nat.le_refl _) (Old.start s) S_WORD S_QUOTED_NAME S_STRING S_DIGITS S_STRAY S_SYMBOL S_UNCLOSED (Fld.ne F_WORD_ordinal F_SYMBOL_ordinal (by decide)) (Fld.ne F_QUOTED_NAME_ordinal F_SYMBOL_ordinal (by decide)) (Fld.ne F_STRING_ordinal F_SYMBOL_ordinal (by decide)) (Fld.ne F_DIGITS_ordinal F_SYMBOL_ordinal (by decide)) (Fld.ne F_STRAY_ordinal F_SYMBOL_ordinal (by decide)) (Fld.ne F_UNCLOSED_ordinal F_SYMBOL_ordinal (by decide)) S_AD S_HI S_LO S_C P0 S_F hfm p e ha hc hk s m _ below hf ((Spec.applies_iff_loose hf).mp happ).1 ⟨rfl, State.Warmed39.refl s, rfl⟩ trivial
  refine ⟨n, _, h1, h2, h3, hpost _ _ _ _ _ _ ⟨Cond.after_iff.mpr rfl, Cond.after_iff.mpr (eq_i res_at (Term.int_eval (1)) rfl), trivial⟩ ⟨hq.1, hq.2.1, (hq.2.2.sift fun y hy => Or.inr (N y hy)).mono (by decide) (by decide)⟩⟩
theorem main_1_1 : Claimed_1_1 := comes_1 fun _ _ _ _ _ _ h hF => ⟨h.1, hF⟩
theorem main_1_2 : Claimed_1_2 := comes_1 fun _ _ _ _ _ _ h hF => ⟨h.2.1, hF⟩
end Jvm.Pilot.@@N@@
namespace Jvm.Pilot.@@N@@
open Jvm Jvm.ClassFile Sem Op Lib Jvm.Free Jvm.Stand Jvm.Pilot.@@N@@.Jvm.D
/-! MADE BY PROGRAM (witnessworld.py) out of the Statement's table words and the real class files: 23 classes; the members and pool entries that the words name. The judged class is class 1, her method 2. -/
namespace start1
open Jvm.ClassFile
def u (s : String) : CpInfo := .utf8 (stringToUtf16 s)
/-- a pool by its gaps: so many unusable entries, then the entry; so many at the end -/
def gap : Nat → List CpInfo → List CpInfo
  | 0, r => r
  | n + 1, r => .unusable :: gap n r
def poolList (es : List (Nat × CpInfo)) (last : Nat) : List CpInfo := es.foldr (fun e r => gap e.1 (e.2 :: r)) (gap last [])
def pool (es : List (Nat × CpInfo)) (last : Nat) : Array CpInfo := ⟨poolList es last⟩
def fileOf (pool : Array CpInfo) (this : Nat) (attrs : Array Attribute := #[]) (ms : Array MethodInfo := #[]) (fl : Nat := 33) (sup : Nat := 0) (ifs : Array Nat := #[]) (fds : Array FieldInfo := #[]) : ClassFile where
  minorVersion := 0
  majorVersion := 65
  constantPool := pool
  accessFlags := fl
  thisClass := this
  superClass := sup
  interfaces := ifs
  fields := fds
  methods := ms
  attributes := attrs
def plain (name : String) (sup : Option ClassId) : Class where
  name := name
  kind := .ordinary
  loader := none
  accessFlags := 33
  super := sup
  interfaces := #[]
  cf := none
  fields := #[]
  methods := #[]
  instanceTypes := #[]
  staticTypes := #[]
  resolved := #[]
  callSites := []
  init := .initialized
  statics := none
  mirror := none

def pool0 : Array CpInfo := pool [(5, u "<init>"), (0, u "()V"), (1, .class_ 10), (1, u "java/lang/Object")] 113

def k0c0 : Code := { maxStack := 0, maxLocals := 1, code := object_method_1_code, exceptionTable := #[], attributes := #[] }
def k0m0 : Method := { name := "<init>", desc := "()V", sig := { parameters := [], returnType := none }, accessFlags := 1, code := some k0c0 }
/-- java/lang/Object -/
def k0 : Class := { plain "java/lang/Object" none with
  accessFlags := 33
  interfaces := #[]
  cf := some (fileOf pool0 8 #[] #[{ accessFlags := 1, nameIndex := 5, descriptorIndex := 6, attributes := #[] }] 33 0 #[] #[])
  fields := #[]
  methods := #[k0m0]
  instanceTypes := #[]
  staticTypes := #[]
  resolved := Array.replicate 124 none
  statics := none }

def pool1 : Array CpInfo := pool [(2, .class_ 4), (1, u "java/lang/Object"), (0, u "<init>"), (0, u "()V"), (0, .fieldref 8 9), (0, .class_ 10), (0, .nameAndType 11 12), (0, u "com/example/partition_planner/partitionplanner/CqlLexer$Kind"), (0, u "WORD"), (0, u "Lcom/example/partition_planner/partitionplanner/CqlLexer$Kind;"), (0, .fieldref 8 14), (0, .nameAndType 15 12), (0, u "QUOTED_NAME"), (0, .fieldref 8 17), (0, .nameAndType 18 12), (0, u "STRING"), (0, .fieldref 8 20), (0, .nameAndType 21 12), (0, u "DIGITS"), (0, .fieldref 8 23), (0, .nameAndType 24 12), (0, u "STRAY"), (0, .fieldref 8 26), (0, .nameAndType 27 12), (0, u "SYMBOL"), (0, .fieldref 8 29), (0, .nameAndType 30 12), (0, u "UNCLOSED"), (0, .integer 2147483647), (0, .class_ 33), (0, u "java/lang/String"), (0, .methodref 32 35), (0, .nameAndType 5 36), (0, u "([C)V"), (0, .class_ 38), (0, u "com/example/partition_planner/partitionplanner/CqlLexer$Token"), (0, .methodref 40 41), (0, .class_ 42), (0, .nameAndType 43 44), (0, u "com/example/partition_planner/partitionplanner/TokenIsSymbolPinLaw"), (0, u "kindOf"), (0, u "(I)Lcom/example/partition_planner/partitionplanner/CqlLexer$Kind;"), (0, .methodref 37 46), (0, .nameAndType 5 47), (0, u "(Lcom/example/partition_planner/partitionplanner/CqlLexer$Kind;Ljava/lang/String;III)V"), (0, .methodref 37 49), (0, .nameAndType 50 51), (0, u "isSymbol"), (0, u "(C)Z"), (3, u "law"), (0, u "(IIIII)Z")] 9

def k1m0 : Method := { name := "<init>", desc := "()V", sig := { parameters := [], returnType := none }, accessFlags := 1, code := none }
def k1c1 : Code := { maxStack := 2, maxLocals := 1, code := method_2_code, exceptionTable := #[], attributes := #[] }
def k1m1 : Method := { name := "kindOf", desc := "(I)Lcom/example/partition_planner/partitionplanner/CqlLexer$Kind;", sig := { parameters := [.int], returnType := some (.object "com/example/partition_planner/partitionplanner/CqlLexer$Kind") }, accessFlags := 10, code := some k1c1 }
def k1c2 : Code := { maxStack := 7, maxLocals := 15, code := code, exceptionTable := #[], attributes := #[] }
def k1m2 : Method := { name := "law", desc := "(IIIII)Z", sig := { parameters := [.int, .int, .int, .int, .int], returnType := some .boolean }, accessFlags := 9, code := some k1c2 }
/-- com/example/partition_planner/partitionplanner/TokenIsSymbolPinLaw -/
def k1 : Class := { plain "com/example/partition_planner/partitionplanner/TokenIsSymbolPinLaw" (some 0) with
  accessFlags := 49
  interfaces := #[]
  cf := some (fileOf pool1 40 #[] #[{ accessFlags := 1, nameIndex := 5, descriptorIndex := 6, attributes := #[] }, { accessFlags := 10, nameIndex := 43, descriptorIndex := 44, attributes := #[] }, { accessFlags := 9, nameIndex := 55, descriptorIndex := 56, attributes := #[] }] 49 2 #[] #[])
  fields := #[]
  methods := #[k1m0, k1m1, k1m2]
  instanceTypes := #[]
  staticTypes := #[]
  resolved := Array.replicate 66 none
  statics := none }

def pool2 : Array CpInfo := pool [(1, .class_ 2), (0, u "java/io/Serializable"), (0, .class_ 4), (0, u "java/lang/Object")] 2

/-- java/io/Serializable -/
def k2 : Class := { plain "java/io/Serializable" (some 0) with
  accessFlags := 1537
  interfaces := #[]
  cf := some (fileOf pool2 1 #[] #[] 1537 3 #[] #[])
  fields := #[]
  methods := #[]
  instanceTypes := #[]
  staticTypes := #[]
  resolved := Array.replicate 7 none
  statics := none }

def pool3 : Array CpInfo := pool [(1, .class_ 2), (0, u "java/lang/Comparable"), (0, .class_ 4), (0, u "java/lang/Object")] 7

/-- java/lang/Comparable -/
def k3 : Class := { plain "java/lang/Comparable" (some 0) with
  accessFlags := 1537
  interfaces := #[]
  cf := some (fileOf pool3 1 #[] #[] 1537 3 #[] #[])
  fields := #[]
  methods := #[]
  instanceTypes := #[]
  staticTypes := #[]
  resolved := Array.replicate 12 none
  statics := none }

def pool4 : Array CpInfo := pool [(2, .class_ 4), (1, u "java/lang/CharSequence"), (42, .class_ 48), (0, u "java/lang/CharSequence$1CodePointIterator"), (10, .class_ 60), (0, u "java/lang/CharSequence$1CharIterator"), (5, .class_ 67), (0, u "java/lang/Object")] 63

/-- java/lang/CharSequence -/
def k4 : Class := { plain "java/lang/CharSequence" (some 0) with
  accessFlags := 1537
  interfaces := #[]
  cf := some (fileOf pool4 2 #[.nestMembers #[47, 59]] #[] 1537 66 #[] #[])
  fields := #[]
  methods := #[]
  instanceTypes := #[]
  staticTypes := #[]
  resolved := Array.replicate 131 none
  statics := none }

def pool5 : Array CpInfo := pool [(1, .class_ 2), (0, u "java/lang/constant/Constable"), (0, .class_ 4), (0, u "java/lang/Object")] 6

/-- java/lang/constant/Constable -/
def k5 : Class := { plain "java/lang/constant/Constable" (some 0) with
  accessFlags := 1537
  interfaces := #[]
  cf := some (fileOf pool5 1 #[] #[] 1537 3 #[] #[])
  fields := #[]
  methods := #[]
  instanceTypes := #[]
  staticTypes := #[]
  resolved := Array.replicate 11 none
  statics := none }

def pool6 : Array CpInfo := pool [(1, .class_ 2), (0, u "java/lang/constant/ConstantDesc"), (0, .class_ 4), (0, u "java/lang/Object")] 32

/-- java/lang/constant/ConstantDesc -/
def k6 : Class := { plain "java/lang/constant/ConstantDesc" (some 0) with
  accessFlags := 1537
  interfaces := #[]
  cf := some (fileOf pool6 1 #[] #[] 1537 3 #[] #[])
  fields := #[]
  methods := #[]
  instanceTypes := #[]
  staticTypes := #[]
  resolved := Array.replicate 37 none
  statics := none }

def pool7 : Array CpInfo := pool [(1, .methodref 2 3), (0, .class_ 4), (0, .nameAndType 5 6), (0, u "java/lang/Object"), (0, u "<init>"), (0, u "()V"), (2, .fieldref 10 11), (0, .class_ 12), (0, .nameAndType 13 14), (0, u "java/lang/String"), (0, u "value"), (0, u "[B"), (0, .fieldref 10 16), (0, .nameAndType 17 18), (0, u "coder"), (0, u "B"), (2, u "hash"), (0, u "I"), (2, u "hashIsZero"), (0, u "Z"), (0, .methodref 10 28), (0, .nameAndType 5 29), (0, u "([CIILjava/lang/Void;)V"), (8, .fieldref 10 39), (0, .nameAndType 40 26), (0, u "COMPACT_STRINGS"), (1, .class_ 44), (1, u "java/lang/StringUTF16"), (0, u "compress"), (1, .methodref 42 48), (0, .nameAndType 49 50), (0, u "coderFromArrayLen"), (0, u "([BI)B"), (56, .class_ 109), (1, u "java/lang/StringLatin1"), (32, u "()Z"), (34, .methodref 42 178), (0, .nameAndType 45 179), (0, u "([CII)[B"), (183, u "([BI)C"), (27, u "(II)V"), (35, u "(I)C"), (64, .methodref 10 493), (0, .nameAndType 494 142), (0, u "isLatin1"), (0, .methodref 107 496), (0, .nameAndType 497 363), (0, u "charAt"), (0, .methodref 42 496), (2, u "checkIndex"), (73, .class_ 576), (0, u "java/lang/CharSequence"), (22, u "CASE_INSENSITIVE_ORDER"), (0, u "Ljava/util/Comparator;"), (409, u "([C)V"), (42, .fieldref 1054 1055), (0, .class_ 1056), (0, .nameAndType 1057 1058), (0, u "jdk/internal/util/Preconditions"), (0, u "SIOOBE_FORMATTER"), (0, u "Ljava/util/function/BiFunction;"), (0, .methodref 1054 1060), (0, .nameAndType 501 1061), (0, u "(IILjava/util/function/BiFunction;)I"), (39, u "serialPersistentFields"), (0, u "[Ljava/io/ObjectStreamField;"), (0, .class_ 1104), (0, u "java/lang/String$CaseInsensitiveComparator"), (1, .class_ 1107), (0, u "java/io/Serializable"), (0, .class_ 1109), (0, u "java/lang/Comparable"), (0, .class_ 1111), (0, u "java/lang/constant/Constable"), (0, .class_ 1113), (0, u "java/lang/constant/ConstantDesc"), (2, u "serialVersionUID"), (0, u "J"), (3, u "REPL"), (0, u "C"), (2, u "LATIN1"), (1, u "UTF16")] 323

def k7m0 : Method := { name := "<init>", desc := "()V", sig := { parameters := [], returnType := none }, accessFlags := 1, code := none }
def k7c1 : Code := { maxStack := 5, maxLocals := 2, code := jdk_42_method_3_code, exceptionTable := #[], attributes := #[] }
def k7m1 : Method := { name := "<init>", desc := "([C)V", sig := { parameters := [(.array .char)], returnType := none }, accessFlags := 1, code := some k7c1 }
def k7c2 : Code := { maxStack := 2, maxLocals := 2, code := jdk_42_method_56_code, exceptionTable := #[], attributes := #[] }
def k7m2 : Method := { name := "charAt", desc := "(I)C", sig := { parameters := [.int], returnType := some .char }, accessFlags := 1, code := some k7c2 }
def k7c3 : Code := { maxStack := 4, maxLocals := 6, code := jdk_42_method_149_code, exceptionTable := #[], attributes := #[] }
def k7m3 : Method := { name := "<init>", desc := "([CIILjava/lang/Void;)V", sig := { parameters := [(.array .char), .int, .int, (.object "java/lang/Void")], returnType := none }, accessFlags := 2, code := some k7c3 }
def k7c4 : Code := { maxStack := 1, maxLocals := 1, code := jdk_42_method_154_code, exceptionTable := #[], attributes := #[] }
def k7m4 : Method := { name := "isLatin1", desc := "()Z", sig := { parameters := [], returnType := some .boolean }, accessFlags := 0, code := some k7c4 }
def k7c5 : Code := { maxStack := 3, maxLocals := 2, code := jdk_42_method_155_code, exceptionTable := #[], attributes := #[] }
def k7m5 : Method := { name := "checkIndex", desc := "(II)V", sig := { parameters := [.int, .int], returnType := none }, accessFlags := 8, code := some k7c5 }
/-- java/lang/String -/
def k7 : Class := { plain "java/lang/String" (some 0) with
  accessFlags := 49
  interfaces := #[2, 3, 4, 5, 6]
  cf := some (fileOf pool7 10 #[.nestMembers #[1103]] #[{ accessFlags := 1, nameIndex := 5, descriptorIndex := 6, attributes := #[] }, { accessFlags := 1, nameIndex := 5, descriptorIndex := 1010, attributes := #[] }, { accessFlags := 1, nameIndex := 497, descriptorIndex := 427, attributes := #[] }, { accessFlags := 2, nameIndex := 5, descriptorIndex := 29, attributes := #[] }, { accessFlags := 0, nameIndex := 494, descriptorIndex := 142, attributes := #[] }, { accessFlags := 8, nameIndex := 501, descriptorIndex := 391, attributes := #[] }] 49 2 #[1106, 1108, 575, 1110, 1112] #[{ accessFlags := 18, nameIndex := 13, descriptorIndex := 14, attributes := #[] }, { accessFlags := 18, nameIndex := 17, descriptorIndex := 18, attributes := #[] }, { accessFlags := 2, nameIndex := 21, descriptorIndex := 22, attributes := #[] }, { accessFlags := 2, nameIndex := 25, descriptorIndex := 26, attributes := #[] }, { accessFlags := 26, nameIndex := 1116, descriptorIndex := 1117, attributes := #[] }, { accessFlags := 24, nameIndex := 40, descriptorIndex := 26, attributes := #[] }, { accessFlags := 26, nameIndex := 1101, descriptorIndex := 1102, attributes := #[] }, { accessFlags := 26, nameIndex := 1121, descriptorIndex := 1122, attributes := #[] }, { accessFlags := 25, nameIndex := 599, descriptorIndex := 600, attributes := #[] }, { accessFlags := 24, nameIndex := 1125, descriptorIndex := 18, attributes := #[] }, { accessFlags := 24, nameIndex := 1127, descriptorIndex := 18, attributes := #[] }])
  fields := #[{ name := "value", type := (.array .byte), accessFlags := 18, slot := 0, constantValue := 0 }, { name := "coder", type := .byte, accessFlags := 18, slot := 1, constantValue := 0 }, { name := "hash", type := .int, accessFlags := 2, slot := 2, constantValue := 0 }, { name := "hashIsZero", type := .boolean, accessFlags := 2, slot := 3, constantValue := 0 }, { name := "serialVersionUID", type := .long, accessFlags := 26, slot := 0, constantValue := 0 }, { name := "COMPACT_STRINGS", type := .boolean, accessFlags := 24, slot := 1, constantValue := 0 }, { name := "serialPersistentFields", type := (.array (.object "java/io/ObjectStreamField")), accessFlags := 26, slot := 2, constantValue := 0 }, { name := "REPL", type := .char, accessFlags := 26, slot := 3, constantValue := 0 }, { name := "CASE_INSENSITIVE_ORDER", type := (.object "java/util/Comparator"), accessFlags := 25, slot := 4, constantValue := 0 }, { name := "LATIN1", type := .byte, accessFlags := 24, slot := 5, constantValue := 0 }, { name := "UTF16", type := .byte, accessFlags := 24, slot := 6, constantValue := 0 }]
  methods := #[k7m0, k7m1, k7m2, k7m3, k7m4, k7m5]
  instanceTypes := #[(.array .byte), .byte, .int, .boolean]
  staticTypes := #[.long, .boolean, (.array (.object "java/io/ObjectStreamField")), .char, (.object "java/util/Comparator"), .byte, .byte]
  resolved := Array.replicate 1451 none
  statics := some 0 }

def pool8 : Array CpInfo := pool [(3, .class_ 4), (0, u "java/lang/String"), (1, .class_ 8), (1, u "java/lang/Object"), (0, u "<init>"), (0, u "()V"), (0, .methodref 12 13), (0, .class_ 14), (0, .nameAndType 15 16), (0, u "java/lang/StringUTF16"), (0, u "newBytesLength"), (0, u "(I)I"), (3, .integer 1073741823), (23, .fieldref 12 45), (0, .nameAndType 46 47), (0, u "$assertionsDisabled"), (0, u "Z"), (0, .methodref 12 49), (0, .nameAndType 50 51), (0, u "length"), (0, u "([B)I"), (7, .fieldref 12 60), (0, .nameAndType 61 62), (0, u "HI_BYTE_SHIFT"), (0, u "I"), (0, .fieldref 12 64), (0, .nameAndType 65 62), (0, u "LO_BYTE_SHIFT"), (1, .methodref 12 68), (0, .nameAndType 69 70), (0, u "checkIndex"), (0, u "(I[B)V"), (0, .methodref 12 72), (0, .nameAndType 73 74), (0, u "getChar"), (0, u "([BI)C"), (32, .methodref 12 108), (0, .nameAndType 109 110), (0, u "newBytesFor"), (0, u "(I)[B"), (0, .methodref 12 112), (0, .nameAndType 113 114), (0, u "putChar"), (0, u "([BII)V"), (0, .methodref 12 116), (0, .nameAndType 117 118), (0, u "compress"), (0, u "([CI[BII)I"), (0, .methodref 12 120), (0, .nameAndType 121 122), (0, u "toBytes"), (0, u "([CII)[B"), (138, u "coderFromArrayLen"), (0, u "([BI)B"), (106, .class_ 371), (1, u "java/lang/StringUTF16$LinesSpliterator"), (20, u "charAt"), (21, .methodref 3 415), (0, .nameAndType 69 416), (0, u "(II)V"), (13, u "MAX_LENGTH"), (196, .class_ 628), (0, u "java/lang/StringUTF16$CodePointsSpliterator"), (0, .class_ 630), (0, u "java/lang/StringUTF16$CharsSpliterator")] 4

def k8m0 : Method := { name := "<init>", desc := "()V", sig := { parameters := [], returnType := none }, accessFlags := 0, code := none }
def k8c1 : Code := { maxStack := 1, maxLocals := 1, code := jdk_52_method_2_code, exceptionTable := #[], attributes := #[] }
def k8m1 : Method := { name := "newBytesFor", desc := "(I)[B", sig := { parameters := [.int], returnType := some (.array .byte) }, accessFlags := 9, code := some k8c1 }
def k8c2 : Code := { maxStack := 4, maxLocals := 1, code := jdk_52_method_3_code, exceptionTable := #[], attributes := #[] }
def k8m2 : Method := { name := "newBytesLength", desc := "(I)I", sig := { parameters := [.int], returnType := some .int }, accessFlags := 9, code := some k8c2 }
def k8c3 : Code := { maxStack := 4, maxLocals := 3, code := jdk_52_method_4_code, exceptionTable := #[], attributes := #[] }
def k8m3 : Method := { name := "putChar", desc := "([BII)V", sig := { parameters := [(.array .byte), .int, .int], returnType := none }, accessFlags := 8, code := some k8c3 }
def k8c4 : Code := { maxStack := 3, maxLocals := 2, code := jdk_52_method_5_code, exceptionTable := #[], attributes := #[] }
def k8m4 : Method := { name := "getChar", desc := "([BI)C", sig := { parameters := [(.array .byte), .int], returnType := some .char }, accessFlags := 8, code := some k8c4 }
def k8c5 : Code := { maxStack := 2, maxLocals := 1, code := jdk_52_method_6_code, exceptionTable := #[], attributes := #[] }
def k8m5 : Method := { name := "length", desc := "([B)I", sig := { parameters := [(.array .byte)], returnType := some .int }, accessFlags := 9, code := some k8c5 }
def k8c6 : Code := { maxStack := 4, maxLocals := 5, code := jdk_52_method_14_code, exceptionTable := #[], attributes := #[] }
def k8m6 : Method := { name := "toBytes", desc := "([CII)[B", sig := { parameters := [(.array .char), .int, .int], returnType := some (.array .byte) }, accessFlags := 9, code := some k8c6 }
def k8c7 : Code := { maxStack := 2, maxLocals := 2, code := jdk_52_method_15_code, exceptionTable := #[], attributes := #[] }
def k8m7 : Method := { name := "coderFromArrayLen", desc := "([BI)B", sig := { parameters := [(.array .byte), .int], returnType := some .byte }, accessFlags := 8, code := some k8c7 }
def k8c8 : Code := { maxStack := 5, maxLocals := 6, code := jdk_52_method_16_code, exceptionTable := #[], attributes := #[] }
def k8m8 : Method := { name := "compress", desc := "([CII)[B", sig := { parameters := [(.array .char), .int, .int], returnType := some (.array .byte) }, accessFlags := 9, code := some k8c8 }
def k8c9 : Code := { maxStack := 3, maxLocals := 7, code := jdk_52_method_21_code, exceptionTable := #[], attributes := #[] }
def k8m9 : Method := { name := "compress", desc := "([CI[BII)I", sig := { parameters := [(.array .char), .int, (.array .byte), .int, .int], returnType := some .int }, accessFlags := 9, code := some k8c9 }
def k8c10 : Code := { maxStack := 2, maxLocals := 2, code := jdk_52_method_83_code, exceptionTable := #[], attributes := #[] }
def k8m10 : Method := { name := "charAt", desc := "([BI)C", sig := { parameters := [(.array .byte), .int], returnType := some .char }, accessFlags := 9, code := some k8c10 }
def k8c11 : Code := { maxStack := 2, maxLocals := 2, code := jdk_52_method_91_code, exceptionTable := #[], attributes := #[] }
def k8m11 : Method := { name := "checkIndex", desc := "(I[B)V", sig := { parameters := [.int, (.array .byte)], returnType := none }, accessFlags := 9, code := some k8c11 }
/-- java/lang/StringUTF16 -/
def k8 : Class := { plain "java/lang/StringUTF16" (some 0) with
  accessFlags := 48
  interfaces := #[]
  cf := some (fileOf pool8 12 #[.nestMembers #[627, 629, 369]] #[{ accessFlags := 0, nameIndex := 9, descriptorIndex := 10, attributes := #[] }, { accessFlags := 9, nameIndex := 109, descriptorIndex := 110, attributes := #[] }, { accessFlags := 9, nameIndex := 15, descriptorIndex := 16, attributes := #[] }, { accessFlags := 8, nameIndex := 113, descriptorIndex := 114, attributes := #[] }, { accessFlags := 8, nameIndex := 73, descriptorIndex := 74, attributes := #[] }, { accessFlags := 9, nameIndex := 50, descriptorIndex := 51, attributes := #[] }, { accessFlags := 9, nameIndex := 121, descriptorIndex := 122, attributes := #[] }, { accessFlags := 8, nameIndex := 261, descriptorIndex := 262, attributes := #[] }, { accessFlags := 9, nameIndex := 117, descriptorIndex := 122, attributes := #[] }, { accessFlags := 9, nameIndex := 117, descriptorIndex := 118, attributes := #[] }, { accessFlags := 9, nameIndex := 392, descriptorIndex := 74, attributes := #[] }, { accessFlags := 9, nameIndex := 69, descriptorIndex := 70, attributes := #[] }] 48 6 #[] #[{ accessFlags := 26, nameIndex := 61, descriptorIndex := 62, attributes := #[] }, { accessFlags := 26, nameIndex := 65, descriptorIndex := 62, attributes := #[] }, { accessFlags := 24, nameIndex := 430, descriptorIndex := 62, attributes := #[] }, { accessFlags := 4120, nameIndex := 46, descriptorIndex := 47, attributes := #[] }])
  fields := #[{ name := "HI_BYTE_SHIFT", type := .int, accessFlags := 26, slot := 0, constantValue := 0 }, { name := "LO_BYTE_SHIFT", type := .int, accessFlags := 26, slot := 1, constantValue := 0 }, { name := "MAX_LENGTH", type := .int, accessFlags := 24, slot := 2, constantValue := 0 }, { name := "$assertionsDisabled", type := .boolean, accessFlags := 4120, slot := 3, constantValue := 0 }]
  methods := #[k8m0, k8m1, k8m2, k8m3, k8m4, k8m5, k8m6, k8m7, k8m8, k8m9, k8m10, k8m11]
  instanceTypes := #[]
  staticTypes := #[.int, .int, .int, .boolean]
  resolved := Array.replicate 635 none
  statics := some 1 }

def pool9 : Array CpInfo := pool [(1, .methodref 2 3), (0, .class_ 4), (0, .nameAndType 5 6), (0, u "java/lang/Object"), (0, u "<init>"), (0, u "()V"), (0, .class_ 8), (0, u "java/lang/Record")] 13

def k9c0 : Code := { maxStack := 1, maxLocals := 1, code := jdk_30_method_1_code, exceptionTable := #[], attributes := #[] }
def k9m0 : Method := { name := "<init>", desc := "()V", sig := { parameters := [], returnType := none }, accessFlags := 4, code := some k9c0 }
/-- java/lang/Record -/
def k9 : Class := { plain "java/lang/Record" (some 0) with
  accessFlags := 1057
  interfaces := #[]
  cf := some (fileOf pool9 7 #[] #[{ accessFlags := 4, nameIndex := 5, descriptorIndex := 6, attributes := #[] }] 1057 2 #[] #[])
  fields := #[]
  methods := #[k9m0]
  instanceTypes := #[]
  staticTypes := #[]
  resolved := Array.replicate 22 none
  statics := none }

def pool10 : Array CpInfo := pool [(1, .methodref 2 3), (0, .class_ 4), (0, .nameAndType 5 6), (0, u "java/lang/Record"), (0, u "<init>"), (0, u "()V"), (0, .fieldref 8 9), (0, .class_ 10), (0, .nameAndType 11 12), (0, u "com/example/partition_planner/partitionplanner/CqlLexer$Token"), (0, u "kind"), (0, u "Lcom/example/partition_planner/partitionplanner/CqlLexer$Kind;"), (0, .fieldref 8 14), (0, .nameAndType 15 16), (0, u "value"), (0, u "Ljava/lang/String;"), (0, .fieldref 8 18), (0, .nameAndType 19 20), (0, u "start"), (0, u "I"), (0, .fieldref 8 22), (0, .nameAndType 23 20), (0, u "end"), (0, .fieldref 8 25), (0, .nameAndType 26 20), (0, u "line"), (1, .class_ 30), (1, u "com/example/partition_planner/partitionplanner/CqlLexer$Kind"), (8, .class_ 41), (1, u "java/lang/String"), (2, .fieldref 28 45), (0, .nameAndType 46 12), (0, u "SYMBOL"), (0, .methodref 39 48), (0, .nameAndType 49 50), (0, u "charAt"), (0, u "(I)C"), (34, u "(Lcom/example/partition_planner/partitionplanner/CqlLexer$Kind;Ljava/lang/String;III)V"), (6, u "isSymbol"), (0, u "(C)Z"), (7, .class_ 102), (0, u "com/example/partition_planner/partitionplanner/CqlLexer")] 32

def k10c0 : Code := { maxStack := 2, maxLocals := 6, code := prog_9_method_1_code, exceptionTable := #[], attributes := #[] }
def k10m0 : Method := { name := "<init>", desc := "(Lcom/example/partition_planner/partitionplanner/CqlLexer$Kind;Ljava/lang/String;III)V", sig := { parameters := [(.object "com/example/partition_planner/partitionplanner/CqlLexer$Kind"), (.object "java/lang/String"), .int, .int, .int], returnType := none }, accessFlags := 0, code := some k10c0 }
def k10c1 : Code := { maxStack := 2, maxLocals := 2, code := prog_9_method_3_code, exceptionTable := #[], attributes := #[] }
def k10m1 : Method := { name := "isSymbol", desc := "(C)Z", sig := { parameters := [.char], returnType := some .boolean }, accessFlags := 0, code := some k10c1 }
/-- com/example/partition_planner/partitionplanner/CqlLexer$Token -/
def k10 : Class := { plain "com/example/partition_planner/partitionplanner/CqlLexer$Token" (some 9) with
  accessFlags := 48
  interfaces := #[]
  cf := some (fileOf pool10 8 #[.nestHost 101] #[{ accessFlags := 0, nameIndex := 5, descriptorIndex := 85, attributes := #[] }, { accessFlags := 0, nameIndex := 92, descriptorIndex := 93, attributes := #[] }] 48 2 #[] #[{ accessFlags := 18, nameIndex := 11, descriptorIndex := 12, attributes := #[] }, { accessFlags := 18, nameIndex := 15, descriptorIndex := 16, attributes := #[] }, { accessFlags := 18, nameIndex := 19, descriptorIndex := 20, attributes := #[] }, { accessFlags := 18, nameIndex := 23, descriptorIndex := 20, attributes := #[] }, { accessFlags := 18, nameIndex := 26, descriptorIndex := 20, attributes := #[] }])
  fields := #[{ name := "kind", type := (.object "com/example/partition_planner/partitionplanner/CqlLexer$Kind"), accessFlags := 18, slot := 0, constantValue := 0 }, { name := "value", type := (.object "java/lang/String"), accessFlags := 18, slot := 1, constantValue := 0 }, { name := "start", type := .int, accessFlags := 18, slot := 2, constantValue := 0 }, { name := "end", type := .int, accessFlags := 18, slot := 3, constantValue := 0 }, { name := "line", type := .int, accessFlags := 18, slot := 4, constantValue := 0 }]
  methods := #[k10m0, k10m1]
  instanceTypes := #[(.object "com/example/partition_planner/partitionplanner/CqlLexer$Kind"), (.object "java/lang/String"), .int, .int, .int]
  staticTypes := #[]
  resolved := Array.replicate 135 none
  statics := none }

def pool11 : Array CpInfo := pool [(2, .class_ 4), (1, u "java/lang/Enum"), (0, u "name"), (0, u "Ljava/lang/String;"), (2, u "ordinal"), (0, u "I"), (1, .class_ 14), (1, u "java/lang/Object"), (4, u "hash"), (86, .class_ 108), (1, u "java/lang/Enum$EnumDesc"), (2, .class_ 112), (0, u "java/lang/constant/Constable"), (0, .class_ 114), (0, u "java/lang/Comparable"), (0, .class_ 116), (0, u "java/io/Serializable")] 87

/-- java/lang/Enum -/
def k11 : Class := { plain "java/lang/Enum" (some 0) with
  accessFlags := 1057
  interfaces := #[5, 3, 2]
  cf := some (fileOf pool11 2 #[.nestMembers #[106]] #[] 1057 12 #[111, 113, 115] #[{ accessFlags := 18, nameIndex := 5, descriptorIndex := 6, attributes := #[] }, { accessFlags := 18, nameIndex := 9, descriptorIndex := 10, attributes := #[] }, { accessFlags := 2, nameIndex := 19, descriptorIndex := 10, attributes := #[] }])
  fields := #[{ name := "name", type := (.object "java/lang/String"), accessFlags := 18, slot := 0, constantValue := 0 }, { name := "ordinal", type := .int, accessFlags := 18, slot := 1, constantValue := 0 }, { name := "hash", type := .int, accessFlags := 2, slot := 2, constantValue := 0 }]
  methods := #[]
  instanceTypes := #[(.object "java/lang/String"), .int, .int]
  staticTypes := #[]
  resolved := Array.replicate 204 none
  statics := none }

def pool12 : Array CpInfo := pool [(1, .class_ 2), (0, u "com/example/partition_planner/partitionplanner/CqlLexer$Kind"), (2, u "WORD"), (0, u "Lcom/example/partition_planner/partitionplanner/CqlLexer$Kind;"), (2, u "QUOTED_NAME"), (2, u "STRING"), (2, u "DIGITS"), (2, u "STRAY"), (2, u "SYMBOL"), (2, u "UNCLOSED"), (2, u "$VALUES"), (0, u "[Lcom/example/partition_planner/partitionplanner/CqlLexer$Kind;"), (6, .class_ 37), (1, u "java/lang/Enum"), (30, .class_ 69), (0, u "com/example/partition_planner/partitionplanner/CqlLexer")] 2

/-- com/example/partition_planner/partitionplanner/CqlLexer$Kind -/
def k12 : Class := { plain "com/example/partition_planner/partitionplanner/CqlLexer$Kind" (some 11) with
  accessFlags := 16432
  interfaces := #[]
  cf := some (fileOf pool12 1 #[.nestHost 68] #[] 16432 35 #[] #[{ accessFlags := 16409, nameIndex := 5, descriptorIndex := 6, attributes := #[] }, { accessFlags := 16409, nameIndex := 9, descriptorIndex := 6, attributes := #[] }, { accessFlags := 16409, nameIndex := 12, descriptorIndex := 6, attributes := #[] }, { accessFlags := 16409, nameIndex := 15, descriptorIndex := 6, attributes := #[] }, { accessFlags := 16409, nameIndex := 18, descriptorIndex := 6, attributes := #[] }, { accessFlags := 16409, nameIndex := 21, descriptorIndex := 6, attributes := #[] }, { accessFlags := 16409, nameIndex := 24, descriptorIndex := 6, attributes := #[] }, { accessFlags := 4122, nameIndex := 27, descriptorIndex := 28, attributes := #[] }])
  fields := #[{ name := "WORD", type := (.object "com/example/partition_planner/partitionplanner/CqlLexer$Kind"), accessFlags := 16409, slot := 0, constantValue := 0 }, { name := "QUOTED_NAME", type := (.object "com/example/partition_planner/partitionplanner/CqlLexer$Kind"), accessFlags := 16409, slot := 1, constantValue := 0 }, { name := "STRING", type := (.object "com/example/partition_planner/partitionplanner/CqlLexer$Kind"), accessFlags := 16409, slot := 2, constantValue := 0 }, { name := "DIGITS", type := (.object "com/example/partition_planner/partitionplanner/CqlLexer$Kind"), accessFlags := 16409, slot := 3, constantValue := 0 }, { name := "STRAY", type := (.object "com/example/partition_planner/partitionplanner/CqlLexer$Kind"), accessFlags := 16409, slot := 4, constantValue := 0 }, { name := "SYMBOL", type := (.object "com/example/partition_planner/partitionplanner/CqlLexer$Kind"), accessFlags := 16409, slot := 5, constantValue := 0 }, { name := "UNCLOSED", type := (.object "com/example/partition_planner/partitionplanner/CqlLexer$Kind"), accessFlags := 16409, slot := 6, constantValue := 0 }, { name := "$VALUES", type := (.array (.object "com/example/partition_planner/partitionplanner/CqlLexer$Kind")), accessFlags := 4122, slot := 7, constantValue := 0 }]
  methods := #[]
  instanceTypes := #[(.object "java/lang/String"), .int, .int]
  staticTypes := #[(.object "com/example/partition_planner/partitionplanner/CqlLexer$Kind"), (.object "com/example/partition_planner/partitionplanner/CqlLexer$Kind"), (.object "com/example/partition_planner/partitionplanner/CqlLexer$Kind"), (.object "com/example/partition_planner/partitionplanner/CqlLexer$Kind"), (.object "com/example/partition_planner/partitionplanner/CqlLexer$Kind"), (.object "com/example/partition_planner/partitionplanner/CqlLexer$Kind"), (.object "com/example/partition_planner/partitionplanner/CqlLexer$Kind"), (.array (.object "com/example/partition_planner/partitionplanner/CqlLexer$Kind"))]
  resolved := Array.replicate 72 none
  statics := some 2 }

def pool13 : Array CpInfo := pool [(1, .class_ 2), (0, u "java/lang/String"), (1, .class_ 6), (1, u "java/lang/Object"), (0, u "<init>"), (0, u "()V"), (0, .methodref 1 10), (0, .nameAndType 11 12), (0, u "checkIndex"), (0, u "(II)V"), (1, .class_ 16), (1, u "java/lang/StringLatin1"), (36, u "([BI)C"), (67, u "$assertionsDisabled"), (0, u "Z"), (98, .class_ 223), (1, u "java/lang/StringLatin1$LinesSpliterator"), (28, u "charAt"), (137, .class_ 391), (0, u "java/lang/StringLatin1$CharsSpliterator")] 3

def k13m0 : Method := { name := "<init>", desc := "()V", sig := { parameters := [], returnType := none }, accessFlags := 0, code := none }
def k13c1 : Code := { maxStack := 2, maxLocals := 2, code := jdk_43_method_2_code, exceptionTable := #[], attributes := #[] }
def k13m1 : Method := { name := "charAt", desc := "([BI)C", sig := { parameters := [(.array .byte), .int], returnType := some .char }, accessFlags := 9, code := some k13c1 }
/-- java/lang/StringLatin1 -/
def k13 : Class := { plain "java/lang/StringLatin1" (some 0) with
  accessFlags := 48
  interfaces := #[]
  cf := some (fileOf pool13 14 #[.nestMembers #[390, 221]] #[{ accessFlags := 0, nameIndex := 7, descriptorIndex := 8, attributes := #[] }, { accessFlags := 9, nameIndex := 252, descriptorIndex := 53, attributes := #[] }] 48 4 #[] #[{ accessFlags := 4120, nameIndex := 121, descriptorIndex := 122, attributes := #[] }])
  fields := #[{ name := "$assertionsDisabled", type := .boolean, accessFlags := 4120, slot := 0, constantValue := 0 }]
  methods := #[k13m0, k13m1]
  instanceTypes := #[]
  staticTypes := #[.boolean]
  resolved := Array.replicate 395 none
  statics := none }

def pool14 : Array CpInfo := pool [(2, .class_ 4), (1, u "java/lang/Object"), (0, u "<init>"), (0, u "()V"), (17, .class_ 26), (1, u "jdk/internal/util/Preconditions"), (6, u "checkIndex"), (21, .class_ 56), (0, u "jdk/internal/util/Preconditions$4"), (57, .class_ 115), (0, u "jdk/internal/util/Preconditions$1"), (7, u "SIOOBE_FORMATTER"), (0, u "Ljava/util/function/BiFunction;"), (0, .class_ 126), (0, u "jdk/internal/util/Preconditions$2"), (3, u "AIOOBE_FORMATTER"), (0, .class_ 132), (0, u "jdk/internal/util/Preconditions$3"), (3, u "IOOBE_FORMATTER"), (41, u "(IILjava/util/function/BiFunction;)I")] 15

def k14m0 : Method := { name := "<init>", desc := "()V", sig := { parameters := [], returnType := none }, accessFlags := 1, code := none }
def k14c1 : Code := { maxStack := 3, maxLocals := 3, code := jdk_41_method_11_code, exceptionTable := #[], attributes := #[] }
def k14m1 : Method := { name := "checkIndex", desc := "(IILjava/util/function/BiFunction;)I", sig := { parameters := [.int, .int, (.object "java/util/function/BiFunction")], returnType := some .int }, accessFlags := 9, code := some k14c1 }
/-- jdk/internal/util/Preconditions -/
def k14 : Class := { plain "jdk/internal/util/Preconditions" (some 0) with
  accessFlags := 33
  interfaces := #[]
  cf := some (fileOf pool14 24 #[.nestMembers #[55, 131, 125, 114]] #[{ accessFlags := 1, nameIndex := 5, descriptorIndex := 6, attributes := #[] }, { accessFlags := 9, nameIndex := 33, descriptorIndex := 178, attributes := #[] }] 33 2 #[] #[{ accessFlags := 25, nameIndex := 123, descriptorIndex := 124, attributes := #[] }, { accessFlags := 25, nameIndex := 130, descriptorIndex := 124, attributes := #[] }, { accessFlags := 25, nameIndex := 136, descriptorIndex := 124, attributes := #[] }])
  fields := #[{ name := "SIOOBE_FORMATTER", type := (.object "java/util/function/BiFunction"), accessFlags := 25, slot := 0, constantValue := 0 }, { name := "AIOOBE_FORMATTER", type := (.object "java/util/function/BiFunction"), accessFlags := 25, slot := 1, constantValue := 0 }, { name := "IOOBE_FORMATTER", type := (.object "java/util/function/BiFunction"), accessFlags := 25, slot := 2, constantValue := 0 }]
  methods := #[k14m0, k14m1]
  instanceTypes := #[]
  staticTypes := #[(.object "java/util/function/BiFunction"), (.object "java/util/function/BiFunction"), (.object "java/util/function/BiFunction")]
  resolved := Array.replicate 194 none
  statics := some 3 }

def pool15 : Array CpInfo := pool [(9, u "<init>"), (6, .class_ 18), (1, u "java/lang/Object"), (0, u "()V"), (1, .class_ 23), (1, u "jdk/internal/util/ArraysSupport"), (0, u "LOG2_ARRAY_LONG_INDEX_SCALE"), (0, u "I"), (2, u "U"), (0, u "Ljdk/internal/misc/Unsafe;"), (8, u "BIG_ENDIAN"), (0, u "Z"), (8, u "LOG2_BYTE_BIT_SIZE"), (4, u "LOG2_ARRAY_INT_INDEX_SCALE"), (54, u "JLA"), (0, u "Ljdk/internal/access/JavaLangAccess;"), (11, u "LOG2_ARRAY_BOOLEAN_INDEX_SCALE"), (9, u "LOG2_ARRAY_BYTE_INDEX_SCALE"), (5, u "LOG2_ARRAY_CHAR_INDEX_SCALE"), (5, u "LOG2_ARRAY_SHORT_INDEX_SCALE"), (18, u "LOG2_ARRAY_FLOAT_INDEX_SCALE"), (24, u "LOG2_ARRAY_DOUBLE_INDEX_SCALE"), (89, u "T_BOOLEAN"), (2, u "T_CHAR"), (1, u "T_FLOAT"), (1, u "T_DOUBLE"), (1, u "T_BYTE"), (1, u "T_SHORT"), (1, u "T_INT"), (1, u "T_LONG"), (1, u "SOFT_MAX_ARRAY_LENGTH")] 83

def k15m0 : Method := { name := "<init>", desc := "()V", sig := { parameters := [], returnType := none }, accessFlags := 2, code := none }
/-- jdk/internal/util/ArraysSupport -/
def k15 : Class := { plain "jdk/internal/util/ArraysSupport" (some 0) with
  accessFlags := 33
  interfaces := #[]
  cf := some (fileOf pool15 21 #[] #[{ accessFlags := 2, nameIndex := 9, descriptorIndex := 19, attributes := #[] }] 33 16 #[] #[{ accessFlags := 24, nameIndex := 28, descriptorIndex := 29, attributes := #[] }, { accessFlags := 26, nameIndex := 38, descriptorIndex := 39, attributes := #[] }, { accessFlags := 25, nameIndex := 121, descriptorIndex := 25, attributes := #[] }, { accessFlags := 25, nameIndex := 131, descriptorIndex := 25, attributes := #[] }, { accessFlags := 25, nameIndex := 137, descriptorIndex := 25, attributes := #[] }, { accessFlags := 25, nameIndex := 143, descriptorIndex := 25, attributes := #[] }, { accessFlags := 25, nameIndex := 53, descriptorIndex := 25, attributes := #[] }, { accessFlags := 25, nameIndex := 24, descriptorIndex := 25, attributes := #[] }, { accessFlags := 25, nameIndex := 162, descriptorIndex := 25, attributes := #[] }, { accessFlags := 25, nameIndex := 187, descriptorIndex := 25, attributes := #[] }, { accessFlags := 26, nameIndex := 48, descriptorIndex := 25, attributes := #[] }, { accessFlags := 25, nameIndex := 277, descriptorIndex := 25, attributes := #[] }, { accessFlags := 25, nameIndex := 280, descriptorIndex := 25, attributes := #[] }, { accessFlags := 25, nameIndex := 282, descriptorIndex := 25, attributes := #[] }, { accessFlags := 25, nameIndex := 284, descriptorIndex := 25, attributes := #[] }, { accessFlags := 25, nameIndex := 286, descriptorIndex := 25, attributes := #[] }, { accessFlags := 25, nameIndex := 288, descriptorIndex := 25, attributes := #[] }, { accessFlags := 25, nameIndex := 290, descriptorIndex := 25, attributes := #[] }, { accessFlags := 25, nameIndex := 292, descriptorIndex := 25, attributes := #[] }, { accessFlags := 26, nameIndex := 108, descriptorIndex := 109, attributes := #[] }, { accessFlags := 25, nameIndex := 294, descriptorIndex := 25, attributes := #[] }])
  fields := #[{ name := "U", type := (.object "jdk/internal/misc/Unsafe"), accessFlags := 24, slot := 0, constantValue := 0 }, { name := "BIG_ENDIAN", type := .boolean, accessFlags := 26, slot := 1, constantValue := 0 }, { name := "LOG2_ARRAY_BOOLEAN_INDEX_SCALE", type := .int, accessFlags := 25, slot := 2, constantValue := 0 }, { name := "LOG2_ARRAY_BYTE_INDEX_SCALE", type := .int, accessFlags := 25, slot := 3, constantValue := 0 }, { name := "LOG2_ARRAY_CHAR_INDEX_SCALE", type := .int, accessFlags := 25, slot := 4, constantValue := 0 }, { name := "LOG2_ARRAY_SHORT_INDEX_SCALE", type := .int, accessFlags := 25, slot := 5, constantValue := 0 }, { name := "LOG2_ARRAY_INT_INDEX_SCALE", type := .int, accessFlags := 25, slot := 6, constantValue := 0 }, { name := "LOG2_ARRAY_LONG_INDEX_SCALE", type := .int, accessFlags := 25, slot := 7, constantValue := 0 }, { name := "LOG2_ARRAY_FLOAT_INDEX_SCALE", type := .int, accessFlags := 25, slot := 8, constantValue := 0 }, { name := "LOG2_ARRAY_DOUBLE_INDEX_SCALE", type := .int, accessFlags := 25, slot := 9, constantValue := 0 }, { name := "LOG2_BYTE_BIT_SIZE", type := .int, accessFlags := 26, slot := 10, constantValue := 0 }, { name := "T_BOOLEAN", type := .int, accessFlags := 25, slot := 11, constantValue := 0 }, { name := "T_CHAR", type := .int, accessFlags := 25, slot := 12, constantValue := 0 }, { name := "T_FLOAT", type := .int, accessFlags := 25, slot := 13, constantValue := 0 }, { name := "T_DOUBLE", type := .int, accessFlags := 25, slot := 14, constantValue := 0 }, { name := "T_BYTE", type := .int, accessFlags := 25, slot := 15, constantValue := 0 }, { name := "T_SHORT", type := .int, accessFlags := 25, slot := 16, constantValue := 0 }, { name := "T_INT", type := .int, accessFlags := 25, slot := 17, constantValue := 0 }, { name := "T_LONG", type := .int, accessFlags := 25, slot := 18, constantValue := 0 }, { name := "JLA", type := (.object "jdk/internal/access/JavaLangAccess"), accessFlags := 26, slot := 19, constantValue := 0 }, { name := "SOFT_MAX_ARRAY_LENGTH", type := .int, accessFlags := 25, slot := 20, constantValue := 0 }]
  methods := #[k15m0]
  instanceTypes := #[]
  staticTypes := #[(.object "jdk/internal/misc/Unsafe"), .boolean, .int, .int, .int, .int, .int, .int, .int, .int, .int, .int, .int, .int, .int, .int, .int, .int, .int, (.object "jdk/internal/access/JavaLangAccess"), .int]
  resolved := Array.replicate 378 none
  statics := none }

def pool16 : Array CpInfo := pool [(1, u "java/lang/Cloneable"), (0, .class_ 1), (0, u "java/lang/Object"), (0, .class_ 3)] 3

/-- java/lang/Cloneable -/
def k16 : Class := { plain "java/lang/Cloneable" (some 0) with
  accessFlags := 1537
  interfaces := #[]
  cf := some (fileOf pool16 2 #[] #[] 1537 4 #[] #[])
  fields := #[]
  methods := #[]
  instanceTypes := #[]
  staticTypes := #[]
  resolved := Array.replicate 8 none
  statics := none }

/-- the primitive byte -/
def k17 : Class := { plain "byte" none with kind := .primitive 'B', accessFlags := 0x411 }
/-- [B -/
def k18 : Class := { plain "[B" (some 0) with kind := .array 17 .byte, interfaces := #[16, 2], accessFlags := 1041 }

/-- the primitive char -/
def k19 : Class := { plain "char" none with kind := .primitive 'C', accessFlags := 0x411 }
/-- [C -/
def k20 : Class := { plain "[C" (some 0) with kind := .array 19 .char, interfaces := #[16, 2], accessFlags := 1041 }

/-- the primitive int -/
def k21 : Class := { plain "int" none with kind := .primitive 'I', accessFlags := 0x411 }
/-- [I -/
def k22 : Class := { plain "[I" (some 0) with kind := .array 21 .int, interfaces := #[16, 2], accessFlags := 1041 }

def heap : Heap := #[{ cls := 7, slots := #[.long 0, .int 1, .null, .int 0, .null, .int 0, .int 0], vm := .statics 7 },
  { cls := 8, slots := #[.int 0, .int 8, .int 0, .int 1], vm := .statics 8 },
  { cls := 12, slots := #[.ref 4, .ref 5, .ref 6, .ref 7, .ref 8, .ref 9, .ref 10, .null], vm := .statics 12 },
  { cls := 14, slots := #[.null, .null, .null], vm := .statics 14 },
  { cls := 12, slots := #[.null, .int 0, .int 0], vm := .none },
  { cls := 12, slots := #[.null, .int 1, .int 0], vm := .none },
  { cls := 12, slots := #[.null, .int 2, .int 0], vm := .none },
  { cls := 12, slots := #[.null, .int 3, .int 0], vm := .none },
  { cls := 12, slots := #[.null, .int 4, .int 0], vm := .none },
  { cls := 12, slots := #[.null, .int 5, .int 0], vm := .none },
  { cls := 12, slots := #[.null, .int 6, .int 0], vm := .none }]
def classes : Array Class := #[k0, k1, k2, k3, k4, k5, k6, k7, k8, k9, k10, k11, k12, k13, k14, k15, k16, k17, k18, k19, k20, k21, k22]
def interned : List (Array UInt16 × Addr) := []
def slotsUsed : Nat := 43
def theMethod : MethodId := ⟨1, 2⟩
def args0 : Array Value := #[.int 5, .int 97, .int 98, .int 99, .int 1]
def aboutOver (below : List Frame) : State where
  vm := { classes := classes, interned := interned.toArray }
  heap := heap
  slotsUsed := slotsUsed
  threads := #[{ frames := .invoking theMethod args0 :: below }]
def below0 : List Frame := [.native { method := ⟨0, 0⟩, args := #[] }]
def about1 : State := aboutOver below0
def p0 : Program := .bare "" "" ""
def e0 : Env := launch0.env 0 0 0
theorem w_frames : about1.frames = Frame.invoking theMethod args0 :: below0 := rfl
set_option maxRecDepth 65536 in
theorem w_args : argsFit about1.vm theMethod args0 = true := by decide +kernel
set_option maxRecDepth 65536 in
theorem w_heap : heapFits about1 = true := by decide +kernel
set_option maxRecDepth 65536 in
theorem w_runnable : about1.curStatus? = some .runnable := by decide +kernel
set_option maxRecDepth 65536 in
theorem w_alone : about1.alone = true := by decide +kernel
set_option maxRecDepth 65536 in
theorem w_named : about1.methodNamed? x = some theMethod := by decide +kernel
set_option maxRecDepth 65536 in
theorem w_hears : about1.hears theMethod below0 = true := by decide +kernel
set_option maxRecDepth 65536 in
theorem w_ripe : about1.ripe theMethod args0 below0 = true := by decide +kernel
theorem w_running : about1.status = .running := rfl
set_option maxRecDepth 65536 in
theorem w_room : about1.hasRoom e0.platform room_1 = true :=
  launch0.hasRoom_least _ room_1 (by decide +kernel) (by decide +kernel) (by decide +kernel) (by decide +kernel) (by decide +kernel) (by decide +kernel)
theorem allAtoms_all (ts : List Jvm.Cond) (a : Array Jvm.Value) (st : Jvm.State) : (allAtoms ts).before a st = ts.all (fun c => c.before a st) := by
  induction ts with
  | nil => rfl
  | cons c t ih =>
    show (Jvm.Cond.and c (allAtoms t)).before a st = _
    rw [Jvm.Cond.before_and, ih, List.all_cons]
def words1 : List Jvm.Cond := Jvm.Cond.code x code maxLocals ret :: tables_1
/-- a 'code' word, met by the world's own term for the bytes: nothing is compared byte by byte -/
theorem code_word {y : MethodName} {bytes : ByteArray} {mx : Nat} {rt : Option FieldType} {a : Array Value} {s : State} {m : MethodId} {meth : Method} {c : Code} (h1 : s.methodNamed? y = some m) (h2 : s.vm.method? m = some meth) (h3 : meth.code = some c) (h4 : c.code = bytes)
    (h5 : (c.maxLocals == mx && c.exceptionTable.isEmpty && decide (c.maxStack ≤ mostOperands) && decide (meth.sig.returnType = rt) && !meth.locks && decide (parseMethodDescriptor y.desc = some meth.sig)) = true) : (Jvm.Cond.code y bytes mx rt).before a s = true := by
  simp only [Bool.and_eq_true, beq_iff_eq, Bool.not_eq_true', decide_eq_true_eq] at h5
  obtain ⟨⟨⟨⟨⟨g1, g2⟩, g3⟩, g4⟩, g5⟩, g6⟩ := h5
  simp [Cond.before, Cond.holds, Cond.value, h1, h2, h3, h4, g1, g2, g3, g4, g5, g6]
def isCode : Jvm.Cond → Bool
  | .code _ _ _ _ => true
  | _ => false
theorem all_split {L : List Jvm.Cond} {P : Jvm.Cond → Bool} (h1 : L.all (fun c => isCode c || P c) = true) (h2 : ∀ c ∈ L.filter isCode, P c = true) : L.all P = true := by
  refine List.all_eq_true.mpr fun c hc => ?_
  have h := List.all_eq_true.mp h1 c hc
  rcases Bool.eq_false_or_eq_true (isCode c) with hi | hi
  · exact h2 c (List.mem_filter.mpr ⟨hc, hi⟩)
  · simpa [hi] using h
set_option maxRecDepth 65536 in
theorem w_c0 : (Jvm.Cond.code x code maxLocals ret).before args0 about1 = true := code_word (m := ⟨1, 2⟩) (meth := k1m2) (c := k1c2) (by decide +kernel) rfl rfl rfl (by decide +kernel)
set_option maxRecDepth 65536 in
theorem w_c1 : (Jvm.Cond.code ({ cls := "java/lang/String", name := "<init>", desc := "([C)V" } : Jvm.MethodName) jdk_42_method_3_code (2 : Nat) (Option.none : Option Jvm.ClassFile.FieldType)).before args0 about1 = true := code_word (m := ⟨7, 1⟩) (meth := k7m1) (c := k7c1) (by decide +kernel) rfl rfl rfl (by decide +kernel)
set_option maxRecDepth 65536 in
theorem w_c2 : (Jvm.Cond.code ({ cls := "java/lang/String", name := "<init>", desc := "([CIILjava/lang/Void;)V" } : Jvm.MethodName) jdk_42_method_149_code (6 : Nat) (Option.none : Option Jvm.ClassFile.FieldType)).before args0 about1 = true := code_word (m := ⟨7, 3⟩) (meth := k7m3) (c := k7c3) (by decide +kernel) rfl rfl rfl (by decide +kernel)
set_option maxRecDepth 65536 in
theorem w_c3 : (Jvm.Cond.code ({ cls := "java/lang/Object", name := "<init>", desc := "()V" } : Jvm.MethodName) object_method_1_code (1 : Nat) (Option.none : Option Jvm.ClassFile.FieldType)).before args0 about1 = true := code_word (m := ⟨0, 0⟩) (meth := k0m0) (c := k0c0) (by decide +kernel) rfl rfl rfl (by decide +kernel)
set_option maxRecDepth 65536 in
theorem w_c4 : (Jvm.Cond.code ({ cls := "java/lang/StringUTF16", name := "compress", desc := "([CII)[B" } : Jvm.MethodName) jdk_52_method_16_code (6 : Nat) (Option.some (Jvm.ClassFile.FieldType.array Jvm.ClassFile.FieldType.byte))).before args0 about1 = true := code_word (m := ⟨8, 8⟩) (meth := k8m8) (c := k8c8) (by decide +kernel) rfl rfl rfl (by decide +kernel)
set_option maxRecDepth 65536 in
theorem w_c5 : (Jvm.Cond.code ({ cls := "java/lang/StringUTF16", name := "compress", desc := "([CI[BII)I" } : Jvm.MethodName) jdk_52_method_21_code (7 : Nat) (Option.some Jvm.ClassFile.FieldType.int)).before args0 about1 = true := code_word (m := ⟨8, 9⟩) (meth := k8m9) (c := k8c9) (by decide +kernel) rfl rfl rfl (by decide +kernel)
set_option maxRecDepth 65536 in
theorem w_c6 : (Jvm.Cond.code ({ cls := "java/lang/StringUTF16", name := "coderFromArrayLen", desc := "([BI)B" } : Jvm.MethodName) jdk_52_method_15_code (2 : Nat) (Option.some Jvm.ClassFile.FieldType.byte)).before args0 about1 = true := code_word (m := ⟨8, 7⟩) (meth := k8m7) (c := k8c7) (by decide +kernel) rfl rfl rfl (by decide +kernel)
set_option maxRecDepth 65536 in
theorem w_c7 : (Jvm.Cond.code ({ cls := "com/example/partition_planner/partitionplanner/TokenIsSymbolPinLaw", name := "kindOf", desc := "(I)Lcom/example/partition_planner/partitionplanner/CqlLexer$Kind;" } : Jvm.MethodName) method_2_code (1 : Nat) (Option.some (Jvm.ClassFile.FieldType.object "com/example/partition_planner/partitionplanner/CqlLexer$Kind"))).before args0 about1 = true := code_word (m := ⟨1, 1⟩) (meth := k1m1) (c := k1c1) (by decide +kernel) rfl rfl rfl (by decide +kernel)
set_option maxRecDepth 65536 in
theorem w_c8 : (Jvm.Cond.code ({ cls := "com/example/partition_planner/partitionplanner/CqlLexer$Token", name := "<init>", desc := "(Lcom/example/partition_planner/partitionplanner/CqlLexer$Kind;Ljava/lang/String;III)V" } : Jvm.MethodName) prog_9_method_1_code (6 : Nat) (Option.none : Option Jvm.ClassFile.FieldType)).before args0 about1 = true := code_word (m := ⟨10, 0⟩) (meth := k10m0) (c := k10c0) (by decide +kernel) rfl rfl rfl (by decide +kernel)
set_option maxRecDepth 65536 in
theorem w_c9 : (Jvm.Cond.code ({ cls := "java/lang/Record", name := "<init>", desc := "()V" } : Jvm.MethodName) jdk_30_method_1_code (1 : Nat) (Option.none : Option Jvm.ClassFile.FieldType)).before args0 about1 = true := code_word (m := ⟨9, 0⟩) (meth := k9m0) (c := k9c0) (by decide +kernel) rfl rfl rfl (by decide +kernel)
set_option maxRecDepth 65536 in
theorem w_c10 : (Jvm.Cond.code ({ cls := "com/example/partition_planner/partitionplanner/CqlLexer$Token", name := "isSymbol", desc := "(C)Z" } : Jvm.MethodName) prog_9_method_3_code (2 : Nat) (Option.some Jvm.ClassFile.FieldType.boolean)).before args0 about1 = true := code_word (m := ⟨10, 1⟩) (meth := k10m1) (c := k10c1) (by decide +kernel) rfl rfl rfl (by decide +kernel)
set_option maxRecDepth 65536 in
theorem w_c11 : (Jvm.Cond.code ({ cls := "java/lang/String", name := "charAt", desc := "(I)C" } : Jvm.MethodName) jdk_42_method_56_code (2 : Nat) (Option.some Jvm.ClassFile.FieldType.char)).before args0 about1 = true := code_word (m := ⟨7, 2⟩) (meth := k7m2) (c := k7c2) (by decide +kernel) rfl rfl rfl (by decide +kernel)
set_option maxRecDepth 65536 in
theorem w_c12 : (Jvm.Cond.code ({ cls := "java/lang/String", name := "isLatin1", desc := "()Z" } : Jvm.MethodName) jdk_42_method_154_code (1 : Nat) (Option.some Jvm.ClassFile.FieldType.boolean)).before args0 about1 = true := code_word (m := ⟨7, 4⟩) (meth := k7m4) (c := k7c4) (by decide +kernel) rfl rfl rfl (by decide +kernel)
set_option maxRecDepth 65536 in
theorem w_c13 : (Jvm.Cond.code ({ cls := "java/lang/StringLatin1", name := "charAt", desc := "([BI)C" } : Jvm.MethodName) jdk_43_method_2_code (2 : Nat) (Option.some Jvm.ClassFile.FieldType.char)).before args0 about1 = true := code_word (m := ⟨13, 1⟩) (meth := k13m1) (c := k13c1) (by decide +kernel) rfl rfl rfl (by decide +kernel)
set_option maxRecDepth 65536 in
theorem w_c14 : (Jvm.Cond.code ({ cls := "java/lang/String", name := "checkIndex", desc := "(II)V" } : Jvm.MethodName) jdk_42_method_155_code (2 : Nat) (Option.none : Option Jvm.ClassFile.FieldType)).before args0 about1 = true := code_word (m := ⟨7, 5⟩) (meth := k7m5) (c := k7c5) (by decide +kernel) rfl rfl rfl (by decide +kernel)
set_option maxRecDepth 65536 in
theorem w_c15 : (Jvm.Cond.code ({ cls := "jdk/internal/util/Preconditions", name := "checkIndex", desc := "(IILjava/util/function/BiFunction;)I" } : Jvm.MethodName) jdk_41_method_11_code (3 : Nat) (Option.some Jvm.ClassFile.FieldType.int)).before args0 about1 = true := code_word (m := ⟨14, 1⟩) (meth := k14m1) (c := k14c1) (by decide +kernel) rfl rfl rfl (by decide +kernel)
set_option maxRecDepth 65536 in
theorem w_c16 : (Jvm.Cond.code ({ cls := "java/lang/StringUTF16", name := "toBytes", desc := "([CII)[B" } : Jvm.MethodName) jdk_52_method_14_code (5 : Nat) (Option.some (Jvm.ClassFile.FieldType.array Jvm.ClassFile.FieldType.byte))).before args0 about1 = true := code_word (m := ⟨8, 6⟩) (meth := k8m6) (c := k8c6) (by decide +kernel) rfl rfl rfl (by decide +kernel)
set_option maxRecDepth 65536 in
theorem w_c17 : (Jvm.Cond.code ({ cls := "java/lang/StringUTF16", name := "newBytesFor", desc := "(I)[B" } : Jvm.MethodName) jdk_52_method_2_code (1 : Nat) (Option.some (Jvm.ClassFile.FieldType.array Jvm.ClassFile.FieldType.byte))).before args0 about1 = true := code_word (m := ⟨8, 1⟩) (meth := k8m1) (c := k8c1) (by decide +kernel) rfl rfl rfl (by decide +kernel)
set_option maxRecDepth 65536 in
theorem w_c18 : (Jvm.Cond.code ({ cls := "java/lang/StringUTF16", name := "newBytesLength", desc := "(I)I" } : Jvm.MethodName) jdk_52_method_3_code (1 : Nat) (Option.some Jvm.ClassFile.FieldType.int)).before args0 about1 = true := code_word (m := ⟨8, 2⟩) (meth := k8m2) (c := k8c2) (by decide +kernel) rfl rfl rfl (by decide +kernel)
set_option maxRecDepth 65536 in
theorem w_c19 : (Jvm.Cond.code ({ cls := "java/lang/StringUTF16", name := "putChar", desc := "([BII)V" } : Jvm.MethodName) jdk_52_method_4_code (3 : Nat) (Option.none : Option Jvm.ClassFile.FieldType)).before args0 about1 = true := code_word (m := ⟨8, 3⟩) (meth := k8m3) (c := k8c3) (by decide +kernel) rfl rfl rfl (by decide +kernel)
set_option maxRecDepth 65536 in
theorem w_c20 : (Jvm.Cond.code ({ cls := "java/lang/StringUTF16", name := "getChar", desc := "([BI)C" } : Jvm.MethodName) jdk_52_method_5_code (2 : Nat) (Option.some Jvm.ClassFile.FieldType.char)).before args0 about1 = true := code_word (m := ⟨8, 4⟩) (meth := k8m4) (c := k8c4) (by decide +kernel) rfl rfl rfl (by decide +kernel)
set_option maxRecDepth 65536 in
theorem w_c21 : (Jvm.Cond.code ({ cls := "java/lang/StringUTF16", name := "charAt", desc := "([BI)C" } : Jvm.MethodName) jdk_52_method_83_code (2 : Nat) (Option.some Jvm.ClassFile.FieldType.char)).before args0 about1 = true := code_word (m := ⟨8, 10⟩) (meth := k8m10) (c := k8c10) (by decide +kernel) rfl rfl rfl (by decide +kernel)
set_option maxRecDepth 65536 in
theorem w_c22 : (Jvm.Cond.code ({ cls := "java/lang/StringUTF16", name := "checkIndex", desc := "(I[B)V" } : Jvm.MethodName) jdk_52_method_91_code (2 : Nat) (Option.none : Option Jvm.ClassFile.FieldType)).before args0 about1 = true := code_word (m := ⟨8, 11⟩) (meth := k8m11) (c := k8c11) (by decide +kernel) rfl rfl rfl (by decide +kernel)
set_option maxRecDepth 65536 in
theorem w_c23 : (Jvm.Cond.code ({ cls := "java/lang/StringUTF16", name := "length", desc := "([B)I" } : Jvm.MethodName) jdk_52_method_6_code (1 : Nat) (Option.some Jvm.ClassFile.FieldType.int)).before args0 about1 = true := code_word (m := ⟨8, 5⟩) (meth := k8m5) (c := k8c5) (by decide +kernel) rfl rfl rfl (by decide +kernel)
def codes1 : List Jvm.Cond := [Jvm.Cond.code x code maxLocals ret, Jvm.Cond.code ({ cls := "java/lang/String", name := "<init>", desc := "([C)V" } : Jvm.MethodName) jdk_42_method_3_code (2 : Nat) (Option.none : Option Jvm.ClassFile.FieldType), Jvm.Cond.code ({ cls := "java/lang/String", name := "<init>", desc := "([CIILjava/lang/Void;)V" } : Jvm.MethodName) jdk_42_method_149_code (6 : Nat) (Option.none : Option Jvm.ClassFile.FieldType), Jvm.Cond.code ({ cls := "java/lang/Object", name := "<init>", desc := "()V" } : Jvm.MethodName) object_method_1_code (1 : Nat) (Option.none : Option Jvm.ClassFile.FieldType), Jvm.Cond.code ({ cls := "java/lang/StringUTF16", name := "compress", desc := "([CII)[B" } : Jvm.MethodName) jdk_52_method_16_code (6 : Nat) (Option.some (Jvm.ClassFile.FieldType.array Jvm.ClassFile.FieldType.byte)), Jvm.Cond.code ({ cls := "java/lang/StringUTF16", name := "compress", desc := "([CI[BII)I" } : Jvm.MethodName) jdk_52_method_21_code (7 : Nat) (Option.some Jvm.ClassFile.FieldType.int), Jvm.Cond.code ({ cls := "java/lang/StringUTF16", name := "coderFromArrayLen", desc := "([BI)B" } : Jvm.MethodName) jdk_52_method_15_code (2 : Nat) (Option.some Jvm.ClassFile.FieldType.byte), Jvm.Cond.code ({ cls := "com/example/partition_planner/partitionplanner/TokenIsSymbolPinLaw", name := "kindOf", desc := "(I)Lcom/example/partition_planner/partitionplanner/CqlLexer$Kind;" } : Jvm.MethodName) method_2_code (1 : Nat) (Option.some (Jvm.ClassFile.FieldType.object "com/example/partition_planner/partitionplanner/CqlLexer$Kind")), Jvm.Cond.code ({ cls := "com/example/partition_planner/partitionplanner/CqlLexer$Token", name := "<init>", desc := "(Lcom/example/partition_planner/partitionplanner/CqlLexer$Kind;Ljava/lang/String;III)V" } : Jvm.MethodName) prog_9_method_1_code (6 : Nat) (Option.none : Option Jvm.ClassFile.FieldType), Jvm.Cond.code ({ cls := "java/lang/Record", name := "<init>", desc := "()V" } : Jvm.MethodName) jdk_30_method_1_code (1 : Nat) (Option.none : Option Jvm.ClassFile.FieldType), Jvm.Cond.code ({ cls := "com/example/partition_planner/partitionplanner/CqlLexer$Token", name := "isSymbol", desc := "(C)Z" } : Jvm.MethodName) prog_9_method_3_code (2 : Nat) (Option.some Jvm.ClassFile.FieldType.boolean), Jvm.Cond.code ({ cls := "java/lang/String", name := "charAt", desc := "(I)C" } : Jvm.MethodName) jdk_42_method_56_code (2 : Nat) (Option.some Jvm.ClassFile.FieldType.char), Jvm.Cond.code ({ cls := "java/lang/String", name := "isLatin1", desc := "()Z" } : Jvm.MethodName) jdk_42_method_154_code (1 : Nat) (Option.some Jvm.ClassFile.FieldType.boolean), Jvm.Cond.code ({ cls := "java/lang/StringLatin1", name := "charAt", desc := "([BI)C" } : Jvm.MethodName) jdk_43_method_2_code (2 : Nat) (Option.some Jvm.ClassFile.FieldType.char), Jvm.Cond.code ({ cls := "java/lang/String", name := "checkIndex", desc := "(II)V" } : Jvm.MethodName) jdk_42_method_155_code (2 : Nat) (Option.none : Option Jvm.ClassFile.FieldType), Jvm.Cond.code ({ cls := "jdk/internal/util/Preconditions", name := "checkIndex", desc := "(IILjava/util/function/BiFunction;)I" } : Jvm.MethodName) jdk_41_method_11_code (3 : Nat) (Option.some Jvm.ClassFile.FieldType.int), Jvm.Cond.code ({ cls := "java/lang/StringUTF16", name := "toBytes", desc := "([CII)[B" } : Jvm.MethodName) jdk_52_method_14_code (5 : Nat) (Option.some (Jvm.ClassFile.FieldType.array Jvm.ClassFile.FieldType.byte)), Jvm.Cond.code ({ cls := "java/lang/StringUTF16", name := "newBytesFor", desc := "(I)[B" } : Jvm.MethodName) jdk_52_method_2_code (1 : Nat) (Option.some (Jvm.ClassFile.FieldType.array Jvm.ClassFile.FieldType.byte)), Jvm.Cond.code ({ cls := "java/lang/StringUTF16", name := "newBytesLength", desc := "(I)I" } : Jvm.MethodName) jdk_52_method_3_code (1 : Nat) (Option.some Jvm.ClassFile.FieldType.int), Jvm.Cond.code ({ cls := "java/lang/StringUTF16", name := "putChar", desc := "([BII)V" } : Jvm.MethodName) jdk_52_method_4_code (3 : Nat) (Option.none : Option Jvm.ClassFile.FieldType), Jvm.Cond.code ({ cls := "java/lang/StringUTF16", name := "getChar", desc := "([BI)C" } : Jvm.MethodName) jdk_52_method_5_code (2 : Nat) (Option.some Jvm.ClassFile.FieldType.char), Jvm.Cond.code ({ cls := "java/lang/StringUTF16", name := "charAt", desc := "([BI)C" } : Jvm.MethodName) jdk_52_method_83_code (2 : Nat) (Option.some Jvm.ClassFile.FieldType.char), Jvm.Cond.code ({ cls := "java/lang/StringUTF16", name := "checkIndex", desc := "(I[B)V" } : Jvm.MethodName) jdk_52_method_91_code (2 : Nat) (Option.none : Option Jvm.ClassFile.FieldType), Jvm.Cond.code ({ cls := "java/lang/StringUTF16", name := "length", desc := "([B)I" } : Jvm.MethodName) jdk_52_method_6_code (1 : Nat) (Option.some Jvm.ClassFile.FieldType.int)]
set_option maxRecDepth 65536 in
theorem codes_eq : words1.filter isCode = codes1 := rfl
theorem w_codes : ∀ c ∈ words1.filter isCode, c.before args0 about1 = true := by
  rw [codes_eq]
  intro c hc
  simp only [codes1, List.mem_cons, List.not_mem_nil, or_false] at hc
  rcases hc with rfl | rfl | rfl | rfl | rfl | rfl | rfl | rfl | rfl | rfl | rfl | rfl | rfl | rfl | rfl | rfl | rfl | rfl | rfl | rfl | rfl | rfl | rfl | rfl
  · exact w_c0
  · exact w_c1
  · exact w_c2
  · exact w_c3
  · exact w_c4
  · exact w_c5
  · exact w_c6
  · exact w_c7
  · exact w_c8
  · exact w_c9
  · exact w_c10
  · exact w_c11
  · exact w_c12
  · exact w_c13
  · exact w_c14
  · exact w_c15
  · exact w_c16
  · exact w_c17
  · exact w_c18
  · exact w_c19
  · exact w_c20
  · exact w_c21
  · exact w_c22
  · exact w_c23
set_option maxRecDepth 65536 in
theorem w_t1 : (words1.take 24).all (fun c => isCode c || c.before args0 about1) = true := by decide +kernel
set_option maxRecDepth 65536 in
theorem w_t2 : ((words1.drop 24).take 24).all (fun c => isCode c || c.before args0 about1) = true := by decide +kernel
set_option maxRecDepth 65536 in
theorem w_t3 : (((words1.drop 24).drop 24).take 24).all (fun c => isCode c || c.before args0 about1) = true := by decide +kernel
set_option maxRecDepth 65536 in
theorem w_t4 : ((((words1.drop 24).drop 24).drop 24).take 24).all (fun c => isCode c || c.before args0 about1) = true := by decide +kernel
set_option maxRecDepth 65536 in
theorem w_t5 : (((((words1.drop 24).drop 24).drop 24).drop 24).take 24).all (fun c => isCode c || c.before args0 about1) = true := by decide +kernel
set_option maxRecDepth 65536 in
theorem w_t6 : (((((words1.drop 24).drop 24).drop 24).drop 24).drop 24).all (fun c => isCode c || c.before args0 about1) = true := by decide +kernel
theorem w_tables : (allAtoms (Jvm.Cond.code x code maxLocals ret :: tables_1)).before args0 about1 = true := by
  rw [allAtoms_all]
  show words1.all (fun c => c.before args0 about1) = true
  refine all_split ?_ w_codes
  rw [← List.take_append_drop 24 words1, List.all_append, w_t1, ← List.take_append_drop 24 (words1.drop 24), List.all_append, w_t2, ← List.take_append_drop 24 ((words1.drop 24).drop 24), List.all_append, w_t3, ← List.take_append_drop 24 (((words1.drop 24).drop 24).drop 24), List.all_append, w_t4, ← List.take_append_drop 24 ((((words1.drop 24).drop 24).drop 24).drop 24), List.all_append, w_t5, w_t6]
  rfl
set_option maxRecDepth 65536 in
theorem w_rest : rest_1_c.before args0 about1 = true := by decide +kernel
set_option maxRecDepth 65536 in
theorem w_case : (Jvm.Cond.and given_1 narrow_1).before args0 about1 = true := by decide +kernel
theorem w_applies : (headSpec (Jvm.Cond.code x code maxLocals ret :: tables_1) room_1).applies x e0.platform about1 = true :=
  (Spec.applies_iff w_frames).mpr ⟨w_running, w_runnable, w_alone, w_named, w_hears, w_ripe, w_room, w_tables⟩
theorem atStart : AtStart classFile x code maxLocals ret World_1 tables_1 room_1 Calls_1 rest_1 Pre_1 launch0 p0 e0 about1 theMethod args0 below0 :=
  ⟨lists_1, trivial, launch0.admits_env _ _ _, launch0.least_env, fairChoices_fair.cas, fairChoices_fair.clock, w_frames, w_args, w_heap, w_applies, trivial, w_rest, w_case⟩
end start1
theorem witness_1 : WitnessClaimed_1 := ⟨start1.p0, start1.e0, start1.about1, start1.theMethod, start1.args0, start1.below0, start1.atStart⟩
end Jvm.Pilot.@@N@@
