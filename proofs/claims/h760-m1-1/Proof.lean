import JvmDerived
import JvmDerived.Pilot.@@N@@Statement
import JvmDerived.Pilot.@@N@@Code
set_option linter.unusedVariables false
set_option linter.unusedSimpArgs false
namespace Jvm.Pilot.@@N@@
open Jvm Jvm.ClassFile Sem Op Lib Jvm.Free Jvm.Stand Jvm.LawKit Jvm.RoadKit Bundle Jvm.Pilot.@@N@@.Jvm.D
/-! the goal of a body's walk, closed under steps that lead to where it holds -/
def Gl (p : Program) (e : Env) (below : List Frame) (s : State) (Q : Option Value → Heap → List Loc → Prop) (k n : Nat) (S0 : State) : Prop :=
  ∃ s₂ o, Steps p.tables e below S0 s₂ ∧ s₂.status = .running ∧ Ended s₂ below o ∧ ∃ v L, o = .returned v ∧ Q v s₂.heap L ∧ FrameEnd s o s₂ L k n
theorem Gl.back {p : Program} {e : Env} {below : List Frame} {s : State} {Q : Option Value → Heap → List Loc → Prop} {k n : Nat} {S0 S1 : State} (h : ∀ t, Steps p.tables e below S1 t → Steps p.tables e below S0 t) (g : Gl p e below s Q k n S1) : Gl p e below s Q k n S0 := by
  obtain ⟨s₂, o, h1, r⟩ := g; exact ⟨s₂, o, h _ h1, r⟩
theorem Gl.ret {p : Program} {l : Launch} {e : Env} {R : Room} {s : State} {m : MethodId} {args : Array Value} {below : List Frame} {meth : Method} {c : Code} {T : State} {locs : List Loc} {cells slots : Nat} (X : Stand p l e R s m args below meth c T locs cells slots) {h : Heap} (eT : T.heap = h)
    {v : Option Value} (hv : meth.sig.returnType = none → v = none) (hlocks : meth.locks = false) {S0 : State} (st : ∀ fs, (∀ (f : JFrame) (acts : List Action), f.method = m → f.locked = none → f.entered = [] → (doReturn e (T.setTop f) acts v).1 = T.setFrames fs) → Steps p.tables e below S0 (T.setFrames fs))
    {Q : Option Value → Heap → List Loc → Prop} {k n : Nat} (hQ : Q v h locs) (hk : cells ≤ k) (hn : slots ≤ n) : Gl p e below s Q k n S0 := by
  obtain ⟨fs, hr, hrun, hended, hW, hsame⟩ := X.leave (v := v) hv hlocks
  exact ⟨_, _, st fs hr, hrun, hended, v, locs, rfl, eT ▸ hQ, ⟨_, rfl⟩, hW, hsame.mono hk hn⟩
def GlW (p : Program) (e : Env) (below : List Frame) (s : State) (Q : Option Value → Heap → List Loc → Prop) (k n : Nat) (S0 : State) : Prop :=
  ∃ s₂ o, Steps p.tables e below S0 s₂ ∧ s₂.status = .running ∧ Ended s₂ below o ∧ ∃ v L, o = .returned v ∧ Q v s₂.heap L ∧ ReturnedEndW s o s₂ L k n
theorem GlW.back {p : Program} {e : Env} {below : List Frame} {s : State} {Q : Option Value → Heap → List Loc → Prop} {k n : Nat} {S0 S1 : State} (h : ∀ t, Steps p.tables e below S1 t → Steps p.tables e below S0 t) (g : GlW p e below s Q k n S1) : GlW p e below s Q k n S0 := by
  obtain ⟨s₂, o, h1, r⟩ := g; exact ⟨s₂, o, h _ h1, r⟩
theorem GlW.ret {p : Program} {l : Launch} {e : Env} {R : Room} {s : State} {vm0 : Vm} {m : MethodId} {args : Array Value} {below : List Frame} {meth : Method} {c : Code} {T : State} {locs : List Loc} {cells slots : Nat} (X : Stand p l e R (s.setVm vm0) m args below meth c T locs cells slots) {h : Heap} (eT : T.heap = h)
    {k0 : Nat} (hS : s.Since vm0 k0) (hk0 : k0 ≤ h.size) {v : Option Value} (hv : meth.sig.returnType = none → v = none) (hlocks : meth.locks = false) {S0 : State} (st : ∀ fs, (∀ (f : JFrame) (acts : List Action), f.method = m → f.locked = none → f.entered = [] → (doReturn e (T.setTop f) acts v).1 = T.setFrames fs) → Steps p.tables e below S0 (T.setFrames fs))
    {Q : Option Value → Heap → List Loc → Prop} {k n : Nat} (hQ : Q v h locs) (hk : cells ≤ k) (hn : slots ≤ n) : GlW p e below s Q k n S0 := by
  obtain ⟨fs, hr, hrun, hended, hE⟩ := X.leaveW hS (by rw [eT]; exact hk0) (v := v) hv hlocks
  exact ⟨_, _, st fs hr, hrun, hended, v, locs, rfl, eT ▸ hQ, hE.1, hE.2.1, hE.2.2.1, hE.2.2.2.mono hk hn⟩
theorem own_lcL {x y : Int64} (h : x < y) : lcmpW x y < 0 := by rw [lcW]; exact (lc_lt x y).mpr h
theorem own_lcLn {x y : Int64} (h : ¬ x < y) : ¬ lcmpW x y < 0 := by rw [lcW]; exact fun q => h ((lc_lt x y).mp q)
theorem own_lcG {x y : Int64} (h : y < x) : 0 < lcmpW x y := by rw [lcW]; exact (lc_gt x y).mpr h
theorem own_lcGn {x y : Int64} (h : ¬ y < x) : ¬ 0 < lcmpW x y := by rw [lcW]; exact fun q => h ((lc_gt x y).mp q)
theorem own_lcE {x y : Int64} (h : x = y) : lcmpW x y = 0 := by rw [lcW]; exact (lc_eq x y).mpr h
theorem own_lcEn {x y : Int64} (h : ¬ x = y) : ¬ lcmpW x y = 0 := by rw [lcW]; exact fun q => h ((lc_eq x y).mp q)
theorem own_fldI {args : Array Value} {s : State} {t : Term} {C n d : String} {k : Int32} {a : Addr} (ev : t.eval args s none [] s = some (.ref a)) (h : (Jvm.Cond.eq (Term.field t C n d) (Term.int k)).value args s none s [] = some true) : Fld s s.heap a C n d (.int k) := by
  have e := fld_at (C := C) (n := n) (dd := d) ev
  obtain ⟨x, y, h1, h2, k1, k2⟩ := cmp_v (Or.inl h)
  obtain rfl : Value.int k = y := Option.some.inj h2
  obtain ⟨z, rfl⟩ := k2
  have q := Jvm.Cond.eq_ints h1 h2
  obtain rfl : z = k := gotT q h
  exact Fld.start (e ▸ h1)
theorem own_c1 {c : Int64} (h : (2000000000 : Int64) < c) : ¬ c < (2000000001 : Int64) := by
  have e1 : (2000000000 : Int64).toInt = 2000000000 := by decide
  have e2 : (2000000001 : Int64).toInt = 2000000001 := by decide
  rw [Int64.lt_iff_toInt_lt, e1] at h; rw [Int64.lt_iff_toInt_lt, e2]; omega
theorem own_c1n {c : Int64} (h : ¬ (2000000000 : Int64) < c) : c < (2000000001 : Int64) := by
  have e1 : (2000000000 : Int64).toInt = 2000000000 := by decide
  have e2 : (2000000001 : Int64).toInt = 2000000001 := by decide
  rw [Int64.lt_iff_toInt_lt, e1] at h; rw [Int64.lt_iff_toInt_lt, e2]; omega
theorem own_c2 {c : Int64} (h : (1000000 : Int64) < c) : ¬ c < (1000001 : Int64) := by
  have e1 : (1000000 : Int64).toInt = 1000000 := by decide
  have e2 : (1000001 : Int64).toInt = 1000001 := by decide
  rw [Int64.lt_iff_toInt_lt, e1] at h; rw [Int64.lt_iff_toInt_lt, e2]; omega
theorem own_c2n {c : Int64} (h : ¬ (1000000 : Int64) < c) : c < (1000001 : Int64) := by
  have e1 : (1000000 : Int64).toInt = 1000000 := by decide
  have e2 : (1000001 : Int64).toInt = 1000001 := by decide
  rw [Int64.lt_iff_toInt_lt, e1] at h; rw [Int64.lt_iff_toInt_lt, e2]; omega
theorem own_c3 {c : Int64} (h : (104857600 : Int64) < c) : ¬ c < (104857601 : Int64) := by
  have e1 : (104857600 : Int64).toInt = 104857600 := by decide
  have e2 : (104857601 : Int64).toInt = 104857601 := by decide
  rw [Int64.lt_iff_toInt_lt, e1] at h; rw [Int64.lt_iff_toInt_lt, e2]; omega
theorem own_c3n {c : Int64} (h : ¬ (104857600 : Int64) < c) : c < (104857601 : Int64) := by
  have e1 : (104857600 : Int64).toInt = 104857600 := by decide
  have e2 : (104857601 : Int64).toInt = 104857601 := by decide
  rw [Int64.lt_iff_toInt_lt, e1] at h; rw [Int64.lt_iff_toInt_lt, e2]; omega
theorem d1_0 : decode method_3_code 0 = .ok (.iload_n 2, 1) := by decide +kernel
theorem d1_1 : decode method_3_code 1 = .ok (.iconst 1, 1) := by decide +kernel
theorem d1_2 : decode method_3_code 2 = .ok (.if_icmp .ne 13, 3) := by decide +kernel
theorem d1_5 : decode method_3_code 5 = .ok (.lload_n 3, 1) := by decide +kernel
theorem d1_6 : decode method_3_code 6 = .ok (.lload_n 0, 1) := by decide +kernel
theorem d1_7 : decode method_3_code 7 = .ok (.ldc2_w 52, 3) := by decide +kernel
theorem d1_10 : decode method_3_code 10 = .ok (.land, 1) := by decide +kernel
theorem d1_11 : decode method_3_code 11 = .ok (.ladd, 1) := by decide +kernel
theorem d1_12 : decode method_3_code 12 = .ok (.lconst 1, 1) := by decide +kernel
theorem d1_13 : decode method_3_code 13 = .ok (.lsub, 1) := by decide +kernel
theorem d1_14 : decode method_3_code 14 = .ok (.lreturn, 1) := by decide +kernel
theorem d1_15 : decode method_3_code 15 = .ok (.iload_n 2, 1) := by decide +kernel
theorem d1_16 : decode method_3_code 16 = .ok (.iconst 2, 1) := by decide +kernel
theorem d1_17 : decode method_3_code 17 = .ok (.if_icmp .ne 14, 3) := by decide +kernel
theorem d1_20 : decode method_3_code 20 = .ok (.lload 5, 2) := by decide +kernel
theorem d1_22 : decode method_3_code 22 = .ok (.lload_n 0, 1) := by decide +kernel
theorem d1_23 : decode method_3_code 23 = .ok (.ldc2_w 52, 3) := by decide +kernel
theorem d1_26 : decode method_3_code 26 = .ok (.land, 1) := by decide +kernel
theorem d1_27 : decode method_3_code 27 = .ok (.ladd, 1) := by decide +kernel
theorem d1_28 : decode method_3_code 28 = .ok (.lconst 1, 1) := by decide +kernel
theorem d1_29 : decode method_3_code 29 = .ok (.lsub, 1) := by decide +kernel
theorem d1_30 : decode method_3_code 30 = .ok (.lreturn, 1) := by decide +kernel
theorem d1_31 : decode method_3_code 31 = .ok (.lload_n 0, 1) := by decide +kernel
theorem d1_32 : decode method_3_code 32 = .ok (.lreturn, 1) := by decide +kernel
theorem pn_com_example_partition_planner_partitionplanner_VerdictOfPinLaw : plainName "com/example/partition_planner/partitionplanner/VerdictOfPinLaw" = true := by first | (simp [plainName, overriddenIn]; done) | decide +kernel
theorem ef_1 (m : MethodId) (x0 : Int64) (x1 : Int32) (x2 : Int64) (x3 : Int64) : entryFrame m #[(.long x0), (.int x1), (.long x2), (.long x3)] 7 = mkF m 0 #[.val (.long x0), .second, .val (.int x1), .val (.long x2), .second, .val (.long x3), .second] [] := by first | (simp [entryFrame, mkF, argsToLocals, Value.category]; done) | rfl
def Q1 (Z : State) (q0 : Int64) (p1 : Int32) (q2 : Int64) (q3 : Int64) (h0 : Heap) (n0 : Nat) (v : Option Value) (h : Heap) (L : List Loc) : Prop := Fr n0 L ∧ (∃ r : Int64, v = some (.long r) ∧ h = h0)
set_option maxRecDepth 65536 in
set_option maxHeartbeats 40000000 in
theorem rm1 (l : Launch) (Z : State) (a0 : Array Value) (hw : ∀ d ∈ tables_1, d.before a0 Z = true) (ws : List Jvm.Cond) (q0 : Int64) (p1 : Int32) (q2 : Int64) (q3 : Int64) (h0 : Heap) (n0 : Nat) (Z0 : n0 ≤ h0.size) :
    MetFree l (⟨"com/example/partition_planner/partitionplanner/VerdictOfPinLaw", "near", "(JIJJ)J"⟩ : MethodName) (head1 (Jvm.Cond.code (⟨"com/example/partition_planner/partitionplanner/VerdictOfPinLaw", "near", "(JIJJ)J"⟩ : MethodName) method_3_code 7 (some .long) :: ws) ({ frames := 0, cells := 0, slots := 0, locals := 0 } : Room)) (fun as0 U => as0 = #[(.long q0), (.int p1), (.long q2), (.long q3)] ∧ Z.Warmed39 U.vm ∧ U.heap = h0) (fun _ _ _ _ _ => True) (fun _ U o U' => ∃ v L, o = .returned v ∧ Q1 Z q0 p1 q2 q3 h0 n0 v U'.heap L ∧ FrameEnd U o U' L ({ frames := 0, cells := 0, slots := 0, locals := 0 } : Room).cells ({ frames := 0, cells := 0, slots := 0, locals := 0 } : Room).slots) := by
  refine MetFree.of_bodySF (plainFor_of_name pn_com_example_partition_planner_partitionplanner_VerdictOfPinLaw) hisR ?_
  intro p e s m args below meth c s₁ Bd hml0 hP hK
  obtain ⟨rfl, hZ, hh⟩ := hP
  have hx := Bd.exec
  have hby := Bd.bytes
  have hml : c.maxLocals = 7 := hml0
  have hown : s.vm.findClass "com/example/partition_planner/partitionplanner/VerdictOfPinLaw" = some m.cls := findClass_of_methodNamed Bd.named
  have hnm := (name_of_methodNamed Bd.named Bd.method).1
  have X0 : Stand p l e ({ frames := 0, cells := 0, slots := 0, locals := 0 } : Room) s m #[(.long q0), (.int p1), (.long q2), (.long q3)] below meth c s₁ [] 0 0 := Stand.of_body Bd
  have e0 : s₁.heap = h0 := by rw [← hh, Bd.state]; rfl
  have N0 := Fr.nil n0
  show Gl p e below s (Q1 Z q0 p1 q2 q3 h0 n0) ({ frames := 0, cells := 0, slots := 0, locals := 0 } : Room).cells ({ frames := 0, cells := 0, slots := 0, locals := 0 } : Room).slots (s₁.setTop (entryFrame m #[(.long q0), (.int p1), (.long q2), (.long q3)] 7))
  refine Gl.back (fun _ k => castTop (ef_1 m q0 p1 q2 q3) k) ?_
  show Gl _ _ _ _ _ _ _ (s₁.setTop (mkF m 0 #[.val (.long q0), .second, .val (.int p1), .val (.long q2), .second, .val (.long q3), .second] []))
  refine Gl.back (fun _ k => XS.iloadN X0.here hx rfl (hb hby d1_0) rfl k) ?_
  show Gl _ _ _ _ _ _ _ (s₁.setTop (mkF m 1 #[.val (.long q0), .second, .val (.int p1), .val (.long q2), .second, .val (.long q3), .second] [(.int p1)]))
  refine Gl.back (fun _ k => XS.iconst X0.here hx rfl (hb hby d1_1) k) ?_
  show Gl _ _ _ _ _ _ _ (s₁.setTop (mkF m 2 #[.val (.long q0), .second, .val (.int p1), .val (.long q2), .second, .val (.long q3), .second] [(.int (1 : Int32)), (.int p1)]))
  by_cases hc2_1 : p1 = (1 : Int32)
  · refine Gl.back (fun _ k => XS.icmpNo X0.here hx rfl (hb hby d1_2) rfl (teq hc2_1).2 k) ?_
    show Gl _ _ _ _ _ _ _ (s₁.setTop (mkF m 5 #[.val (.long q0), .second, .val (.int p1), .val (.long q2), .second, .val (.long q3), .second] []))
    refine Gl.back (fun _ k => XS.lloadN X0.here hx rfl (hb hby d1_5) rfl k) ?_
    show Gl _ _ _ _ _ _ _ (s₁.setTop (mkF m 6 #[.val (.long q0), .second, .val (.int p1), .val (.long q2), .second, .val (.long q3), .second] [(.long q2)]))
    refine Gl.back (fun _ k => XS.lloadN X0.here hx rfl (hb hby d1_6) rfl k) ?_
    show Gl _ _ _ _ _ _ _ (s₁.setTop (mkF m 7 #[.val (.long q0), .second, .val (.int p1), .val (.long q2), .second, .val (.long q3), .second] [(.long q0), (.long q2)]))
    refine Gl.back (fun _ k => X0.ldc2Long hx hown (mvT hZ (hw _ (List.mem_of_getElem? (i := 6) rfl))) (g := (mkF m 7 #[.val (.long q0), .second, .val (.int p1), .val (.long q2), .second, .val (.long q3), .second] [(.long q0), (.long q2)])) rfl (hb hby d1_7) _ k) ?_
    show Gl _ _ _ _ _ _ _ (s₁.setTop (mkF m 10 #[.val (.long q0), .second, .val (.int p1), .val (.long q2), .second, .val (.long q3), .second] [(.long (3 : Int64)), (.long q0), (.long q2)]))
    refine Gl.back (fun _ k => XS.land X0.here hx rfl (hb hby d1_10) rfl k) ?_
    show Gl _ _ _ _ _ _ _ (s₁.setTop (mkF m 11 #[.val (.long q0), .second, .val (.int p1), .val (.long q2), .second, .val (.long q3), .second] [(.long (q0 &&& (3 : Int64))), (.long q2)]))
    refine Gl.back (fun _ k => XS.ladd X0.here hx rfl (hb hby d1_11) rfl k) ?_
    show Gl _ _ _ _ _ _ _ (s₁.setTop (mkF m 12 #[.val (.long q0), .second, .val (.int p1), .val (.long q2), .second, .val (.long q3), .second] [(.long (q2 + (q0 &&& (3 : Int64))))]))
    refine Gl.back (fun _ k => XS.lconst X0.here hx rfl (hb hby d1_12) k) ?_
    show Gl _ _ _ _ _ _ _ (s₁.setTop (mkF m 13 #[.val (.long q0), .second, .val (.int p1), .val (.long q2), .second, .val (.long q3), .second] [(.long (1 : Int64)), (.long (q2 + (q0 &&& (3 : Int64))))]))
    refine Gl.back (fun _ k => XS.lsub X0.here hx rfl (hb hby d1_13) rfl k) ?_
    show Gl _ _ _ _ _ _ _ (s₁.setTop (mkF m 14 #[.val (.long q0), .second, .val (.int p1), .val (.long q2), .second, .val (.long q3), .second] [(.long ((q2 + (q0 &&& (3 : Int64))) - (1 : Int64)))]))
    exact Gl.ret X0 e0 (v := (some (.long ((q2 + (q0 &&& (3 : Int64))) - (1 : Int64))))) (fun h => by rw [Bd.returns] at h; cases h) Bd.notSynchronized (fun fs hr => retOut X0 hx (w := (.long ((q2 + (q0 &&& (3 : Int64))) - (1 : Int64)))) Bd.returns rfl (Or.inr (Or.inl ⟨rfl, rfl, _, rfl⟩)) (hb hby d1_14) hr) ⟨N0, _, rfl, rfl⟩ (by decide) (by decide)
  · refine Gl.back (fun _ k => XS.icmpYes X0.here hx rfl (pc0 := 2) (pc' := 15) rfl (hb hby d1_2) rfl (feq hc2_1).2 (by decide) (by decide) k) ?_
    show Gl _ _ _ _ _ _ _ (s₁.setTop (mkF m 15 #[.val (.long q0), .second, .val (.int p1), .val (.long q2), .second, .val (.long q3), .second] []))
    refine Gl.back (fun _ k => XS.iloadN X0.here hx rfl (hb hby d1_15) rfl k) ?_
    show Gl _ _ _ _ _ _ _ (s₁.setTop (mkF m 16 #[.val (.long q0), .second, .val (.int p1), .val (.long q2), .second, .val (.long q3), .second] [(.int p1)]))
    refine Gl.back (fun _ k => XS.iconst X0.here hx rfl (hb hby d1_16) k) ?_
    show Gl _ _ _ _ _ _ _ (s₁.setTop (mkF m 17 #[.val (.long q0), .second, .val (.int p1), .val (.long q2), .second, .val (.long q3), .second] [(.int (2 : Int32)), (.int p1)]))
    by_cases hc17_2 : p1 = (2 : Int32)
    · refine Gl.back (fun _ k => XS.icmpNo X0.here hx rfl (hb hby d1_17) rfl (teq hc17_2).2 k) ?_
      show Gl _ _ _ _ _ _ _ (s₁.setTop (mkF m 20 #[.val (.long q0), .second, .val (.int p1), .val (.long q2), .second, .val (.long q3), .second] []))
      refine Gl.back (fun _ k => XS.lload X0.here hx rfl (hb hby d1_20) rfl k) ?_
      show Gl _ _ _ _ _ _ _ (s₁.setTop (mkF m 22 #[.val (.long q0), .second, .val (.int p1), .val (.long q2), .second, .val (.long q3), .second] [(.long q3)]))
      refine Gl.back (fun _ k => XS.lloadN X0.here hx rfl (hb hby d1_22) rfl k) ?_
      show Gl _ _ _ _ _ _ _ (s₁.setTop (mkF m 23 #[.val (.long q0), .second, .val (.int p1), .val (.long q2), .second, .val (.long q3), .second] [(.long q0), (.long q3)]))
      refine Gl.back (fun _ k => X0.ldc2Long hx hown (mvT hZ (hw _ (List.mem_of_getElem? (i := 6) rfl))) (g := (mkF m 23 #[.val (.long q0), .second, .val (.int p1), .val (.long q2), .second, .val (.long q3), .second] [(.long q0), (.long q3)])) rfl (hb hby d1_23) _ k) ?_
      show Gl _ _ _ _ _ _ _ (s₁.setTop (mkF m 26 #[.val (.long q0), .second, .val (.int p1), .val (.long q2), .second, .val (.long q3), .second] [(.long (3 : Int64)), (.long q0), (.long q3)]))
      refine Gl.back (fun _ k => XS.land X0.here hx rfl (hb hby d1_26) rfl k) ?_
      show Gl _ _ _ _ _ _ _ (s₁.setTop (mkF m 27 #[.val (.long q0), .second, .val (.int p1), .val (.long q2), .second, .val (.long q3), .second] [(.long (q0 &&& (3 : Int64))), (.long q3)]))
      refine Gl.back (fun _ k => XS.ladd X0.here hx rfl (hb hby d1_27) rfl k) ?_
      show Gl _ _ _ _ _ _ _ (s₁.setTop (mkF m 28 #[.val (.long q0), .second, .val (.int p1), .val (.long q2), .second, .val (.long q3), .second] [(.long (q3 + (q0 &&& (3 : Int64))))]))
      refine Gl.back (fun _ k => XS.lconst X0.here hx rfl (hb hby d1_28) k) ?_
      show Gl _ _ _ _ _ _ _ (s₁.setTop (mkF m 29 #[.val (.long q0), .second, .val (.int p1), .val (.long q2), .second, .val (.long q3), .second] [(.long (1 : Int64)), (.long (q3 + (q0 &&& (3 : Int64))))]))
      refine Gl.back (fun _ k => XS.lsub X0.here hx rfl (hb hby d1_29) rfl k) ?_
      show Gl _ _ _ _ _ _ _ (s₁.setTop (mkF m 30 #[.val (.long q0), .second, .val (.int p1), .val (.long q2), .second, .val (.long q3), .second] [(.long ((q3 + (q0 &&& (3 : Int64))) - (1 : Int64)))]))
      exact Gl.ret X0 e0 (v := (some (.long ((q3 + (q0 &&& (3 : Int64))) - (1 : Int64))))) (fun h => by rw [Bd.returns] at h; cases h) Bd.notSynchronized (fun fs hr => retOut X0 hx (w := (.long ((q3 + (q0 &&& (3 : Int64))) - (1 : Int64)))) Bd.returns rfl (Or.inr (Or.inl ⟨rfl, rfl, _, rfl⟩)) (hb hby d1_30) hr) ⟨N0, _, rfl, rfl⟩ (by decide) (by decide)
    · refine Gl.back (fun _ k => XS.icmpYes X0.here hx rfl (pc0 := 17) (pc' := 31) rfl (hb hby d1_17) rfl (feq hc17_2).2 (by decide) (by decide) k) ?_
      show Gl _ _ _ _ _ _ _ (s₁.setTop (mkF m 31 #[.val (.long q0), .second, .val (.int p1), .val (.long q2), .second, .val (.long q3), .second] []))
      refine Gl.back (fun _ k => XS.lloadN X0.here hx rfl (hb hby d1_31) rfl k) ?_
      show Gl _ _ _ _ _ _ _ (s₁.setTop (mkF m 32 #[.val (.long q0), .second, .val (.int p1), .val (.long q2), .second, .val (.long q3), .second] [(.long q0)]))
      exact Gl.ret X0 e0 (v := (some (.long q0))) (fun h => by rw [Bd.returns] at h; cases h) Bd.notSynchronized (fun fs hr => retOut X0 hx (w := (.long q0)) Bd.returns rfl (Or.inr (Or.inl ⟨rfl, rfl, _, rfl⟩)) (hb hby d1_32) hr) ⟨N0, _, rfl, rfl⟩ (by decide) (by decide)
theorem d3_0 : decode jdk_30_method_1_code 0 = .ok (.aload_n 0, 1) := by decide +kernel
theorem d3_1 : decode jdk_30_method_1_code 1 = .ok (.invokespecial 1, 3) := by decide +kernel
theorem d3_4 : decode jdk_30_method_1_code 4 = .ok (.return_, 1) := by decide +kernel
theorem pn_java_lang_Record : plainName "java/lang/Record" = true := by first | (simp [plainName, overriddenIn]; done) | decide +kernel
theorem ef_3 (m : MethodId) (x0 : Addr) : entryFrame m #[(.ref x0)] 1 = mkF m 0 #[.val (.ref x0)] [] := by first | (simp [entryFrame, mkF, argsToLocals, Value.category]; done) | rfl
def Q3 (Z : State) (a : Addr) (h0 : Heap) (n0 : Nat) (v : Option Value) (h : Heap) (L : List Loc) : Prop := Fr n0 L ∧ (v = none ∧ h = h0)
set_option maxRecDepth 65536 in
set_option maxHeartbeats 40000000 in
theorem rm3 (l : Launch) (Z : State) (a0 : Array Value) (hw : ∀ d ∈ tables_1, d.before a0 Z = true) (ws : List Jvm.Cond) (a : Addr) (h0 : Heap) (n0 : Nat) (Z0 : n0 ≤ h0.size) :
    MetFree l (⟨"java/lang/Record", "<init>", "()V"⟩ : MethodName) (head1 (Jvm.Cond.code (⟨"java/lang/Record", "<init>", "()V"⟩ : MethodName) jdk_30_method_1_code 1 none :: ws) ({ frames := 1, cells := 0, slots := 0, locals := 12 } : Room)) (fun as0 U => as0 = #[(.ref a)] ∧ Z.Warmed39 U.vm ∧ U.heap = h0) (fun _ _ _ _ _ => True) (fun _ U o U' => ∃ v L, o = .returned v ∧ Q3 Z a h0 n0 v U'.heap L ∧ FrameEnd U o U' L ({ frames := 1, cells := 0, slots := 0, locals := 12 } : Room).cells ({ frames := 1, cells := 0, slots := 0, locals := 12 } : Room).slots) := by
  refine MetFree.of_bodySF (plainFor_of_name pn_java_lang_Record) hisR ?_
  intro p e s m args below meth c s₁ Bd hml0 hP hK
  obtain ⟨rfl, hZ, hh⟩ := hP
  have hx := Bd.exec
  have hby := Bd.bytes
  have hml : c.maxLocals = 1 := hml0
  have hown : s.vm.findClass "java/lang/Record" = some m.cls := findClass_of_methodNamed Bd.named
  have hnm := (name_of_methodNamed Bd.named Bd.method).1
  have X0 : Stand p l e ({ frames := 1, cells := 0, slots := 0, locals := 12 } : Room) s m #[(.ref a)] below meth c s₁ [] 0 0 := Stand.of_body Bd
  have e0 : s₁.heap = h0 := by rw [← hh, Bd.state]; rfl
  have N0 := Fr.nil n0
  show Gl p e below s (Q3 Z a h0 n0) ({ frames := 1, cells := 0, slots := 0, locals := 12 } : Room).cells ({ frames := 1, cells := 0, slots := 0, locals := 12 } : Room).slots (s₁.setTop (entryFrame m #[(.ref a)] 1))
  refine Gl.back (fun _ k => castTop (ef_3 m a) k) ?_
  show Gl _ _ _ _ _ _ _ (s₁.setTop (mkF m 0 #[.val (.ref a)] []))
  refine Gl.back (fun _ k => XS.aloadN X0.here hx rfl (hb hby d3_0) rfl rfl k) ?_
  show Gl _ _ _ _ _ _ _ (s₁.setTop (mkF m 1 #[.val (.ref a)] [(.ref a)]))
  obtain ⟨T3, X3, e3, st3⟩ := initO X0 hx hZ hown (hw _ (List.mem_of_getElem? (i := 19) rfl)) (hw _ (List.mem_of_getElem? (i := 20) rfl)) (hw _ (List.mem_of_getElem? (i := 21) rfl)) e0 (g := (mkF m 1 #[.val (.ref a)] [(.ref a)])) rfl (by rw [hml]; rfl) rfl (hb hby d3_1) (by decide) (W := 0) (by show 2 * 0 + _ ≤ _; exact Nat.le_of_eq rfl) (by decide)
  refine Gl.back (fun _ k => st3 _ k) ?_
  show Gl _ _ _ _ _ _ _ (T3.setTop (mkF m 4 #[.val (.ref a)] []))
  exact Gl.ret X3 e3 (v := none) (fun _ => rfl) Bd.notSynchronized (fun fs hr => X3.returnOut hx Bd.returns (hb hby d3_4) hr) ⟨N0, rfl, rfl⟩ (by decide) (by decide)
theorem d6_0 : decode prog_19_method_7_code 0 = .ok (.aload_n 0, 1) := by decide +kernel
theorem d6_1 : decode prog_19_method_7_code 1 = .ok (.getfield 13, 3) := by decide +kernel
theorem d6_4 : decode prog_19_method_7_code 4 = .ok (.lreturn, 1) := by decide +kernel
theorem pn_com_example_partition_planner_partitionplanner_PartitionSize : plainName "com/example/partition_planner/partitionplanner/PartitionSize" = true := by first | (simp [plainName, overriddenIn]; done) | decide +kernel
theorem ef_6 (m : MethodId) (x0 : Addr) : entryFrame m #[(.ref x0)] 1 = mkF m 0 #[.val (.ref x0)] [] := by first | (simp [entryFrame, mkF, argsToLocals, Value.category]; done) | rfl
def Q6 (Z : State) (a : Addr) (r : Int64) (h0 : Heap) (n0 : Nat) (v : Option Value) (h : Heap) (L : List Loc) : Prop := Fr n0 L ∧ (v = some (.long r) ∧ h = h0)
set_option maxRecDepth 65536 in
set_option maxHeartbeats 40000000 in
theorem rm6 (l : Launch) (Z : State) (a0 : Array Value) (hw : ∀ d ∈ tables_1, d.before a0 Z = true) (ws : List Jvm.Cond) (a : Addr) (r : Int64) (h0 : Heap) (n0 : Nat) (Z0 : n0 ≤ h0.size) (F : Fld Z h0 a "com/example/partition_planner/partitionplanner/PartitionSize" "cells" "J" (.long r)) :
    MetFree l (⟨"com/example/partition_planner/partitionplanner/PartitionSize", "cells", "()J"⟩ : MethodName) (head1 (Jvm.Cond.code (⟨"com/example/partition_planner/partitionplanner/PartitionSize", "cells", "()J"⟩ : MethodName) prog_19_method_7_code 1 (some .long) :: ws) ({ frames := 0, cells := 0, slots := 0, locals := 0 } : Room)) (fun as0 U => as0 = #[(.ref a)] ∧ Z.Warmed39 U.vm ∧ U.heap = h0) (fun _ _ _ _ _ => True) (fun _ U o U' => ∃ v L, o = .returned v ∧ Q6 Z a r h0 n0 v U'.heap L ∧ FrameEnd U o U' L ({ frames := 0, cells := 0, slots := 0, locals := 0 } : Room).cells ({ frames := 0, cells := 0, slots := 0, locals := 0 } : Room).slots) := by
  refine MetFree.of_bodySF (plainFor_of_name pn_com_example_partition_planner_partitionplanner_PartitionSize) hisR ?_
  intro p e s m args below meth c s₁ Bd hml0 hP hK
  obtain ⟨rfl, hZ, hh⟩ := hP
  have hx := Bd.exec
  have hby := Bd.bytes
  have hml : c.maxLocals = 1 := hml0
  have hown : s.vm.findClass "com/example/partition_planner/partitionplanner/PartitionSize" = some m.cls := findClass_of_methodNamed Bd.named
  have hnm := (name_of_methodNamed Bd.named Bd.method).1
  have X0 : Stand p l e ({ frames := 0, cells := 0, slots := 0, locals := 0 } : Room) s m #[(.ref a)] below meth c s₁ [] 0 0 := Stand.of_body Bd
  have e0 : s₁.heap = h0 := by rw [← hh, Bd.state]; rfl
  have N0 := Fr.nil n0
  show Gl p e below s (Q6 Z a r h0 n0) ({ frames := 0, cells := 0, slots := 0, locals := 0 } : Room).cells ({ frames := 0, cells := 0, slots := 0, locals := 0 } : Room).slots (s₁.setTop (entryFrame m #[(.ref a)] 1))
  refine Gl.back (fun _ k => castTop (ef_6 m a) k) ?_
  show Gl _ _ _ _ _ _ _ (s₁.setTop (mkF m 0 #[.val (.ref a)] []))
  refine Gl.back (fun _ k => XS.aloadN X0.here hx rfl (hb hby d6_0) rfl rfl k) ?_
  show Gl _ _ _ _ _ _ _ (s₁.setTop (mkF m 1 #[.val (.ref a)] [(.ref a)]))
  obtain ⟨T4, X4, e4, st4⟩ := getF X0 hx hZ hown (host := "") (Or.inl (hw _ (List.mem_of_getElem? (i := 24) rfl))) Via.refl e0 F (g := (mkF m 1 #[.val (.ref a)] [(.ref a)])) rfl rfl (hb hby d6_1)
  refine Gl.back (fun _ k => st4 _ k) ?_
  show Gl _ _ _ _ _ _ _ (T4.setTop (mkF m 4 #[.val (.ref a)] [(.long r)]))
  exact Gl.ret X4 e4 (v := (some (.long r))) (fun h => by rw [Bd.returns] at h; cases h) Bd.notSynchronized (fun fs hr => retOut X4 hx (w := (.long r)) Bd.returns rfl (Or.inr (Or.inl ⟨rfl, rfl, _, rfl⟩)) (hb hby d6_4) hr) ⟨N0, rfl, rfl⟩ (by decide) (by decide)
theorem d8_0 : decode prog_19_method_8_code 0 = .ok (.aload_n 0, 1) := by decide +kernel
theorem d8_1 : decode prog_19_method_8_code 1 = .ok (.getfield 16, 3) := by decide +kernel
theorem d8_4 : decode prog_19_method_8_code 4 = .ok (.lreturn, 1) := by decide +kernel
theorem ef_8 (m : MethodId) (x0 : Addr) : entryFrame m #[(.ref x0)] 1 = mkF m 0 #[.val (.ref x0)] [] := by first | (simp [entryFrame, mkF, argsToLocals, Value.category]; done) | rfl
def Q8 (Z : State) (a : Addr) (r : Int64) (h0 : Heap) (n0 : Nat) (v : Option Value) (h : Heap) (L : List Loc) : Prop := Fr n0 L ∧ (v = some (.long r) ∧ h = h0)
set_option maxRecDepth 65536 in
set_option maxHeartbeats 40000000 in
theorem rm8 (l : Launch) (Z : State) (a0 : Array Value) (hw : ∀ d ∈ tables_1, d.before a0 Z = true) (ws : List Jvm.Cond) (a : Addr) (r : Int64) (h0 : Heap) (n0 : Nat) (Z0 : n0 ≤ h0.size) (F : Fld Z h0 a "com/example/partition_planner/partitionplanner/PartitionSize" "bytes" "J" (.long r)) :
    MetFree l (⟨"com/example/partition_planner/partitionplanner/PartitionSize", "bytes", "()J"⟩ : MethodName) (head1 (Jvm.Cond.code (⟨"com/example/partition_planner/partitionplanner/PartitionSize", "bytes", "()J"⟩ : MethodName) prog_19_method_8_code 1 (some .long) :: ws) ({ frames := 0, cells := 0, slots := 0, locals := 0 } : Room)) (fun as0 U => as0 = #[(.ref a)] ∧ Z.Warmed39 U.vm ∧ U.heap = h0) (fun _ _ _ _ _ => True) (fun _ U o U' => ∃ v L, o = .returned v ∧ Q8 Z a r h0 n0 v U'.heap L ∧ FrameEnd U o U' L ({ frames := 0, cells := 0, slots := 0, locals := 0 } : Room).cells ({ frames := 0, cells := 0, slots := 0, locals := 0 } : Room).slots) := by
  refine MetFree.of_bodySF (plainFor_of_name pn_com_example_partition_planner_partitionplanner_PartitionSize) hisR ?_
  intro p e s m args below meth c s₁ Bd hml0 hP hK
  obtain ⟨rfl, hZ, hh⟩ := hP
  have hx := Bd.exec
  have hby := Bd.bytes
  have hml : c.maxLocals = 1 := hml0
  have hown : s.vm.findClass "com/example/partition_planner/partitionplanner/PartitionSize" = some m.cls := findClass_of_methodNamed Bd.named
  have hnm := (name_of_methodNamed Bd.named Bd.method).1
  have X0 : Stand p l e ({ frames := 0, cells := 0, slots := 0, locals := 0 } : Room) s m #[(.ref a)] below meth c s₁ [] 0 0 := Stand.of_body Bd
  have e0 : s₁.heap = h0 := by rw [← hh, Bd.state]; rfl
  have N0 := Fr.nil n0
  show Gl p e below s (Q8 Z a r h0 n0) ({ frames := 0, cells := 0, slots := 0, locals := 0 } : Room).cells ({ frames := 0, cells := 0, slots := 0, locals := 0 } : Room).slots (s₁.setTop (entryFrame m #[(.ref a)] 1))
  refine Gl.back (fun _ k => castTop (ef_8 m a) k) ?_
  show Gl _ _ _ _ _ _ _ (s₁.setTop (mkF m 0 #[.val (.ref a)] []))
  refine Gl.back (fun _ k => XS.aloadN X0.here hx rfl (hb hby d8_0) rfl rfl k) ?_
  show Gl _ _ _ _ _ _ _ (s₁.setTop (mkF m 1 #[.val (.ref a)] [(.ref a)]))
  obtain ⟨T5, X5, e5, st5⟩ := getF X0 hx hZ hown (host := "") (Or.inl (hw _ (List.mem_of_getElem? (i := 26) rfl))) Via.refl e0 F (g := (mkF m 1 #[.val (.ref a)] [(.ref a)])) rfl rfl (hb hby d8_1)
  refine Gl.back (fun _ k => st5 _ k) ?_
  show Gl _ _ _ _ _ _ _ (T5.setTop (mkF m 4 #[.val (.ref a)] [(.long r)]))
  exact Gl.ret X5 e5 (v := (some (.long r))) (fun h => by rw [Bd.returns] at h; cases h) Bd.notSynchronized (fun fs hr => retOut X5 hx (w := (.long r)) Bd.returns rfl (Or.inr (Or.inl ⟨rfl, rfl, _, rfl⟩)) (hb hby d8_4) hr) ⟨N0, rfl, rfl⟩ (by decide) (by decide)
theorem d7_0 : decode jdk_29_method_65_code 0 = .ok (.iload_n 0, 1) := by decide +kernel
theorem d7_1 : decode jdk_29_method_65_code 1 = .ok (.iload_n 1, 1) := by decide +kernel
theorem d7_2 : decode jdk_29_method_65_code 2 = .ok (.if_icmp .lt 7, 3) := by decide +kernel
theorem d7_5 : decode jdk_29_method_65_code 5 = .ok (.iload_n 0, 1) := by decide +kernel
theorem d7_6 : decode jdk_29_method_65_code 6 = .ok (.goto 4, 3) := by decide +kernel
theorem d7_10 : decode jdk_29_method_65_code 10 = .ok (.ireturn, 1) := by decide +kernel
theorem ef_7_00 (m : MethodId)  : entryFrame m #[(.int (0 : Int32)), (.int (0 : Int32))] 2 = mkF m 0 #[.val (.int (0 : Int32)), .val (.int (0 : Int32))] [] := by first | (simp [entryFrame, mkF, argsToLocals, Value.category]; done) | rfl
def Q7_00 (Z : State)  (h0 : Heap) (n0 : Nat) (v : Option Value) (h : Heap) (L : List Loc) : Prop := Fr n0 L ∧ (v = some (.int 0) ∧ h = h0)
set_option maxRecDepth 65536 in
set_option maxHeartbeats 40000000 in
theorem rm7_00 (l : Launch) (Z : State) (a0 : Array Value) (hw : ∀ d ∈ tables_1, d.before a0 Z = true) (ws : List Jvm.Cond)  (h0 : Heap) (n0 : Nat) (Z0 : n0 ≤ h0.size) :
    MetFree l (⟨"java/lang/Math", "max", "(II)I"⟩ : MethodName) (head1 (Jvm.Cond.code (⟨"java/lang/Math", "max", "(II)I"⟩ : MethodName) jdk_29_method_65_code 2 (some .int) :: ws) ({ frames := 0, cells := 0, slots := 0, locals := 0 } : Room)) (fun as0 U => as0 = #[(.int (0 : Int32)), (.int (0 : Int32))] ∧ Z.Warmed39 U.vm ∧ U.heap = h0) (fun _ _ _ _ _ => True) (fun _ U o U' => ∃ v L, o = .returned v ∧ Q7_00 Z  h0 n0 v U'.heap L ∧ FrameEnd U o U' L ({ frames := 0, cells := 0, slots := 0, locals := 0 } : Room).cells ({ frames := 0, cells := 0, slots := 0, locals := 0 } : Room).slots) := by
  refine MetFree.of_bodySF (Jvm.Free.JP.mathPlain rfl (by decide +kernel)) hisR ?_
  intro p e s m args below meth c s₁ Bd hml0 hP hK
  obtain ⟨rfl, hZ, hh⟩ := hP
  have hx := Bd.exec
  have hby := Bd.bytes
  have hml : c.maxLocals = 2 := hml0
  have hown : s.vm.findClass "java/lang/Math" = some m.cls := findClass_of_methodNamed Bd.named
  have hnm := (name_of_methodNamed Bd.named Bd.method).1
  have X0 : Stand p l e ({ frames := 0, cells := 0, slots := 0, locals := 0 } : Room) s m #[(.int (0 : Int32)), (.int (0 : Int32))] below meth c s₁ [] 0 0 := Stand.of_body Bd
  have e0 : s₁.heap = h0 := by rw [← hh, Bd.state]; rfl
  have N0 := Fr.nil n0
  show Gl p e below s (Q7_00 Z  h0 n0) ({ frames := 0, cells := 0, slots := 0, locals := 0 } : Room).cells ({ frames := 0, cells := 0, slots := 0, locals := 0 } : Room).slots (s₁.setTop (entryFrame m #[(.int (0 : Int32)), (.int (0 : Int32))] 2))
  refine Gl.back (fun _ k => castTop (ef_7_00 m ) k) ?_
  show Gl _ _ _ _ _ _ _ (s₁.setTop (mkF m 0 #[.val (.int (0 : Int32)), .val (.int (0 : Int32))] []))
  refine Gl.back (fun _ k => XS.iloadN X0.here hx rfl (hb hby d7_0) rfl k) ?_
  show Gl _ _ _ _ _ _ _ (s₁.setTop (mkF m 1 #[.val (.int (0 : Int32)), .val (.int (0 : Int32))] [(.int (0 : Int32))]))
  refine Gl.back (fun _ k => XS.iloadN X0.here hx rfl (hb hby d7_1) rfl k) ?_
  show Gl _ _ _ _ _ _ _ (s₁.setTop (mkF m 2 #[.val (.int (0 : Int32)), .val (.int (0 : Int32))] [(.int (0 : Int32)), (.int (0 : Int32))]))
  refine Gl.back (fun _ k => XS.icmpNo X0.here hx rfl (hb hby d7_2) rfl (flt (by decide : ¬ (0 : Int32) < (0 : Int32))).1 k) ?_
  show Gl _ _ _ _ _ _ _ (s₁.setTop (mkF m 5 #[.val (.int (0 : Int32)), .val (.int (0 : Int32))] []))
  refine Gl.back (fun _ k => XS.iloadN X0.here hx rfl (hb hby d7_5) rfl k) ?_
  show Gl _ _ _ _ _ _ _ (s₁.setTop (mkF m 6 #[.val (.int (0 : Int32)), .val (.int (0 : Int32))] [(.int (0 : Int32))]))
  refine Gl.back (fun _ k => XS.goto X0.here hx rfl (pc0 := 6) (pc' := 10) rfl (hb hby d7_6) (by decide) (by decide) k) ?_
  show Gl _ _ _ _ _ _ _ (s₁.setTop (mkF m 10 #[.val (.int (0 : Int32)), .val (.int (0 : Int32))] [(.int (0 : Int32))]))
  exact Gl.ret X0 e0 (v := (some (.int (0 : Int32)))) (fun h => by rw [Bd.returns] at h; cases h) Bd.notSynchronized (fun fs hr => retOut X0 hx (w := (.int (0 : Int32))) Bd.returns rfl (Or.inl ⟨rfl, Or.inl rfl, _, rfl⟩) (hb hby d7_10) hr) ⟨N0, rfl, rfl⟩ (by decide) (by decide)
theorem d7_9 : decode jdk_29_method_65_code 9 = .ok (.iload_n 1, 1) := by decide +kernel
theorem ef_7_01 (m : MethodId)  : entryFrame m #[(.int (0 : Int32)), (.int (1 : Int32))] 2 = mkF m 0 #[.val (.int (0 : Int32)), .val (.int (1 : Int32))] [] := by first | (simp [entryFrame, mkF, argsToLocals, Value.category]; done) | rfl
def Q7_01 (Z : State)  (h0 : Heap) (n0 : Nat) (v : Option Value) (h : Heap) (L : List Loc) : Prop := Fr n0 L ∧ (v = some (.int 1) ∧ h = h0)
set_option maxRecDepth 65536 in
set_option maxHeartbeats 40000000 in
theorem rm7_01 (l : Launch) (Z : State) (a0 : Array Value) (hw : ∀ d ∈ tables_1, d.before a0 Z = true) (ws : List Jvm.Cond)  (h0 : Heap) (n0 : Nat) (Z0 : n0 ≤ h0.size) :
    MetFree l (⟨"java/lang/Math", "max", "(II)I"⟩ : MethodName) (head1 (Jvm.Cond.code (⟨"java/lang/Math", "max", "(II)I"⟩ : MethodName) jdk_29_method_65_code 2 (some .int) :: ws) ({ frames := 0, cells := 0, slots := 0, locals := 0 } : Room)) (fun as0 U => as0 = #[(.int (0 : Int32)), (.int (1 : Int32))] ∧ Z.Warmed39 U.vm ∧ U.heap = h0) (fun _ _ _ _ _ => True) (fun _ U o U' => ∃ v L, o = .returned v ∧ Q7_01 Z  h0 n0 v U'.heap L ∧ FrameEnd U o U' L ({ frames := 0, cells := 0, slots := 0, locals := 0 } : Room).cells ({ frames := 0, cells := 0, slots := 0, locals := 0 } : Room).slots) := by
  refine MetFree.of_bodySF (Jvm.Free.JP.mathPlain rfl (by decide +kernel)) hisR ?_
  intro p e s m args below meth c s₁ Bd hml0 hP hK
  obtain ⟨rfl, hZ, hh⟩ := hP
  have hx := Bd.exec
  have hby := Bd.bytes
  have hml : c.maxLocals = 2 := hml0
  have hown : s.vm.findClass "java/lang/Math" = some m.cls := findClass_of_methodNamed Bd.named
  have hnm := (name_of_methodNamed Bd.named Bd.method).1
  have X0 : Stand p l e ({ frames := 0, cells := 0, slots := 0, locals := 0 } : Room) s m #[(.int (0 : Int32)), (.int (1 : Int32))] below meth c s₁ [] 0 0 := Stand.of_body Bd
  have e0 : s₁.heap = h0 := by rw [← hh, Bd.state]; rfl
  have N0 := Fr.nil n0
  show Gl p e below s (Q7_01 Z  h0 n0) ({ frames := 0, cells := 0, slots := 0, locals := 0 } : Room).cells ({ frames := 0, cells := 0, slots := 0, locals := 0 } : Room).slots (s₁.setTop (entryFrame m #[(.int (0 : Int32)), (.int (1 : Int32))] 2))
  refine Gl.back (fun _ k => castTop (ef_7_01 m ) k) ?_
  show Gl _ _ _ _ _ _ _ (s₁.setTop (mkF m 0 #[.val (.int (0 : Int32)), .val (.int (1 : Int32))] []))
  refine Gl.back (fun _ k => XS.iloadN X0.here hx rfl (hb hby d7_0) rfl k) ?_
  show Gl _ _ _ _ _ _ _ (s₁.setTop (mkF m 1 #[.val (.int (0 : Int32)), .val (.int (1 : Int32))] [(.int (0 : Int32))]))
  refine Gl.back (fun _ k => XS.iloadN X0.here hx rfl (hb hby d7_1) rfl k) ?_
  show Gl _ _ _ _ _ _ _ (s₁.setTop (mkF m 2 #[.val (.int (0 : Int32)), .val (.int (1 : Int32))] [(.int (1 : Int32)), (.int (0 : Int32))]))
  refine Gl.back (fun _ k => XS.icmpYes X0.here hx rfl (pc0 := 2) (pc' := 9) rfl (hb hby d7_2) rfl (tlt (by decide : (0 : Int32) < (1 : Int32))).1 (by decide) (by decide) k) ?_
  show Gl _ _ _ _ _ _ _ (s₁.setTop (mkF m 9 #[.val (.int (0 : Int32)), .val (.int (1 : Int32))] []))
  refine Gl.back (fun _ k => XS.iloadN X0.here hx rfl (hb hby d7_9) rfl k) ?_
  show Gl _ _ _ _ _ _ _ (s₁.setTop (mkF m 10 #[.val (.int (0 : Int32)), .val (.int (1 : Int32))] [(.int (1 : Int32))]))
  exact Gl.ret X0 e0 (v := (some (.int (1 : Int32)))) (fun h => by rw [Bd.returns] at h; cases h) Bd.notSynchronized (fun fs hr => retOut X0 hx (w := (.int (1 : Int32))) Bd.returns rfl (Or.inl ⟨rfl, Or.inl rfl, _, rfl⟩) (hb hby d7_10) hr) ⟨N0, rfl, rfl⟩ (by decide) (by decide)
theorem ef_7_10 (m : MethodId)  : entryFrame m #[(.int (1 : Int32)), (.int (0 : Int32))] 2 = mkF m 0 #[.val (.int (1 : Int32)), .val (.int (0 : Int32))] [] := by first | (simp [entryFrame, mkF, argsToLocals, Value.category]; done) | rfl
def Q7_10 (Z : State)  (h0 : Heap) (n0 : Nat) (v : Option Value) (h : Heap) (L : List Loc) : Prop := Fr n0 L ∧ (v = some (.int 1) ∧ h = h0)
set_option maxRecDepth 65536 in
set_option maxHeartbeats 40000000 in
theorem rm7_10 (l : Launch) (Z : State) (a0 : Array Value) (hw : ∀ d ∈ tables_1, d.before a0 Z = true) (ws : List Jvm.Cond)  (h0 : Heap) (n0 : Nat) (Z0 : n0 ≤ h0.size) :
    MetFree l (⟨"java/lang/Math", "max", "(II)I"⟩ : MethodName) (head1 (Jvm.Cond.code (⟨"java/lang/Math", "max", "(II)I"⟩ : MethodName) jdk_29_method_65_code 2 (some .int) :: ws) ({ frames := 0, cells := 0, slots := 0, locals := 0 } : Room)) (fun as0 U => as0 = #[(.int (1 : Int32)), (.int (0 : Int32))] ∧ Z.Warmed39 U.vm ∧ U.heap = h0) (fun _ _ _ _ _ => True) (fun _ U o U' => ∃ v L, o = .returned v ∧ Q7_10 Z  h0 n0 v U'.heap L ∧ FrameEnd U o U' L ({ frames := 0, cells := 0, slots := 0, locals := 0 } : Room).cells ({ frames := 0, cells := 0, slots := 0, locals := 0 } : Room).slots) := by
  refine MetFree.of_bodySF (Jvm.Free.JP.mathPlain rfl (by decide +kernel)) hisR ?_
  intro p e s m args below meth c s₁ Bd hml0 hP hK
  obtain ⟨rfl, hZ, hh⟩ := hP
  have hx := Bd.exec
  have hby := Bd.bytes
  have hml : c.maxLocals = 2 := hml0
  have hown : s.vm.findClass "java/lang/Math" = some m.cls := findClass_of_methodNamed Bd.named
  have hnm := (name_of_methodNamed Bd.named Bd.method).1
  have X0 : Stand p l e ({ frames := 0, cells := 0, slots := 0, locals := 0 } : Room) s m #[(.int (1 : Int32)), (.int (0 : Int32))] below meth c s₁ [] 0 0 := Stand.of_body Bd
  have e0 : s₁.heap = h0 := by rw [← hh, Bd.state]; rfl
  have N0 := Fr.nil n0
  show Gl p e below s (Q7_10 Z  h0 n0) ({ frames := 0, cells := 0, slots := 0, locals := 0 } : Room).cells ({ frames := 0, cells := 0, slots := 0, locals := 0 } : Room).slots (s₁.setTop (entryFrame m #[(.int (1 : Int32)), (.int (0 : Int32))] 2))
  refine Gl.back (fun _ k => castTop (ef_7_10 m ) k) ?_
  show Gl _ _ _ _ _ _ _ (s₁.setTop (mkF m 0 #[.val (.int (1 : Int32)), .val (.int (0 : Int32))] []))
  refine Gl.back (fun _ k => XS.iloadN X0.here hx rfl (hb hby d7_0) rfl k) ?_
  show Gl _ _ _ _ _ _ _ (s₁.setTop (mkF m 1 #[.val (.int (1 : Int32)), .val (.int (0 : Int32))] [(.int (1 : Int32))]))
  refine Gl.back (fun _ k => XS.iloadN X0.here hx rfl (hb hby d7_1) rfl k) ?_
  show Gl _ _ _ _ _ _ _ (s₁.setTop (mkF m 2 #[.val (.int (1 : Int32)), .val (.int (0 : Int32))] [(.int (0 : Int32)), (.int (1 : Int32))]))
  refine Gl.back (fun _ k => XS.icmpNo X0.here hx rfl (hb hby d7_2) rfl (flt (by decide : ¬ (1 : Int32) < (0 : Int32))).1 k) ?_
  show Gl _ _ _ _ _ _ _ (s₁.setTop (mkF m 5 #[.val (.int (1 : Int32)), .val (.int (0 : Int32))] []))
  refine Gl.back (fun _ k => XS.iloadN X0.here hx rfl (hb hby d7_5) rfl k) ?_
  show Gl _ _ _ _ _ _ _ (s₁.setTop (mkF m 6 #[.val (.int (1 : Int32)), .val (.int (0 : Int32))] [(.int (1 : Int32))]))
  refine Gl.back (fun _ k => XS.goto X0.here hx rfl (pc0 := 6) (pc' := 10) rfl (hb hby d7_6) (by decide) (by decide) k) ?_
  show Gl _ _ _ _ _ _ _ (s₁.setTop (mkF m 10 #[.val (.int (1 : Int32)), .val (.int (0 : Int32))] [(.int (1 : Int32))]))
  exact Gl.ret X0 e0 (v := (some (.int (1 : Int32)))) (fun h => by rw [Bd.returns] at h; cases h) Bd.notSynchronized (fun fs hr => retOut X0 hx (w := (.int (1 : Int32))) Bd.returns rfl (Or.inl ⟨rfl, Or.inl rfl, _, rfl⟩) (hb hby d7_10) hr) ⟨N0, rfl, rfl⟩ (by decide) (by decide)
theorem ef_7_11 (m : MethodId)  : entryFrame m #[(.int (1 : Int32)), (.int (1 : Int32))] 2 = mkF m 0 #[.val (.int (1 : Int32)), .val (.int (1 : Int32))] [] := by first | (simp [entryFrame, mkF, argsToLocals, Value.category]; done) | rfl
def Q7_11 (Z : State)  (h0 : Heap) (n0 : Nat) (v : Option Value) (h : Heap) (L : List Loc) : Prop := Fr n0 L ∧ (v = some (.int 1) ∧ h = h0)
set_option maxRecDepth 65536 in
set_option maxHeartbeats 40000000 in
theorem rm7_11 (l : Launch) (Z : State) (a0 : Array Value) (hw : ∀ d ∈ tables_1, d.before a0 Z = true) (ws : List Jvm.Cond)  (h0 : Heap) (n0 : Nat) (Z0 : n0 ≤ h0.size) :
    MetFree l (⟨"java/lang/Math", "max", "(II)I"⟩ : MethodName) (head1 (Jvm.Cond.code (⟨"java/lang/Math", "max", "(II)I"⟩ : MethodName) jdk_29_method_65_code 2 (some .int) :: ws) ({ frames := 0, cells := 0, slots := 0, locals := 0 } : Room)) (fun as0 U => as0 = #[(.int (1 : Int32)), (.int (1 : Int32))] ∧ Z.Warmed39 U.vm ∧ U.heap = h0) (fun _ _ _ _ _ => True) (fun _ U o U' => ∃ v L, o = .returned v ∧ Q7_11 Z  h0 n0 v U'.heap L ∧ FrameEnd U o U' L ({ frames := 0, cells := 0, slots := 0, locals := 0 } : Room).cells ({ frames := 0, cells := 0, slots := 0, locals := 0 } : Room).slots) := by
  refine MetFree.of_bodySF (Jvm.Free.JP.mathPlain rfl (by decide +kernel)) hisR ?_
  intro p e s m args below meth c s₁ Bd hml0 hP hK
  obtain ⟨rfl, hZ, hh⟩ := hP
  have hx := Bd.exec
  have hby := Bd.bytes
  have hml : c.maxLocals = 2 := hml0
  have hown : s.vm.findClass "java/lang/Math" = some m.cls := findClass_of_methodNamed Bd.named
  have hnm := (name_of_methodNamed Bd.named Bd.method).1
  have X0 : Stand p l e ({ frames := 0, cells := 0, slots := 0, locals := 0 } : Room) s m #[(.int (1 : Int32)), (.int (1 : Int32))] below meth c s₁ [] 0 0 := Stand.of_body Bd
  have e0 : s₁.heap = h0 := by rw [← hh, Bd.state]; rfl
  have N0 := Fr.nil n0
  show Gl p e below s (Q7_11 Z  h0 n0) ({ frames := 0, cells := 0, slots := 0, locals := 0 } : Room).cells ({ frames := 0, cells := 0, slots := 0, locals := 0 } : Room).slots (s₁.setTop (entryFrame m #[(.int (1 : Int32)), (.int (1 : Int32))] 2))
  refine Gl.back (fun _ k => castTop (ef_7_11 m ) k) ?_
  show Gl _ _ _ _ _ _ _ (s₁.setTop (mkF m 0 #[.val (.int (1 : Int32)), .val (.int (1 : Int32))] []))
  refine Gl.back (fun _ k => XS.iloadN X0.here hx rfl (hb hby d7_0) rfl k) ?_
  show Gl _ _ _ _ _ _ _ (s₁.setTop (mkF m 1 #[.val (.int (1 : Int32)), .val (.int (1 : Int32))] [(.int (1 : Int32))]))
  refine Gl.back (fun _ k => XS.iloadN X0.here hx rfl (hb hby d7_1) rfl k) ?_
  show Gl _ _ _ _ _ _ _ (s₁.setTop (mkF m 2 #[.val (.int (1 : Int32)), .val (.int (1 : Int32))] [(.int (1 : Int32)), (.int (1 : Int32))]))
  refine Gl.back (fun _ k => XS.icmpNo X0.here hx rfl (hb hby d7_2) rfl (flt (by decide : ¬ (1 : Int32) < (1 : Int32))).1 k) ?_
  show Gl _ _ _ _ _ _ _ (s₁.setTop (mkF m 5 #[.val (.int (1 : Int32)), .val (.int (1 : Int32))] []))
  refine Gl.back (fun _ k => XS.iloadN X0.here hx rfl (hb hby d7_5) rfl k) ?_
  show Gl _ _ _ _ _ _ _ (s₁.setTop (mkF m 6 #[.val (.int (1 : Int32)), .val (.int (1 : Int32))] [(.int (1 : Int32))]))
  refine Gl.back (fun _ k => XS.goto X0.here hx rfl (pc0 := 6) (pc' := 10) rfl (hb hby d7_6) (by decide) (by decide) k) ?_
  show Gl _ _ _ _ _ _ _ (s₁.setTop (mkF m 10 #[.val (.int (1 : Int32)), .val (.int (1 : Int32))] [(.int (1 : Int32))]))
  exact Gl.ret X0 e0 (v := (some (.int (1 : Int32)))) (fun h => by rw [Bd.returns] at h; cases h) Bd.notSynchronized (fun fs hr => retOut X0 hx (w := (.int (1 : Int32))) Bd.returns rfl (Or.inl ⟨rfl, Or.inl rfl, _, rfl⟩) (hb hby d7_10) hr) ⟨N0, rfl, rfl⟩ (by decide) (by decide)
theorem ef_7_20 (m : MethodId)  : entryFrame m #[(.int (2 : Int32)), (.int (0 : Int32))] 2 = mkF m 0 #[.val (.int (2 : Int32)), .val (.int (0 : Int32))] [] := by first | (simp [entryFrame, mkF, argsToLocals, Value.category]; done) | rfl
def Q7_20 (Z : State)  (h0 : Heap) (n0 : Nat) (v : Option Value) (h : Heap) (L : List Loc) : Prop := Fr n0 L ∧ (v = some (.int 2) ∧ h = h0)
set_option maxRecDepth 65536 in
set_option maxHeartbeats 40000000 in
theorem rm7_20 (l : Launch) (Z : State) (a0 : Array Value) (hw : ∀ d ∈ tables_1, d.before a0 Z = true) (ws : List Jvm.Cond)  (h0 : Heap) (n0 : Nat) (Z0 : n0 ≤ h0.size) :
    MetFree l (⟨"java/lang/Math", "max", "(II)I"⟩ : MethodName) (head1 (Jvm.Cond.code (⟨"java/lang/Math", "max", "(II)I"⟩ : MethodName) jdk_29_method_65_code 2 (some .int) :: ws) ({ frames := 0, cells := 0, slots := 0, locals := 0 } : Room)) (fun as0 U => as0 = #[(.int (2 : Int32)), (.int (0 : Int32))] ∧ Z.Warmed39 U.vm ∧ U.heap = h0) (fun _ _ _ _ _ => True) (fun _ U o U' => ∃ v L, o = .returned v ∧ Q7_20 Z  h0 n0 v U'.heap L ∧ FrameEnd U o U' L ({ frames := 0, cells := 0, slots := 0, locals := 0 } : Room).cells ({ frames := 0, cells := 0, slots := 0, locals := 0 } : Room).slots) := by
  refine MetFree.of_bodySF (Jvm.Free.JP.mathPlain rfl (by decide +kernel)) hisR ?_
  intro p e s m args below meth c s₁ Bd hml0 hP hK
  obtain ⟨rfl, hZ, hh⟩ := hP
  have hx := Bd.exec
  have hby := Bd.bytes
  have hml : c.maxLocals = 2 := hml0
  have hown : s.vm.findClass "java/lang/Math" = some m.cls := findClass_of_methodNamed Bd.named
  have hnm := (name_of_methodNamed Bd.named Bd.method).1
  have X0 : Stand p l e ({ frames := 0, cells := 0, slots := 0, locals := 0 } : Room) s m #[(.int (2 : Int32)), (.int (0 : Int32))] below meth c s₁ [] 0 0 := Stand.of_body Bd
  have e0 : s₁.heap = h0 := by rw [← hh, Bd.state]; rfl
  have N0 := Fr.nil n0
  show Gl p e below s (Q7_20 Z  h0 n0) ({ frames := 0, cells := 0, slots := 0, locals := 0 } : Room).cells ({ frames := 0, cells := 0, slots := 0, locals := 0 } : Room).slots (s₁.setTop (entryFrame m #[(.int (2 : Int32)), (.int (0 : Int32))] 2))
  refine Gl.back (fun _ k => castTop (ef_7_20 m ) k) ?_
  show Gl _ _ _ _ _ _ _ (s₁.setTop (mkF m 0 #[.val (.int (2 : Int32)), .val (.int (0 : Int32))] []))
  refine Gl.back (fun _ k => XS.iloadN X0.here hx rfl (hb hby d7_0) rfl k) ?_
  show Gl _ _ _ _ _ _ _ (s₁.setTop (mkF m 1 #[.val (.int (2 : Int32)), .val (.int (0 : Int32))] [(.int (2 : Int32))]))
  refine Gl.back (fun _ k => XS.iloadN X0.here hx rfl (hb hby d7_1) rfl k) ?_
  show Gl _ _ _ _ _ _ _ (s₁.setTop (mkF m 2 #[.val (.int (2 : Int32)), .val (.int (0 : Int32))] [(.int (0 : Int32)), (.int (2 : Int32))]))
  refine Gl.back (fun _ k => XS.icmpNo X0.here hx rfl (hb hby d7_2) rfl (flt (by decide : ¬ (2 : Int32) < (0 : Int32))).1 k) ?_
  show Gl _ _ _ _ _ _ _ (s₁.setTop (mkF m 5 #[.val (.int (2 : Int32)), .val (.int (0 : Int32))] []))
  refine Gl.back (fun _ k => XS.iloadN X0.here hx rfl (hb hby d7_5) rfl k) ?_
  show Gl _ _ _ _ _ _ _ (s₁.setTop (mkF m 6 #[.val (.int (2 : Int32)), .val (.int (0 : Int32))] [(.int (2 : Int32))]))
  refine Gl.back (fun _ k => XS.goto X0.here hx rfl (pc0 := 6) (pc' := 10) rfl (hb hby d7_6) (by decide) (by decide) k) ?_
  show Gl _ _ _ _ _ _ _ (s₁.setTop (mkF m 10 #[.val (.int (2 : Int32)), .val (.int (0 : Int32))] [(.int (2 : Int32))]))
  exact Gl.ret X0 e0 (v := (some (.int (2 : Int32)))) (fun h => by rw [Bd.returns] at h; cases h) Bd.notSynchronized (fun fs hr => retOut X0 hx (w := (.int (2 : Int32))) Bd.returns rfl (Or.inl ⟨rfl, Or.inl rfl, _, rfl⟩) (hb hby d7_10) hr) ⟨N0, rfl, rfl⟩ (by decide) (by decide)
theorem ef_7_21 (m : MethodId)  : entryFrame m #[(.int (2 : Int32)), (.int (1 : Int32))] 2 = mkF m 0 #[.val (.int (2 : Int32)), .val (.int (1 : Int32))] [] := by first | (simp [entryFrame, mkF, argsToLocals, Value.category]; done) | rfl
def Q7_21 (Z : State)  (h0 : Heap) (n0 : Nat) (v : Option Value) (h : Heap) (L : List Loc) : Prop := Fr n0 L ∧ (v = some (.int 2) ∧ h = h0)
set_option maxRecDepth 65536 in
set_option maxHeartbeats 40000000 in
theorem rm7_21 (l : Launch) (Z : State) (a0 : Array Value) (hw : ∀ d ∈ tables_1, d.before a0 Z = true) (ws : List Jvm.Cond)  (h0 : Heap) (n0 : Nat) (Z0 : n0 ≤ h0.size) :
    MetFree l (⟨"java/lang/Math", "max", "(II)I"⟩ : MethodName) (head1 (Jvm.Cond.code (⟨"java/lang/Math", "max", "(II)I"⟩ : MethodName) jdk_29_method_65_code 2 (some .int) :: ws) ({ frames := 0, cells := 0, slots := 0, locals := 0 } : Room)) (fun as0 U => as0 = #[(.int (2 : Int32)), (.int (1 : Int32))] ∧ Z.Warmed39 U.vm ∧ U.heap = h0) (fun _ _ _ _ _ => True) (fun _ U o U' => ∃ v L, o = .returned v ∧ Q7_21 Z  h0 n0 v U'.heap L ∧ FrameEnd U o U' L ({ frames := 0, cells := 0, slots := 0, locals := 0 } : Room).cells ({ frames := 0, cells := 0, slots := 0, locals := 0 } : Room).slots) := by
  refine MetFree.of_bodySF (Jvm.Free.JP.mathPlain rfl (by decide +kernel)) hisR ?_
  intro p e s m args below meth c s₁ Bd hml0 hP hK
  obtain ⟨rfl, hZ, hh⟩ := hP
  have hx := Bd.exec
  have hby := Bd.bytes
  have hml : c.maxLocals = 2 := hml0
  have hown : s.vm.findClass "java/lang/Math" = some m.cls := findClass_of_methodNamed Bd.named
  have hnm := (name_of_methodNamed Bd.named Bd.method).1
  have X0 : Stand p l e ({ frames := 0, cells := 0, slots := 0, locals := 0 } : Room) s m #[(.int (2 : Int32)), (.int (1 : Int32))] below meth c s₁ [] 0 0 := Stand.of_body Bd
  have e0 : s₁.heap = h0 := by rw [← hh, Bd.state]; rfl
  have N0 := Fr.nil n0
  show Gl p e below s (Q7_21 Z  h0 n0) ({ frames := 0, cells := 0, slots := 0, locals := 0 } : Room).cells ({ frames := 0, cells := 0, slots := 0, locals := 0 } : Room).slots (s₁.setTop (entryFrame m #[(.int (2 : Int32)), (.int (1 : Int32))] 2))
  refine Gl.back (fun _ k => castTop (ef_7_21 m ) k) ?_
  show Gl _ _ _ _ _ _ _ (s₁.setTop (mkF m 0 #[.val (.int (2 : Int32)), .val (.int (1 : Int32))] []))
  refine Gl.back (fun _ k => XS.iloadN X0.here hx rfl (hb hby d7_0) rfl k) ?_
  show Gl _ _ _ _ _ _ _ (s₁.setTop (mkF m 1 #[.val (.int (2 : Int32)), .val (.int (1 : Int32))] [(.int (2 : Int32))]))
  refine Gl.back (fun _ k => XS.iloadN X0.here hx rfl (hb hby d7_1) rfl k) ?_
  show Gl _ _ _ _ _ _ _ (s₁.setTop (mkF m 2 #[.val (.int (2 : Int32)), .val (.int (1 : Int32))] [(.int (1 : Int32)), (.int (2 : Int32))]))
  refine Gl.back (fun _ k => XS.icmpNo X0.here hx rfl (hb hby d7_2) rfl (flt (by decide : ¬ (2 : Int32) < (1 : Int32))).1 k) ?_
  show Gl _ _ _ _ _ _ _ (s₁.setTop (mkF m 5 #[.val (.int (2 : Int32)), .val (.int (1 : Int32))] []))
  refine Gl.back (fun _ k => XS.iloadN X0.here hx rfl (hb hby d7_5) rfl k) ?_
  show Gl _ _ _ _ _ _ _ (s₁.setTop (mkF m 6 #[.val (.int (2 : Int32)), .val (.int (1 : Int32))] [(.int (2 : Int32))]))
  refine Gl.back (fun _ k => XS.goto X0.here hx rfl (pc0 := 6) (pc' := 10) rfl (hb hby d7_6) (by decide) (by decide) k) ?_
  show Gl _ _ _ _ _ _ _ (s₁.setTop (mkF m 10 #[.val (.int (2 : Int32)), .val (.int (1 : Int32))] [(.int (2 : Int32))]))
  exact Gl.ret X0 e0 (v := (some (.int (2 : Int32)))) (fun h => by rw [Bd.returns] at h; cases h) Bd.notSynchronized (fun fs hr => retOut X0 hx (w := (.int (2 : Int32))) Bd.returns rfl (Or.inl ⟨rfl, Or.inl rfl, _, rfl⟩) (hb hby d7_10) hr) ⟨N0, rfl, rfl⟩ (by decide) (by decide)
theorem d2_0 : decode prog_19_method_1_code 0 = .ok (.aload_n 0, 1) := by decide +kernel
theorem d2_1 : decode prog_19_method_1_code 1 = .ok (.invokespecial 1, 3) := by decide +kernel
theorem pd___V : parseMethodDescriptor "()V" = some ⟨[], none⟩ := by decide +kernel
theorem d2_4 : decode prog_19_method_1_code 4 = .ok (.aload_n 0, 1) := by decide +kernel
theorem d2_5 : decode prog_19_method_1_code 5 = .ok (.lload_n 1, 1) := by decide +kernel
theorem d2_6 : decode prog_19_method_1_code 6 = .ok (.putfield 7, 3) := by decide +kernel
theorem d2_9 : decode prog_19_method_1_code 9 = .ok (.aload_n 0, 1) := by decide +kernel
theorem d2_10 : decode prog_19_method_1_code 10 = .ok (.lload_n 3, 1) := by decide +kernel
theorem d2_11 : decode prog_19_method_1_code 11 = .ok (.putfield 13, 3) := by decide +kernel
theorem d2_14 : decode prog_19_method_1_code 14 = .ok (.aload_n 0, 1) := by decide +kernel
theorem d2_15 : decode prog_19_method_1_code 15 = .ok (.lload 5, 2) := by decide +kernel
theorem d2_17 : decode prog_19_method_1_code 17 = .ok (.putfield 16, 3) := by decide +kernel
theorem d2_20 : decode prog_19_method_1_code 20 = .ok (.return_, 1) := by decide +kernel
theorem ef_2 (m : MethodId) (x0 : Addr) (x1 : Int64) (x2 : Int64) (x3 : Int64) : entryFrame m #[(.ref x0), (.long x1), (.long x2), (.long x3)] 7 = mkF m 0 #[.val (.ref x0), .val (.long x1), .second, .val (.long x2), .second, .val (.long x3), .second] [] := by first | (simp [entryFrame, mkF, argsToLocals, Value.category]; done) | rfl
def Q2 (Z : State) (a : Addr) (x : Int64) (y : Int64) (z : Int64) (h0 : Heap) (n0 : Nat) (v : Option Value) (h : Heap) (L : List Loc) : Prop := Fr n0 L ∧ (v = none ∧ Keep h0 h [a] ∧ Fld Z h a "com/example/partition_planner/partitionplanner/PartitionSize" "cells" "J" (.long y) ∧ Fld Z h a "com/example/partition_planner/partitionplanner/PartitionSize" "bytes" "J" (.long z))
set_option maxRecDepth 65536 in
set_option maxHeartbeats 40000000 in
theorem rm2 (l : Launch) (Z : State) (a0 : Array Value) (hw : ∀ d ∈ tables_1, d.before a0 Z = true) (ws : List Jvm.Cond) (a : Addr) (x : Int64) (y : Int64) (z : Int64) (h0 : Heap) (n0 : Nat) (Z0 : n0 ≤ h0.size) (g_a : n0 ≤ a) (E_a : Exa Z h0 a "com/example/partition_planner/partitionplanner/PartitionSize") (F_rows : Fld Z h0 a "com/example/partition_planner/partitionplanner/PartitionSize" "rows" "J" (.long 0)) (F_cells : Fld Z h0 a "com/example/partition_planner/partitionplanner/PartitionSize" "cells" "J" (.long 0)) (F_bytes : Fld Z h0 a "com/example/partition_planner/partitionplanner/PartitionSize" "bytes" "J" (.long 0)) :
    MetFree l (⟨"com/example/partition_planner/partitionplanner/PartitionSize", "<init>", "(JJJ)V"⟩ : MethodName) (head1 (Jvm.Cond.code (⟨"com/example/partition_planner/partitionplanner/PartitionSize", "<init>", "(JJJ)V"⟩ : MethodName) prog_19_method_1_code 7 none :: ws) ({ frames := 2, cells := 0, slots := 0, locals := 24 } : Room)) (fun as0 U => as0 = #[(.ref a), (.long x), (.long y), (.long z)] ∧ Z.Warmed39 U.vm ∧ U.heap = h0) (fun _ _ _ _ _ => True) (fun _ U o U' => ∃ v L, o = .returned v ∧ Q2 Z a x y z h0 n0 v U'.heap L ∧ FrameEnd U o U' L ({ frames := 2, cells := 0, slots := 0, locals := 24 } : Room).cells ({ frames := 2, cells := 0, slots := 0, locals := 24 } : Room).slots) := by
  refine MetFree.of_bodySF (plainFor_of_name pn_com_example_partition_planner_partitionplanner_PartitionSize) hisR ?_
  intro p e s m args below meth c s₁ Bd hml0 hP hK
  obtain ⟨rfl, hZ, hh⟩ := hP
  have hx := Bd.exec
  have hby := Bd.bytes
  have hml : c.maxLocals = 7 := hml0
  have hown : s.vm.findClass "com/example/partition_planner/partitionplanner/PartitionSize" = some m.cls := findClass_of_methodNamed Bd.named
  have hnm := (name_of_methodNamed Bd.named Bd.method).1
  have X0 : Stand p l e ({ frames := 2, cells := 0, slots := 0, locals := 24 } : Room) s m #[(.ref a), (.long x), (.long y), (.long z)] below meth c s₁ [] 0 0 := Stand.of_body Bd
  have e0 : s₁.heap = h0 := by rw [← hh, Bd.state]; rfl
  have N0 := Fr.nil n0
  show Gl p e below s (Q2 Z a x y z h0 n0) ({ frames := 2, cells := 0, slots := 0, locals := 24 } : Room).cells ({ frames := 2, cells := 0, slots := 0, locals := 24 } : Room).slots (s₁.setTop (entryFrame m #[(.ref a), (.long x), (.long y), (.long z)] 7))
  refine Gl.back (fun _ k => castTop (ef_2 m a x y z) k) ?_
  show Gl _ _ _ _ _ _ _ (s₁.setTop (mkF m 0 #[.val (.ref a), .val (.long x), .second, .val (.long y), .second, .val (.long z), .second] []))
  refine Gl.back (fun _ k => XS.aloadN X0.here hx rfl (hb hby d2_0) rfl rfl k) ?_
  show Gl _ _ _ _ _ _ _ (s₁.setTop (mkF m 1 #[.val (.ref a), .val (.long x), .second, .val (.long y), .second, .val (.long z), .second] [(.ref a)]))
  obtain ⟨_, _, ⟨T6, L6, k6, n6⟩, -, X6, ⟨Lc6, hQ6, l6, y6, z6⟩, st6⟩ := X0.specialBack hx (y := (⟨"java/lang/Record", "<init>", "()V"⟩ : MethodName)) rfl hown (mvT hZ (hw _ (List.mem_of_getElem? (i := 14) rfl))) (mvT hZ (hw _ (List.mem_of_getElem? (i := 15) rfl))) (mvT hZ (hw _ (List.mem_of_getElem? (i := 18) rfl))) (by decide) (backOf (W := 0) (rm3 l Z a0 hw [] a  h0 n0 Z0 ) hZ (hw _ (List.mem_of_getElem? (i := 18) rfl)) (hw _ (List.mem_of_getElem? (i := 17) rfl)) (by decide) (by decide)) (g := (mkF m 1 #[.val (.ref a), .val (.long x), .second, .val (.long y), .second, .val (.long z), .second] [(.ref a)])) rfl (by rw [hml]; rfl) (Steps.refl _) (a := a) (argsL := []) (rest := []) (lenOf pd___V rfl) rfl (by show 2 * 0 + _ ≤ _; exact Nat.le_of_eq rfl) (hb hby d2_1) (fun _ _ => ⟨rfl, e0, (by decide : 0 + 0 ≤ _), (by decide : 0 + 0 ≤ _)⟩)
  dsimp only [Pt.U, Pt.locs, Pt.cells, Pt.slots] at X6 l6 y6 z6 st6 hQ6
  subst l6 y6 z6
  obtain ⟨Nq6, rfl, eh6⟩ := hQ6
  have N6 := Fr.app N0 Nq6
  refine Gl.back (fun _ k => st6.trans k) ?_
  show Gl _ _ _ _ _ _ _ (T6.setTop (mkF m 4 #[.val (.ref a), .val (.long x), .second, .val (.long y), .second, .val (.long z), .second] []))
  refine Gl.back (fun _ k => XS.aloadN X6.here hx rfl (hb hby d2_4) rfl rfl k) ?_
  show Gl _ _ _ _ _ _ _ (T6.setTop (mkF m 5 #[.val (.ref a), .val (.long x), .second, .val (.long y), .second, .val (.long z), .second] [(.ref a)]))
  refine Gl.back (fun _ k => XS.lloadN X6.here hx rfl (hb hby d2_5) rfl k) ?_
  show Gl _ _ _ _ _ _ _ (T6.setTop (mkF m 6 #[.val (.ref a), .val (.long x), .second, .val (.long y), .second, .val (.long z), .second] [(.long x), (.ref a)]))
  obtain ⟨T7, h7, X7, e7, W7, st7⟩ := putF X6 hx hZ hown (host := "") (Or.inl (hw _ (List.mem_of_getElem? (i := 22) rfl))) Via.refl eh6 F_rows E_a (Or.inr ⟨(hw _ (List.mem_of_getElem? (i := 23) rfl)), rfl, hnm⟩) (hw _ (List.mem_of_getElem? (i := 9) rfl)) (ty := .long) (by decide) rfl rfl (g := (mkF m 6 #[.val (.ref a), .val (.long x), .second, .val (.long y), .second, .val (.long z), .second] [(.long x), (.ref a)])) rfl rfl (hb hby d2_6)
  have Fw7 := F_rows.same W7
  have K7 := Keep.wr (Keep.refl h0 [a]) W7 (Or.inl (List.mem_of_getElem? (i := 0) rfl))
  have Z7 : n0 ≤ h7.size := Nat.le_trans Z0 (Keep.of_wr W7).1
  have N7 := Fr.snoc X7 N6 g_a
  refine Gl.back (fun _ k => st7 _ k) ?_
  show Gl _ _ _ _ _ _ _ (T7.setTop (mkF m 9 #[.val (.ref a), .val (.long x), .second, .val (.long y), .second, .val (.long z), .second] []))
  refine Gl.back (fun _ k => XS.aloadN X7.here hx rfl (hb hby d2_9) rfl rfl k) ?_
  show Gl _ _ _ _ _ _ _ (T7.setTop (mkF m 10 #[.val (.ref a), .val (.long x), .second, .val (.long y), .second, .val (.long z), .second] [(.ref a)]))
  refine Gl.back (fun _ k => XS.lloadN X7.here hx rfl (hb hby d2_10) rfl k) ?_
  show Gl _ _ _ _ _ _ _ (T7.setTop (mkF m 11 #[.val (.ref a), .val (.long x), .second, .val (.long y), .second, .val (.long z), .second] [(.long y), (.ref a)]))
  have f8 := (E_a.wr W7)
  have f9 := (F_cells.other W7 (Or.inr (slot_ne (Or.inr (hw _ (List.mem_of_getElem? (i := 25) rfl))) (Or.inr (hw _ (List.mem_of_getElem? (i := 23) rfl))) (by decide) (t := .long) (t' := .long) (by decide) (by decide))))
  obtain ⟨T10, h10, X10, e10, W10, st10⟩ := putF X7 hx hZ hown (host := "") (Or.inl (hw _ (List.mem_of_getElem? (i := 24) rfl))) Via.refl e7 f9 f8 (Or.inr ⟨(hw _ (List.mem_of_getElem? (i := 25) rfl)), rfl, hnm⟩) (hw _ (List.mem_of_getElem? (i := 9) rfl)) (ty := .long) (by decide) rfl rfl (g := (mkF m 11 #[.val (.ref a), .val (.long x), .second, .val (.long y), .second, .val (.long z), .second] [(.long y), (.ref a)])) rfl rfl (hb hby d2_11)
  have Fw10 := f9.same W10
  have K10 := Keep.wr K7 W10 (Or.inl (List.mem_of_getElem? (i := 0) rfl))
  have Z10 : n0 ≤ h10.size := Nat.le_trans Z7 (Keep.of_wr W10).1
  have N10 := Fr.snoc X10 N7 g_a
  refine Gl.back (fun _ k => st10 _ k) ?_
  show Gl _ _ _ _ _ _ _ (T10.setTop (mkF m 14 #[.val (.ref a), .val (.long x), .second, .val (.long y), .second, .val (.long z), .second] []))
  refine Gl.back (fun _ k => XS.aloadN X10.here hx rfl (hb hby d2_14) rfl rfl k) ?_
  show Gl _ _ _ _ _ _ _ (T10.setTop (mkF m 15 #[.val (.ref a), .val (.long x), .second, .val (.long y), .second, .val (.long z), .second] [(.ref a)]))
  refine Gl.back (fun _ k => XS.lload X10.here hx rfl (hb hby d2_15) rfl k) ?_
  show Gl _ _ _ _ _ _ _ (T10.setTop (mkF m 17 #[.val (.ref a), .val (.long x), .second, .val (.long y), .second, .val (.long z), .second] [(.long z), (.ref a)]))
  have f11 := (f8.wr W10)
  have f12 := ((F_bytes.other W7 (Or.inr (slot_ne (Or.inr (hw _ (List.mem_of_getElem? (i := 27) rfl))) (Or.inr (hw _ (List.mem_of_getElem? (i := 23) rfl))) (by decide) (t := .long) (t' := .long) (by decide) (by decide)))).other W10 (Or.inr (slot_ne (Or.inr (hw _ (List.mem_of_getElem? (i := 27) rfl))) (Or.inr (hw _ (List.mem_of_getElem? (i := 25) rfl))) (by decide) (t := .long) (t' := .long) (by decide) (by decide))))
  obtain ⟨T13, h13, X13, e13, W13, st13⟩ := putF X10 hx hZ hown (host := "") (Or.inl (hw _ (List.mem_of_getElem? (i := 26) rfl))) Via.refl e10 f12 f11 (Or.inr ⟨(hw _ (List.mem_of_getElem? (i := 27) rfl)), rfl, hnm⟩) (hw _ (List.mem_of_getElem? (i := 9) rfl)) (ty := .long) (by decide) rfl rfl (g := (mkF m 17 #[.val (.ref a), .val (.long x), .second, .val (.long y), .second, .val (.long z), .second] [(.long z), (.ref a)])) rfl rfl (hb hby d2_17)
  have Fw13 := f12.same W13
  have K13 := Keep.wr K10 W13 (Or.inl (List.mem_of_getElem? (i := 0) rfl))
  have Z13 : n0 ≤ h13.size := Nat.le_trans Z10 (Keep.of_wr W13).1
  have N13 := Fr.snoc X13 N10 g_a
  refine Gl.back (fun _ k => st13 _ k) ?_
  show Gl _ _ _ _ _ _ _ (T13.setTop (mkF m 20 #[.val (.ref a), .val (.long x), .second, .val (.long y), .second, .val (.long z), .second] []))
  have f14 := (Fw10.other W13 (Or.inr (slot_ne (Or.inr (hw _ (List.mem_of_getElem? (i := 25) rfl))) (Or.inr (hw _ (List.mem_of_getElem? (i := 27) rfl))) (by decide) (t := .long) (t' := .long) (by decide) (by decide))))
  exact Gl.ret X13 e13 (v := none) (fun _ => rfl) Bd.notSynchronized (fun fs hr => X13.returnOut hx Bd.returns (hb hby d2_20) hr) ⟨N13, rfl, K13, f14, Fw13⟩ (by decide) (by decide)
theorem d5_0 : decode prog_43_method_4_code 0 = .ok (.aload_n 0, 1) := by decide +kernel
theorem d5_1 : decode prog_43_method_4_code 1 = .ok (.invokevirtual 32, 3) := by decide +kernel
theorem pd___J : parseMethodDescriptor "()J" = some ⟨[], some .long⟩ := by decide +kernel
theorem d5_4 : decode prog_43_method_4_code 4 = .ok (.ldc2_w 38, 3) := by decide +kernel
theorem d5_7 : decode prog_43_method_4_code 7 = .ok (.lcmp, 1) := by decide +kernel
theorem d5_8 : decode prog_43_method_4_code 8 = .ok (.ifCond .le 10, 3) := by decide +kernel
theorem d5_11 : decode prog_43_method_4_code 11 = .ok (.getstatic 10, 3) := by decide +kernel
theorem d5_14 : decode prog_43_method_4_code 14 = .ok (.astore_n 1, 1) := by decide +kernel
theorem d5_15 : decode prog_43_method_4_code 15 = .ok (.goto 36, 3) := by decide +kernel
theorem d5_51 : decode prog_43_method_4_code 51 = .ok (.aload_n 1, 1) := by decide +kernel
theorem d5_52 : decode prog_43_method_4_code 52 = .ok (.areturn, 1) := by decide +kernel
theorem d5_18 : decode prog_43_method_4_code 18 = .ok (.aload_n 0, 1) := by decide +kernel
theorem d5_19 : decode prog_43_method_4_code 19 = .ok (.invokevirtual 32, 3) := by decide +kernel
theorem d5_22 : decode prog_43_method_4_code 22 = .ok (.ldc2_w 40, 3) := by decide +kernel
theorem d5_25 : decode prog_43_method_4_code 25 = .ok (.lcmp, 1) := by decide +kernel
theorem d5_26 : decode prog_43_method_4_code 26 = .ok (.ifCond .gt 14, 3) := by decide +kernel
theorem d5_40 : decode prog_43_method_4_code 40 = .ok (.getstatic 7, 3) := by decide +kernel
theorem d5_43 : decode prog_43_method_4_code 43 = .ok (.astore_n 1, 1) := by decide +kernel
theorem d5_44 : decode prog_43_method_4_code 44 = .ok (.goto 7, 3) := by decide +kernel
theorem d5_29 : decode prog_43_method_4_code 29 = .ok (.aload_n 0, 1) := by decide +kernel
theorem d5_30 : decode prog_43_method_4_code 30 = .ok (.invokevirtual 42, 3) := by decide +kernel
theorem d5_33 : decode prog_43_method_4_code 33 = .ok (.ldc2_w 45, 3) := by decide +kernel
theorem d5_36 : decode prog_43_method_4_code 36 = .ok (.lcmp, 1) := by decide +kernel
theorem d5_37 : decode prog_43_method_4_code 37 = .ok (.ifCond .le 10, 3) := by decide +kernel
theorem d5_47 : decode prog_43_method_4_code 47 = .ok (.getstatic 3, 3) := by decide +kernel
theorem d5_50 : decode prog_43_method_4_code 50 = .ok (.astore_n 1, 1) := by decide +kernel
theorem pn_com_example_partition_planner_partitionplanner_Verdict : plainName "com/example/partition_planner/partitionplanner/Verdict" = true := by first | (simp [plainName, overriddenIn]; done) | decide +kernel
theorem ef_5 (m : MethodId) (x0 : Addr) : entryFrame m #[(.ref x0)] 2 = mkF m 0 #[.val (.ref x0), .unset] [] := by first | (simp [entryFrame, mkF, argsToLocals, Value.category]; done) | rfl
def Q5 (Z : State) (a : Addr) (cc bb : Int64) (w_OVER : Addr) (w_WARN : Addr) (w_OK : Addr) (h0 : Heap) (n0 : Nat) (v : Option Value) (h : Heap) (L : List Loc) : Prop := Fr n0 L ∧ ((v = some (.ref w_OVER) ∧ h = h0 ∧ (2000000000 : Int64) < cc) ∨ (v = some (.ref w_WARN) ∧ h = h0 ∧ ¬ (2000000000 : Int64) < cc ∧ (1000000 : Int64) < cc) ∨ (v = some (.ref w_WARN) ∧ h = h0 ∧ ¬ (2000000000 : Int64) < cc ∧ ¬ (1000000 : Int64) < cc ∧ (104857600 : Int64) < bb) ∨ (v = some (.ref w_OK) ∧ h = h0 ∧ ¬ (2000000000 : Int64) < cc ∧ ¬ (1000000 : Int64) < cc ∧ ¬ (104857600 : Int64) < bb))
set_option maxRecDepth 65536 in
set_option maxHeartbeats 40000000 in
theorem rm5 (l : Launch) (Z : State) (a0 : Array Value) (hw : ∀ d ∈ tables_1, d.before a0 Z = true) (ws : List Jvm.Cond) (a : Addr) (cc bb : Int64) (w_OVER : Addr) (w_WARN : Addr) (w_OK : Addr) (h0 : Heap) (n0 : Nat) (Z0 : n0 ≤ h0.size) (E : Exa Z h0 a "com/example/partition_planner/partitionplanner/PartitionSize") (Fc : Fld Z h0 a "com/example/partition_planner/partitionplanner/PartitionSize" "cells" "J" (.long cc)) (Fb : Fld Z h0 a "com/example/partition_planner/partitionplanner/PartitionSize" "bytes" "J" (.long bb)) (S_OVER : Sta Z h0 "com/example/partition_planner/partitionplanner/Verdict" "OVER" "Lcom/example/partition_planner/partitionplanner/Verdict;" (.ref w_OVER)) (S_WARN : Sta Z h0 "com/example/partition_planner/partitionplanner/Verdict" "WARN" "Lcom/example/partition_planner/partitionplanner/Verdict;" (.ref w_WARN)) (S_OK : Sta Z h0 "com/example/partition_planner/partitionplanner/Verdict" "OK" "Lcom/example/partition_planner/partitionplanner/Verdict;" (.ref w_OK)) :
    MetFree l (⟨"com/example/partition_planner/partitionplanner/Verdict", "of", "(Lcom/example/partition_planner/partitionplanner/PartitionSize;)Lcom/example/partition_planner/partitionplanner/Verdict;"⟩ : MethodName) (head1 (Jvm.Cond.code (⟨"com/example/partition_planner/partitionplanner/Verdict", "of", "(Lcom/example/partition_planner/partitionplanner/PartitionSize;)Lcom/example/partition_planner/partitionplanner/Verdict;"⟩ : MethodName) prog_43_method_4_code 2 (some (.object "com/example/partition_planner/partitionplanner/Verdict")) :: ws) ({ frames := 1, cells := 0, slots := 0, locals := 12 } : Room)) (fun as0 U => as0 = #[(.ref a)] ∧ Z.Warmed39 U.vm ∧ U.heap = h0) (fun _ _ _ _ _ => True) (fun _ U o U' => ∃ v L, o = .returned v ∧ Q5 Z a cc bb w_OVER w_WARN w_OK h0 n0 v U'.heap L ∧ FrameEnd U o U' L ({ frames := 1, cells := 0, slots := 0, locals := 12 } : Room).cells ({ frames := 1, cells := 0, slots := 0, locals := 12 } : Room).slots) := by
  refine MetFree.of_bodySF (plainFor_of_name pn_com_example_partition_planner_partitionplanner_Verdict) hisR ?_
  intro p e s m args below meth c s₁ Bd hml0 hP hK
  obtain ⟨rfl, hZ, hh⟩ := hP
  have hx := Bd.exec
  have hby := Bd.bytes
  have hml : c.maxLocals = 2 := hml0
  have hown : s.vm.findClass "com/example/partition_planner/partitionplanner/Verdict" = some m.cls := findClass_of_methodNamed Bd.named
  have hnm := (name_of_methodNamed Bd.named Bd.method).1
  have X0 : Stand p l e ({ frames := 1, cells := 0, slots := 0, locals := 12 } : Room) s m #[(.ref a)] below meth c s₁ [] 0 0 := Stand.of_body Bd
  have e0 : s₁.heap = h0 := by rw [← hh, Bd.state]; rfl
  have N0 := Fr.nil n0
  show Gl p e below s (Q5 Z a cc bb w_OVER w_WARN w_OK h0 n0) ({ frames := 1, cells := 0, slots := 0, locals := 12 } : Room).cells ({ frames := 1, cells := 0, slots := 0, locals := 12 } : Room).slots (s₁.setTop (entryFrame m #[(.ref a)] 2))
  refine Gl.back (fun _ k => castTop (ef_5 m a) k) ?_
  show Gl _ _ _ _ _ _ _ (s₁.setTop (mkF m 0 #[.val (.ref a), .unset] []))
  refine Gl.back (fun _ k => XS.aloadN X0.here hx rfl (hb hby d5_0) rfl rfl k) ?_
  show Gl _ _ _ _ _ _ _ (s₁.setTop (mkF m 1 #[.val (.ref a), .unset] [(.ref a)]))
  obtain ⟨cq15, kq15, q15a, q15b, q15c⟩ := isOf hZ e0 E
  obtain ⟨_, _, ⟨T15, L15, k15, n15⟩, -, X15, ⟨Lc15, hQ15, l15, y15, z15⟩, st15⟩ := X0.virtualBack hx (y := (⟨"com/example/partition_planner/partitionplanner/PartitionSize", "cells", "()J"⟩ : MethodName)) (z := (⟨"com/example/partition_planner/partitionplanner/PartitionSize", "cells", "()J"⟩ : MethodName)) hown (mvT hZ (hw _ (List.mem_of_getElem? (i := 32) rfl))) (mvT hZ (hw _ (List.mem_of_getElem? (i := 33) rfl))) (notFace_of_selects (args := #[]) (mvT hZ (hw _ (List.mem_of_getElem? (i := 35) rfl)))) (mvT hZ (hw _ (List.mem_of_getElem? (i := 35) rfl))) (mvT hZ (hw _ (List.mem_of_getElem? (i := 34) rfl))) (by decide) (backOf (W := 0) (rm6 l Z a0 hw [] a cc h0 n0 Z0 Fc) hZ (hw _ (List.mem_of_getElem? (i := 36) rfl)) (hw _ (List.mem_of_getElem? (i := 10) rfl)) (by decide) (by decide)) q15a q15c (g := (mkF m 1 #[.val (.ref a), .unset] [(.ref a)])) rfl (by rw [hml]; rfl) (Steps.refl _) (argsL := []) (rest := []) (lenOf pd___J rfl) rfl (by show 2 * 0 + _ ≤ _; exact Nat.le_of_eq rfl) (hb hby d5_1) (fun _ _ => ⟨rfl, e0, (by decide : 0 + 0 ≤ _), (by decide : 0 + 0 ≤ _)⟩)
  dsimp only [Pt.U, Pt.locs, Pt.cells, Pt.slots] at X15 l15 y15 z15 st15 hQ15
  subst l15 y15 z15
  obtain ⟨Nq15, rfl, eh15⟩ := hQ15
  have N15 := Fr.app N0 Nq15
  refine Gl.back (fun _ k => st15.trans k) ?_
  show Gl _ _ _ _ _ _ _ (T15.setTop (mkF m 4 #[.val (.ref a), .unset] [(.long cc)]))
  refine Gl.back (fun _ k => X15.ldc2Long hx hown (mvT hZ (hw _ (List.mem_of_getElem? (i := 37) rfl))) (g := (mkF m 4 #[.val (.ref a), .unset] [(.long cc)])) rfl (hb hby d5_4) _ k) ?_
  show Gl _ _ _ _ _ _ _ (T15.setTop (mkF m 7 #[.val (.ref a), .unset] [(.long (2000000000 : Int64)), (.long cc)]))
  refine Gl.back (fun _ k => XS.lcmp X15.here hx rfl (hb hby d5_7) rfl k) ?_
  show Gl _ _ _ _ _ _ _ (T15.setTop (mkF m 8 #[.val (.ref a), .unset] [(.int (lcmpW cc (2000000000 : Int64)))]))
  by_cases hc8_16 : (2000000000 : Int64) < cc
  · refine Gl.back (fun _ k => XS.ifNo X15.here hx rfl (hb hby d5_8) rfl ((if0 _ _).trans (tlt (own_lcG hc8_16)).2.2.2) k) ?_
    show Gl _ _ _ _ _ _ _ (T15.setTop (mkF m 11 #[.val (.ref a), .unset] []))
    obtain ⟨T17, X17, e17, st17⟩ := getS2 X15 hx hZ hown (host := "") (Or.inl (hw _ (List.mem_of_getElem? (i := 38) rfl))) Via.refl eh15 S_OVER (g := (mkF m 11 #[.val (.ref a), .unset] [])) rfl (hb hby d5_11)
    refine Gl.back (fun _ k => st17 _ k) ?_
    show Gl _ _ _ _ _ _ _ (T17.setTop (mkF m 14 #[.val (.ref a), .unset] [(.ref w_OVER)]))
    refine Gl.back (fun _ k => XS.astoreN X17.here hx rfl (hb hby d5_14) rfl rfl (l' := #[.val (.ref a), .val (.ref w_OVER)]) rfl k) ?_
    show Gl _ _ _ _ _ _ _ (T17.setTop (mkF m 15 #[.val (.ref a), .val (.ref w_OVER)] []))
    refine Gl.back (fun _ k => XS.goto X17.here hx rfl (pc0 := 15) (pc' := 51) rfl (hb hby d5_15) (by decide) (by decide) k) ?_
    show Gl _ _ _ _ _ _ _ (T17.setTop (mkF m 51 #[.val (.ref a), .val (.ref w_OVER)] []))
    refine Gl.back (fun _ k => XS.aloadN X17.here hx rfl (hb hby d5_51) rfl rfl k) ?_
    show Gl _ _ _ _ _ _ _ (T17.setTop (mkF m 52 #[.val (.ref a), .val (.ref w_OVER)] [(.ref w_OVER)]))
    exact Gl.ret X17 e17 (v := (some (.ref w_OVER))) (fun h => by rw [Bd.returns] at h; cases h) Bd.notSynchronized (fun fs hr => retOut X17 hx (w := (.ref w_OVER)) Bd.returns rfl (Or.inr (Or.inr (Or.inr (Or.inr ⟨rfl, rfl, rfl⟩)))) (hb hby d5_52) hr) ⟨N15, Or.inl ⟨rfl, rfl, hc8_16⟩⟩ (by decide) (by decide)
  · refine Gl.back (fun _ k => XS.ifYes X15.here hx rfl (pc0 := 8) (pc' := 18) rfl (hb hby d5_8) rfl ((if0 _ _).trans (flt (own_lcGn hc8_16)).2.2.2) (by decide) (by decide) k) ?_
    show Gl _ _ _ _ _ _ _ (T15.setTop (mkF m 18 #[.val (.ref a), .unset] []))
    refine Gl.back (fun _ k => XS.aloadN X15.here hx rfl (hb hby d5_18) rfl rfl k) ?_
    show Gl _ _ _ _ _ _ _ (T15.setTop (mkF m 19 #[.val (.ref a), .unset] [(.ref a)]))
    obtain ⟨cq18, kq18, q18a, q18b, q18c⟩ := isOf hZ eh15 E
    obtain ⟨_, _, ⟨T18, L18, k18, n18⟩, -, X18, ⟨Lc18, hQ18, l18, y18, z18⟩, st18⟩ := X15.virtualBack hx (y := (⟨"com/example/partition_planner/partitionplanner/PartitionSize", "cells", "()J"⟩ : MethodName)) (z := (⟨"com/example/partition_planner/partitionplanner/PartitionSize", "cells", "()J"⟩ : MethodName)) hown (mvT hZ (hw _ (List.mem_of_getElem? (i := 32) rfl))) (mvT hZ (hw _ (List.mem_of_getElem? (i := 33) rfl))) (notFace_of_selects (args := #[]) (mvT hZ (hw _ (List.mem_of_getElem? (i := 35) rfl)))) (mvT hZ (hw _ (List.mem_of_getElem? (i := 35) rfl))) (mvT hZ (hw _ (List.mem_of_getElem? (i := 34) rfl))) (by decide) (backOf (W := 0) (rm6 l Z a0 hw [] a cc h0 n0 Z0 Fc) hZ (hw _ (List.mem_of_getElem? (i := 36) rfl)) (hw _ (List.mem_of_getElem? (i := 10) rfl)) (by decide) (by decide)) q18a q18c (g := (mkF m 19 #[.val (.ref a), .unset] [(.ref a)])) rfl (by rw [hml]; rfl) (Steps.refl _) (argsL := []) (rest := []) (lenOf pd___J rfl) rfl (by show 2 * 0 + _ ≤ _; exact Nat.le_of_eq rfl) (hb hby d5_19) (fun _ _ => ⟨rfl, eh15, (by decide : 0 + 0 ≤ _), (by decide : 0 + 0 ≤ _)⟩)
    dsimp only [Pt.U, Pt.locs, Pt.cells, Pt.slots] at X18 l18 y18 z18 st18 hQ18
    subst l18 y18 z18
    obtain ⟨Nq18, rfl, eh18⟩ := hQ18
    have N18 := Fr.app N15 Nq18
    refine Gl.back (fun _ k => st18.trans k) ?_
    show Gl _ _ _ _ _ _ _ (T18.setTop (mkF m 22 #[.val (.ref a), .unset] [(.long cc)]))
    refine Gl.back (fun _ k => X18.ldc2Long hx hown (mvT hZ (hw _ (List.mem_of_getElem? (i := 47) rfl))) (g := (mkF m 22 #[.val (.ref a), .unset] [(.long cc)])) rfl (hb hby d5_22) _ k) ?_
    show Gl _ _ _ _ _ _ _ (T18.setTop (mkF m 25 #[.val (.ref a), .unset] [(.long (1000000 : Int64)), (.long cc)]))
    refine Gl.back (fun _ k => XS.lcmp X18.here hx rfl (hb hby d5_25) rfl k) ?_
    show Gl _ _ _ _ _ _ _ (T18.setTop (mkF m 26 #[.val (.ref a), .unset] [(.int (lcmpW cc (1000000 : Int64)))]))
    by_cases hc26_19 : (1000000 : Int64) < cc
    · refine Gl.back (fun _ k => XS.ifYes X18.here hx rfl (pc0 := 26) (pc' := 40) rfl (hb hby d5_26) rfl ((if0 _ _).trans (tlt (own_lcG hc26_19)).2.2.1) (by decide) (by decide) k) ?_
      show Gl _ _ _ _ _ _ _ (T18.setTop (mkF m 40 #[.val (.ref a), .unset] []))
      obtain ⟨T20, X20, e20, st20⟩ := getS2 X18 hx hZ hown (host := "") (Or.inl (hw _ (List.mem_of_getElem? (i := 54) rfl))) Via.refl eh18 S_WARN (g := (mkF m 40 #[.val (.ref a), .unset] [])) rfl (hb hby d5_40)
      refine Gl.back (fun _ k => st20 _ k) ?_
      show Gl _ _ _ _ _ _ _ (T20.setTop (mkF m 43 #[.val (.ref a), .unset] [(.ref w_WARN)]))
      refine Gl.back (fun _ k => XS.astoreN X20.here hx rfl (hb hby d5_43) rfl rfl (l' := #[.val (.ref a), .val (.ref w_WARN)]) rfl k) ?_
      show Gl _ _ _ _ _ _ _ (T20.setTop (mkF m 44 #[.val (.ref a), .val (.ref w_WARN)] []))
      refine Gl.back (fun _ k => XS.goto X20.here hx rfl (pc0 := 44) (pc' := 51) rfl (hb hby d5_44) (by decide) (by decide) k) ?_
      show Gl _ _ _ _ _ _ _ (T20.setTop (mkF m 51 #[.val (.ref a), .val (.ref w_WARN)] []))
      refine Gl.back (fun _ k => XS.aloadN X20.here hx rfl (hb hby d5_51) rfl rfl k) ?_
      show Gl _ _ _ _ _ _ _ (T20.setTop (mkF m 52 #[.val (.ref a), .val (.ref w_WARN)] [(.ref w_WARN)]))
      exact Gl.ret X20 e20 (v := (some (.ref w_WARN))) (fun h => by rw [Bd.returns] at h; cases h) Bd.notSynchronized (fun fs hr => retOut X20 hx (w := (.ref w_WARN)) Bd.returns rfl (Or.inr (Or.inr (Or.inr (Or.inr ⟨rfl, rfl, rfl⟩)))) (hb hby d5_52) hr) ⟨N18, Or.inr (Or.inl ⟨rfl, rfl, hc8_16, hc26_19⟩)⟩ (by decide) (by decide)
    · refine Gl.back (fun _ k => XS.ifNo X18.here hx rfl (hb hby d5_26) rfl ((if0 _ _).trans (flt (own_lcGn hc26_19)).2.2.1) k) ?_
      show Gl _ _ _ _ _ _ _ (T18.setTop (mkF m 29 #[.val (.ref a), .unset] []))
      refine Gl.back (fun _ k => XS.aloadN X18.here hx rfl (hb hby d5_29) rfl rfl k) ?_
      show Gl _ _ _ _ _ _ _ (T18.setTop (mkF m 30 #[.val (.ref a), .unset] [(.ref a)]))
      obtain ⟨cq21, kq21, q21a, q21b, q21c⟩ := isOf hZ eh18 E
      obtain ⟨_, _, ⟨T21, L21, k21, n21⟩, -, X21, ⟨Lc21, hQ21, l21, y21, z21⟩, st21⟩ := X18.virtualBack hx (y := (⟨"com/example/partition_planner/partitionplanner/PartitionSize", "bytes", "()J"⟩ : MethodName)) (z := (⟨"com/example/partition_planner/partitionplanner/PartitionSize", "bytes", "()J"⟩ : MethodName)) hown (mvT hZ (hw _ (List.mem_of_getElem? (i := 48) rfl))) (mvT hZ (hw _ (List.mem_of_getElem? (i := 49) rfl))) (notFace_of_selects (args := #[]) (mvT hZ (hw _ (List.mem_of_getElem? (i := 51) rfl)))) (mvT hZ (hw _ (List.mem_of_getElem? (i := 51) rfl))) (mvT hZ (hw _ (List.mem_of_getElem? (i := 50) rfl))) (by decide) (backOf (W := 0) (rm8 l Z a0 hw [] a bb h0 n0 Z0 Fb) hZ (hw _ (List.mem_of_getElem? (i := 52) rfl)) (hw _ (List.mem_of_getElem? (i := 10) rfl)) (by decide) (by decide)) q21a q21c (g := (mkF m 30 #[.val (.ref a), .unset] [(.ref a)])) rfl (by rw [hml]; rfl) (Steps.refl _) (argsL := []) (rest := []) (lenOf pd___J rfl) rfl (by show 2 * 0 + _ ≤ _; exact Nat.le_of_eq rfl) (hb hby d5_30) (fun _ _ => ⟨rfl, eh18, (by decide : 0 + 0 ≤ _), (by decide : 0 + 0 ≤ _)⟩)
      dsimp only [Pt.U, Pt.locs, Pt.cells, Pt.slots] at X21 l21 y21 z21 st21 hQ21
      subst l21 y21 z21
      obtain ⟨Nq21, rfl, eh21⟩ := hQ21
      have N21 := Fr.app N18 Nq21
      refine Gl.back (fun _ k => st21.trans k) ?_
      show Gl _ _ _ _ _ _ _ (T21.setTop (mkF m 33 #[.val (.ref a), .unset] [(.long bb)]))
      refine Gl.back (fun _ k => X21.ldc2Long hx hown (mvT hZ (hw _ (List.mem_of_getElem? (i := 53) rfl))) (g := (mkF m 33 #[.val (.ref a), .unset] [(.long bb)])) rfl (hb hby d5_33) _ k) ?_
      show Gl _ _ _ _ _ _ _ (T21.setTop (mkF m 36 #[.val (.ref a), .unset] [(.long (104857600 : Int64)), (.long bb)]))
      refine Gl.back (fun _ k => XS.lcmp X21.here hx rfl (hb hby d5_36) rfl k) ?_
      show Gl _ _ _ _ _ _ _ (T21.setTop (mkF m 37 #[.val (.ref a), .unset] [(.int (lcmpW bb (104857600 : Int64)))]))
      by_cases hc37_22 : (104857600 : Int64) < bb
      · refine Gl.back (fun _ k => XS.ifNo X21.here hx rfl (hb hby d5_37) rfl ((if0 _ _).trans (tlt (own_lcG hc37_22)).2.2.2) k) ?_
        show Gl _ _ _ _ _ _ _ (T21.setTop (mkF m 40 #[.val (.ref a), .unset] []))
        obtain ⟨T23, X23, e23, st23⟩ := getS2 X21 hx hZ hown (host := "") (Or.inl (hw _ (List.mem_of_getElem? (i := 54) rfl))) Via.refl eh21 S_WARN (g := (mkF m 40 #[.val (.ref a), .unset] [])) rfl (hb hby d5_40)
        refine Gl.back (fun _ k => st23 _ k) ?_
        show Gl _ _ _ _ _ _ _ (T23.setTop (mkF m 43 #[.val (.ref a), .unset] [(.ref w_WARN)]))
        refine Gl.back (fun _ k => XS.astoreN X23.here hx rfl (hb hby d5_43) rfl rfl (l' := #[.val (.ref a), .val (.ref w_WARN)]) rfl k) ?_
        show Gl _ _ _ _ _ _ _ (T23.setTop (mkF m 44 #[.val (.ref a), .val (.ref w_WARN)] []))
        refine Gl.back (fun _ k => XS.goto X23.here hx rfl (pc0 := 44) (pc' := 51) rfl (hb hby d5_44) (by decide) (by decide) k) ?_
        show Gl _ _ _ _ _ _ _ (T23.setTop (mkF m 51 #[.val (.ref a), .val (.ref w_WARN)] []))
        refine Gl.back (fun _ k => XS.aloadN X23.here hx rfl (hb hby d5_51) rfl rfl k) ?_
        show Gl _ _ _ _ _ _ _ (T23.setTop (mkF m 52 #[.val (.ref a), .val (.ref w_WARN)] [(.ref w_WARN)]))
        exact Gl.ret X23 e23 (v := (some (.ref w_WARN))) (fun h => by rw [Bd.returns] at h; cases h) Bd.notSynchronized (fun fs hr => retOut X23 hx (w := (.ref w_WARN)) Bd.returns rfl (Or.inr (Or.inr (Or.inr (Or.inr ⟨rfl, rfl, rfl⟩)))) (hb hby d5_52) hr) ⟨N21, Or.inr (Or.inr (Or.inl ⟨rfl, rfl, hc8_16, hc26_19, hc37_22⟩))⟩ (by decide) (by decide)
      · refine Gl.back (fun _ k => XS.ifYes X21.here hx rfl (pc0 := 37) (pc' := 47) rfl (hb hby d5_37) rfl ((if0 _ _).trans (flt (own_lcGn hc37_22)).2.2.2) (by decide) (by decide) k) ?_
        show Gl _ _ _ _ _ _ _ (T21.setTop (mkF m 47 #[.val (.ref a), .unset] []))
        obtain ⟨T24, X24, e24, st24⟩ := getS2 X21 hx hZ hown (host := "") (Or.inl (hw _ (List.mem_of_getElem? (i := 58) rfl))) Via.refl eh21 S_OK (g := (mkF m 47 #[.val (.ref a), .unset] [])) rfl (hb hby d5_47)
        refine Gl.back (fun _ k => st24 _ k) ?_
        show Gl _ _ _ _ _ _ _ (T24.setTop (mkF m 50 #[.val (.ref a), .unset] [(.ref w_OK)]))
        refine Gl.back (fun _ k => XS.astoreN X24.here hx rfl (hb hby d5_50) rfl rfl (l' := #[.val (.ref a), .val (.ref w_OK)]) rfl k) ?_
        show Gl _ _ _ _ _ _ _ (T24.setTop (mkF m 51 #[.val (.ref a), .val (.ref w_OK)] []))
        refine Gl.back (fun _ k => XS.aloadN X24.here hx rfl (hb hby d5_51) rfl rfl k) ?_
        show Gl _ _ _ _ _ _ _ (T24.setTop (mkF m 52 #[.val (.ref a), .val (.ref w_OK)] [(.ref w_OK)]))
        exact Gl.ret X24 e24 (v := (some (.ref w_OK))) (fun h => by rw [Bd.returns] at h; cases h) Bd.notSynchronized (fun fs hr => retOut X24 hx (w := (.ref w_OK)) Bd.returns rfl (Or.inr (Or.inr (Or.inr (Or.inr ⟨rfl, rfl, rfl⟩)))) (hb hby d5_52) hr) ⟨N21, Or.inr (Or.inr (Or.inr ⟨rfl, rfl, hc8_16, hc26_19, hc37_22⟩))⟩ (by decide) (by decide)
theorem pd__JIJJ_J : parseMethodDescriptor "(JIJJ)J" = some ⟨[.long, .int, .long, .long], some .long⟩ := by decide +kernel
theorem pd__JJJ_V : parseMethodDescriptor "(JJJ)V" = some ⟨[.long, .long, .long], none⟩ := by decide +kernel
theorem pd__Lcom_example_partition_planner_partitionplanner_PartitionSize__Lcom_example_partition_planner_partitionplanner_Verdict_ : parseMethodDescriptor "(Lcom/example/partition_planner/partitionplanner/PartitionSize;)Lcom/example/partition_planner/partitionplanner/Verdict;" = some ⟨[(.object "com/example/partition_planner/partitionplanner/PartitionSize")], some (.object "com/example/partition_planner/partitionplanner/Verdict")⟩ := by decide +kernel
theorem pd__II_I : parseMethodDescriptor "(II)I" = some ⟨[.int, .int], some .int⟩ := by decide +kernel
theorem ef_0 (m : MethodId) (x0 : Int64) (x1 : Int64) (x2 : Int64) (x3 : Int32) : entryFrame m #[(.long x0), (.long x1), (.long x2), (.int x3)] maxLocals = mkF m 0 #[.val (.long x0), .second, .val (.long x1), .second, .val (.long x2), .second, .val (.int x3), .unset, .unset, .unset, .unset, .unset, .unset, .unset, .unset, .unset, .unset] [] := by first | (simp [entryFrame, mkF, argsToLocals, Value.category, maxLocals]; done) | rfl
def Q0 (Z : State) (x0 : Int64) (x1 : Int64) (x2 : Int64) (x3 : Int32) (w_OVER : Addr) (w_WARN : Addr) (w_OK : Addr) (h0 : Heap) (n0 : Nat) (v : Option Value) (h : Heap) (L : List Loc) : Prop := Fr n0 L ∧ (v = some (.int 1))
set_option maxRecDepth 65536 in
set_option maxHeartbeats 40000000 in
theorem rm0 (l : Launch) (Z : State) (a0 : Array Value) (hw : ∀ d ∈ tables_1, d.before a0 Z = true) (ws : List Jvm.Cond) (x0 : Int64) (x1 : Int64) (x2 : Int64) (x3 : Int32) (w_OVER : Addr) (w_WARN : Addr) (w_OK : Addr) (h0 : Heap) (n0 : Nat) (Z0 : n0 ≤ h0.size) (O0 : Old Z n0 h0) (S_OVER : Sta Z Z.heap "com/example/partition_planner/partitionplanner/Verdict" "OVER" "Lcom/example/partition_planner/partitionplanner/Verdict;" (.ref w_OVER)) (S_WARN : Sta Z Z.heap "com/example/partition_planner/partitionplanner/Verdict" "WARN" "Lcom/example/partition_planner/partitionplanner/Verdict;" (.ref w_WARN)) (S_OK : Sta Z Z.heap "com/example/partition_planner/partitionplanner/Verdict" "OK" "Lcom/example/partition_planner/partitionplanner/Verdict;" (.ref w_OK)) :
    MetFree l x (head1 (Jvm.Cond.code x code maxLocals ret :: ws) room_1) (fun as0 U => as0 = #[(.long x0), (.long x1), (.long x2), (.int x3)] ∧ Z.Warmed39 U.vm ∧ U.heap = h0) (fun _ _ _ _ _ => True) (fun _ U o U' => ∃ v L, o = .returned v ∧ Q0 Z x0 x1 x2 x3 w_OVER w_WARN w_OK h0 n0 v U'.heap L ∧ FrameEnd U o U' L room_1.cells room_1.slots) := by
  refine MetFree.of_bodySF (plainFor_of_name pn_com_example_partition_planner_partitionplanner_VerdictOfPinLaw) hisR ?_
  intro p e s m args below meth c s₁ Bd hml0 hP hK
  obtain ⟨rfl, hZ, hh⟩ := hP
  have hx := Bd.exec
  have hby := Bd.bytes
  have hml : c.maxLocals = 17 := hml0
  have hown : s.vm.findClass "com/example/partition_planner/partitionplanner/VerdictOfPinLaw" = some m.cls := findClass_of_methodNamed Bd.named
  have hnm := (name_of_methodNamed Bd.named Bd.method).1
  have X0 : Stand p l e room_1 s m #[(.long x0), (.long x1), (.long x2), (.int x3)] below meth c s₁ [] 0 0 := Stand.of_body Bd
  have e0 : s₁.heap = h0 := by rw [← hh, Bd.state]; rfl
  have N0 := Fr.nil n0
  show Gl p e below s (Q0 Z x0 x1 x2 x3 w_OVER w_WARN w_OK h0 n0) room_1.cells room_1.slots (s₁.setTop (entryFrame m #[(.long x0), (.long x1), (.long x2), (.int x3)] maxLocals))
  refine Gl.back (fun _ k => castTop (ef_0 m x0 x1 x2 x3) k) ?_
  show Gl _ _ _ _ _ _ _ (s₁.setTop (mkF m 0 #[.val (.long x0), .second, .val (.long x1), .second, .val (.long x2), .second, .val (.int x3), .unset, .unset, .unset, .unset, .unset, .unset, .unset, .unset, .unset, .unset] []))
  refine Gl.back (fun _ k => XS.lloadN X0.here hx rfl (hb hby at_0) rfl k) ?_
  show Gl _ _ _ _ _ _ _ (s₁.setTop (mkF m 1 #[.val (.long x0), .second, .val (.long x1), .second, .val (.long x2), .second, .val (.int x3), .unset, .unset, .unset, .unset, .unset, .unset, .unset, .unset, .unset, .unset] [(.long x0)]))
  refine Gl.back (fun _ k => XS.iload X0.here hx rfl (hb hby at_1) rfl k) ?_
  show Gl _ _ _ _ _ _ _ (s₁.setTop (mkF m 3 #[.val (.long x0), .second, .val (.long x1), .second, .val (.long x2), .second, .val (.int x3), .unset, .unset, .unset, .unset, .unset, .unset, .unset, .unset, .unset, .unset] [(.int x3), (.long x0)]))
  refine Gl.back (fun _ k => XS.iconst X0.here hx rfl (hb hby at_3) k) ?_
  show Gl _ _ _ _ _ _ _ (s₁.setTop (mkF m 4 #[.val (.long x0), .second, .val (.long x1), .second, .val (.long x2), .second, .val (.int x3), .unset, .unset, .unset, .unset, .unset, .unset, .unset, .unset, .unset, .unset] [(.int (3 : Int32)), (.int x3), (.long x0)]))
  refine Gl.back (fun _ k => XS.iand X0.here hx rfl (hb hby at_4) rfl k) ?_
  show Gl _ _ _ _ _ _ _ (s₁.setTop (mkF m 5 #[.val (.long x0), .second, .val (.long x1), .second, .val (.long x2), .second, .val (.int x3), .unset, .unset, .unset, .unset, .unset, .unset, .unset, .unset, .unset, .unset] [(.int (x3 &&& (3 : Int32))), (.long x0)]))
  refine Gl.back (fun _ k => X0.ldc2Long hx hown (mvT hZ (hw _ (List.mem_of_getElem? (i := 0) rfl))) (g := (mkF m 5 #[.val (.long x0), .second, .val (.long x1), .second, .val (.long x2), .second, .val (.int x3), .unset, .unset, .unset, .unset, .unset, .unset, .unset, .unset, .unset, .unset] [(.int (x3 &&& (3 : Int32))), (.long x0)])) rfl (hb hby at_5) _ k) ?_
  show Gl _ _ _ _ _ _ _ (s₁.setTop (mkF m 8 #[.val (.long x0), .second, .val (.long x1), .second, .val (.long x2), .second, .val (.int x3), .unset, .unset, .unset, .unset, .unset, .unset, .unset, .unset, .unset, .unset] [(.long (1000000 : Int64)), (.int (x3 &&& (3 : Int32))), (.long x0)]))
  refine Gl.back (fun _ k => X0.ldc2Long hx hown (mvT hZ (hw _ (List.mem_of_getElem? (i := 1) rfl))) (g := (mkF m 8 #[.val (.long x0), .second, .val (.long x1), .second, .val (.long x2), .second, .val (.int x3), .unset, .unset, .unset, .unset, .unset, .unset, .unset, .unset, .unset, .unset] [(.long (1000000 : Int64)), (.int (x3 &&& (3 : Int32))), (.long x0)])) rfl (hb hby at_8) _ k) ?_
  show Gl _ _ _ _ _ _ _ (s₁.setTop (mkF m 11 #[.val (.long x0), .second, .val (.long x1), .second, .val (.long x2), .second, .val (.int x3), .unset, .unset, .unset, .unset, .unset, .unset, .unset, .unset, .unset, .unset] [(.long (2000000000 : Int64)), (.long (1000000 : Int64)), (.int (x3 &&& (3 : Int32))), (.long x0)]))
  obtain ⟨_, _, ⟨T29, L29, k29, n29⟩, -, X29, ⟨Lc29, hQ29, l29, y29, z29⟩, st29⟩ := Jvm.LawKit.callS X0 hx (y := (⟨"com/example/partition_planner/partitionplanner/VerdictOfPinLaw", "near", "(JIJJ)J"⟩ : MethodName)) hown (mvT hZ (hw _ (List.mem_of_getElem? (i := 2) rfl))) (mvT hZ (hw _ (List.mem_of_getElem? (i := 3) rfl))) (mvT hZ (hw _ (List.mem_of_getElem? (i := 4) rfl))) (mvT hZ (hw _ (List.mem_of_getElem? (i := 5) rfl))) (by decide) (backOf (W := 0) (rm1 l Z a0 hw [] x0 (x3 &&& (3 : Int32)) (1000000 : Int64) (2000000000 : Int64)  h0 n0 Z0 ) hZ (hw _ (List.mem_of_getElem? (i := 5) rfl)) (hw _ (List.mem_of_getElem? (i := 4) rfl)) (by decide) (by decide)) (g := (mkF m 11 #[.val (.long x0), .second, .val (.long x1), .second, .val (.long x2), .second, .val (.int x3), .unset, .unset, .unset, .unset, .unset, .unset, .unset, .unset, .unset, .unset] [(.long (2000000000 : Int64)), (.long (1000000 : Int64)), (.int (x3 &&& (3 : Int32))), (.long x0)])) rfl (by rw [hml]; rfl) (argsL := [(.long x0), (.int (x3 &&& (3 : Int32))), (.long (1000000 : Int64)), (.long (2000000000 : Int64))]) (rest := []) (lenOf pd__JIJJ_J rfl) rfl (by show 2 * 0 + _ ≤ _; exact Nat.le_of_eq rfl) (hb hby at_11) (fun _ _ => ⟨rfl, e0, (by decide : 0 + 0 ≤ _), (by decide : 0 + 0 ≤ _)⟩)
  dsimp only [Pt.U, Pt.locs, Pt.cells, Pt.slots] at X29 l29 y29 z29 st29 hQ29
  subst l29 y29 z29
  obtain ⟨Nq29, r29, rfl, eh29⟩ := hQ29
  have N29 := Fr.app N0 Nq29
  refine Gl.back (fun _ k => st29 _ k) ?_
  show Gl _ _ _ _ _ _ _ (T29.setTop (mkF m 14 #[.val (.long x0), .second, .val (.long x1), .second, .val (.long x2), .second, .val (.int x3), .unset, .unset, .unset, .unset, .unset, .unset, .unset, .unset, .unset, .unset] [(.long r29)]))
  refine Gl.back (fun _ k => XS.lstore X29.here hx rfl (hb hby at_14) rfl (l' := #[.val (.long x0), .second, .val (.long x1), .second, .val (.long x2), .second, .val (.int x3), .val (.long r29), .second, .unset, .unset, .unset, .unset, .unset, .unset, .unset, .unset]) rfl k) ?_
  show Gl _ _ _ _ _ _ _ (T29.setTop (mkF m 16 #[.val (.long x0), .second, .val (.long x1), .second, .val (.long x2), .second, .val (.int x3), .val (.long r29), .second, .unset, .unset, .unset, .unset, .unset, .unset, .unset, .unset] []))
  refine Gl.back (fun _ k => XS.lloadN X29.here hx rfl (hb hby at_16) rfl k) ?_
  show Gl _ _ _ _ _ _ _ (T29.setTop (mkF m 17 #[.val (.long x0), .second, .val (.long x1), .second, .val (.long x2), .second, .val (.int x3), .val (.long r29), .second, .unset, .unset, .unset, .unset, .unset, .unset, .unset, .unset] [(.long x1)]))
  refine Gl.back (fun _ k => XS.iload X29.here hx rfl (hb hby at_17) rfl k) ?_
  show Gl _ _ _ _ _ _ _ (T29.setTop (mkF m 19 #[.val (.long x0), .second, .val (.long x1), .second, .val (.long x2), .second, .val (.int x3), .val (.long r29), .second, .unset, .unset, .unset, .unset, .unset, .unset, .unset, .unset] [(.int x3), (.long x1)]))
  refine Gl.back (fun _ k => XS.iconst X29.here hx rfl (hb hby at_19) k) ?_
  show Gl _ _ _ _ _ _ _ (T29.setTop (mkF m 20 #[.val (.long x0), .second, .val (.long x1), .second, .val (.long x2), .second, .val (.int x3), .val (.long r29), .second, .unset, .unset, .unset, .unset, .unset, .unset, .unset, .unset] [(.int (2 : Int32)), (.int x3), (.long x1)]))
  refine Gl.back (fun _ k => XS.iushr X29.here hx rfl (hb hby at_20) rfl k) ?_
  show Gl _ _ _ _ _ _ _ (T29.setTop (mkF m 21 #[.val (.long x0), .second, .val (.long x1), .second, .val (.long x2), .second, .val (.int x3), .val (.long r29), .second, .unset, .unset, .unset, .unset, .unset, .unset, .unset, .unset] [(.int ((x3.toUInt32 >>> ((2 : Int32) &&& 31).toUInt32).toInt32)), (.long x1)]))
  refine Gl.back (fun _ k => XS.iconst X29.here hx rfl (hb hby at_21) k) ?_
  show Gl _ _ _ _ _ _ _ (T29.setTop (mkF m 22 #[.val (.long x0), .second, .val (.long x1), .second, .val (.long x2), .second, .val (.int x3), .val (.long r29), .second, .unset, .unset, .unset, .unset, .unset, .unset, .unset, .unset] [(.int (3 : Int32)), (.int ((x3.toUInt32 >>> ((2 : Int32) &&& 31).toUInt32).toInt32)), (.long x1)]))
  refine Gl.back (fun _ k => XS.iand X29.here hx rfl (hb hby at_22) rfl k) ?_
  show Gl _ _ _ _ _ _ _ (T29.setTop (mkF m 23 #[.val (.long x0), .second, .val (.long x1), .second, .val (.long x2), .second, .val (.int x3), .val (.long r29), .second, .unset, .unset, .unset, .unset, .unset, .unset, .unset, .unset] [(.int (((x3.toUInt32 >>> ((2 : Int32) &&& 31).toUInt32).toInt32) &&& (3 : Int32))), (.long x1)]))
  refine Gl.back (fun _ k => X29.ldc2Long hx hown (mvT hZ (hw _ (List.mem_of_getElem? (i := 7) rfl))) (g := (mkF m 23 #[.val (.long x0), .second, .val (.long x1), .second, .val (.long x2), .second, .val (.int x3), .val (.long r29), .second, .unset, .unset, .unset, .unset, .unset, .unset, .unset, .unset] [(.int (((x3.toUInt32 >>> ((2 : Int32) &&& 31).toUInt32).toInt32) &&& (3 : Int32))), (.long x1)])) rfl (hb hby at_23) _ k) ?_
  show Gl _ _ _ _ _ _ _ (T29.setTop (mkF m 26 #[.val (.long x0), .second, .val (.long x1), .second, .val (.long x2), .second, .val (.int x3), .val (.long r29), .second, .unset, .unset, .unset, .unset, .unset, .unset, .unset, .unset] [(.long (104857600 : Int64)), (.int (((x3.toUInt32 >>> ((2 : Int32) &&& 31).toUInt32).toInt32) &&& (3 : Int32))), (.long x1)]))
  refine Gl.back (fun _ k => X29.ldc2Long hx hown (mvT hZ (hw _ (List.mem_of_getElem? (i := 1) rfl))) (g := (mkF m 26 #[.val (.long x0), .second, .val (.long x1), .second, .val (.long x2), .second, .val (.int x3), .val (.long r29), .second, .unset, .unset, .unset, .unset, .unset, .unset, .unset, .unset] [(.long (104857600 : Int64)), (.int (((x3.toUInt32 >>> ((2 : Int32) &&& 31).toUInt32).toInt32) &&& (3 : Int32))), (.long x1)])) rfl (hb hby at_26) _ k) ?_
  show Gl _ _ _ _ _ _ _ (T29.setTop (mkF m 29 #[.val (.long x0), .second, .val (.long x1), .second, .val (.long x2), .second, .val (.int x3), .val (.long r29), .second, .unset, .unset, .unset, .unset, .unset, .unset, .unset, .unset] [(.long (2000000000 : Int64)), (.long (104857600 : Int64)), (.int (((x3.toUInt32 >>> ((2 : Int32) &&& 31).toUInt32).toInt32) &&& (3 : Int32))), (.long x1)]))
  obtain ⟨_, _, ⟨T30, L30, k30, n30⟩, -, X30, ⟨Lc30, hQ30, l30, y30, z30⟩, st30⟩ := Jvm.LawKit.callS X29 hx (y := (⟨"com/example/partition_planner/partitionplanner/VerdictOfPinLaw", "near", "(JIJJ)J"⟩ : MethodName)) hown (mvT hZ (hw _ (List.mem_of_getElem? (i := 2) rfl))) (mvT hZ (hw _ (List.mem_of_getElem? (i := 3) rfl))) (mvT hZ (hw _ (List.mem_of_getElem? (i := 4) rfl))) (mvT hZ (hw _ (List.mem_of_getElem? (i := 5) rfl))) (by decide) (backOf (W := 0) (rm1 l Z a0 hw [] x1 (((x3.toUInt32 >>> ((2 : Int32) &&& 31).toUInt32).toInt32) &&& (3 : Int32)) (104857600 : Int64) (2000000000 : Int64)  h0 n0 Z0 ) hZ (hw _ (List.mem_of_getElem? (i := 5) rfl)) (hw _ (List.mem_of_getElem? (i := 4) rfl)) (by decide) (by decide)) (g := (mkF m 29 #[.val (.long x0), .second, .val (.long x1), .second, .val (.long x2), .second, .val (.int x3), .val (.long r29), .second, .unset, .unset, .unset, .unset, .unset, .unset, .unset, .unset] [(.long (2000000000 : Int64)), (.long (104857600 : Int64)), (.int (((x3.toUInt32 >>> ((2 : Int32) &&& 31).toUInt32).toInt32) &&& (3 : Int32))), (.long x1)])) rfl (by rw [hml]; rfl) (argsL := [(.long x1), (.int (((x3.toUInt32 >>> ((2 : Int32) &&& 31).toUInt32).toInt32) &&& (3 : Int32))), (.long (104857600 : Int64)), (.long (2000000000 : Int64))]) (rest := []) (lenOf pd__JIJJ_J rfl) rfl (by show 2 * 0 + _ ≤ _; exact Nat.le_of_eq rfl) (hb hby at_29) (fun _ _ => ⟨rfl, eh29, (by decide : 0 + 0 ≤ _), (by decide : 0 + 0 ≤ _)⟩)
  dsimp only [Pt.U, Pt.locs, Pt.cells, Pt.slots] at X30 l30 y30 z30 st30 hQ30
  subst l30 y30 z30
  obtain ⟨Nq30, r30, rfl, eh30⟩ := hQ30
  have N30 := Fr.app N29 Nq30
  refine Gl.back (fun _ k => st30 _ k) ?_
  show Gl _ _ _ _ _ _ _ (T30.setTop (mkF m 32 #[.val (.long x0), .second, .val (.long x1), .second, .val (.long x2), .second, .val (.int x3), .val (.long r29), .second, .unset, .unset, .unset, .unset, .unset, .unset, .unset, .unset] [(.long r30)]))
  refine Gl.back (fun _ k => XS.lstore X30.here hx rfl (hb hby at_32) rfl (l' := #[.val (.long x0), .second, .val (.long x1), .second, .val (.long x2), .second, .val (.int x3), .val (.long r29), .second, .val (.long r30), .second, .unset, .unset, .unset, .unset, .unset, .unset]) rfl k) ?_
  show Gl _ _ _ _ _ _ _ (T30.setTop (mkF m 34 #[.val (.long x0), .second, .val (.long x1), .second, .val (.long x2), .second, .val (.int x3), .val (.long r29), .second, .val (.long r30), .second, .unset, .unset, .unset, .unset, .unset, .unset] []))
  obtain ⟨T31, h31, X31, e31, E31, A31, D31, -, st31⟩ := newO X30 hx hZ hown (hw _ (List.mem_of_getElem? (i := 8) rfl)) (hw _ (List.mem_of_getElem? (i := 9) rfl)) (hw _ (List.mem_of_getElem? (i := 10) rfl)) eh30 (g := (mkF m 34 #[.val (.long x0), .second, .val (.long x1), .second, .val (.long x2), .second, .val (.int x3), .val (.long r29), .second, .val (.long r30), .second, .unset, .unset, .unset, .unset, .unset, .unset] [])) rfl (hb hby at_34) (by decide) (by decide)
  obtain ⟨b31, g31⟩ : ∃ z, z = h0.size := ⟨_, rfl⟩
  rw [← g31] at A31 D31 st31
  have g_b31 : n0 ≤ b31 := Nat.le_trans Z0 (Nat.le_of_eq g31.symm)
  have sz_b31 : h0.size ≤ b31 := Nat.le_trans (Keep.refl h0 []).1 (Nat.le_of_eq g31.symm)
  have Z31 : n0 ≤ h31.size := Nat.le_trans Z0 E31.1
  have K31 := Keep.ext (Keep.refl h0 []) E31
  have O31 := Old.ext O0 E31
  have F31_rows : Fld Z h31 b31 "com/example/partition_planner/partitionplanner/PartitionSize" "rows" "J" (.long (0 : Int64)) := D31 (Or.inr (hw _ (List.mem_of_getElem? (i := 23) rfl))) (ty := .long) (by decide)
  have F31_cells : Fld Z h31 b31 "com/example/partition_planner/partitionplanner/PartitionSize" "cells" "J" (.long (0 : Int64)) := D31 (Or.inr (hw _ (List.mem_of_getElem? (i := 25) rfl))) (ty := .long) (by decide)
  have F31_bytes : Fld Z h31 b31 "com/example/partition_planner/partitionplanner/PartitionSize" "bytes" "J" (.long (0 : Int64)) := D31 (Or.inr (hw _ (List.mem_of_getElem? (i := 27) rfl))) (ty := .long) (by decide)
  refine Gl.back (fun _ k => st31 _ k) ?_
  show Gl _ _ _ _ _ _ _ (T31.setTop (mkF m 37 #[.val (.long x0), .second, .val (.long x1), .second, .val (.long x2), .second, .val (.int x3), .val (.long r29), .second, .val (.long r30), .second, .unset, .unset, .unset, .unset, .unset, .unset] [(.ref b31)]))
  refine Gl.back (fun _ k => XS.dup X31.here hx rfl (hb hby at_37) rfl rfl k) ?_
  show Gl _ _ _ _ _ _ _ (T31.setTop (mkF m 38 #[.val (.long x0), .second, .val (.long x1), .second, .val (.long x2), .second, .val (.int x3), .val (.long r29), .second, .val (.long r30), .second, .unset, .unset, .unset, .unset, .unset, .unset] [(.ref b31), (.ref b31)]))
  refine Gl.back (fun _ k => XS.lload X31.here hx rfl (hb hby at_38) rfl k) ?_
  show Gl _ _ _ _ _ _ _ (T31.setTop (mkF m 40 #[.val (.long x0), .second, .val (.long x1), .second, .val (.long x2), .second, .val (.int x3), .val (.long r29), .second, .val (.long r30), .second, .unset, .unset, .unset, .unset, .unset, .unset] [(.long x2), (.ref b31), (.ref b31)]))
  refine Gl.back (fun _ k => XS.lload X31.here hx rfl (hb hby at_40) rfl k) ?_
  show Gl _ _ _ _ _ _ _ (T31.setTop (mkF m 42 #[.val (.long x0), .second, .val (.long x1), .second, .val (.long x2), .second, .val (.int x3), .val (.long r29), .second, .val (.long r30), .second, .unset, .unset, .unset, .unset, .unset, .unset] [(.long r29), (.long x2), (.ref b31), (.ref b31)]))
  refine Gl.back (fun _ k => XS.lload X31.here hx rfl (hb hby at_42) rfl k) ?_
  show Gl _ _ _ _ _ _ _ (T31.setTop (mkF m 44 #[.val (.long x0), .second, .val (.long x1), .second, .val (.long x2), .second, .val (.int x3), .val (.long r29), .second, .val (.long r30), .second, .unset, .unset, .unset, .unset, .unset, .unset] [(.long r30), (.long r29), (.long x2), (.ref b31), (.ref b31)]))
  obtain ⟨_, _, ⟨T32, L32, k32, n32⟩, -, X32, ⟨Lc32, hQ32, l32, y32, z32⟩, st32⟩ := X31.specialBack hx (y := (⟨"com/example/partition_planner/partitionplanner/PartitionSize", "<init>", "(JJJ)V"⟩ : MethodName)) rfl hown (mvT hZ (hw _ (List.mem_of_getElem? (i := 11) rfl))) (mvT hZ (hw _ (List.mem_of_getElem? (i := 12) rfl))) (mvT hZ (hw _ (List.mem_of_getElem? (i := 13) rfl))) (by decide) (backOf (W := 1) (rm2 l Z a0 hw [] b31 x2 r29 r30  h31 n0 Z31 g_b31 A31 F31_rows F31_cells F31_bytes) hZ (hw _ (List.mem_of_getElem? (i := 13) rfl)) (hw _ (List.mem_of_getElem? (i := 10) rfl)) (by decide) (by decide)) (g := (mkF m 44 #[.val (.long x0), .second, .val (.long x1), .second, .val (.long x2), .second, .val (.int x3), .val (.long r29), .second, .val (.long r30), .second, .unset, .unset, .unset, .unset, .unset, .unset] [(.long r30), (.long r29), (.long x2), (.ref b31), (.ref b31)])) rfl (by rw [hml]; rfl) (Steps.refl _) (a := b31) (argsL := [(.long x2), (.long r29), (.long r30)]) (rest := [(.ref b31)]) (lenOf pd__JJJ_V rfl) rfl (by show 2 * 0 + _ ≤ _; exact Nat.le_of_eq rfl) (hb hby at_44) (fun _ _ => ⟨rfl, e31, (by decide : 1 + 0 ≤ _), (by decide : 3 + 0 ≤ _)⟩)
  dsimp only [Pt.U, Pt.locs, Pt.cells, Pt.slots] at X32 l32 y32 z32 st32 hQ32
  subst l32 y32 z32
  obtain ⟨Nq32, rfl, Kq32, Fc32, Fb32⟩ := hQ32
  have N32 := Fr.app N30 Nq32
  have Kc32 := Keep.trans K31 Kq32 (allS (Or.inr sz_b31) all0)
  have Zc32 : n0 ≤ T32.heap.size := Nat.le_trans Z31 Kq32.1
  have Oc32 := Old.keep O31 Kq32 (allS g_b31 all0)
  refine Gl.back (fun _ k => st32.trans k) ?_
  show Gl _ _ _ _ _ _ _ (T32.setTop (mkF m 47 #[.val (.long x0), .second, .val (.long x1), .second, .val (.long x2), .second, .val (.int x3), .val (.long r29), .second, .val (.long r30), .second, .unset, .unset, .unset, .unset, .unset, .unset] [(.ref b31)]))
  refine Gl.back (fun _ k => XS.astore X32.here hx rfl (hb hby at_47) rfl rfl (l' := #[.val (.long x0), .second, .val (.long x1), .second, .val (.long x2), .second, .val (.int x3), .val (.long r29), .second, .val (.long r30), .second, .val (.ref b31), .unset, .unset, .unset, .unset, .unset]) rfl k) ?_
  show Gl _ _ _ _ _ _ _ (T32.setTop (mkF m 49 #[.val (.long x0), .second, .val (.long x1), .second, .val (.long x2), .second, .val (.int x3), .val (.long r29), .second, .val (.long r30), .second, .val (.ref b31), .unset, .unset, .unset, .unset, .unset] []))
  refine Gl.back (fun _ k => XS.aload X32.here hx rfl (hb hby at_49) rfl rfl k) ?_
  show Gl _ _ _ _ _ _ _ (T32.setTop (mkF m 51 #[.val (.long x0), .second, .val (.long x1), .second, .val (.long x2), .second, .val (.int x3), .val (.long r29), .second, .val (.long r30), .second, .val (.ref b31), .unset, .unset, .unset, .unset, .unset] [(.ref b31)]))
  have f34 := (A31.keep Kq32)
  obtain ⟨_, _, ⟨T33, L33, k33, n33⟩, -, X33, ⟨Lc33, hQ33, l33, y33, z33⟩, st33⟩ := Jvm.LawKit.callS X32 hx (y := (⟨"com/example/partition_planner/partitionplanner/Verdict", "of", "(Lcom/example/partition_planner/partitionplanner/PartitionSize;)Lcom/example/partition_planner/partitionplanner/Verdict;"⟩ : MethodName)) hown (mvT hZ (hw _ (List.mem_of_getElem? (i := 28) rfl))) (mvT hZ (hw _ (List.mem_of_getElem? (i := 29) rfl))) (mvT hZ (hw _ (List.mem_of_getElem? (i := 30) rfl))) (mvT hZ (hw _ (List.mem_of_getElem? (i := 31) rfl))) (by decide) (backOf (W := 0) (rm5 l Z a0 hw [] b31 r29 r30 w_OVER w_WARN w_OK T32.heap n0 Zc32 f34 Fc32 Fb32 (S_OVER.ext Oc32.2) (S_WARN.ext Oc32.2) (S_OK.ext Oc32.2)) hZ (hw _ (List.mem_of_getElem? (i := 31) rfl)) (hw _ (List.mem_of_getElem? (i := 30) rfl)) (by decide) (by decide)) (g := (mkF m 51 #[.val (.long x0), .second, .val (.long x1), .second, .val (.long x2), .second, .val (.int x3), .val (.long r29), .second, .val (.long r30), .second, .val (.ref b31), .unset, .unset, .unset, .unset, .unset] [(.ref b31)])) rfl (by rw [hml]; rfl) (argsL := [(.ref b31)]) (rest := []) (lenOf pd__Lcom_example_partition_planner_partitionplanner_PartitionSize__Lcom_example_partition_planner_partitionplanner_Verdict_ rfl) rfl (by show 2 * 0 + _ ≤ _; exact Nat.le_of_eq rfl) (hb hby at_51) (fun _ _ => ⟨rfl, rfl, (by decide : 1 + 0 ≤ _), (by decide : 3 + 0 ≤ _)⟩)
  dsimp only [Pt.U, Pt.locs, Pt.cells, Pt.slots] at X33 l33 y33 z33 st33 hQ33
  subst l33 y33 z33
  obtain ⟨Nq33, hQ33⟩ := hQ33
  rcases hQ33 with ⟨rfl, eh33, hA33⟩ | ⟨rfl, eh33, hA33, hB33⟩ | ⟨rfl, eh33, hA33, hB33, hC33⟩ | ⟨rfl, eh33, hA33, hB33, hC33⟩
  · have N33 := Fr.app N32 Nq33
    refine Gl.back (fun _ k => st33 _ k) ?_
    show Gl _ _ _ _ _ _ _ (T33.setTop (mkF m 54 #[.val (.long x0), .second, .val (.long x1), .second, .val (.long x2), .second, .val (.int x3), .val (.long r29), .second, .val (.long r30), .second, .val (.ref b31), .unset, .unset, .unset, .unset, .unset] [(.ref w_OVER)]))
    refine Gl.back (fun _ k => XS.astore X33.here hx rfl (hb hby at_54) rfl rfl (l' := #[.val (.long x0), .second, .val (.long x1), .second, .val (.long x2), .second, .val (.int x3), .val (.long r29), .second, .val (.long r30), .second, .val (.ref b31), .val (.ref w_OVER), .unset, .unset, .unset, .unset]) rfl k) ?_
    show Gl _ _ _ _ _ _ _ (T33.setTop (mkF m 56 #[.val (.long x0), .second, .val (.long x1), .second, .val (.long x2), .second, .val (.int x3), .val (.long r29), .second, .val (.long r30), .second, .val (.ref b31), .val (.ref w_OVER), .unset, .unset, .unset, .unset] []))
    refine Gl.back (fun _ k => XS.iconst X33.here hx rfl (hb hby at_56) k) ?_
    show Gl _ _ _ _ _ _ _ (T33.setTop (mkF m 57 #[.val (.long x0), .second, .val (.long x1), .second, .val (.long x2), .second, .val (.int x3), .val (.long r29), .second, .val (.long r30), .second, .val (.ref b31), .val (.ref w_OVER), .unset, .unset, .unset, .unset] [(.int (0 : Int32))]))
    refine Gl.back (fun _ k => XS.istore X33.here hx rfl (hb hby at_57) rfl (l' := #[.val (.long x0), .second, .val (.long x1), .second, .val (.long x2), .second, .val (.int x3), .val (.long r29), .second, .val (.long r30), .second, .val (.ref b31), .val (.ref w_OVER), .val (.int (0 : Int32)), .unset, .unset, .unset]) rfl k) ?_
    show Gl _ _ _ _ _ _ _ (T33.setTop (mkF m 59 #[.val (.long x0), .second, .val (.long x1), .second, .val (.long x2), .second, .val (.int x3), .val (.long r29), .second, .val (.long r30), .second, .val (.ref b31), .val (.ref w_OVER), .val (.int (0 : Int32)), .unset, .unset, .unset] []))
    refine Gl.back (fun _ k => XS.lload X33.here hx rfl (hb hby at_59) rfl k) ?_
    show Gl _ _ _ _ _ _ _ (T33.setTop (mkF m 61 #[.val (.long x0), .second, .val (.long x1), .second, .val (.long x2), .second, .val (.int x3), .val (.long r29), .second, .val (.long r30), .second, .val (.ref b31), .val (.ref w_OVER), .val (.int (0 : Int32)), .unset, .unset, .unset] [(.long r29)]))
    refine Gl.back (fun _ k => X33.ldc2Long hx hown (mvT hZ (hw _ (List.mem_of_getElem? (i := 40) rfl))) (g := (mkF m 61 #[.val (.long x0), .second, .val (.long x1), .second, .val (.long x2), .second, .val (.int x3), .val (.long r29), .second, .val (.long r30), .second, .val (.ref b31), .val (.ref w_OVER), .val (.int (0 : Int32)), .unset, .unset, .unset] [(.long r29)])) rfl (hb hby at_61) _ k) ?_
    show Gl _ _ _ _ _ _ _ (T33.setTop (mkF m 64 #[.val (.long x0), .second, .val (.long x1), .second, .val (.long x2), .second, .val (.int x3), .val (.long r29), .second, .val (.long r30), .second, .val (.ref b31), .val (.ref w_OVER), .val (.int (0 : Int32)), .unset, .unset, .unset] [(.long (2000000001 : Int64)), (.long r29)]))
    refine Gl.back (fun _ k => XS.lcmp X33.here hx rfl (hb hby at_64) rfl k) ?_
    show Gl _ _ _ _ _ _ _ (T33.setTop (mkF m 65 #[.val (.long x0), .second, .val (.long x1), .second, .val (.long x2), .second, .val (.int x3), .val (.long r29), .second, .val (.long r30), .second, .val (.ref b31), .val (.ref w_OVER), .val (.int (0 : Int32)), .unset, .unset, .unset] [(.int (lcmpW r29 (2000000001 : Int64)))]))
    refine Gl.back (fun _ k => XS.ifNo X33.here hx rfl (hb hby at_65) rfl ((if0 _ _).trans (flt (own_lcLn (own_c1 hA33 : ¬ r29 < (2000000001 : Int64)))).1) k) ?_
    show Gl _ _ _ _ _ _ _ (T33.setTop (mkF m 68 #[.val (.long x0), .second, .val (.long x1), .second, .val (.long x2), .second, .val (.int x3), .val (.long r29), .second, .val (.long r30), .second, .val (.ref b31), .val (.ref w_OVER), .val (.int (0 : Int32)), .unset, .unset, .unset] []))
    refine Gl.back (fun _ k => XS.iconst X33.here hx rfl (hb hby at_68) k) ?_
    show Gl _ _ _ _ _ _ _ (T33.setTop (mkF m 69 #[.val (.long x0), .second, .val (.long x1), .second, .val (.long x2), .second, .val (.int x3), .val (.long r29), .second, .val (.long r30), .second, .val (.ref b31), .val (.ref w_OVER), .val (.int (0 : Int32)), .unset, .unset, .unset] [(.int (2 : Int32))]))
    refine Gl.back (fun _ k => XS.istore X33.here hx rfl (hb hby at_69) rfl (l' := #[.val (.long x0), .second, .val (.long x1), .second, .val (.long x2), .second, .val (.int x3), .val (.long r29), .second, .val (.long r30), .second, .val (.ref b31), .val (.ref w_OVER), .val (.int (2 : Int32)), .unset, .unset, .unset]) rfl k) ?_
    show Gl _ _ _ _ _ _ _ (T33.setTop (mkF m 71 #[.val (.long x0), .second, .val (.long x1), .second, .val (.long x2), .second, .val (.int x3), .val (.long r29), .second, .val (.long r30), .second, .val (.ref b31), .val (.ref w_OVER), .val (.int (2 : Int32)), .unset, .unset, .unset] []))
    refine Gl.back (fun _ k => XS.goto X33.here hx rfl (pc0 := 71) (pc' := 86) rfl (hb hby at_71) (by decide) (by decide) k) ?_
    show Gl _ _ _ _ _ _ _ (T33.setTop (mkF m 86 #[.val (.long x0), .second, .val (.long x1), .second, .val (.long x2), .second, .val (.int x3), .val (.long r29), .second, .val (.long r30), .second, .val (.ref b31), .val (.ref w_OVER), .val (.int (2 : Int32)), .unset, .unset, .unset] []))
    refine Gl.back (fun _ k => XS.iconst X33.here hx rfl (hb hby at_86) k) ?_
    show Gl _ _ _ _ _ _ _ (T33.setTop (mkF m 87 #[.val (.long x0), .second, .val (.long x1), .second, .val (.long x2), .second, .val (.int x3), .val (.long r29), .second, .val (.long r30), .second, .val (.ref b31), .val (.ref w_OVER), .val (.int (2 : Int32)), .unset, .unset, .unset] [(.int (0 : Int32))]))
    refine Gl.back (fun _ k => XS.istore X33.here hx rfl (hb hby at_87) rfl (l' := #[.val (.long x0), .second, .val (.long x1), .second, .val (.long x2), .second, .val (.int x3), .val (.long r29), .second, .val (.long r30), .second, .val (.ref b31), .val (.ref w_OVER), .val (.int (2 : Int32)), .val (.int (0 : Int32)), .unset, .unset]) rfl k) ?_
    show Gl _ _ _ _ _ _ _ (T33.setTop (mkF m 89 #[.val (.long x0), .second, .val (.long x1), .second, .val (.long x2), .second, .val (.int x3), .val (.long r29), .second, .val (.long r30), .second, .val (.ref b31), .val (.ref w_OVER), .val (.int (2 : Int32)), .val (.int (0 : Int32)), .unset, .unset] []))
    refine Gl.back (fun _ k => XS.lload X33.here hx rfl (hb hby at_89) rfl k) ?_
    show Gl _ _ _ _ _ _ _ (T33.setTop (mkF m 91 #[.val (.long x0), .second, .val (.long x1), .second, .val (.long x2), .second, .val (.int x3), .val (.long r29), .second, .val (.long r30), .second, .val (.ref b31), .val (.ref w_OVER), .val (.int (2 : Int32)), .val (.int (0 : Int32)), .unset, .unset] [(.long r30)]))
    refine Gl.back (fun _ k => X33.ldc2Long hx hown (mvT hZ (hw _ (List.mem_of_getElem? (i := 41) rfl))) (g := (mkF m 91 #[.val (.long x0), .second, .val (.long x1), .second, .val (.long x2), .second, .val (.int x3), .val (.long r29), .second, .val (.long r30), .second, .val (.ref b31), .val (.ref w_OVER), .val (.int (2 : Int32)), .val (.int (0 : Int32)), .unset, .unset] [(.long r30)])) rfl (hb hby at_91) _ k) ?_
    show Gl _ _ _ _ _ _ _ (T33.setTop (mkF m 94 #[.val (.long x0), .second, .val (.long x1), .second, .val (.long x2), .second, .val (.int x3), .val (.long r29), .second, .val (.long r30), .second, .val (.ref b31), .val (.ref w_OVER), .val (.int (2 : Int32)), .val (.int (0 : Int32)), .unset, .unset] [(.long (104857601 : Int64)), (.long r30)]))
    refine Gl.back (fun _ k => XS.lcmp X33.here hx rfl (hb hby at_94) rfl k) ?_
    show Gl _ _ _ _ _ _ _ (T33.setTop (mkF m 95 #[.val (.long x0), .second, .val (.long x1), .second, .val (.long x2), .second, .val (.int x3), .val (.long r29), .second, .val (.long r30), .second, .val (.ref b31), .val (.ref w_OVER), .val (.int (2 : Int32)), .val (.int (0 : Int32)), .unset, .unset] [(.int (lcmpW r30 (104857601 : Int64)))]))
    by_cases hc95_35 : r30 < (104857601 : Int64)
    · refine Gl.back (fun _ k => XS.ifYes X33.here hx rfl (pc0 := 95) (pc' := 101) rfl (hb hby at_95) rfl ((if0 _ _).trans (tlt (own_lcL hc95_35)).1) (by decide) (by decide) k) ?_
      show Gl _ _ _ _ _ _ _ (T33.setTop (mkF m 101 #[.val (.long x0), .second, .val (.long x1), .second, .val (.long x2), .second, .val (.int x3), .val (.long r29), .second, .val (.long r30), .second, .val (.ref b31), .val (.ref w_OVER), .val (.int (2 : Int32)), .val (.int (0 : Int32)), .unset, .unset] []))
      refine Gl.back (fun _ k => XS.iload X33.here hx rfl (hb hby at_101) rfl k) ?_
      show Gl _ _ _ _ _ _ _ (T33.setTop (mkF m 103 #[.val (.long x0), .second, .val (.long x1), .second, .val (.long x2), .second, .val (.int x3), .val (.long r29), .second, .val (.long r30), .second, .val (.ref b31), .val (.ref w_OVER), .val (.int (2 : Int32)), .val (.int (0 : Int32)), .unset, .unset] [(.int (2 : Int32))]))
      refine Gl.back (fun _ k => XS.iload X33.here hx rfl (hb hby at_103) rfl k) ?_
      show Gl _ _ _ _ _ _ _ (T33.setTop (mkF m 105 #[.val (.long x0), .second, .val (.long x1), .second, .val (.long x2), .second, .val (.int x3), .val (.long r29), .second, .val (.long r30), .second, .val (.ref b31), .val (.ref w_OVER), .val (.int (2 : Int32)), .val (.int (0 : Int32)), .unset, .unset] [(.int (0 : Int32)), (.int (2 : Int32))]))
      obtain ⟨_, _, ⟨T36, L36, k36, n36⟩, -, X36, ⟨Lc36, hQ36, l36, y36, z36⟩, st36⟩ := Jvm.LawKit.callS X33 hx (y := (⟨"java/lang/Math", "max", "(II)I"⟩ : MethodName)) hown (mvT hZ (hw _ (List.mem_of_getElem? (i := 42) rfl))) (mvT hZ (hw _ (List.mem_of_getElem? (i := 43) rfl))) (mvT hZ (hw _ (List.mem_of_getElem? (i := 44) rfl))) (mvT hZ (hw _ (List.mem_of_getElem? (i := 45) rfl))) (by decide) (backOf (W := 0) (rm7_20 l Z a0 hw []   T32.heap n0 Zc32 ) hZ (hw _ (List.mem_of_getElem? (i := 45) rfl)) (hw _ (List.mem_of_getElem? (i := 44) rfl)) (by decide) (by decide)) (g := (mkF m 105 #[.val (.long x0), .second, .val (.long x1), .second, .val (.long x2), .second, .val (.int x3), .val (.long r29), .second, .val (.long r30), .second, .val (.ref b31), .val (.ref w_OVER), .val (.int (2 : Int32)), .val (.int (0 : Int32)), .unset, .unset] [(.int (0 : Int32)), (.int (2 : Int32))])) rfl (by rw [hml]; rfl) (argsL := [(.int (2 : Int32)), (.int (0 : Int32))]) (rest := []) (lenOf pd__II_I rfl) rfl (by show 2 * 0 + _ ≤ _; exact Nat.le_of_eq rfl) (hb hby at_105) (fun _ _ => ⟨rfl, eh33, (by decide : 1 + 0 ≤ _), (by decide : 3 + 0 ≤ _)⟩)
      dsimp only [Pt.U, Pt.locs, Pt.cells, Pt.slots] at X36 l36 y36 z36 st36 hQ36
      subst l36 y36 z36
      obtain ⟨Nq36, rfl, eh36⟩ := hQ36
      have N36 := Fr.app N33 Nq36
      refine Gl.back (fun _ k => st36 _ k) ?_
      show Gl _ _ _ _ _ _ _ (T36.setTop (mkF m 108 #[.val (.long x0), .second, .val (.long x1), .second, .val (.long x2), .second, .val (.int x3), .val (.long r29), .second, .val (.long r30), .second, .val (.ref b31), .val (.ref w_OVER), .val (.int (2 : Int32)), .val (.int (0 : Int32)), .unset, .unset] [(.int (2 : Int32))]))
      refine Gl.back (fun _ k => XS.istore X36.here hx rfl (hb hby at_108) rfl (l' := #[.val (.long x0), .second, .val (.long x1), .second, .val (.long x2), .second, .val (.int x3), .val (.long r29), .second, .val (.long r30), .second, .val (.ref b31), .val (.ref w_OVER), .val (.int (2 : Int32)), .val (.int (0 : Int32)), .val (.int (2 : Int32)), .unset]) rfl k) ?_
      show Gl _ _ _ _ _ _ _ (T36.setTop (mkF m 110 #[.val (.long x0), .second, .val (.long x1), .second, .val (.long x2), .second, .val (.int x3), .val (.long r29), .second, .val (.long r30), .second, .val (.ref b31), .val (.ref w_OVER), .val (.int (2 : Int32)), .val (.int (0 : Int32)), .val (.int (2 : Int32)), .unset] []))
      refine Gl.back (fun _ k => XS.iload X36.here hx rfl (hb hby at_110) rfl k) ?_
      show Gl _ _ _ _ _ _ _ (T36.setTop (mkF m 112 #[.val (.long x0), .second, .val (.long x1), .second, .val (.long x2), .second, .val (.int x3), .val (.long r29), .second, .val (.long r30), .second, .val (.ref b31), .val (.ref w_OVER), .val (.int (2 : Int32)), .val (.int (0 : Int32)), .val (.int (2 : Int32)), .unset] [(.int (2 : Int32))]))
      refine Gl.back (fun _ k => XS.iconst X36.here hx rfl (hb hby at_112) k) ?_
      show Gl _ _ _ _ _ _ _ (T36.setTop (mkF m 113 #[.val (.long x0), .second, .val (.long x1), .second, .val (.long x2), .second, .val (.int x3), .val (.long r29), .second, .val (.long r30), .second, .val (.ref b31), .val (.ref w_OVER), .val (.int (2 : Int32)), .val (.int (0 : Int32)), .val (.int (2 : Int32)), .unset] [(.int (2 : Int32)), (.int (2 : Int32))]))
      refine Gl.back (fun _ k => XS.icmpNo X36.here hx rfl (hb hby at_113) rfl (teq (by decide : (2 : Int32) = (2 : Int32))).2 k) ?_
      show Gl _ _ _ _ _ _ _ (T36.setTop (mkF m 116 #[.val (.long x0), .second, .val (.long x1), .second, .val (.long x2), .second, .val (.int x3), .val (.long r29), .second, .val (.long r30), .second, .val (.ref b31), .val (.ref w_OVER), .val (.int (2 : Int32)), .val (.int (0 : Int32)), .val (.int (2 : Int32)), .unset] []))
      obtain ⟨T37, X37, e37, st37⟩ := getS2 X36 hx hZ hown (host := "") (Or.inl (hw _ (List.mem_of_getElem? (i := 46) rfl))) Via.refl eh36 (S_OVER.ext Oc32.2) (g := (mkF m 116 #[.val (.long x0), .second, .val (.long x1), .second, .val (.long x2), .second, .val (.int x3), .val (.long r29), .second, .val (.long r30), .second, .val (.ref b31), .val (.ref w_OVER), .val (.int (2 : Int32)), .val (.int (0 : Int32)), .val (.int (2 : Int32)), .unset] [])) rfl (hb hby at_116)
      refine Gl.back (fun _ k => st37 _ k) ?_
      show Gl _ _ _ _ _ _ _ (T37.setTop (mkF m 119 #[.val (.long x0), .second, .val (.long x1), .second, .val (.long x2), .second, .val (.int x3), .val (.long r29), .second, .val (.long r30), .second, .val (.ref b31), .val (.ref w_OVER), .val (.int (2 : Int32)), .val (.int (0 : Int32)), .val (.int (2 : Int32)), .unset] [(.ref w_OVER)]))
      refine Gl.back (fun _ k => XS.astore X37.here hx rfl (hb hby at_119) rfl rfl (l' := #[.val (.long x0), .second, .val (.long x1), .second, .val (.long x2), .second, .val (.int x3), .val (.long r29), .second, .val (.long r30), .second, .val (.ref b31), .val (.ref w_OVER), .val (.int (2 : Int32)), .val (.int (0 : Int32)), .val (.int (2 : Int32)), .val (.ref w_OVER)]) rfl k) ?_
      show Gl _ _ _ _ _ _ _ (T37.setTop (mkF m 121 #[.val (.long x0), .second, .val (.long x1), .second, .val (.long x2), .second, .val (.int x3), .val (.long r29), .second, .val (.long r30), .second, .val (.ref b31), .val (.ref w_OVER), .val (.int (2 : Int32)), .val (.int (0 : Int32)), .val (.int (2 : Int32)), .val (.ref w_OVER)] []))
      refine Gl.back (fun _ k => XS.goto X37.here hx rfl (pc0 := 121) (pc' := 143) rfl (hb hby at_121) (by decide) (by decide) k) ?_
      show Gl _ _ _ _ _ _ _ (T37.setTop (mkF m 143 #[.val (.long x0), .second, .val (.long x1), .second, .val (.long x2), .second, .val (.int x3), .val (.long r29), .second, .val (.long r30), .second, .val (.ref b31), .val (.ref w_OVER), .val (.int (2 : Int32)), .val (.int (0 : Int32)), .val (.int (2 : Int32)), .val (.ref w_OVER)] []))
      refine Gl.back (fun _ k => XS.aload X37.here hx rfl (hb hby at_143) rfl rfl k) ?_
      show Gl _ _ _ _ _ _ _ (T37.setTop (mkF m 145 #[.val (.long x0), .second, .val (.long x1), .second, .val (.long x2), .second, .val (.int x3), .val (.long r29), .second, .val (.long r30), .second, .val (.ref b31), .val (.ref w_OVER), .val (.int (2 : Int32)), .val (.int (0 : Int32)), .val (.int (2 : Int32)), .val (.ref w_OVER)] [(.ref w_OVER)]))
      refine Gl.back (fun _ k => XS.aload X37.here hx rfl (hb hby at_145) rfl rfl k) ?_
      show Gl _ _ _ _ _ _ _ (T37.setTop (mkF m 147 #[.val (.long x0), .second, .val (.long x1), .second, .val (.long x2), .second, .val (.int x3), .val (.long r29), .second, .val (.long r30), .second, .val (.ref b31), .val (.ref w_OVER), .val (.int (2 : Int32)), .val (.int (0 : Int32)), .val (.int (2 : Int32)), .val (.ref w_OVER)] [(.ref w_OVER), (.ref w_OVER)]))
      refine Gl.back (fun _ k => Jvm.RoadKit.acmp (g := (mkF m 147 #[.val (.long x0), .second, .val (.long x1), .second, .val (.long x2), .second, .val (.int x3), .val (.long r29), .second, .val (.long r30), .second, .val (.ref b31), .val (.ref w_OVER), .val (.int (2 : Int32)), .val (.int (0 : Int32)), .val (.int (2 : Int32)), .val (.ref w_OVER)] [(.ref w_OVER), (.ref w_OVER)])) X37 hx rfl rfl rfl (pc0 := 147) (pc' := 150) (same := true) rfl (hb hby at_147) rfl (decide_eq_true rfl) (by decide) (by decide) k) ?_
      show Gl _ _ _ _ _ _ _ (T37.setTop (mkF m 150 #[.val (.long x0), .second, .val (.long x1), .second, .val (.long x2), .second, .val (.int x3), .val (.long r29), .second, .val (.long r30), .second, .val (.ref b31), .val (.ref w_OVER), .val (.int (2 : Int32)), .val (.int (0 : Int32)), .val (.int (2 : Int32)), .val (.ref w_OVER)] []))
      refine Gl.back (fun _ k => XS.iconst X37.here hx rfl (hb hby at_150) k) ?_
      show Gl _ _ _ _ _ _ _ (T37.setTop (mkF m 151 #[.val (.long x0), .second, .val (.long x1), .second, .val (.long x2), .second, .val (.int x3), .val (.long r29), .second, .val (.long r30), .second, .val (.ref b31), .val (.ref w_OVER), .val (.int (2 : Int32)), .val (.int (0 : Int32)), .val (.int (2 : Int32)), .val (.ref w_OVER)] [(.int (1 : Int32))]))
      refine Gl.back (fun _ k => XS.goto X37.here hx rfl (pc0 := 151) (pc' := 155) rfl (hb hby at_151) (by decide) (by decide) k) ?_
      show Gl _ _ _ _ _ _ _ (T37.setTop (mkF m 155 #[.val (.long x0), .second, .val (.long x1), .second, .val (.long x2), .second, .val (.int x3), .val (.long r29), .second, .val (.long r30), .second, .val (.ref b31), .val (.ref w_OVER), .val (.int (2 : Int32)), .val (.int (0 : Int32)), .val (.int (2 : Int32)), .val (.ref w_OVER)] [(.int (1 : Int32))]))
      exact Gl.ret X37 e37 (v := (some (.int (1 : Int32)))) (fun h => by rw [Bd.returns] at h; cases h) Bd.notSynchronized (fun fs hr => retN X37 hx (t := .boolean) (z := (1 : Int32)) Bd.returns (by simp) (hb hby at_155) hr) ⟨N36, rfl⟩ (by decide) (by decide)
    · refine Gl.back (fun _ k => XS.ifNo X33.here hx rfl (hb hby at_95) rfl ((if0 _ _).trans (flt (own_lcLn hc95_35)).1) k) ?_
      show Gl _ _ _ _ _ _ _ (T33.setTop (mkF m 98 #[.val (.long x0), .second, .val (.long x1), .second, .val (.long x2), .second, .val (.int x3), .val (.long r29), .second, .val (.long r30), .second, .val (.ref b31), .val (.ref w_OVER), .val (.int (2 : Int32)), .val (.int (0 : Int32)), .unset, .unset] []))
      refine Gl.back (fun _ k => XS.iconst X33.here hx rfl (hb hby at_98) k) ?_
      show Gl _ _ _ _ _ _ _ (T33.setTop (mkF m 99 #[.val (.long x0), .second, .val (.long x1), .second, .val (.long x2), .second, .val (.int x3), .val (.long r29), .second, .val (.long r30), .second, .val (.ref b31), .val (.ref w_OVER), .val (.int (2 : Int32)), .val (.int (0 : Int32)), .unset, .unset] [(.int (1 : Int32))]))
      refine Gl.back (fun _ k => XS.istore X33.here hx rfl (hb hby at_99) rfl (l' := #[.val (.long x0), .second, .val (.long x1), .second, .val (.long x2), .second, .val (.int x3), .val (.long r29), .second, .val (.long r30), .second, .val (.ref b31), .val (.ref w_OVER), .val (.int (2 : Int32)), .val (.int (1 : Int32)), .unset, .unset]) rfl k) ?_
      show Gl _ _ _ _ _ _ _ (T33.setTop (mkF m 101 #[.val (.long x0), .second, .val (.long x1), .second, .val (.long x2), .second, .val (.int x3), .val (.long r29), .second, .val (.long r30), .second, .val (.ref b31), .val (.ref w_OVER), .val (.int (2 : Int32)), .val (.int (1 : Int32)), .unset, .unset] []))
      refine Gl.back (fun _ k => XS.iload X33.here hx rfl (hb hby at_101) rfl k) ?_
      show Gl _ _ _ _ _ _ _ (T33.setTop (mkF m 103 #[.val (.long x0), .second, .val (.long x1), .second, .val (.long x2), .second, .val (.int x3), .val (.long r29), .second, .val (.long r30), .second, .val (.ref b31), .val (.ref w_OVER), .val (.int (2 : Int32)), .val (.int (1 : Int32)), .unset, .unset] [(.int (2 : Int32))]))
      refine Gl.back (fun _ k => XS.iload X33.here hx rfl (hb hby at_103) rfl k) ?_
      show Gl _ _ _ _ _ _ _ (T33.setTop (mkF m 105 #[.val (.long x0), .second, .val (.long x1), .second, .val (.long x2), .second, .val (.int x3), .val (.long r29), .second, .val (.long r30), .second, .val (.ref b31), .val (.ref w_OVER), .val (.int (2 : Int32)), .val (.int (1 : Int32)), .unset, .unset] [(.int (1 : Int32)), (.int (2 : Int32))]))
      obtain ⟨_, _, ⟨T38, L38, k38, n38⟩, -, X38, ⟨Lc38, hQ38, l38, y38, z38⟩, st38⟩ := Jvm.LawKit.callS X33 hx (y := (⟨"java/lang/Math", "max", "(II)I"⟩ : MethodName)) hown (mvT hZ (hw _ (List.mem_of_getElem? (i := 42) rfl))) (mvT hZ (hw _ (List.mem_of_getElem? (i := 43) rfl))) (mvT hZ (hw _ (List.mem_of_getElem? (i := 44) rfl))) (mvT hZ (hw _ (List.mem_of_getElem? (i := 45) rfl))) (by decide) (backOf (W := 0) (rm7_21 l Z a0 hw []   T32.heap n0 Zc32 ) hZ (hw _ (List.mem_of_getElem? (i := 45) rfl)) (hw _ (List.mem_of_getElem? (i := 44) rfl)) (by decide) (by decide)) (g := (mkF m 105 #[.val (.long x0), .second, .val (.long x1), .second, .val (.long x2), .second, .val (.int x3), .val (.long r29), .second, .val (.long r30), .second, .val (.ref b31), .val (.ref w_OVER), .val (.int (2 : Int32)), .val (.int (1 : Int32)), .unset, .unset] [(.int (1 : Int32)), (.int (2 : Int32))])) rfl (by rw [hml]; rfl) (argsL := [(.int (2 : Int32)), (.int (1 : Int32))]) (rest := []) (lenOf pd__II_I rfl) rfl (by show 2 * 0 + _ ≤ _; exact Nat.le_of_eq rfl) (hb hby at_105) (fun _ _ => ⟨rfl, eh33, (by decide : 1 + 0 ≤ _), (by decide : 3 + 0 ≤ _)⟩)
      dsimp only [Pt.U, Pt.locs, Pt.cells, Pt.slots] at X38 l38 y38 z38 st38 hQ38
      subst l38 y38 z38
      obtain ⟨Nq38, rfl, eh38⟩ := hQ38
      have N38 := Fr.app N33 Nq38
      refine Gl.back (fun _ k => st38 _ k) ?_
      show Gl _ _ _ _ _ _ _ (T38.setTop (mkF m 108 #[.val (.long x0), .second, .val (.long x1), .second, .val (.long x2), .second, .val (.int x3), .val (.long r29), .second, .val (.long r30), .second, .val (.ref b31), .val (.ref w_OVER), .val (.int (2 : Int32)), .val (.int (1 : Int32)), .unset, .unset] [(.int (2 : Int32))]))
      refine Gl.back (fun _ k => XS.istore X38.here hx rfl (hb hby at_108) rfl (l' := #[.val (.long x0), .second, .val (.long x1), .second, .val (.long x2), .second, .val (.int x3), .val (.long r29), .second, .val (.long r30), .second, .val (.ref b31), .val (.ref w_OVER), .val (.int (2 : Int32)), .val (.int (1 : Int32)), .val (.int (2 : Int32)), .unset]) rfl k) ?_
      show Gl _ _ _ _ _ _ _ (T38.setTop (mkF m 110 #[.val (.long x0), .second, .val (.long x1), .second, .val (.long x2), .second, .val (.int x3), .val (.long r29), .second, .val (.long r30), .second, .val (.ref b31), .val (.ref w_OVER), .val (.int (2 : Int32)), .val (.int (1 : Int32)), .val (.int (2 : Int32)), .unset] []))
      refine Gl.back (fun _ k => XS.iload X38.here hx rfl (hb hby at_110) rfl k) ?_
      show Gl _ _ _ _ _ _ _ (T38.setTop (mkF m 112 #[.val (.long x0), .second, .val (.long x1), .second, .val (.long x2), .second, .val (.int x3), .val (.long r29), .second, .val (.long r30), .second, .val (.ref b31), .val (.ref w_OVER), .val (.int (2 : Int32)), .val (.int (1 : Int32)), .val (.int (2 : Int32)), .unset] [(.int (2 : Int32))]))
      refine Gl.back (fun _ k => XS.iconst X38.here hx rfl (hb hby at_112) k) ?_
      show Gl _ _ _ _ _ _ _ (T38.setTop (mkF m 113 #[.val (.long x0), .second, .val (.long x1), .second, .val (.long x2), .second, .val (.int x3), .val (.long r29), .second, .val (.long r30), .second, .val (.ref b31), .val (.ref w_OVER), .val (.int (2 : Int32)), .val (.int (1 : Int32)), .val (.int (2 : Int32)), .unset] [(.int (2 : Int32)), (.int (2 : Int32))]))
      refine Gl.back (fun _ k => XS.icmpNo X38.here hx rfl (hb hby at_113) rfl (teq (by decide : (2 : Int32) = (2 : Int32))).2 k) ?_
      show Gl _ _ _ _ _ _ _ (T38.setTop (mkF m 116 #[.val (.long x0), .second, .val (.long x1), .second, .val (.long x2), .second, .val (.int x3), .val (.long r29), .second, .val (.long r30), .second, .val (.ref b31), .val (.ref w_OVER), .val (.int (2 : Int32)), .val (.int (1 : Int32)), .val (.int (2 : Int32)), .unset] []))
      obtain ⟨T39, X39, e39, st39⟩ := getS2 X38 hx hZ hown (host := "") (Or.inl (hw _ (List.mem_of_getElem? (i := 46) rfl))) Via.refl eh38 (S_OVER.ext Oc32.2) (g := (mkF m 116 #[.val (.long x0), .second, .val (.long x1), .second, .val (.long x2), .second, .val (.int x3), .val (.long r29), .second, .val (.long r30), .second, .val (.ref b31), .val (.ref w_OVER), .val (.int (2 : Int32)), .val (.int (1 : Int32)), .val (.int (2 : Int32)), .unset] [])) rfl (hb hby at_116)
      refine Gl.back (fun _ k => st39 _ k) ?_
      show Gl _ _ _ _ _ _ _ (T39.setTop (mkF m 119 #[.val (.long x0), .second, .val (.long x1), .second, .val (.long x2), .second, .val (.int x3), .val (.long r29), .second, .val (.long r30), .second, .val (.ref b31), .val (.ref w_OVER), .val (.int (2 : Int32)), .val (.int (1 : Int32)), .val (.int (2 : Int32)), .unset] [(.ref w_OVER)]))
      refine Gl.back (fun _ k => XS.astore X39.here hx rfl (hb hby at_119) rfl rfl (l' := #[.val (.long x0), .second, .val (.long x1), .second, .val (.long x2), .second, .val (.int x3), .val (.long r29), .second, .val (.long r30), .second, .val (.ref b31), .val (.ref w_OVER), .val (.int (2 : Int32)), .val (.int (1 : Int32)), .val (.int (2 : Int32)), .val (.ref w_OVER)]) rfl k) ?_
      show Gl _ _ _ _ _ _ _ (T39.setTop (mkF m 121 #[.val (.long x0), .second, .val (.long x1), .second, .val (.long x2), .second, .val (.int x3), .val (.long r29), .second, .val (.long r30), .second, .val (.ref b31), .val (.ref w_OVER), .val (.int (2 : Int32)), .val (.int (1 : Int32)), .val (.int (2 : Int32)), .val (.ref w_OVER)] []))
      refine Gl.back (fun _ k => XS.goto X39.here hx rfl (pc0 := 121) (pc' := 143) rfl (hb hby at_121) (by decide) (by decide) k) ?_
      show Gl _ _ _ _ _ _ _ (T39.setTop (mkF m 143 #[.val (.long x0), .second, .val (.long x1), .second, .val (.long x2), .second, .val (.int x3), .val (.long r29), .second, .val (.long r30), .second, .val (.ref b31), .val (.ref w_OVER), .val (.int (2 : Int32)), .val (.int (1 : Int32)), .val (.int (2 : Int32)), .val (.ref w_OVER)] []))
      refine Gl.back (fun _ k => XS.aload X39.here hx rfl (hb hby at_143) rfl rfl k) ?_
      show Gl _ _ _ _ _ _ _ (T39.setTop (mkF m 145 #[.val (.long x0), .second, .val (.long x1), .second, .val (.long x2), .second, .val (.int x3), .val (.long r29), .second, .val (.long r30), .second, .val (.ref b31), .val (.ref w_OVER), .val (.int (2 : Int32)), .val (.int (1 : Int32)), .val (.int (2 : Int32)), .val (.ref w_OVER)] [(.ref w_OVER)]))
      refine Gl.back (fun _ k => XS.aload X39.here hx rfl (hb hby at_145) rfl rfl k) ?_
      show Gl _ _ _ _ _ _ _ (T39.setTop (mkF m 147 #[.val (.long x0), .second, .val (.long x1), .second, .val (.long x2), .second, .val (.int x3), .val (.long r29), .second, .val (.long r30), .second, .val (.ref b31), .val (.ref w_OVER), .val (.int (2 : Int32)), .val (.int (1 : Int32)), .val (.int (2 : Int32)), .val (.ref w_OVER)] [(.ref w_OVER), (.ref w_OVER)]))
      refine Gl.back (fun _ k => Jvm.RoadKit.acmp (g := (mkF m 147 #[.val (.long x0), .second, .val (.long x1), .second, .val (.long x2), .second, .val (.int x3), .val (.long r29), .second, .val (.long r30), .second, .val (.ref b31), .val (.ref w_OVER), .val (.int (2 : Int32)), .val (.int (1 : Int32)), .val (.int (2 : Int32)), .val (.ref w_OVER)] [(.ref w_OVER), (.ref w_OVER)])) X39 hx rfl rfl rfl (pc0 := 147) (pc' := 150) (same := true) rfl (hb hby at_147) rfl (decide_eq_true rfl) (by decide) (by decide) k) ?_
      show Gl _ _ _ _ _ _ _ (T39.setTop (mkF m 150 #[.val (.long x0), .second, .val (.long x1), .second, .val (.long x2), .second, .val (.int x3), .val (.long r29), .second, .val (.long r30), .second, .val (.ref b31), .val (.ref w_OVER), .val (.int (2 : Int32)), .val (.int (1 : Int32)), .val (.int (2 : Int32)), .val (.ref w_OVER)] []))
      refine Gl.back (fun _ k => XS.iconst X39.here hx rfl (hb hby at_150) k) ?_
      show Gl _ _ _ _ _ _ _ (T39.setTop (mkF m 151 #[.val (.long x0), .second, .val (.long x1), .second, .val (.long x2), .second, .val (.int x3), .val (.long r29), .second, .val (.long r30), .second, .val (.ref b31), .val (.ref w_OVER), .val (.int (2 : Int32)), .val (.int (1 : Int32)), .val (.int (2 : Int32)), .val (.ref w_OVER)] [(.int (1 : Int32))]))
      refine Gl.back (fun _ k => XS.goto X39.here hx rfl (pc0 := 151) (pc' := 155) rfl (hb hby at_151) (by decide) (by decide) k) ?_
      show Gl _ _ _ _ _ _ _ (T39.setTop (mkF m 155 #[.val (.long x0), .second, .val (.long x1), .second, .val (.long x2), .second, .val (.int x3), .val (.long r29), .second, .val (.long r30), .second, .val (.ref b31), .val (.ref w_OVER), .val (.int (2 : Int32)), .val (.int (1 : Int32)), .val (.int (2 : Int32)), .val (.ref w_OVER)] [(.int (1 : Int32))]))
      exact Gl.ret X39 e39 (v := (some (.int (1 : Int32)))) (fun h => by rw [Bd.returns] at h; cases h) Bd.notSynchronized (fun fs hr => retN X39 hx (t := .boolean) (z := (1 : Int32)) Bd.returns (by simp) (hb hby at_155) hr) ⟨N38, rfl⟩ (by decide) (by decide)
  · have N33 := Fr.app N32 Nq33
    refine Gl.back (fun _ k => st33 _ k) ?_
    show Gl _ _ _ _ _ _ _ (T33.setTop (mkF m 54 #[.val (.long x0), .second, .val (.long x1), .second, .val (.long x2), .second, .val (.int x3), .val (.long r29), .second, .val (.long r30), .second, .val (.ref b31), .unset, .unset, .unset, .unset, .unset] [(.ref w_WARN)]))
    refine Gl.back (fun _ k => XS.astore X33.here hx rfl (hb hby at_54) rfl rfl (l' := #[.val (.long x0), .second, .val (.long x1), .second, .val (.long x2), .second, .val (.int x3), .val (.long r29), .second, .val (.long r30), .second, .val (.ref b31), .val (.ref w_WARN), .unset, .unset, .unset, .unset]) rfl k) ?_
    show Gl _ _ _ _ _ _ _ (T33.setTop (mkF m 56 #[.val (.long x0), .second, .val (.long x1), .second, .val (.long x2), .second, .val (.int x3), .val (.long r29), .second, .val (.long r30), .second, .val (.ref b31), .val (.ref w_WARN), .unset, .unset, .unset, .unset] []))
    refine Gl.back (fun _ k => XS.iconst X33.here hx rfl (hb hby at_56) k) ?_
    show Gl _ _ _ _ _ _ _ (T33.setTop (mkF m 57 #[.val (.long x0), .second, .val (.long x1), .second, .val (.long x2), .second, .val (.int x3), .val (.long r29), .second, .val (.long r30), .second, .val (.ref b31), .val (.ref w_WARN), .unset, .unset, .unset, .unset] [(.int (0 : Int32))]))
    refine Gl.back (fun _ k => XS.istore X33.here hx rfl (hb hby at_57) rfl (l' := #[.val (.long x0), .second, .val (.long x1), .second, .val (.long x2), .second, .val (.int x3), .val (.long r29), .second, .val (.long r30), .second, .val (.ref b31), .val (.ref w_WARN), .val (.int (0 : Int32)), .unset, .unset, .unset]) rfl k) ?_
    show Gl _ _ _ _ _ _ _ (T33.setTop (mkF m 59 #[.val (.long x0), .second, .val (.long x1), .second, .val (.long x2), .second, .val (.int x3), .val (.long r29), .second, .val (.long r30), .second, .val (.ref b31), .val (.ref w_WARN), .val (.int (0 : Int32)), .unset, .unset, .unset] []))
    refine Gl.back (fun _ k => XS.lload X33.here hx rfl (hb hby at_59) rfl k) ?_
    show Gl _ _ _ _ _ _ _ (T33.setTop (mkF m 61 #[.val (.long x0), .second, .val (.long x1), .second, .val (.long x2), .second, .val (.int x3), .val (.long r29), .second, .val (.long r30), .second, .val (.ref b31), .val (.ref w_WARN), .val (.int (0 : Int32)), .unset, .unset, .unset] [(.long r29)]))
    refine Gl.back (fun _ k => X33.ldc2Long hx hown (mvT hZ (hw _ (List.mem_of_getElem? (i := 40) rfl))) (g := (mkF m 61 #[.val (.long x0), .second, .val (.long x1), .second, .val (.long x2), .second, .val (.int x3), .val (.long r29), .second, .val (.long r30), .second, .val (.ref b31), .val (.ref w_WARN), .val (.int (0 : Int32)), .unset, .unset, .unset] [(.long r29)])) rfl (hb hby at_61) _ k) ?_
    show Gl _ _ _ _ _ _ _ (T33.setTop (mkF m 64 #[.val (.long x0), .second, .val (.long x1), .second, .val (.long x2), .second, .val (.int x3), .val (.long r29), .second, .val (.long r30), .second, .val (.ref b31), .val (.ref w_WARN), .val (.int (0 : Int32)), .unset, .unset, .unset] [(.long (2000000001 : Int64)), (.long r29)]))
    refine Gl.back (fun _ k => XS.lcmp X33.here hx rfl (hb hby at_64) rfl k) ?_
    show Gl _ _ _ _ _ _ _ (T33.setTop (mkF m 65 #[.val (.long x0), .second, .val (.long x1), .second, .val (.long x2), .second, .val (.int x3), .val (.long r29), .second, .val (.long r30), .second, .val (.ref b31), .val (.ref w_WARN), .val (.int (0 : Int32)), .unset, .unset, .unset] [(.int (lcmpW r29 (2000000001 : Int64)))]))
    refine Gl.back (fun _ k => XS.ifYes X33.here hx rfl (pc0 := 65) (pc' := 74) rfl (hb hby at_65) rfl ((if0 _ _).trans (tlt (own_lcL (own_c1n hA33 : r29 < (2000000001 : Int64)))).1) (by decide) (by decide) k) ?_
    show Gl _ _ _ _ _ _ _ (T33.setTop (mkF m 74 #[.val (.long x0), .second, .val (.long x1), .second, .val (.long x2), .second, .val (.int x3), .val (.long r29), .second, .val (.long r30), .second, .val (.ref b31), .val (.ref w_WARN), .val (.int (0 : Int32)), .unset, .unset, .unset] []))
    refine Gl.back (fun _ k => XS.lload X33.here hx rfl (hb hby at_74) rfl k) ?_
    show Gl _ _ _ _ _ _ _ (T33.setTop (mkF m 76 #[.val (.long x0), .second, .val (.long x1), .second, .val (.long x2), .second, .val (.int x3), .val (.long r29), .second, .val (.long r30), .second, .val (.ref b31), .val (.ref w_WARN), .val (.int (0 : Int32)), .unset, .unset, .unset] [(.long r29)]))
    refine Gl.back (fun _ k => X33.ldc2Long hx hown (mvT hZ (hw _ (List.mem_of_getElem? (i := 56) rfl))) (g := (mkF m 76 #[.val (.long x0), .second, .val (.long x1), .second, .val (.long x2), .second, .val (.int x3), .val (.long r29), .second, .val (.long r30), .second, .val (.ref b31), .val (.ref w_WARN), .val (.int (0 : Int32)), .unset, .unset, .unset] [(.long r29)])) rfl (hb hby at_76) _ k) ?_
    show Gl _ _ _ _ _ _ _ (T33.setTop (mkF m 79 #[.val (.long x0), .second, .val (.long x1), .second, .val (.long x2), .second, .val (.int x3), .val (.long r29), .second, .val (.long r30), .second, .val (.ref b31), .val (.ref w_WARN), .val (.int (0 : Int32)), .unset, .unset, .unset] [(.long (1000001 : Int64)), (.long r29)]))
    refine Gl.back (fun _ k => XS.lcmp X33.here hx rfl (hb hby at_79) rfl k) ?_
    show Gl _ _ _ _ _ _ _ (T33.setTop (mkF m 80 #[.val (.long x0), .second, .val (.long x1), .second, .val (.long x2), .second, .val (.int x3), .val (.long r29), .second, .val (.long r30), .second, .val (.ref b31), .val (.ref w_WARN), .val (.int (0 : Int32)), .unset, .unset, .unset] [(.int (lcmpW r29 (1000001 : Int64)))]))
    refine Gl.back (fun _ k => XS.ifNo X33.here hx rfl (hb hby at_80) rfl ((if0 _ _).trans (flt (own_lcLn (own_c2 hB33 : ¬ r29 < (1000001 : Int64)))).1) k) ?_
    show Gl _ _ _ _ _ _ _ (T33.setTop (mkF m 83 #[.val (.long x0), .second, .val (.long x1), .second, .val (.long x2), .second, .val (.int x3), .val (.long r29), .second, .val (.long r30), .second, .val (.ref b31), .val (.ref w_WARN), .val (.int (0 : Int32)), .unset, .unset, .unset] []))
    refine Gl.back (fun _ k => XS.iconst X33.here hx rfl (hb hby at_83) k) ?_
    show Gl _ _ _ _ _ _ _ (T33.setTop (mkF m 84 #[.val (.long x0), .second, .val (.long x1), .second, .val (.long x2), .second, .val (.int x3), .val (.long r29), .second, .val (.long r30), .second, .val (.ref b31), .val (.ref w_WARN), .val (.int (0 : Int32)), .unset, .unset, .unset] [(.int (1 : Int32))]))
    refine Gl.back (fun _ k => XS.istore X33.here hx rfl (hb hby at_84) rfl (l' := #[.val (.long x0), .second, .val (.long x1), .second, .val (.long x2), .second, .val (.int x3), .val (.long r29), .second, .val (.long r30), .second, .val (.ref b31), .val (.ref w_WARN), .val (.int (1 : Int32)), .unset, .unset, .unset]) rfl k) ?_
    show Gl _ _ _ _ _ _ _ (T33.setTop (mkF m 86 #[.val (.long x0), .second, .val (.long x1), .second, .val (.long x2), .second, .val (.int x3), .val (.long r29), .second, .val (.long r30), .second, .val (.ref b31), .val (.ref w_WARN), .val (.int (1 : Int32)), .unset, .unset, .unset] []))
    refine Gl.back (fun _ k => XS.iconst X33.here hx rfl (hb hby at_86) k) ?_
    show Gl _ _ _ _ _ _ _ (T33.setTop (mkF m 87 #[.val (.long x0), .second, .val (.long x1), .second, .val (.long x2), .second, .val (.int x3), .val (.long r29), .second, .val (.long r30), .second, .val (.ref b31), .val (.ref w_WARN), .val (.int (1 : Int32)), .unset, .unset, .unset] [(.int (0 : Int32))]))
    refine Gl.back (fun _ k => XS.istore X33.here hx rfl (hb hby at_87) rfl (l' := #[.val (.long x0), .second, .val (.long x1), .second, .val (.long x2), .second, .val (.int x3), .val (.long r29), .second, .val (.long r30), .second, .val (.ref b31), .val (.ref w_WARN), .val (.int (1 : Int32)), .val (.int (0 : Int32)), .unset, .unset]) rfl k) ?_
    show Gl _ _ _ _ _ _ _ (T33.setTop (mkF m 89 #[.val (.long x0), .second, .val (.long x1), .second, .val (.long x2), .second, .val (.int x3), .val (.long r29), .second, .val (.long r30), .second, .val (.ref b31), .val (.ref w_WARN), .val (.int (1 : Int32)), .val (.int (0 : Int32)), .unset, .unset] []))
    refine Gl.back (fun _ k => XS.lload X33.here hx rfl (hb hby at_89) rfl k) ?_
    show Gl _ _ _ _ _ _ _ (T33.setTop (mkF m 91 #[.val (.long x0), .second, .val (.long x1), .second, .val (.long x2), .second, .val (.int x3), .val (.long r29), .second, .val (.long r30), .second, .val (.ref b31), .val (.ref w_WARN), .val (.int (1 : Int32)), .val (.int (0 : Int32)), .unset, .unset] [(.long r30)]))
    refine Gl.back (fun _ k => X33.ldc2Long hx hown (mvT hZ (hw _ (List.mem_of_getElem? (i := 41) rfl))) (g := (mkF m 91 #[.val (.long x0), .second, .val (.long x1), .second, .val (.long x2), .second, .val (.int x3), .val (.long r29), .second, .val (.long r30), .second, .val (.ref b31), .val (.ref w_WARN), .val (.int (1 : Int32)), .val (.int (0 : Int32)), .unset, .unset] [(.long r30)])) rfl (hb hby at_91) _ k) ?_
    show Gl _ _ _ _ _ _ _ (T33.setTop (mkF m 94 #[.val (.long x0), .second, .val (.long x1), .second, .val (.long x2), .second, .val (.int x3), .val (.long r29), .second, .val (.long r30), .second, .val (.ref b31), .val (.ref w_WARN), .val (.int (1 : Int32)), .val (.int (0 : Int32)), .unset, .unset] [(.long (104857601 : Int64)), (.long r30)]))
    refine Gl.back (fun _ k => XS.lcmp X33.here hx rfl (hb hby at_94) rfl k) ?_
    show Gl _ _ _ _ _ _ _ (T33.setTop (mkF m 95 #[.val (.long x0), .second, .val (.long x1), .second, .val (.long x2), .second, .val (.int x3), .val (.long r29), .second, .val (.long r30), .second, .val (.ref b31), .val (.ref w_WARN), .val (.int (1 : Int32)), .val (.int (0 : Int32)), .unset, .unset] [(.int (lcmpW r30 (104857601 : Int64)))]))
    by_cases hc95_40 : r30 < (104857601 : Int64)
    · refine Gl.back (fun _ k => XS.ifYes X33.here hx rfl (pc0 := 95) (pc' := 101) rfl (hb hby at_95) rfl ((if0 _ _).trans (tlt (own_lcL hc95_40)).1) (by decide) (by decide) k) ?_
      show Gl _ _ _ _ _ _ _ (T33.setTop (mkF m 101 #[.val (.long x0), .second, .val (.long x1), .second, .val (.long x2), .second, .val (.int x3), .val (.long r29), .second, .val (.long r30), .second, .val (.ref b31), .val (.ref w_WARN), .val (.int (1 : Int32)), .val (.int (0 : Int32)), .unset, .unset] []))
      refine Gl.back (fun _ k => XS.iload X33.here hx rfl (hb hby at_101) rfl k) ?_
      show Gl _ _ _ _ _ _ _ (T33.setTop (mkF m 103 #[.val (.long x0), .second, .val (.long x1), .second, .val (.long x2), .second, .val (.int x3), .val (.long r29), .second, .val (.long r30), .second, .val (.ref b31), .val (.ref w_WARN), .val (.int (1 : Int32)), .val (.int (0 : Int32)), .unset, .unset] [(.int (1 : Int32))]))
      refine Gl.back (fun _ k => XS.iload X33.here hx rfl (hb hby at_103) rfl k) ?_
      show Gl _ _ _ _ _ _ _ (T33.setTop (mkF m 105 #[.val (.long x0), .second, .val (.long x1), .second, .val (.long x2), .second, .val (.int x3), .val (.long r29), .second, .val (.long r30), .second, .val (.ref b31), .val (.ref w_WARN), .val (.int (1 : Int32)), .val (.int (0 : Int32)), .unset, .unset] [(.int (0 : Int32)), (.int (1 : Int32))]))
      obtain ⟨_, _, ⟨T41, L41, k41, n41⟩, -, X41, ⟨Lc41, hQ41, l41, y41, z41⟩, st41⟩ := Jvm.LawKit.callS X33 hx (y := (⟨"java/lang/Math", "max", "(II)I"⟩ : MethodName)) hown (mvT hZ (hw _ (List.mem_of_getElem? (i := 42) rfl))) (mvT hZ (hw _ (List.mem_of_getElem? (i := 43) rfl))) (mvT hZ (hw _ (List.mem_of_getElem? (i := 44) rfl))) (mvT hZ (hw _ (List.mem_of_getElem? (i := 45) rfl))) (by decide) (backOf (W := 0) (rm7_10 l Z a0 hw []   T32.heap n0 Zc32 ) hZ (hw _ (List.mem_of_getElem? (i := 45) rfl)) (hw _ (List.mem_of_getElem? (i := 44) rfl)) (by decide) (by decide)) (g := (mkF m 105 #[.val (.long x0), .second, .val (.long x1), .second, .val (.long x2), .second, .val (.int x3), .val (.long r29), .second, .val (.long r30), .second, .val (.ref b31), .val (.ref w_WARN), .val (.int (1 : Int32)), .val (.int (0 : Int32)), .unset, .unset] [(.int (0 : Int32)), (.int (1 : Int32))])) rfl (by rw [hml]; rfl) (argsL := [(.int (1 : Int32)), (.int (0 : Int32))]) (rest := []) (lenOf pd__II_I rfl) rfl (by show 2 * 0 + _ ≤ _; exact Nat.le_of_eq rfl) (hb hby at_105) (fun _ _ => ⟨rfl, eh33, (by decide : 1 + 0 ≤ _), (by decide : 3 + 0 ≤ _)⟩)
      dsimp only [Pt.U, Pt.locs, Pt.cells, Pt.slots] at X41 l41 y41 z41 st41 hQ41
      subst l41 y41 z41
      obtain ⟨Nq41, rfl, eh41⟩ := hQ41
      have N41 := Fr.app N33 Nq41
      refine Gl.back (fun _ k => st41 _ k) ?_
      show Gl _ _ _ _ _ _ _ (T41.setTop (mkF m 108 #[.val (.long x0), .second, .val (.long x1), .second, .val (.long x2), .second, .val (.int x3), .val (.long r29), .second, .val (.long r30), .second, .val (.ref b31), .val (.ref w_WARN), .val (.int (1 : Int32)), .val (.int (0 : Int32)), .unset, .unset] [(.int (1 : Int32))]))
      refine Gl.back (fun _ k => XS.istore X41.here hx rfl (hb hby at_108) rfl (l' := #[.val (.long x0), .second, .val (.long x1), .second, .val (.long x2), .second, .val (.int x3), .val (.long r29), .second, .val (.long r30), .second, .val (.ref b31), .val (.ref w_WARN), .val (.int (1 : Int32)), .val (.int (0 : Int32)), .val (.int (1 : Int32)), .unset]) rfl k) ?_
      show Gl _ _ _ _ _ _ _ (T41.setTop (mkF m 110 #[.val (.long x0), .second, .val (.long x1), .second, .val (.long x2), .second, .val (.int x3), .val (.long r29), .second, .val (.long r30), .second, .val (.ref b31), .val (.ref w_WARN), .val (.int (1 : Int32)), .val (.int (0 : Int32)), .val (.int (1 : Int32)), .unset] []))
      refine Gl.back (fun _ k => XS.iload X41.here hx rfl (hb hby at_110) rfl k) ?_
      show Gl _ _ _ _ _ _ _ (T41.setTop (mkF m 112 #[.val (.long x0), .second, .val (.long x1), .second, .val (.long x2), .second, .val (.int x3), .val (.long r29), .second, .val (.long r30), .second, .val (.ref b31), .val (.ref w_WARN), .val (.int (1 : Int32)), .val (.int (0 : Int32)), .val (.int (1 : Int32)), .unset] [(.int (1 : Int32))]))
      refine Gl.back (fun _ k => XS.iconst X41.here hx rfl (hb hby at_112) k) ?_
      show Gl _ _ _ _ _ _ _ (T41.setTop (mkF m 113 #[.val (.long x0), .second, .val (.long x1), .second, .val (.long x2), .second, .val (.int x3), .val (.long r29), .second, .val (.long r30), .second, .val (.ref b31), .val (.ref w_WARN), .val (.int (1 : Int32)), .val (.int (0 : Int32)), .val (.int (1 : Int32)), .unset] [(.int (2 : Int32)), (.int (1 : Int32))]))
      refine Gl.back (fun _ k => XS.icmpYes X41.here hx rfl (pc0 := 113) (pc' := 124) rfl (hb hby at_113) rfl (feq (by decide : ¬ (1 : Int32) = (2 : Int32))).2 (by decide) (by decide) k) ?_
      show Gl _ _ _ _ _ _ _ (T41.setTop (mkF m 124 #[.val (.long x0), .second, .val (.long x1), .second, .val (.long x2), .second, .val (.int x3), .val (.long r29), .second, .val (.long r30), .second, .val (.ref b31), .val (.ref w_WARN), .val (.int (1 : Int32)), .val (.int (0 : Int32)), .val (.int (1 : Int32)), .unset] []))
      refine Gl.back (fun _ k => XS.iload X41.here hx rfl (hb hby at_124) rfl k) ?_
      show Gl _ _ _ _ _ _ _ (T41.setTop (mkF m 126 #[.val (.long x0), .second, .val (.long x1), .second, .val (.long x2), .second, .val (.int x3), .val (.long r29), .second, .val (.long r30), .second, .val (.ref b31), .val (.ref w_WARN), .val (.int (1 : Int32)), .val (.int (0 : Int32)), .val (.int (1 : Int32)), .unset] [(.int (1 : Int32))]))
      refine Gl.back (fun _ k => XS.iconst X41.here hx rfl (hb hby at_126) k) ?_
      show Gl _ _ _ _ _ _ _ (T41.setTop (mkF m 127 #[.val (.long x0), .second, .val (.long x1), .second, .val (.long x2), .second, .val (.int x3), .val (.long r29), .second, .val (.long r30), .second, .val (.ref b31), .val (.ref w_WARN), .val (.int (1 : Int32)), .val (.int (0 : Int32)), .val (.int (1 : Int32)), .unset] [(.int (1 : Int32)), (.int (1 : Int32))]))
      refine Gl.back (fun _ k => XS.icmpNo X41.here hx rfl (hb hby at_127) rfl (teq (by decide : (1 : Int32) = (1 : Int32))).2 k) ?_
      show Gl _ _ _ _ _ _ _ (T41.setTop (mkF m 130 #[.val (.long x0), .second, .val (.long x1), .second, .val (.long x2), .second, .val (.int x3), .val (.long r29), .second, .val (.long r30), .second, .val (.ref b31), .val (.ref w_WARN), .val (.int (1 : Int32)), .val (.int (0 : Int32)), .val (.int (1 : Int32)), .unset] []))
      obtain ⟨T42, X42, e42, st42⟩ := getS2 X41 hx hZ hown (host := "") (Or.inl (hw _ (List.mem_of_getElem? (i := 57) rfl))) Via.refl eh41 (S_WARN.ext Oc32.2) (g := (mkF m 130 #[.val (.long x0), .second, .val (.long x1), .second, .val (.long x2), .second, .val (.int x3), .val (.long r29), .second, .val (.long r30), .second, .val (.ref b31), .val (.ref w_WARN), .val (.int (1 : Int32)), .val (.int (0 : Int32)), .val (.int (1 : Int32)), .unset] [])) rfl (hb hby at_130)
      refine Gl.back (fun _ k => st42 _ k) ?_
      show Gl _ _ _ _ _ _ _ (T42.setTop (mkF m 133 #[.val (.long x0), .second, .val (.long x1), .second, .val (.long x2), .second, .val (.int x3), .val (.long r29), .second, .val (.long r30), .second, .val (.ref b31), .val (.ref w_WARN), .val (.int (1 : Int32)), .val (.int (0 : Int32)), .val (.int (1 : Int32)), .unset] [(.ref w_WARN)]))
      refine Gl.back (fun _ k => XS.astore X42.here hx rfl (hb hby at_133) rfl rfl (l' := #[.val (.long x0), .second, .val (.long x1), .second, .val (.long x2), .second, .val (.int x3), .val (.long r29), .second, .val (.long r30), .second, .val (.ref b31), .val (.ref w_WARN), .val (.int (1 : Int32)), .val (.int (0 : Int32)), .val (.int (1 : Int32)), .val (.ref w_WARN)]) rfl k) ?_
      show Gl _ _ _ _ _ _ _ (T42.setTop (mkF m 135 #[.val (.long x0), .second, .val (.long x1), .second, .val (.long x2), .second, .val (.int x3), .val (.long r29), .second, .val (.long r30), .second, .val (.ref b31), .val (.ref w_WARN), .val (.int (1 : Int32)), .val (.int (0 : Int32)), .val (.int (1 : Int32)), .val (.ref w_WARN)] []))
      refine Gl.back (fun _ k => XS.goto X42.here hx rfl (pc0 := 135) (pc' := 143) rfl (hb hby at_135) (by decide) (by decide) k) ?_
      show Gl _ _ _ _ _ _ _ (T42.setTop (mkF m 143 #[.val (.long x0), .second, .val (.long x1), .second, .val (.long x2), .second, .val (.int x3), .val (.long r29), .second, .val (.long r30), .second, .val (.ref b31), .val (.ref w_WARN), .val (.int (1 : Int32)), .val (.int (0 : Int32)), .val (.int (1 : Int32)), .val (.ref w_WARN)] []))
      refine Gl.back (fun _ k => XS.aload X42.here hx rfl (hb hby at_143) rfl rfl k) ?_
      show Gl _ _ _ _ _ _ _ (T42.setTop (mkF m 145 #[.val (.long x0), .second, .val (.long x1), .second, .val (.long x2), .second, .val (.int x3), .val (.long r29), .second, .val (.long r30), .second, .val (.ref b31), .val (.ref w_WARN), .val (.int (1 : Int32)), .val (.int (0 : Int32)), .val (.int (1 : Int32)), .val (.ref w_WARN)] [(.ref w_WARN)]))
      refine Gl.back (fun _ k => XS.aload X42.here hx rfl (hb hby at_145) rfl rfl k) ?_
      show Gl _ _ _ _ _ _ _ (T42.setTop (mkF m 147 #[.val (.long x0), .second, .val (.long x1), .second, .val (.long x2), .second, .val (.int x3), .val (.long r29), .second, .val (.long r30), .second, .val (.ref b31), .val (.ref w_WARN), .val (.int (1 : Int32)), .val (.int (0 : Int32)), .val (.int (1 : Int32)), .val (.ref w_WARN)] [(.ref w_WARN), (.ref w_WARN)]))
      refine Gl.back (fun _ k => Jvm.RoadKit.acmp (g := (mkF m 147 #[.val (.long x0), .second, .val (.long x1), .second, .val (.long x2), .second, .val (.int x3), .val (.long r29), .second, .val (.long r30), .second, .val (.ref b31), .val (.ref w_WARN), .val (.int (1 : Int32)), .val (.int (0 : Int32)), .val (.int (1 : Int32)), .val (.ref w_WARN)] [(.ref w_WARN), (.ref w_WARN)])) X42 hx rfl rfl rfl (pc0 := 147) (pc' := 150) (same := true) rfl (hb hby at_147) rfl (decide_eq_true rfl) (by decide) (by decide) k) ?_
      show Gl _ _ _ _ _ _ _ (T42.setTop (mkF m 150 #[.val (.long x0), .second, .val (.long x1), .second, .val (.long x2), .second, .val (.int x3), .val (.long r29), .second, .val (.long r30), .second, .val (.ref b31), .val (.ref w_WARN), .val (.int (1 : Int32)), .val (.int (0 : Int32)), .val (.int (1 : Int32)), .val (.ref w_WARN)] []))
      refine Gl.back (fun _ k => XS.iconst X42.here hx rfl (hb hby at_150) k) ?_
      show Gl _ _ _ _ _ _ _ (T42.setTop (mkF m 151 #[.val (.long x0), .second, .val (.long x1), .second, .val (.long x2), .second, .val (.int x3), .val (.long r29), .second, .val (.long r30), .second, .val (.ref b31), .val (.ref w_WARN), .val (.int (1 : Int32)), .val (.int (0 : Int32)), .val (.int (1 : Int32)), .val (.ref w_WARN)] [(.int (1 : Int32))]))
      refine Gl.back (fun _ k => XS.goto X42.here hx rfl (pc0 := 151) (pc' := 155) rfl (hb hby at_151) (by decide) (by decide) k) ?_
      show Gl _ _ _ _ _ _ _ (T42.setTop (mkF m 155 #[.val (.long x0), .second, .val (.long x1), .second, .val (.long x2), .second, .val (.int x3), .val (.long r29), .second, .val (.long r30), .second, .val (.ref b31), .val (.ref w_WARN), .val (.int (1 : Int32)), .val (.int (0 : Int32)), .val (.int (1 : Int32)), .val (.ref w_WARN)] [(.int (1 : Int32))]))
      exact Gl.ret X42 e42 (v := (some (.int (1 : Int32)))) (fun h => by rw [Bd.returns] at h; cases h) Bd.notSynchronized (fun fs hr => retN X42 hx (t := .boolean) (z := (1 : Int32)) Bd.returns (by simp) (hb hby at_155) hr) ⟨N41, rfl⟩ (by decide) (by decide)
    · refine Gl.back (fun _ k => XS.ifNo X33.here hx rfl (hb hby at_95) rfl ((if0 _ _).trans (flt (own_lcLn hc95_40)).1) k) ?_
      show Gl _ _ _ _ _ _ _ (T33.setTop (mkF m 98 #[.val (.long x0), .second, .val (.long x1), .second, .val (.long x2), .second, .val (.int x3), .val (.long r29), .second, .val (.long r30), .second, .val (.ref b31), .val (.ref w_WARN), .val (.int (1 : Int32)), .val (.int (0 : Int32)), .unset, .unset] []))
      refine Gl.back (fun _ k => XS.iconst X33.here hx rfl (hb hby at_98) k) ?_
      show Gl _ _ _ _ _ _ _ (T33.setTop (mkF m 99 #[.val (.long x0), .second, .val (.long x1), .second, .val (.long x2), .second, .val (.int x3), .val (.long r29), .second, .val (.long r30), .second, .val (.ref b31), .val (.ref w_WARN), .val (.int (1 : Int32)), .val (.int (0 : Int32)), .unset, .unset] [(.int (1 : Int32))]))
      refine Gl.back (fun _ k => XS.istore X33.here hx rfl (hb hby at_99) rfl (l' := #[.val (.long x0), .second, .val (.long x1), .second, .val (.long x2), .second, .val (.int x3), .val (.long r29), .second, .val (.long r30), .second, .val (.ref b31), .val (.ref w_WARN), .val (.int (1 : Int32)), .val (.int (1 : Int32)), .unset, .unset]) rfl k) ?_
      show Gl _ _ _ _ _ _ _ (T33.setTop (mkF m 101 #[.val (.long x0), .second, .val (.long x1), .second, .val (.long x2), .second, .val (.int x3), .val (.long r29), .second, .val (.long r30), .second, .val (.ref b31), .val (.ref w_WARN), .val (.int (1 : Int32)), .val (.int (1 : Int32)), .unset, .unset] []))
      refine Gl.back (fun _ k => XS.iload X33.here hx rfl (hb hby at_101) rfl k) ?_
      show Gl _ _ _ _ _ _ _ (T33.setTop (mkF m 103 #[.val (.long x0), .second, .val (.long x1), .second, .val (.long x2), .second, .val (.int x3), .val (.long r29), .second, .val (.long r30), .second, .val (.ref b31), .val (.ref w_WARN), .val (.int (1 : Int32)), .val (.int (1 : Int32)), .unset, .unset] [(.int (1 : Int32))]))
      refine Gl.back (fun _ k => XS.iload X33.here hx rfl (hb hby at_103) rfl k) ?_
      show Gl _ _ _ _ _ _ _ (T33.setTop (mkF m 105 #[.val (.long x0), .second, .val (.long x1), .second, .val (.long x2), .second, .val (.int x3), .val (.long r29), .second, .val (.long r30), .second, .val (.ref b31), .val (.ref w_WARN), .val (.int (1 : Int32)), .val (.int (1 : Int32)), .unset, .unset] [(.int (1 : Int32)), (.int (1 : Int32))]))
      obtain ⟨_, _, ⟨T43, L43, k43, n43⟩, -, X43, ⟨Lc43, hQ43, l43, y43, z43⟩, st43⟩ := Jvm.LawKit.callS X33 hx (y := (⟨"java/lang/Math", "max", "(II)I"⟩ : MethodName)) hown (mvT hZ (hw _ (List.mem_of_getElem? (i := 42) rfl))) (mvT hZ (hw _ (List.mem_of_getElem? (i := 43) rfl))) (mvT hZ (hw _ (List.mem_of_getElem? (i := 44) rfl))) (mvT hZ (hw _ (List.mem_of_getElem? (i := 45) rfl))) (by decide) (backOf (W := 0) (rm7_11 l Z a0 hw []   T32.heap n0 Zc32 ) hZ (hw _ (List.mem_of_getElem? (i := 45) rfl)) (hw _ (List.mem_of_getElem? (i := 44) rfl)) (by decide) (by decide)) (g := (mkF m 105 #[.val (.long x0), .second, .val (.long x1), .second, .val (.long x2), .second, .val (.int x3), .val (.long r29), .second, .val (.long r30), .second, .val (.ref b31), .val (.ref w_WARN), .val (.int (1 : Int32)), .val (.int (1 : Int32)), .unset, .unset] [(.int (1 : Int32)), (.int (1 : Int32))])) rfl (by rw [hml]; rfl) (argsL := [(.int (1 : Int32)), (.int (1 : Int32))]) (rest := []) (lenOf pd__II_I rfl) rfl (by show 2 * 0 + _ ≤ _; exact Nat.le_of_eq rfl) (hb hby at_105) (fun _ _ => ⟨rfl, eh33, (by decide : 1 + 0 ≤ _), (by decide : 3 + 0 ≤ _)⟩)
      dsimp only [Pt.U, Pt.locs, Pt.cells, Pt.slots] at X43 l43 y43 z43 st43 hQ43
      subst l43 y43 z43
      obtain ⟨Nq43, rfl, eh43⟩ := hQ43
      have N43 := Fr.app N33 Nq43
      refine Gl.back (fun _ k => st43 _ k) ?_
      show Gl _ _ _ _ _ _ _ (T43.setTop (mkF m 108 #[.val (.long x0), .second, .val (.long x1), .second, .val (.long x2), .second, .val (.int x3), .val (.long r29), .second, .val (.long r30), .second, .val (.ref b31), .val (.ref w_WARN), .val (.int (1 : Int32)), .val (.int (1 : Int32)), .unset, .unset] [(.int (1 : Int32))]))
      refine Gl.back (fun _ k => XS.istore X43.here hx rfl (hb hby at_108) rfl (l' := #[.val (.long x0), .second, .val (.long x1), .second, .val (.long x2), .second, .val (.int x3), .val (.long r29), .second, .val (.long r30), .second, .val (.ref b31), .val (.ref w_WARN), .val (.int (1 : Int32)), .val (.int (1 : Int32)), .val (.int (1 : Int32)), .unset]) rfl k) ?_
      show Gl _ _ _ _ _ _ _ (T43.setTop (mkF m 110 #[.val (.long x0), .second, .val (.long x1), .second, .val (.long x2), .second, .val (.int x3), .val (.long r29), .second, .val (.long r30), .second, .val (.ref b31), .val (.ref w_WARN), .val (.int (1 : Int32)), .val (.int (1 : Int32)), .val (.int (1 : Int32)), .unset] []))
      refine Gl.back (fun _ k => XS.iload X43.here hx rfl (hb hby at_110) rfl k) ?_
      show Gl _ _ _ _ _ _ _ (T43.setTop (mkF m 112 #[.val (.long x0), .second, .val (.long x1), .second, .val (.long x2), .second, .val (.int x3), .val (.long r29), .second, .val (.long r30), .second, .val (.ref b31), .val (.ref w_WARN), .val (.int (1 : Int32)), .val (.int (1 : Int32)), .val (.int (1 : Int32)), .unset] [(.int (1 : Int32))]))
      refine Gl.back (fun _ k => XS.iconst X43.here hx rfl (hb hby at_112) k) ?_
      show Gl _ _ _ _ _ _ _ (T43.setTop (mkF m 113 #[.val (.long x0), .second, .val (.long x1), .second, .val (.long x2), .second, .val (.int x3), .val (.long r29), .second, .val (.long r30), .second, .val (.ref b31), .val (.ref w_WARN), .val (.int (1 : Int32)), .val (.int (1 : Int32)), .val (.int (1 : Int32)), .unset] [(.int (2 : Int32)), (.int (1 : Int32))]))
      refine Gl.back (fun _ k => XS.icmpYes X43.here hx rfl (pc0 := 113) (pc' := 124) rfl (hb hby at_113) rfl (feq (by decide : ¬ (1 : Int32) = (2 : Int32))).2 (by decide) (by decide) k) ?_
      show Gl _ _ _ _ _ _ _ (T43.setTop (mkF m 124 #[.val (.long x0), .second, .val (.long x1), .second, .val (.long x2), .second, .val (.int x3), .val (.long r29), .second, .val (.long r30), .second, .val (.ref b31), .val (.ref w_WARN), .val (.int (1 : Int32)), .val (.int (1 : Int32)), .val (.int (1 : Int32)), .unset] []))
      refine Gl.back (fun _ k => XS.iload X43.here hx rfl (hb hby at_124) rfl k) ?_
      show Gl _ _ _ _ _ _ _ (T43.setTop (mkF m 126 #[.val (.long x0), .second, .val (.long x1), .second, .val (.long x2), .second, .val (.int x3), .val (.long r29), .second, .val (.long r30), .second, .val (.ref b31), .val (.ref w_WARN), .val (.int (1 : Int32)), .val (.int (1 : Int32)), .val (.int (1 : Int32)), .unset] [(.int (1 : Int32))]))
      refine Gl.back (fun _ k => XS.iconst X43.here hx rfl (hb hby at_126) k) ?_
      show Gl _ _ _ _ _ _ _ (T43.setTop (mkF m 127 #[.val (.long x0), .second, .val (.long x1), .second, .val (.long x2), .second, .val (.int x3), .val (.long r29), .second, .val (.long r30), .second, .val (.ref b31), .val (.ref w_WARN), .val (.int (1 : Int32)), .val (.int (1 : Int32)), .val (.int (1 : Int32)), .unset] [(.int (1 : Int32)), (.int (1 : Int32))]))
      refine Gl.back (fun _ k => XS.icmpNo X43.here hx rfl (hb hby at_127) rfl (teq (by decide : (1 : Int32) = (1 : Int32))).2 k) ?_
      show Gl _ _ _ _ _ _ _ (T43.setTop (mkF m 130 #[.val (.long x0), .second, .val (.long x1), .second, .val (.long x2), .second, .val (.int x3), .val (.long r29), .second, .val (.long r30), .second, .val (.ref b31), .val (.ref w_WARN), .val (.int (1 : Int32)), .val (.int (1 : Int32)), .val (.int (1 : Int32)), .unset] []))
      obtain ⟨T44, X44, e44, st44⟩ := getS2 X43 hx hZ hown (host := "") (Or.inl (hw _ (List.mem_of_getElem? (i := 57) rfl))) Via.refl eh43 (S_WARN.ext Oc32.2) (g := (mkF m 130 #[.val (.long x0), .second, .val (.long x1), .second, .val (.long x2), .second, .val (.int x3), .val (.long r29), .second, .val (.long r30), .second, .val (.ref b31), .val (.ref w_WARN), .val (.int (1 : Int32)), .val (.int (1 : Int32)), .val (.int (1 : Int32)), .unset] [])) rfl (hb hby at_130)
      refine Gl.back (fun _ k => st44 _ k) ?_
      show Gl _ _ _ _ _ _ _ (T44.setTop (mkF m 133 #[.val (.long x0), .second, .val (.long x1), .second, .val (.long x2), .second, .val (.int x3), .val (.long r29), .second, .val (.long r30), .second, .val (.ref b31), .val (.ref w_WARN), .val (.int (1 : Int32)), .val (.int (1 : Int32)), .val (.int (1 : Int32)), .unset] [(.ref w_WARN)]))
      refine Gl.back (fun _ k => XS.astore X44.here hx rfl (hb hby at_133) rfl rfl (l' := #[.val (.long x0), .second, .val (.long x1), .second, .val (.long x2), .second, .val (.int x3), .val (.long r29), .second, .val (.long r30), .second, .val (.ref b31), .val (.ref w_WARN), .val (.int (1 : Int32)), .val (.int (1 : Int32)), .val (.int (1 : Int32)), .val (.ref w_WARN)]) rfl k) ?_
      show Gl _ _ _ _ _ _ _ (T44.setTop (mkF m 135 #[.val (.long x0), .second, .val (.long x1), .second, .val (.long x2), .second, .val (.int x3), .val (.long r29), .second, .val (.long r30), .second, .val (.ref b31), .val (.ref w_WARN), .val (.int (1 : Int32)), .val (.int (1 : Int32)), .val (.int (1 : Int32)), .val (.ref w_WARN)] []))
      refine Gl.back (fun _ k => XS.goto X44.here hx rfl (pc0 := 135) (pc' := 143) rfl (hb hby at_135) (by decide) (by decide) k) ?_
      show Gl _ _ _ _ _ _ _ (T44.setTop (mkF m 143 #[.val (.long x0), .second, .val (.long x1), .second, .val (.long x2), .second, .val (.int x3), .val (.long r29), .second, .val (.long r30), .second, .val (.ref b31), .val (.ref w_WARN), .val (.int (1 : Int32)), .val (.int (1 : Int32)), .val (.int (1 : Int32)), .val (.ref w_WARN)] []))
      refine Gl.back (fun _ k => XS.aload X44.here hx rfl (hb hby at_143) rfl rfl k) ?_
      show Gl _ _ _ _ _ _ _ (T44.setTop (mkF m 145 #[.val (.long x0), .second, .val (.long x1), .second, .val (.long x2), .second, .val (.int x3), .val (.long r29), .second, .val (.long r30), .second, .val (.ref b31), .val (.ref w_WARN), .val (.int (1 : Int32)), .val (.int (1 : Int32)), .val (.int (1 : Int32)), .val (.ref w_WARN)] [(.ref w_WARN)]))
      refine Gl.back (fun _ k => XS.aload X44.here hx rfl (hb hby at_145) rfl rfl k) ?_
      show Gl _ _ _ _ _ _ _ (T44.setTop (mkF m 147 #[.val (.long x0), .second, .val (.long x1), .second, .val (.long x2), .second, .val (.int x3), .val (.long r29), .second, .val (.long r30), .second, .val (.ref b31), .val (.ref w_WARN), .val (.int (1 : Int32)), .val (.int (1 : Int32)), .val (.int (1 : Int32)), .val (.ref w_WARN)] [(.ref w_WARN), (.ref w_WARN)]))
      refine Gl.back (fun _ k => Jvm.RoadKit.acmp (g := (mkF m 147 #[.val (.long x0), .second, .val (.long x1), .second, .val (.long x2), .second, .val (.int x3), .val (.long r29), .second, .val (.long r30), .second, .val (.ref b31), .val (.ref w_WARN), .val (.int (1 : Int32)), .val (.int (1 : Int32)), .val (.int (1 : Int32)), .val (.ref w_WARN)] [(.ref w_WARN), (.ref w_WARN)])) X44 hx rfl rfl rfl (pc0 := 147) (pc' := 150) (same := true) rfl (hb hby at_147) rfl (decide_eq_true rfl) (by decide) (by decide) k) ?_
      show Gl _ _ _ _ _ _ _ (T44.setTop (mkF m 150 #[.val (.long x0), .second, .val (.long x1), .second, .val (.long x2), .second, .val (.int x3), .val (.long r29), .second, .val (.long r30), .second, .val (.ref b31), .val (.ref w_WARN), .val (.int (1 : Int32)), .val (.int (1 : Int32)), .val (.int (1 : Int32)), .val (.ref w_WARN)] []))
      refine Gl.back (fun _ k => XS.iconst X44.here hx rfl (hb hby at_150) k) ?_
      show Gl _ _ _ _ _ _ _ (T44.setTop (mkF m 151 #[.val (.long x0), .second, .val (.long x1), .second, .val (.long x2), .second, .val (.int x3), .val (.long r29), .second, .val (.long r30), .second, .val (.ref b31), .val (.ref w_WARN), .val (.int (1 : Int32)), .val (.int (1 : Int32)), .val (.int (1 : Int32)), .val (.ref w_WARN)] [(.int (1 : Int32))]))
      refine Gl.back (fun _ k => XS.goto X44.here hx rfl (pc0 := 151) (pc' := 155) rfl (hb hby at_151) (by decide) (by decide) k) ?_
      show Gl _ _ _ _ _ _ _ (T44.setTop (mkF m 155 #[.val (.long x0), .second, .val (.long x1), .second, .val (.long x2), .second, .val (.int x3), .val (.long r29), .second, .val (.long r30), .second, .val (.ref b31), .val (.ref w_WARN), .val (.int (1 : Int32)), .val (.int (1 : Int32)), .val (.int (1 : Int32)), .val (.ref w_WARN)] [(.int (1 : Int32))]))
      exact Gl.ret X44 e44 (v := (some (.int (1 : Int32)))) (fun h => by rw [Bd.returns] at h; cases h) Bd.notSynchronized (fun fs hr => retN X44 hx (t := .boolean) (z := (1 : Int32)) Bd.returns (by simp) (hb hby at_155) hr) ⟨N43, rfl⟩ (by decide) (by decide)
  · have N33 := Fr.app N32 Nq33
    refine Gl.back (fun _ k => st33 _ k) ?_
    show Gl _ _ _ _ _ _ _ (T33.setTop (mkF m 54 #[.val (.long x0), .second, .val (.long x1), .second, .val (.long x2), .second, .val (.int x3), .val (.long r29), .second, .val (.long r30), .second, .val (.ref b31), .unset, .unset, .unset, .unset, .unset] [(.ref w_WARN)]))
    refine Gl.back (fun _ k => XS.astore X33.here hx rfl (hb hby at_54) rfl rfl (l' := #[.val (.long x0), .second, .val (.long x1), .second, .val (.long x2), .second, .val (.int x3), .val (.long r29), .second, .val (.long r30), .second, .val (.ref b31), .val (.ref w_WARN), .unset, .unset, .unset, .unset]) rfl k) ?_
    show Gl _ _ _ _ _ _ _ (T33.setTop (mkF m 56 #[.val (.long x0), .second, .val (.long x1), .second, .val (.long x2), .second, .val (.int x3), .val (.long r29), .second, .val (.long r30), .second, .val (.ref b31), .val (.ref w_WARN), .unset, .unset, .unset, .unset] []))
    refine Gl.back (fun _ k => XS.iconst X33.here hx rfl (hb hby at_56) k) ?_
    show Gl _ _ _ _ _ _ _ (T33.setTop (mkF m 57 #[.val (.long x0), .second, .val (.long x1), .second, .val (.long x2), .second, .val (.int x3), .val (.long r29), .second, .val (.long r30), .second, .val (.ref b31), .val (.ref w_WARN), .unset, .unset, .unset, .unset] [(.int (0 : Int32))]))
    refine Gl.back (fun _ k => XS.istore X33.here hx rfl (hb hby at_57) rfl (l' := #[.val (.long x0), .second, .val (.long x1), .second, .val (.long x2), .second, .val (.int x3), .val (.long r29), .second, .val (.long r30), .second, .val (.ref b31), .val (.ref w_WARN), .val (.int (0 : Int32)), .unset, .unset, .unset]) rfl k) ?_
    show Gl _ _ _ _ _ _ _ (T33.setTop (mkF m 59 #[.val (.long x0), .second, .val (.long x1), .second, .val (.long x2), .second, .val (.int x3), .val (.long r29), .second, .val (.long r30), .second, .val (.ref b31), .val (.ref w_WARN), .val (.int (0 : Int32)), .unset, .unset, .unset] []))
    refine Gl.back (fun _ k => XS.lload X33.here hx rfl (hb hby at_59) rfl k) ?_
    show Gl _ _ _ _ _ _ _ (T33.setTop (mkF m 61 #[.val (.long x0), .second, .val (.long x1), .second, .val (.long x2), .second, .val (.int x3), .val (.long r29), .second, .val (.long r30), .second, .val (.ref b31), .val (.ref w_WARN), .val (.int (0 : Int32)), .unset, .unset, .unset] [(.long r29)]))
    refine Gl.back (fun _ k => X33.ldc2Long hx hown (mvT hZ (hw _ (List.mem_of_getElem? (i := 40) rfl))) (g := (mkF m 61 #[.val (.long x0), .second, .val (.long x1), .second, .val (.long x2), .second, .val (.int x3), .val (.long r29), .second, .val (.long r30), .second, .val (.ref b31), .val (.ref w_WARN), .val (.int (0 : Int32)), .unset, .unset, .unset] [(.long r29)])) rfl (hb hby at_61) _ k) ?_
    show Gl _ _ _ _ _ _ _ (T33.setTop (mkF m 64 #[.val (.long x0), .second, .val (.long x1), .second, .val (.long x2), .second, .val (.int x3), .val (.long r29), .second, .val (.long r30), .second, .val (.ref b31), .val (.ref w_WARN), .val (.int (0 : Int32)), .unset, .unset, .unset] [(.long (2000000001 : Int64)), (.long r29)]))
    refine Gl.back (fun _ k => XS.lcmp X33.here hx rfl (hb hby at_64) rfl k) ?_
    show Gl _ _ _ _ _ _ _ (T33.setTop (mkF m 65 #[.val (.long x0), .second, .val (.long x1), .second, .val (.long x2), .second, .val (.int x3), .val (.long r29), .second, .val (.long r30), .second, .val (.ref b31), .val (.ref w_WARN), .val (.int (0 : Int32)), .unset, .unset, .unset] [(.int (lcmpW r29 (2000000001 : Int64)))]))
    refine Gl.back (fun _ k => XS.ifYes X33.here hx rfl (pc0 := 65) (pc' := 74) rfl (hb hby at_65) rfl ((if0 _ _).trans (tlt (own_lcL (own_c1n hA33 : r29 < (2000000001 : Int64)))).1) (by decide) (by decide) k) ?_
    show Gl _ _ _ _ _ _ _ (T33.setTop (mkF m 74 #[.val (.long x0), .second, .val (.long x1), .second, .val (.long x2), .second, .val (.int x3), .val (.long r29), .second, .val (.long r30), .second, .val (.ref b31), .val (.ref w_WARN), .val (.int (0 : Int32)), .unset, .unset, .unset] []))
    refine Gl.back (fun _ k => XS.lload X33.here hx rfl (hb hby at_74) rfl k) ?_
    show Gl _ _ _ _ _ _ _ (T33.setTop (mkF m 76 #[.val (.long x0), .second, .val (.long x1), .second, .val (.long x2), .second, .val (.int x3), .val (.long r29), .second, .val (.long r30), .second, .val (.ref b31), .val (.ref w_WARN), .val (.int (0 : Int32)), .unset, .unset, .unset] [(.long r29)]))
    refine Gl.back (fun _ k => X33.ldc2Long hx hown (mvT hZ (hw _ (List.mem_of_getElem? (i := 56) rfl))) (g := (mkF m 76 #[.val (.long x0), .second, .val (.long x1), .second, .val (.long x2), .second, .val (.int x3), .val (.long r29), .second, .val (.long r30), .second, .val (.ref b31), .val (.ref w_WARN), .val (.int (0 : Int32)), .unset, .unset, .unset] [(.long r29)])) rfl (hb hby at_76) _ k) ?_
    show Gl _ _ _ _ _ _ _ (T33.setTop (mkF m 79 #[.val (.long x0), .second, .val (.long x1), .second, .val (.long x2), .second, .val (.int x3), .val (.long r29), .second, .val (.long r30), .second, .val (.ref b31), .val (.ref w_WARN), .val (.int (0 : Int32)), .unset, .unset, .unset] [(.long (1000001 : Int64)), (.long r29)]))
    refine Gl.back (fun _ k => XS.lcmp X33.here hx rfl (hb hby at_79) rfl k) ?_
    show Gl _ _ _ _ _ _ _ (T33.setTop (mkF m 80 #[.val (.long x0), .second, .val (.long x1), .second, .val (.long x2), .second, .val (.int x3), .val (.long r29), .second, .val (.long r30), .second, .val (.ref b31), .val (.ref w_WARN), .val (.int (0 : Int32)), .unset, .unset, .unset] [(.int (lcmpW r29 (1000001 : Int64)))]))
    refine Gl.back (fun _ k => XS.ifYes X33.here hx rfl (pc0 := 80) (pc' := 86) rfl (hb hby at_80) rfl ((if0 _ _).trans (tlt (own_lcL (own_c2n hB33 : r29 < (1000001 : Int64)))).1) (by decide) (by decide) k) ?_
    show Gl _ _ _ _ _ _ _ (T33.setTop (mkF m 86 #[.val (.long x0), .second, .val (.long x1), .second, .val (.long x2), .second, .val (.int x3), .val (.long r29), .second, .val (.long r30), .second, .val (.ref b31), .val (.ref w_WARN), .val (.int (0 : Int32)), .unset, .unset, .unset] []))
    refine Gl.back (fun _ k => XS.iconst X33.here hx rfl (hb hby at_86) k) ?_
    show Gl _ _ _ _ _ _ _ (T33.setTop (mkF m 87 #[.val (.long x0), .second, .val (.long x1), .second, .val (.long x2), .second, .val (.int x3), .val (.long r29), .second, .val (.long r30), .second, .val (.ref b31), .val (.ref w_WARN), .val (.int (0 : Int32)), .unset, .unset, .unset] [(.int (0 : Int32))]))
    refine Gl.back (fun _ k => XS.istore X33.here hx rfl (hb hby at_87) rfl (l' := #[.val (.long x0), .second, .val (.long x1), .second, .val (.long x2), .second, .val (.int x3), .val (.long r29), .second, .val (.long r30), .second, .val (.ref b31), .val (.ref w_WARN), .val (.int (0 : Int32)), .val (.int (0 : Int32)), .unset, .unset]) rfl k) ?_
    show Gl _ _ _ _ _ _ _ (T33.setTop (mkF m 89 #[.val (.long x0), .second, .val (.long x1), .second, .val (.long x2), .second, .val (.int x3), .val (.long r29), .second, .val (.long r30), .second, .val (.ref b31), .val (.ref w_WARN), .val (.int (0 : Int32)), .val (.int (0 : Int32)), .unset, .unset] []))
    refine Gl.back (fun _ k => XS.lload X33.here hx rfl (hb hby at_89) rfl k) ?_
    show Gl _ _ _ _ _ _ _ (T33.setTop (mkF m 91 #[.val (.long x0), .second, .val (.long x1), .second, .val (.long x2), .second, .val (.int x3), .val (.long r29), .second, .val (.long r30), .second, .val (.ref b31), .val (.ref w_WARN), .val (.int (0 : Int32)), .val (.int (0 : Int32)), .unset, .unset] [(.long r30)]))
    refine Gl.back (fun _ k => X33.ldc2Long hx hown (mvT hZ (hw _ (List.mem_of_getElem? (i := 41) rfl))) (g := (mkF m 91 #[.val (.long x0), .second, .val (.long x1), .second, .val (.long x2), .second, .val (.int x3), .val (.long r29), .second, .val (.long r30), .second, .val (.ref b31), .val (.ref w_WARN), .val (.int (0 : Int32)), .val (.int (0 : Int32)), .unset, .unset] [(.long r30)])) rfl (hb hby at_91) _ k) ?_
    show Gl _ _ _ _ _ _ _ (T33.setTop (mkF m 94 #[.val (.long x0), .second, .val (.long x1), .second, .val (.long x2), .second, .val (.int x3), .val (.long r29), .second, .val (.long r30), .second, .val (.ref b31), .val (.ref w_WARN), .val (.int (0 : Int32)), .val (.int (0 : Int32)), .unset, .unset] [(.long (104857601 : Int64)), (.long r30)]))
    refine Gl.back (fun _ k => XS.lcmp X33.here hx rfl (hb hby at_94) rfl k) ?_
    show Gl _ _ _ _ _ _ _ (T33.setTop (mkF m 95 #[.val (.long x0), .second, .val (.long x1), .second, .val (.long x2), .second, .val (.int x3), .val (.long r29), .second, .val (.long r30), .second, .val (.ref b31), .val (.ref w_WARN), .val (.int (0 : Int32)), .val (.int (0 : Int32)), .unset, .unset] [(.int (lcmpW r30 (104857601 : Int64)))]))
    refine Gl.back (fun _ k => XS.ifNo X33.here hx rfl (hb hby at_95) rfl ((if0 _ _).trans (flt (own_lcLn (own_c3 hC33 : ¬ r30 < (104857601 : Int64)))).1) k) ?_
    show Gl _ _ _ _ _ _ _ (T33.setTop (mkF m 98 #[.val (.long x0), .second, .val (.long x1), .second, .val (.long x2), .second, .val (.int x3), .val (.long r29), .second, .val (.long r30), .second, .val (.ref b31), .val (.ref w_WARN), .val (.int (0 : Int32)), .val (.int (0 : Int32)), .unset, .unset] []))
    refine Gl.back (fun _ k => XS.iconst X33.here hx rfl (hb hby at_98) k) ?_
    show Gl _ _ _ _ _ _ _ (T33.setTop (mkF m 99 #[.val (.long x0), .second, .val (.long x1), .second, .val (.long x2), .second, .val (.int x3), .val (.long r29), .second, .val (.long r30), .second, .val (.ref b31), .val (.ref w_WARN), .val (.int (0 : Int32)), .val (.int (0 : Int32)), .unset, .unset] [(.int (1 : Int32))]))
    refine Gl.back (fun _ k => XS.istore X33.here hx rfl (hb hby at_99) rfl (l' := #[.val (.long x0), .second, .val (.long x1), .second, .val (.long x2), .second, .val (.int x3), .val (.long r29), .second, .val (.long r30), .second, .val (.ref b31), .val (.ref w_WARN), .val (.int (0 : Int32)), .val (.int (1 : Int32)), .unset, .unset]) rfl k) ?_
    show Gl _ _ _ _ _ _ _ (T33.setTop (mkF m 101 #[.val (.long x0), .second, .val (.long x1), .second, .val (.long x2), .second, .val (.int x3), .val (.long r29), .second, .val (.long r30), .second, .val (.ref b31), .val (.ref w_WARN), .val (.int (0 : Int32)), .val (.int (1 : Int32)), .unset, .unset] []))
    refine Gl.back (fun _ k => XS.iload X33.here hx rfl (hb hby at_101) rfl k) ?_
    show Gl _ _ _ _ _ _ _ (T33.setTop (mkF m 103 #[.val (.long x0), .second, .val (.long x1), .second, .val (.long x2), .second, .val (.int x3), .val (.long r29), .second, .val (.long r30), .second, .val (.ref b31), .val (.ref w_WARN), .val (.int (0 : Int32)), .val (.int (1 : Int32)), .unset, .unset] [(.int (0 : Int32))]))
    refine Gl.back (fun _ k => XS.iload X33.here hx rfl (hb hby at_103) rfl k) ?_
    show Gl _ _ _ _ _ _ _ (T33.setTop (mkF m 105 #[.val (.long x0), .second, .val (.long x1), .second, .val (.long x2), .second, .val (.int x3), .val (.long r29), .second, .val (.long r30), .second, .val (.ref b31), .val (.ref w_WARN), .val (.int (0 : Int32)), .val (.int (1 : Int32)), .unset, .unset] [(.int (1 : Int32)), (.int (0 : Int32))]))
    obtain ⟨_, _, ⟨T45, L45, k45, n45⟩, -, X45, ⟨Lc45, hQ45, l45, y45, z45⟩, st45⟩ := Jvm.LawKit.callS X33 hx (y := (⟨"java/lang/Math", "max", "(II)I"⟩ : MethodName)) hown (mvT hZ (hw _ (List.mem_of_getElem? (i := 42) rfl))) (mvT hZ (hw _ (List.mem_of_getElem? (i := 43) rfl))) (mvT hZ (hw _ (List.mem_of_getElem? (i := 44) rfl))) (mvT hZ (hw _ (List.mem_of_getElem? (i := 45) rfl))) (by decide) (backOf (W := 0) (rm7_01 l Z a0 hw []   T32.heap n0 Zc32 ) hZ (hw _ (List.mem_of_getElem? (i := 45) rfl)) (hw _ (List.mem_of_getElem? (i := 44) rfl)) (by decide) (by decide)) (g := (mkF m 105 #[.val (.long x0), .second, .val (.long x1), .second, .val (.long x2), .second, .val (.int x3), .val (.long r29), .second, .val (.long r30), .second, .val (.ref b31), .val (.ref w_WARN), .val (.int (0 : Int32)), .val (.int (1 : Int32)), .unset, .unset] [(.int (1 : Int32)), (.int (0 : Int32))])) rfl (by rw [hml]; rfl) (argsL := [(.int (0 : Int32)), (.int (1 : Int32))]) (rest := []) (lenOf pd__II_I rfl) rfl (by show 2 * 0 + _ ≤ _; exact Nat.le_of_eq rfl) (hb hby at_105) (fun _ _ => ⟨rfl, eh33, (by decide : 1 + 0 ≤ _), (by decide : 3 + 0 ≤ _)⟩)
    dsimp only [Pt.U, Pt.locs, Pt.cells, Pt.slots] at X45 l45 y45 z45 st45 hQ45
    subst l45 y45 z45
    obtain ⟨Nq45, rfl, eh45⟩ := hQ45
    have N45 := Fr.app N33 Nq45
    refine Gl.back (fun _ k => st45 _ k) ?_
    show Gl _ _ _ _ _ _ _ (T45.setTop (mkF m 108 #[.val (.long x0), .second, .val (.long x1), .second, .val (.long x2), .second, .val (.int x3), .val (.long r29), .second, .val (.long r30), .second, .val (.ref b31), .val (.ref w_WARN), .val (.int (0 : Int32)), .val (.int (1 : Int32)), .unset, .unset] [(.int (1 : Int32))]))
    refine Gl.back (fun _ k => XS.istore X45.here hx rfl (hb hby at_108) rfl (l' := #[.val (.long x0), .second, .val (.long x1), .second, .val (.long x2), .second, .val (.int x3), .val (.long r29), .second, .val (.long r30), .second, .val (.ref b31), .val (.ref w_WARN), .val (.int (0 : Int32)), .val (.int (1 : Int32)), .val (.int (1 : Int32)), .unset]) rfl k) ?_
    show Gl _ _ _ _ _ _ _ (T45.setTop (mkF m 110 #[.val (.long x0), .second, .val (.long x1), .second, .val (.long x2), .second, .val (.int x3), .val (.long r29), .second, .val (.long r30), .second, .val (.ref b31), .val (.ref w_WARN), .val (.int (0 : Int32)), .val (.int (1 : Int32)), .val (.int (1 : Int32)), .unset] []))
    refine Gl.back (fun _ k => XS.iload X45.here hx rfl (hb hby at_110) rfl k) ?_
    show Gl _ _ _ _ _ _ _ (T45.setTop (mkF m 112 #[.val (.long x0), .second, .val (.long x1), .second, .val (.long x2), .second, .val (.int x3), .val (.long r29), .second, .val (.long r30), .second, .val (.ref b31), .val (.ref w_WARN), .val (.int (0 : Int32)), .val (.int (1 : Int32)), .val (.int (1 : Int32)), .unset] [(.int (1 : Int32))]))
    refine Gl.back (fun _ k => XS.iconst X45.here hx rfl (hb hby at_112) k) ?_
    show Gl _ _ _ _ _ _ _ (T45.setTop (mkF m 113 #[.val (.long x0), .second, .val (.long x1), .second, .val (.long x2), .second, .val (.int x3), .val (.long r29), .second, .val (.long r30), .second, .val (.ref b31), .val (.ref w_WARN), .val (.int (0 : Int32)), .val (.int (1 : Int32)), .val (.int (1 : Int32)), .unset] [(.int (2 : Int32)), (.int (1 : Int32))]))
    refine Gl.back (fun _ k => XS.icmpYes X45.here hx rfl (pc0 := 113) (pc' := 124) rfl (hb hby at_113) rfl (feq (by decide : ¬ (1 : Int32) = (2 : Int32))).2 (by decide) (by decide) k) ?_
    show Gl _ _ _ _ _ _ _ (T45.setTop (mkF m 124 #[.val (.long x0), .second, .val (.long x1), .second, .val (.long x2), .second, .val (.int x3), .val (.long r29), .second, .val (.long r30), .second, .val (.ref b31), .val (.ref w_WARN), .val (.int (0 : Int32)), .val (.int (1 : Int32)), .val (.int (1 : Int32)), .unset] []))
    refine Gl.back (fun _ k => XS.iload X45.here hx rfl (hb hby at_124) rfl k) ?_
    show Gl _ _ _ _ _ _ _ (T45.setTop (mkF m 126 #[.val (.long x0), .second, .val (.long x1), .second, .val (.long x2), .second, .val (.int x3), .val (.long r29), .second, .val (.long r30), .second, .val (.ref b31), .val (.ref w_WARN), .val (.int (0 : Int32)), .val (.int (1 : Int32)), .val (.int (1 : Int32)), .unset] [(.int (1 : Int32))]))
    refine Gl.back (fun _ k => XS.iconst X45.here hx rfl (hb hby at_126) k) ?_
    show Gl _ _ _ _ _ _ _ (T45.setTop (mkF m 127 #[.val (.long x0), .second, .val (.long x1), .second, .val (.long x2), .second, .val (.int x3), .val (.long r29), .second, .val (.long r30), .second, .val (.ref b31), .val (.ref w_WARN), .val (.int (0 : Int32)), .val (.int (1 : Int32)), .val (.int (1 : Int32)), .unset] [(.int (1 : Int32)), (.int (1 : Int32))]))
    refine Gl.back (fun _ k => XS.icmpNo X45.here hx rfl (hb hby at_127) rfl (teq (by decide : (1 : Int32) = (1 : Int32))).2 k) ?_
    show Gl _ _ _ _ _ _ _ (T45.setTop (mkF m 130 #[.val (.long x0), .second, .val (.long x1), .second, .val (.long x2), .second, .val (.int x3), .val (.long r29), .second, .val (.long r30), .second, .val (.ref b31), .val (.ref w_WARN), .val (.int (0 : Int32)), .val (.int (1 : Int32)), .val (.int (1 : Int32)), .unset] []))
    obtain ⟨T46, X46, e46, st46⟩ := getS2 X45 hx hZ hown (host := "") (Or.inl (hw _ (List.mem_of_getElem? (i := 57) rfl))) Via.refl eh45 (S_WARN.ext Oc32.2) (g := (mkF m 130 #[.val (.long x0), .second, .val (.long x1), .second, .val (.long x2), .second, .val (.int x3), .val (.long r29), .second, .val (.long r30), .second, .val (.ref b31), .val (.ref w_WARN), .val (.int (0 : Int32)), .val (.int (1 : Int32)), .val (.int (1 : Int32)), .unset] [])) rfl (hb hby at_130)
    refine Gl.back (fun _ k => st46 _ k) ?_
    show Gl _ _ _ _ _ _ _ (T46.setTop (mkF m 133 #[.val (.long x0), .second, .val (.long x1), .second, .val (.long x2), .second, .val (.int x3), .val (.long r29), .second, .val (.long r30), .second, .val (.ref b31), .val (.ref w_WARN), .val (.int (0 : Int32)), .val (.int (1 : Int32)), .val (.int (1 : Int32)), .unset] [(.ref w_WARN)]))
    refine Gl.back (fun _ k => XS.astore X46.here hx rfl (hb hby at_133) rfl rfl (l' := #[.val (.long x0), .second, .val (.long x1), .second, .val (.long x2), .second, .val (.int x3), .val (.long r29), .second, .val (.long r30), .second, .val (.ref b31), .val (.ref w_WARN), .val (.int (0 : Int32)), .val (.int (1 : Int32)), .val (.int (1 : Int32)), .val (.ref w_WARN)]) rfl k) ?_
    show Gl _ _ _ _ _ _ _ (T46.setTop (mkF m 135 #[.val (.long x0), .second, .val (.long x1), .second, .val (.long x2), .second, .val (.int x3), .val (.long r29), .second, .val (.long r30), .second, .val (.ref b31), .val (.ref w_WARN), .val (.int (0 : Int32)), .val (.int (1 : Int32)), .val (.int (1 : Int32)), .val (.ref w_WARN)] []))
    refine Gl.back (fun _ k => XS.goto X46.here hx rfl (pc0 := 135) (pc' := 143) rfl (hb hby at_135) (by decide) (by decide) k) ?_
    show Gl _ _ _ _ _ _ _ (T46.setTop (mkF m 143 #[.val (.long x0), .second, .val (.long x1), .second, .val (.long x2), .second, .val (.int x3), .val (.long r29), .second, .val (.long r30), .second, .val (.ref b31), .val (.ref w_WARN), .val (.int (0 : Int32)), .val (.int (1 : Int32)), .val (.int (1 : Int32)), .val (.ref w_WARN)] []))
    refine Gl.back (fun _ k => XS.aload X46.here hx rfl (hb hby at_143) rfl rfl k) ?_
    show Gl _ _ _ _ _ _ _ (T46.setTop (mkF m 145 #[.val (.long x0), .second, .val (.long x1), .second, .val (.long x2), .second, .val (.int x3), .val (.long r29), .second, .val (.long r30), .second, .val (.ref b31), .val (.ref w_WARN), .val (.int (0 : Int32)), .val (.int (1 : Int32)), .val (.int (1 : Int32)), .val (.ref w_WARN)] [(.ref w_WARN)]))
    refine Gl.back (fun _ k => XS.aload X46.here hx rfl (hb hby at_145) rfl rfl k) ?_
    show Gl _ _ _ _ _ _ _ (T46.setTop (mkF m 147 #[.val (.long x0), .second, .val (.long x1), .second, .val (.long x2), .second, .val (.int x3), .val (.long r29), .second, .val (.long r30), .second, .val (.ref b31), .val (.ref w_WARN), .val (.int (0 : Int32)), .val (.int (1 : Int32)), .val (.int (1 : Int32)), .val (.ref w_WARN)] [(.ref w_WARN), (.ref w_WARN)]))
    refine Gl.back (fun _ k => Jvm.RoadKit.acmp (g := (mkF m 147 #[.val (.long x0), .second, .val (.long x1), .second, .val (.long x2), .second, .val (.int x3), .val (.long r29), .second, .val (.long r30), .second, .val (.ref b31), .val (.ref w_WARN), .val (.int (0 : Int32)), .val (.int (1 : Int32)), .val (.int (1 : Int32)), .val (.ref w_WARN)] [(.ref w_WARN), (.ref w_WARN)])) X46 hx rfl rfl rfl (pc0 := 147) (pc' := 150) (same := true) rfl (hb hby at_147) rfl (decide_eq_true rfl) (by decide) (by decide) k) ?_
    show Gl _ _ _ _ _ _ _ (T46.setTop (mkF m 150 #[.val (.long x0), .second, .val (.long x1), .second, .val (.long x2), .second, .val (.int x3), .val (.long r29), .second, .val (.long r30), .second, .val (.ref b31), .val (.ref w_WARN), .val (.int (0 : Int32)), .val (.int (1 : Int32)), .val (.int (1 : Int32)), .val (.ref w_WARN)] []))
    refine Gl.back (fun _ k => XS.iconst X46.here hx rfl (hb hby at_150) k) ?_
    show Gl _ _ _ _ _ _ _ (T46.setTop (mkF m 151 #[.val (.long x0), .second, .val (.long x1), .second, .val (.long x2), .second, .val (.int x3), .val (.long r29), .second, .val (.long r30), .second, .val (.ref b31), .val (.ref w_WARN), .val (.int (0 : Int32)), .val (.int (1 : Int32)), .val (.int (1 : Int32)), .val (.ref w_WARN)] [(.int (1 : Int32))]))
    refine Gl.back (fun _ k => XS.goto X46.here hx rfl (pc0 := 151) (pc' := 155) rfl (hb hby at_151) (by decide) (by decide) k) ?_
    show Gl _ _ _ _ _ _ _ (T46.setTop (mkF m 155 #[.val (.long x0), .second, .val (.long x1), .second, .val (.long x2), .second, .val (.int x3), .val (.long r29), .second, .val (.long r30), .second, .val (.ref b31), .val (.ref w_WARN), .val (.int (0 : Int32)), .val (.int (1 : Int32)), .val (.int (1 : Int32)), .val (.ref w_WARN)] [(.int (1 : Int32))]))
    exact Gl.ret X46 e46 (v := (some (.int (1 : Int32)))) (fun h => by rw [Bd.returns] at h; cases h) Bd.notSynchronized (fun fs hr => retN X46 hx (t := .boolean) (z := (1 : Int32)) Bd.returns (by simp) (hb hby at_155) hr) ⟨N45, rfl⟩ (by decide) (by decide)
  · have N33 := Fr.app N32 Nq33
    refine Gl.back (fun _ k => st33 _ k) ?_
    show Gl _ _ _ _ _ _ _ (T33.setTop (mkF m 54 #[.val (.long x0), .second, .val (.long x1), .second, .val (.long x2), .second, .val (.int x3), .val (.long r29), .second, .val (.long r30), .second, .val (.ref b31), .unset, .unset, .unset, .unset, .unset] [(.ref w_OK)]))
    refine Gl.back (fun _ k => XS.astore X33.here hx rfl (hb hby at_54) rfl rfl (l' := #[.val (.long x0), .second, .val (.long x1), .second, .val (.long x2), .second, .val (.int x3), .val (.long r29), .second, .val (.long r30), .second, .val (.ref b31), .val (.ref w_OK), .unset, .unset, .unset, .unset]) rfl k) ?_
    show Gl _ _ _ _ _ _ _ (T33.setTop (mkF m 56 #[.val (.long x0), .second, .val (.long x1), .second, .val (.long x2), .second, .val (.int x3), .val (.long r29), .second, .val (.long r30), .second, .val (.ref b31), .val (.ref w_OK), .unset, .unset, .unset, .unset] []))
    refine Gl.back (fun _ k => XS.iconst X33.here hx rfl (hb hby at_56) k) ?_
    show Gl _ _ _ _ _ _ _ (T33.setTop (mkF m 57 #[.val (.long x0), .second, .val (.long x1), .second, .val (.long x2), .second, .val (.int x3), .val (.long r29), .second, .val (.long r30), .second, .val (.ref b31), .val (.ref w_OK), .unset, .unset, .unset, .unset] [(.int (0 : Int32))]))
    refine Gl.back (fun _ k => XS.istore X33.here hx rfl (hb hby at_57) rfl (l' := #[.val (.long x0), .second, .val (.long x1), .second, .val (.long x2), .second, .val (.int x3), .val (.long r29), .second, .val (.long r30), .second, .val (.ref b31), .val (.ref w_OK), .val (.int (0 : Int32)), .unset, .unset, .unset]) rfl k) ?_
    show Gl _ _ _ _ _ _ _ (T33.setTop (mkF m 59 #[.val (.long x0), .second, .val (.long x1), .second, .val (.long x2), .second, .val (.int x3), .val (.long r29), .second, .val (.long r30), .second, .val (.ref b31), .val (.ref w_OK), .val (.int (0 : Int32)), .unset, .unset, .unset] []))
    refine Gl.back (fun _ k => XS.lload X33.here hx rfl (hb hby at_59) rfl k) ?_
    show Gl _ _ _ _ _ _ _ (T33.setTop (mkF m 61 #[.val (.long x0), .second, .val (.long x1), .second, .val (.long x2), .second, .val (.int x3), .val (.long r29), .second, .val (.long r30), .second, .val (.ref b31), .val (.ref w_OK), .val (.int (0 : Int32)), .unset, .unset, .unset] [(.long r29)]))
    refine Gl.back (fun _ k => X33.ldc2Long hx hown (mvT hZ (hw _ (List.mem_of_getElem? (i := 40) rfl))) (g := (mkF m 61 #[.val (.long x0), .second, .val (.long x1), .second, .val (.long x2), .second, .val (.int x3), .val (.long r29), .second, .val (.long r30), .second, .val (.ref b31), .val (.ref w_OK), .val (.int (0 : Int32)), .unset, .unset, .unset] [(.long r29)])) rfl (hb hby at_61) _ k) ?_
    show Gl _ _ _ _ _ _ _ (T33.setTop (mkF m 64 #[.val (.long x0), .second, .val (.long x1), .second, .val (.long x2), .second, .val (.int x3), .val (.long r29), .second, .val (.long r30), .second, .val (.ref b31), .val (.ref w_OK), .val (.int (0 : Int32)), .unset, .unset, .unset] [(.long (2000000001 : Int64)), (.long r29)]))
    refine Gl.back (fun _ k => XS.lcmp X33.here hx rfl (hb hby at_64) rfl k) ?_
    show Gl _ _ _ _ _ _ _ (T33.setTop (mkF m 65 #[.val (.long x0), .second, .val (.long x1), .second, .val (.long x2), .second, .val (.int x3), .val (.long r29), .second, .val (.long r30), .second, .val (.ref b31), .val (.ref w_OK), .val (.int (0 : Int32)), .unset, .unset, .unset] [(.int (lcmpW r29 (2000000001 : Int64)))]))
    refine Gl.back (fun _ k => XS.ifYes X33.here hx rfl (pc0 := 65) (pc' := 74) rfl (hb hby at_65) rfl ((if0 _ _).trans (tlt (own_lcL (own_c1n hA33 : r29 < (2000000001 : Int64)))).1) (by decide) (by decide) k) ?_
    show Gl _ _ _ _ _ _ _ (T33.setTop (mkF m 74 #[.val (.long x0), .second, .val (.long x1), .second, .val (.long x2), .second, .val (.int x3), .val (.long r29), .second, .val (.long r30), .second, .val (.ref b31), .val (.ref w_OK), .val (.int (0 : Int32)), .unset, .unset, .unset] []))
    refine Gl.back (fun _ k => XS.lload X33.here hx rfl (hb hby at_74) rfl k) ?_
    show Gl _ _ _ _ _ _ _ (T33.setTop (mkF m 76 #[.val (.long x0), .second, .val (.long x1), .second, .val (.long x2), .second, .val (.int x3), .val (.long r29), .second, .val (.long r30), .second, .val (.ref b31), .val (.ref w_OK), .val (.int (0 : Int32)), .unset, .unset, .unset] [(.long r29)]))
    refine Gl.back (fun _ k => X33.ldc2Long hx hown (mvT hZ (hw _ (List.mem_of_getElem? (i := 56) rfl))) (g := (mkF m 76 #[.val (.long x0), .second, .val (.long x1), .second, .val (.long x2), .second, .val (.int x3), .val (.long r29), .second, .val (.long r30), .second, .val (.ref b31), .val (.ref w_OK), .val (.int (0 : Int32)), .unset, .unset, .unset] [(.long r29)])) rfl (hb hby at_76) _ k) ?_
    show Gl _ _ _ _ _ _ _ (T33.setTop (mkF m 79 #[.val (.long x0), .second, .val (.long x1), .second, .val (.long x2), .second, .val (.int x3), .val (.long r29), .second, .val (.long r30), .second, .val (.ref b31), .val (.ref w_OK), .val (.int (0 : Int32)), .unset, .unset, .unset] [(.long (1000001 : Int64)), (.long r29)]))
    refine Gl.back (fun _ k => XS.lcmp X33.here hx rfl (hb hby at_79) rfl k) ?_
    show Gl _ _ _ _ _ _ _ (T33.setTop (mkF m 80 #[.val (.long x0), .second, .val (.long x1), .second, .val (.long x2), .second, .val (.int x3), .val (.long r29), .second, .val (.long r30), .second, .val (.ref b31), .val (.ref w_OK), .val (.int (0 : Int32)), .unset, .unset, .unset] [(.int (lcmpW r29 (1000001 : Int64)))]))
    refine Gl.back (fun _ k => XS.ifYes X33.here hx rfl (pc0 := 80) (pc' := 86) rfl (hb hby at_80) rfl ((if0 _ _).trans (tlt (own_lcL (own_c2n hB33 : r29 < (1000001 : Int64)))).1) (by decide) (by decide) k) ?_
    show Gl _ _ _ _ _ _ _ (T33.setTop (mkF m 86 #[.val (.long x0), .second, .val (.long x1), .second, .val (.long x2), .second, .val (.int x3), .val (.long r29), .second, .val (.long r30), .second, .val (.ref b31), .val (.ref w_OK), .val (.int (0 : Int32)), .unset, .unset, .unset] []))
    refine Gl.back (fun _ k => XS.iconst X33.here hx rfl (hb hby at_86) k) ?_
    show Gl _ _ _ _ _ _ _ (T33.setTop (mkF m 87 #[.val (.long x0), .second, .val (.long x1), .second, .val (.long x2), .second, .val (.int x3), .val (.long r29), .second, .val (.long r30), .second, .val (.ref b31), .val (.ref w_OK), .val (.int (0 : Int32)), .unset, .unset, .unset] [(.int (0 : Int32))]))
    refine Gl.back (fun _ k => XS.istore X33.here hx rfl (hb hby at_87) rfl (l' := #[.val (.long x0), .second, .val (.long x1), .second, .val (.long x2), .second, .val (.int x3), .val (.long r29), .second, .val (.long r30), .second, .val (.ref b31), .val (.ref w_OK), .val (.int (0 : Int32)), .val (.int (0 : Int32)), .unset, .unset]) rfl k) ?_
    show Gl _ _ _ _ _ _ _ (T33.setTop (mkF m 89 #[.val (.long x0), .second, .val (.long x1), .second, .val (.long x2), .second, .val (.int x3), .val (.long r29), .second, .val (.long r30), .second, .val (.ref b31), .val (.ref w_OK), .val (.int (0 : Int32)), .val (.int (0 : Int32)), .unset, .unset] []))
    refine Gl.back (fun _ k => XS.lload X33.here hx rfl (hb hby at_89) rfl k) ?_
    show Gl _ _ _ _ _ _ _ (T33.setTop (mkF m 91 #[.val (.long x0), .second, .val (.long x1), .second, .val (.long x2), .second, .val (.int x3), .val (.long r29), .second, .val (.long r30), .second, .val (.ref b31), .val (.ref w_OK), .val (.int (0 : Int32)), .val (.int (0 : Int32)), .unset, .unset] [(.long r30)]))
    refine Gl.back (fun _ k => X33.ldc2Long hx hown (mvT hZ (hw _ (List.mem_of_getElem? (i := 41) rfl))) (g := (mkF m 91 #[.val (.long x0), .second, .val (.long x1), .second, .val (.long x2), .second, .val (.int x3), .val (.long r29), .second, .val (.long r30), .second, .val (.ref b31), .val (.ref w_OK), .val (.int (0 : Int32)), .val (.int (0 : Int32)), .unset, .unset] [(.long r30)])) rfl (hb hby at_91) _ k) ?_
    show Gl _ _ _ _ _ _ _ (T33.setTop (mkF m 94 #[.val (.long x0), .second, .val (.long x1), .second, .val (.long x2), .second, .val (.int x3), .val (.long r29), .second, .val (.long r30), .second, .val (.ref b31), .val (.ref w_OK), .val (.int (0 : Int32)), .val (.int (0 : Int32)), .unset, .unset] [(.long (104857601 : Int64)), (.long r30)]))
    refine Gl.back (fun _ k => XS.lcmp X33.here hx rfl (hb hby at_94) rfl k) ?_
    show Gl _ _ _ _ _ _ _ (T33.setTop (mkF m 95 #[.val (.long x0), .second, .val (.long x1), .second, .val (.long x2), .second, .val (.int x3), .val (.long r29), .second, .val (.long r30), .second, .val (.ref b31), .val (.ref w_OK), .val (.int (0 : Int32)), .val (.int (0 : Int32)), .unset, .unset] [(.int (lcmpW r30 (104857601 : Int64)))]))
    refine Gl.back (fun _ k => XS.ifYes X33.here hx rfl (pc0 := 95) (pc' := 101) rfl (hb hby at_95) rfl ((if0 _ _).trans (tlt (own_lcL (own_c3n hC33 : r30 < (104857601 : Int64)))).1) (by decide) (by decide) k) ?_
    show Gl _ _ _ _ _ _ _ (T33.setTop (mkF m 101 #[.val (.long x0), .second, .val (.long x1), .second, .val (.long x2), .second, .val (.int x3), .val (.long r29), .second, .val (.long r30), .second, .val (.ref b31), .val (.ref w_OK), .val (.int (0 : Int32)), .val (.int (0 : Int32)), .unset, .unset] []))
    refine Gl.back (fun _ k => XS.iload X33.here hx rfl (hb hby at_101) rfl k) ?_
    show Gl _ _ _ _ _ _ _ (T33.setTop (mkF m 103 #[.val (.long x0), .second, .val (.long x1), .second, .val (.long x2), .second, .val (.int x3), .val (.long r29), .second, .val (.long r30), .second, .val (.ref b31), .val (.ref w_OK), .val (.int (0 : Int32)), .val (.int (0 : Int32)), .unset, .unset] [(.int (0 : Int32))]))
    refine Gl.back (fun _ k => XS.iload X33.here hx rfl (hb hby at_103) rfl k) ?_
    show Gl _ _ _ _ _ _ _ (T33.setTop (mkF m 105 #[.val (.long x0), .second, .val (.long x1), .second, .val (.long x2), .second, .val (.int x3), .val (.long r29), .second, .val (.long r30), .second, .val (.ref b31), .val (.ref w_OK), .val (.int (0 : Int32)), .val (.int (0 : Int32)), .unset, .unset] [(.int (0 : Int32)), (.int (0 : Int32))]))
    obtain ⟨_, _, ⟨T47, L47, k47, n47⟩, -, X47, ⟨Lc47, hQ47, l47, y47, z47⟩, st47⟩ := Jvm.LawKit.callS X33 hx (y := (⟨"java/lang/Math", "max", "(II)I"⟩ : MethodName)) hown (mvT hZ (hw _ (List.mem_of_getElem? (i := 42) rfl))) (mvT hZ (hw _ (List.mem_of_getElem? (i := 43) rfl))) (mvT hZ (hw _ (List.mem_of_getElem? (i := 44) rfl))) (mvT hZ (hw _ (List.mem_of_getElem? (i := 45) rfl))) (by decide) (backOf (W := 0) (rm7_00 l Z a0 hw []   T32.heap n0 Zc32 ) hZ (hw _ (List.mem_of_getElem? (i := 45) rfl)) (hw _ (List.mem_of_getElem? (i := 44) rfl)) (by decide) (by decide)) (g := (mkF m 105 #[.val (.long x0), .second, .val (.long x1), .second, .val (.long x2), .second, .val (.int x3), .val (.long r29), .second, .val (.long r30), .second, .val (.ref b31), .val (.ref w_OK), .val (.int (0 : Int32)), .val (.int (0 : Int32)), .unset, .unset] [(.int (0 : Int32)), (.int (0 : Int32))])) rfl (by rw [hml]; rfl) (argsL := [(.int (0 : Int32)), (.int (0 : Int32))]) (rest := []) (lenOf pd__II_I rfl) rfl (by show 2 * 0 + _ ≤ _; exact Nat.le_of_eq rfl) (hb hby at_105) (fun _ _ => ⟨rfl, eh33, (by decide : 1 + 0 ≤ _), (by decide : 3 + 0 ≤ _)⟩)
    dsimp only [Pt.U, Pt.locs, Pt.cells, Pt.slots] at X47 l47 y47 z47 st47 hQ47
    subst l47 y47 z47
    obtain ⟨Nq47, rfl, eh47⟩ := hQ47
    have N47 := Fr.app N33 Nq47
    refine Gl.back (fun _ k => st47 _ k) ?_
    show Gl _ _ _ _ _ _ _ (T47.setTop (mkF m 108 #[.val (.long x0), .second, .val (.long x1), .second, .val (.long x2), .second, .val (.int x3), .val (.long r29), .second, .val (.long r30), .second, .val (.ref b31), .val (.ref w_OK), .val (.int (0 : Int32)), .val (.int (0 : Int32)), .unset, .unset] [(.int (0 : Int32))]))
    refine Gl.back (fun _ k => XS.istore X47.here hx rfl (hb hby at_108) rfl (l' := #[.val (.long x0), .second, .val (.long x1), .second, .val (.long x2), .second, .val (.int x3), .val (.long r29), .second, .val (.long r30), .second, .val (.ref b31), .val (.ref w_OK), .val (.int (0 : Int32)), .val (.int (0 : Int32)), .val (.int (0 : Int32)), .unset]) rfl k) ?_
    show Gl _ _ _ _ _ _ _ (T47.setTop (mkF m 110 #[.val (.long x0), .second, .val (.long x1), .second, .val (.long x2), .second, .val (.int x3), .val (.long r29), .second, .val (.long r30), .second, .val (.ref b31), .val (.ref w_OK), .val (.int (0 : Int32)), .val (.int (0 : Int32)), .val (.int (0 : Int32)), .unset] []))
    refine Gl.back (fun _ k => XS.iload X47.here hx rfl (hb hby at_110) rfl k) ?_
    show Gl _ _ _ _ _ _ _ (T47.setTop (mkF m 112 #[.val (.long x0), .second, .val (.long x1), .second, .val (.long x2), .second, .val (.int x3), .val (.long r29), .second, .val (.long r30), .second, .val (.ref b31), .val (.ref w_OK), .val (.int (0 : Int32)), .val (.int (0 : Int32)), .val (.int (0 : Int32)), .unset] [(.int (0 : Int32))]))
    refine Gl.back (fun _ k => XS.iconst X47.here hx rfl (hb hby at_112) k) ?_
    show Gl _ _ _ _ _ _ _ (T47.setTop (mkF m 113 #[.val (.long x0), .second, .val (.long x1), .second, .val (.long x2), .second, .val (.int x3), .val (.long r29), .second, .val (.long r30), .second, .val (.ref b31), .val (.ref w_OK), .val (.int (0 : Int32)), .val (.int (0 : Int32)), .val (.int (0 : Int32)), .unset] [(.int (2 : Int32)), (.int (0 : Int32))]))
    refine Gl.back (fun _ k => XS.icmpYes X47.here hx rfl (pc0 := 113) (pc' := 124) rfl (hb hby at_113) rfl (feq (by decide : ¬ (0 : Int32) = (2 : Int32))).2 (by decide) (by decide) k) ?_
    show Gl _ _ _ _ _ _ _ (T47.setTop (mkF m 124 #[.val (.long x0), .second, .val (.long x1), .second, .val (.long x2), .second, .val (.int x3), .val (.long r29), .second, .val (.long r30), .second, .val (.ref b31), .val (.ref w_OK), .val (.int (0 : Int32)), .val (.int (0 : Int32)), .val (.int (0 : Int32)), .unset] []))
    refine Gl.back (fun _ k => XS.iload X47.here hx rfl (hb hby at_124) rfl k) ?_
    show Gl _ _ _ _ _ _ _ (T47.setTop (mkF m 126 #[.val (.long x0), .second, .val (.long x1), .second, .val (.long x2), .second, .val (.int x3), .val (.long r29), .second, .val (.long r30), .second, .val (.ref b31), .val (.ref w_OK), .val (.int (0 : Int32)), .val (.int (0 : Int32)), .val (.int (0 : Int32)), .unset] [(.int (0 : Int32))]))
    refine Gl.back (fun _ k => XS.iconst X47.here hx rfl (hb hby at_126) k) ?_
    show Gl _ _ _ _ _ _ _ (T47.setTop (mkF m 127 #[.val (.long x0), .second, .val (.long x1), .second, .val (.long x2), .second, .val (.int x3), .val (.long r29), .second, .val (.long r30), .second, .val (.ref b31), .val (.ref w_OK), .val (.int (0 : Int32)), .val (.int (0 : Int32)), .val (.int (0 : Int32)), .unset] [(.int (1 : Int32)), (.int (0 : Int32))]))
    refine Gl.back (fun _ k => XS.icmpYes X47.here hx rfl (pc0 := 127) (pc' := 138) rfl (hb hby at_127) rfl (feq (by decide : ¬ (0 : Int32) = (1 : Int32))).2 (by decide) (by decide) k) ?_
    show Gl _ _ _ _ _ _ _ (T47.setTop (mkF m 138 #[.val (.long x0), .second, .val (.long x1), .second, .val (.long x2), .second, .val (.int x3), .val (.long r29), .second, .val (.long r30), .second, .val (.ref b31), .val (.ref w_OK), .val (.int (0 : Int32)), .val (.int (0 : Int32)), .val (.int (0 : Int32)), .unset] []))
    obtain ⟨T48, X48, e48, st48⟩ := getS2 X47 hx hZ hown (host := "") (Or.inl (hw _ (List.mem_of_getElem? (i := 60) rfl))) Via.refl eh47 (S_OK.ext Oc32.2) (g := (mkF m 138 #[.val (.long x0), .second, .val (.long x1), .second, .val (.long x2), .second, .val (.int x3), .val (.long r29), .second, .val (.long r30), .second, .val (.ref b31), .val (.ref w_OK), .val (.int (0 : Int32)), .val (.int (0 : Int32)), .val (.int (0 : Int32)), .unset] [])) rfl (hb hby at_138)
    refine Gl.back (fun _ k => st48 _ k) ?_
    show Gl _ _ _ _ _ _ _ (T48.setTop (mkF m 141 #[.val (.long x0), .second, .val (.long x1), .second, .val (.long x2), .second, .val (.int x3), .val (.long r29), .second, .val (.long r30), .second, .val (.ref b31), .val (.ref w_OK), .val (.int (0 : Int32)), .val (.int (0 : Int32)), .val (.int (0 : Int32)), .unset] [(.ref w_OK)]))
    refine Gl.back (fun _ k => XS.astore X48.here hx rfl (hb hby at_141) rfl rfl (l' := #[.val (.long x0), .second, .val (.long x1), .second, .val (.long x2), .second, .val (.int x3), .val (.long r29), .second, .val (.long r30), .second, .val (.ref b31), .val (.ref w_OK), .val (.int (0 : Int32)), .val (.int (0 : Int32)), .val (.int (0 : Int32)), .val (.ref w_OK)]) rfl k) ?_
    show Gl _ _ _ _ _ _ _ (T48.setTop (mkF m 143 #[.val (.long x0), .second, .val (.long x1), .second, .val (.long x2), .second, .val (.int x3), .val (.long r29), .second, .val (.long r30), .second, .val (.ref b31), .val (.ref w_OK), .val (.int (0 : Int32)), .val (.int (0 : Int32)), .val (.int (0 : Int32)), .val (.ref w_OK)] []))
    refine Gl.back (fun _ k => XS.aload X48.here hx rfl (hb hby at_143) rfl rfl k) ?_
    show Gl _ _ _ _ _ _ _ (T48.setTop (mkF m 145 #[.val (.long x0), .second, .val (.long x1), .second, .val (.long x2), .second, .val (.int x3), .val (.long r29), .second, .val (.long r30), .second, .val (.ref b31), .val (.ref w_OK), .val (.int (0 : Int32)), .val (.int (0 : Int32)), .val (.int (0 : Int32)), .val (.ref w_OK)] [(.ref w_OK)]))
    refine Gl.back (fun _ k => XS.aload X48.here hx rfl (hb hby at_145) rfl rfl k) ?_
    show Gl _ _ _ _ _ _ _ (T48.setTop (mkF m 147 #[.val (.long x0), .second, .val (.long x1), .second, .val (.long x2), .second, .val (.int x3), .val (.long r29), .second, .val (.long r30), .second, .val (.ref b31), .val (.ref w_OK), .val (.int (0 : Int32)), .val (.int (0 : Int32)), .val (.int (0 : Int32)), .val (.ref w_OK)] [(.ref w_OK), (.ref w_OK)]))
    refine Gl.back (fun _ k => Jvm.RoadKit.acmp (g := (mkF m 147 #[.val (.long x0), .second, .val (.long x1), .second, .val (.long x2), .second, .val (.int x3), .val (.long r29), .second, .val (.long r30), .second, .val (.ref b31), .val (.ref w_OK), .val (.int (0 : Int32)), .val (.int (0 : Int32)), .val (.int (0 : Int32)), .val (.ref w_OK)] [(.ref w_OK), (.ref w_OK)])) X48 hx rfl rfl rfl (pc0 := 147) (pc' := 150) (same := true) rfl (hb hby at_147) rfl (decide_eq_true rfl) (by decide) (by decide) k) ?_
    show Gl _ _ _ _ _ _ _ (T48.setTop (mkF m 150 #[.val (.long x0), .second, .val (.long x1), .second, .val (.long x2), .second, .val (.int x3), .val (.long r29), .second, .val (.long r30), .second, .val (.ref b31), .val (.ref w_OK), .val (.int (0 : Int32)), .val (.int (0 : Int32)), .val (.int (0 : Int32)), .val (.ref w_OK)] []))
    refine Gl.back (fun _ k => XS.iconst X48.here hx rfl (hb hby at_150) k) ?_
    show Gl _ _ _ _ _ _ _ (T48.setTop (mkF m 151 #[.val (.long x0), .second, .val (.long x1), .second, .val (.long x2), .second, .val (.int x3), .val (.long r29), .second, .val (.long r30), .second, .val (.ref b31), .val (.ref w_OK), .val (.int (0 : Int32)), .val (.int (0 : Int32)), .val (.int (0 : Int32)), .val (.ref w_OK)] [(.int (1 : Int32))]))
    refine Gl.back (fun _ k => XS.goto X48.here hx rfl (pc0 := 151) (pc' := 155) rfl (hb hby at_151) (by decide) (by decide) k) ?_
    show Gl _ _ _ _ _ _ _ (T48.setTop (mkF m 155 #[.val (.long x0), .second, .val (.long x1), .second, .val (.long x2), .second, .val (.int x3), .val (.long r29), .second, .val (.long r30), .second, .val (.ref b31), .val (.ref w_OK), .val (.int (0 : Int32)), .val (.int (0 : Int32)), .val (.int (0 : Int32)), .val (.ref w_OK)] [(.int (1 : Int32))]))
    exact Gl.ret X48 e48 (v := (some (.int (1 : Int32)))) (fun h => by rw [Bd.returns] at h; cases h) Bd.notSynchronized (fun fs hr => retN X48 hx (t := .boolean) (z := (1 : Int32)) Bd.returns (by simp) (hb hby at_155) hr) ⟨N47, rfl⟩ (by decide) (by decide)
set_option maxRecDepth 65536 in
set_option maxHeartbeats 40000000 in
theorem comes_1 {Post : Tables → Env → Array Value → State → Outcome → State → Prop} (hpost : ∀ tb e args s v u, (limb_1_1.after args s (.returned v) u = true ∧ limb_1_2.after args s (.returned v) u = true ∧ True) → FrameEnd s (.returned v) u (Jvm.fieldLocs frame_1_writes args s ++ Jvm.arrayLocs frame_1_arrays args s ++ Jvm.staticLocs frame_1_statics s) 16 128 → Post tb e args s (.returned v) u) :
    ArmFor flags0 classFile x code maxLocals ret World_1 tables_1 room_1 Calls_1 rest_1 Pre_1 Post := by
  intro l hfl _ _ p e ha hc hk s m args below hf hA hF happ hP
  obtain ⟨hcalls, hrest, hpre⟩ := hP
  obtain ⟨-, -, -, hnamed, -, -, -, hat⟩ := (Spec.applies_iff hf).mp happ
  obtain ⟨hg, hn⟩ := and_e (Cond.before_iff.mp (show (Jvm.Cond.and given_1 narrow_1).before args s = true from hpre))
  obtain ⟨gv49, gv50⟩ := and_e hg
  obtain ⟨gv51, gv52⟩ := and_e gv50
  obtain ⟨gv53, gv54⟩ := and_e gv52
  obtain ⟨gv55, gv56⟩ := and_e gv54
  obtain ⟨w0, w1, w2, w3, rfl⟩ : ∃ w0 w1 w2 w3 : Value, args = #[w0, w1, w2, w3] := by
    have hs : args.size = 4 := by simpa [Cond.value, given_1] using gv49
    obtain ⟨L⟩ := args
    match L, hs with
    | [w0, w1, w2, w3], _ => exact ⟨w0, w1, w2, w3, rfl⟩
  have hw := fun d (hd : d ∈ tables_1) => atoms_spec (ws := Jvm.Cond.code x code maxLocals ret :: tables_1) hat d (List.mem_cons_of_mem _ hd)
  have hfit : Fit s := fun {y c} hc i hi => by
    obtain ⟨ha, rfl⟩ := Array.getElem?_eq_some_iff.mp hc
    have q := List.all_eq_true.mp ((Array.all_eq_true_iff_forall_mem.mp hF) _ (Array.getElem_mem ha)) i (List.mem_range.mpr hi)
    simpa [Array.getElem?_eq_getElem hi] using q
  obtain ⟨i0, ei0⟩ := isL_v gv51
  obtain rfl : w0 = (.long i0) := Option.some.inj ei0
  obtain ⟨i1, ei1⟩ := isL_v gv53
  obtain rfl : w1 = (.long i1) := Option.some.inj ei1
  obtain ⟨i2, ei2⟩ := isL_v gv55
  obtain rfl : w2 = (.long i2) := Option.some.inj ei2
  obtain ⟨i3, ei3⟩ := is_v gv56
  obtain rfl : w3 = (.int i3) := Option.some.inj ei3
  obtain ⟨gn25, gn26⟩ := and_e hn
  obtain ⟨w_OVER, ev_OVER⟩ := exa_v gn25
  have S_OVER := Sta.start ev_OVER (Or.inr ⟨(hw _ (List.mem_of_getElem? (i := 30) rfl)), (hw _ (List.mem_of_getElem? (i := 39) rfl))⟩)
  have E_OVER := Exa.start ev_OVER gn25
  obtain ⟨gn27, gn28⟩ := and_e gn26
  obtain ⟨w_WARN, ev_WARN⟩ := exa_v gn27
  have S_WARN := Sta.start ev_WARN (Or.inr ⟨(hw _ (List.mem_of_getElem? (i := 30) rfl)), (hw _ (List.mem_of_getElem? (i := 55) rfl))⟩)
  have E_WARN := Exa.start ev_WARN gn27
  obtain ⟨w_OK, ev_OK⟩ := exa_v gn28
  have S_OK := Sta.start ev_OK (Or.inr ⟨(hw _ (List.mem_of_getElem? (i := 30) rfl)), (hw _ (List.mem_of_getElem? (i := 59) rfl))⟩)
  have E_OK := Exa.start ev_OK gn28
  obtain ⟨n, o, h1, h2, h3, _, L, rfl, ⟨N, rfl⟩, hq⟩ := rm0 l s _ hw tables_1 i0 i1 i2 i3 w_OVER w_WARN w_OK s.heap s.heap.size (Nat.le_refl _) (Old.start s) S_OVER S_WARN S_OK p e ha hc hk s m _ below hf ((Spec.applies_iff_loose hf).mp happ).1 ⟨rfl, State.Warmed39.refl s, rfl⟩ trivial
  refine ⟨n, _, h1, h2, h3, hpost _ _ _ _ _ _ ⟨Cond.after_iff.mpr rfl, Cond.after_iff.mpr (eq_i res_at (Term.int_eval (1)) rfl), trivial⟩ ⟨hq.1, hq.2.1, (hq.2.2.sift fun y hy => Or.inr (N y hy)).mono (by decide) (by decide)⟩⟩
theorem main_1_1 : Claimed_1_1 := comes_1 fun _ _ _ _ _ _ h hF => ⟨h.1, hF⟩
theorem main_1_2 : Claimed_1_2 := comes_1 fun _ _ _ _ _ _ h hF => ⟨h.2.1, hF⟩
end Jvm.Pilot.@@N@@
namespace Jvm.Pilot.@@N@@
open Jvm Jvm.ClassFile Sem Op Lib Jvm.Free Jvm.Stand Jvm.Pilot.@@N@@.Jvm.D
/-! MADE BY PROGRAM (witnessworld.py) out of the Statement's table words and the real class files: 15 classes; the members and pool entries that the words name. The judged class is class 1, her method 1. -/
namespace start1
open Jvm.ClassFile
def u (s : String) : CpInfo := .utf8 (stringToUtf16 s)
/-- a pool by its gaps: so many unusable entries, then the entry; so many at the end -/
def gap : Nat → List CpInfo → List CpInfo
  | 0, r => r
  | n + 1, r => .unusable :: gap n r
def poolList (es : List (Nat × CpInfo)) (last : Nat) : List CpInfo := es.foldr (fun e r => gap e.1 (e.2 :: r)) (gap last [])
def pool (es : List (Nat × CpInfo)) (last : Nat) : Array CpInfo := ⟨poolList es last⟩
def fileOf (pool : Array CpInfo) (this : Nat) (attrs : Array Attribute := #[]) (ms : Array MethodInfo := #[]) (fl : Nat := 33) (sup : Nat := 0) (ifs : Array Nat := #[]) (fds : Array FieldInfo := #[]) : ClassFile where
  minorVersion := 0
  majorVersion := 65
  constantPool := pool
  accessFlags := fl
  thisClass := this
  superClass := sup
  interfaces := ifs
  fields := fds
  methods := ms
  attributes := attrs
def plain (name : String) (sup : Option ClassId) : Class where
  name := name
  kind := .ordinary
  loader := none
  accessFlags := 33
  super := sup
  interfaces := #[]
  cf := none
  fields := #[]
  methods := #[]
  instanceTypes := #[]
  staticTypes := #[]
  resolved := #[]
  callSites := []
  init := .initialized
  statics := none
  mirror := none

def pool0 : Array CpInfo := pool [(5, u "<init>"), (0, u "()V"), (1, .class_ 10), (1, u "java/lang/Object")] 113

def k0c0 : Code := { maxStack := 0, maxLocals := 1, code := object_method_1_code, exceptionTable := #[], attributes := #[] }
def k0m0 : Method := { name := "<init>", desc := "()V", sig := { parameters := [], returnType := none }, accessFlags := 1, code := some k0c0 }
/-- java/lang/Object -/
def k0 : Class := { plain "java/lang/Object" none with
  accessFlags := 33
  interfaces := #[]
  cf := some (fileOf pool0 8 #[] #[{ accessFlags := 1, nameIndex := 5, descriptorIndex := 6, attributes := #[] }] 33 0 #[] #[])
  fields := #[]
  methods := #[k0m0]
  instanceTypes := #[]
  staticTypes := #[]
  resolved := Array.replicate 124 none
  statics := none }

def pool1 : Array CpInfo := pool [(2, .class_ 4), (1, u "java/lang/Object"), (0, u "<init>"), (0, u "()V"), (0, .long 1000000), (1, .long 2000000000), (1, .methodref 12 13), (0, .class_ 14), (0, .nameAndType 15 16), (0, u "com/example/partition_planner/partitionplanner/VerdictOfPinLaw"), (0, u "near"), (0, u "(JIJJ)J"), (0, .long 104857600), (1, .class_ 20), (0, u "com/example/partition_planner/partitionplanner/PartitionSize"), (0, .methodref 19 22), (0, .nameAndType 5 23), (0, u "(JJJ)V"), (0, .methodref 25 26), (0, .class_ 27), (0, .nameAndType 28 29), (0, u "com/example/partition_planner/partitionplanner/Verdict"), (0, u "of"), (0, u "(Lcom/example/partition_planner/partitionplanner/PartitionSize;)Lcom/example/partition_planner/partitionplanner/Verdict;"), (0, .long 2000000001), (1, .long 1000001), (1, .long 104857601), (1, .methodref 37 38), (0, .class_ 39), (0, .nameAndType 40 41), (0, u "java/lang/Math"), (0, u "max"), (0, u "(II)I"), (0, .fieldref 25 43), (0, .nameAndType 44 45), (0, u "OVER"), (0, u "Lcom/example/partition_planner/partitionplanner/Verdict;"), (0, .fieldref 25 47), (0, .nameAndType 48 45), (0, u "WARN"), (0, .fieldref 25 50), (0, .nameAndType 51 45), (0, u "OK"), (0, .long 3), (3, u "law"), (0, u "(JJJI)Z")] 3

def k1m0 : Method := { name := "<init>", desc := "()V", sig := { parameters := [], returnType := none }, accessFlags := 1, code := none }
def k1c1 : Code := { maxStack := 8, maxLocals := 17, code := code, exceptionTable := #[], attributes := #[] }
def k1m1 : Method := { name := "law", desc := "(JJJI)Z", sig := { parameters := [.long, .long, .long, .int], returnType := some .boolean }, accessFlags := 9, code := some k1c1 }
def k1c2 : Code := { maxStack := 6, maxLocals := 7, code := method_3_code, exceptionTable := #[], attributes := #[] }
def k1m2 : Method := { name := "near", desc := "(JIJJ)J", sig := { parameters := [.long, .int, .long, .long], returnType := some .long }, accessFlags := 10, code := some k1c2 }
/-- com/example/partition_planner/partitionplanner/VerdictOfPinLaw -/
def k1 : Class := { plain "com/example/partition_planner/partitionplanner/VerdictOfPinLaw" (some 0) with
  accessFlags := 49
  interfaces := #[]
  cf := some (fileOf pool1 12 #[] #[{ accessFlags := 1, nameIndex := 5, descriptorIndex := 6, attributes := #[] }, { accessFlags := 9, nameIndex := 56, descriptorIndex := 57, attributes := #[] }, { accessFlags := 10, nameIndex := 15, descriptorIndex := 16, attributes := #[] }] 49 2 #[] #[])
  fields := #[]
  methods := #[k1m0, k1m1, k1m2]
  instanceTypes := #[]
  staticTypes := #[]
  resolved := Array.replicate 61 none
  statics := none }

def pool2 : Array CpInfo := pool [(1, .methodref 2 3), (0, .class_ 4), (0, .nameAndType 5 6), (0, u "java/lang/Object"), (0, u "<init>"), (0, u "()V"), (0, .class_ 8), (0, u "java/lang/Record")] 13

def k2c0 : Code := { maxStack := 1, maxLocals := 1, code := jdk_30_method_1_code, exceptionTable := #[], attributes := #[] }
def k2m0 : Method := { name := "<init>", desc := "()V", sig := { parameters := [], returnType := none }, accessFlags := 4, code := some k2c0 }
/-- java/lang/Record -/
def k2 : Class := { plain "java/lang/Record" (some 0) with
  accessFlags := 1057
  interfaces := #[]
  cf := some (fileOf pool2 7 #[] #[{ accessFlags := 4, nameIndex := 5, descriptorIndex := 6, attributes := #[] }] 1057 2 #[] #[])
  fields := #[]
  methods := #[k2m0]
  instanceTypes := #[]
  staticTypes := #[]
  resolved := Array.replicate 22 none
  statics := none }

def pool3 : Array CpInfo := pool [(1, .methodref 2 3), (0, .class_ 4), (0, .nameAndType 5 6), (0, u "java/lang/Record"), (0, u "<init>"), (0, u "()V"), (0, .fieldref 8 9), (0, .class_ 10), (0, .nameAndType 11 12), (0, u "com/example/partition_planner/partitionplanner/PartitionSize"), (0, u "rows"), (0, u "J"), (0, .fieldref 8 14), (0, .nameAndType 15 12), (0, u "cells"), (0, .fieldref 8 17), (0, .nameAndType 18 12), (0, u "bytes"), (28, .class_ 49), (1, u "com/example/partition_planner/partitionplanner/PartitionSize$1"), (14, u "()J"), (13, u "(JJJ)V"), (12, u "BYTES_PER_CELL")] 42

def k3c0 : Code := { maxStack := 3, maxLocals := 7, code := prog_19_method_1_code, exceptionTable := #[], attributes := #[] }
def k3m0 : Method := { name := "<init>", desc := "(JJJ)V", sig := { parameters := [.long, .long, .long], returnType := none }, accessFlags := 1, code := some k3c0 }
def k3c1 : Code := { maxStack := 2, maxLocals := 1, code := prog_19_method_7_code, exceptionTable := #[], attributes := #[] }
def k3m1 : Method := { name := "cells", desc := "()J", sig := { parameters := [], returnType := some .long }, accessFlags := 1, code := some k3c1 }
def k3c2 : Code := { maxStack := 2, maxLocals := 1, code := prog_19_method_8_code, exceptionTable := #[], attributes := #[] }
def k3m2 : Method := { name := "bytes", desc := "()J", sig := { parameters := [], returnType := some .long }, accessFlags := 1, code := some k3c2 }
/-- com/example/partition_planner/partitionplanner/PartitionSize -/
def k3 : Class := { plain "com/example/partition_planner/partitionplanner/PartitionSize" (some 2) with
  accessFlags := 49
  interfaces := #[]
  cf := some (fileOf pool3 8 #[.nestMembers #[47]] #[{ accessFlags := 1, nameIndex := 5, descriptorIndex := 78, attributes := #[] }, { accessFlags := 1, nameIndex := 15, descriptorIndex := 64, attributes := #[] }, { accessFlags := 1, nameIndex := 18, descriptorIndex := 64, attributes := #[] }] 49 2 #[] #[{ accessFlags := 18, nameIndex := 11, descriptorIndex := 12, attributes := #[] }, { accessFlags := 18, nameIndex := 15, descriptorIndex := 12, attributes := #[] }, { accessFlags := 18, nameIndex := 18, descriptorIndex := 12, attributes := #[] }, { accessFlags := 26, nameIndex := 91, descriptorIndex := 12, attributes := #[] }])
  fields := #[{ name := "rows", type := .long, accessFlags := 18, slot := 0, constantValue := 0 }, { name := "cells", type := .long, accessFlags := 18, slot := 1, constantValue := 0 }, { name := "bytes", type := .long, accessFlags := 18, slot := 2, constantValue := 0 }, { name := "BYTES_PER_CELL", type := .long, accessFlags := 26, slot := 0, constantValue := 0 }]
  methods := #[k3m0, k3m1, k3m2]
  instanceTypes := #[.long, .long, .long]
  staticTypes := #[.long]
  resolved := Array.replicate 134 none
  statics := none }

def pool4 : Array CpInfo := pool [(1, .class_ 2), (0, u "java/lang/constant/Constable"), (0, .class_ 4), (0, u "java/lang/Object")] 6

/-- java/lang/constant/Constable -/
def k4 : Class := { plain "java/lang/constant/Constable" (some 0) with
  accessFlags := 1537
  interfaces := #[]
  cf := some (fileOf pool4 1 #[] #[] 1537 3 #[] #[])
  fields := #[]
  methods := #[]
  instanceTypes := #[]
  staticTypes := #[]
  resolved := Array.replicate 11 none
  statics := none }

def pool5 : Array CpInfo := pool [(1, .class_ 2), (0, u "java/lang/Comparable"), (0, .class_ 4), (0, u "java/lang/Object")] 7

/-- java/lang/Comparable -/
def k5 : Class := { plain "java/lang/Comparable" (some 0) with
  accessFlags := 1537
  interfaces := #[]
  cf := some (fileOf pool5 1 #[] #[] 1537 3 #[] #[])
  fields := #[]
  methods := #[]
  instanceTypes := #[]
  staticTypes := #[]
  resolved := Array.replicate 12 none
  statics := none }

def pool6 : Array CpInfo := pool [(1, .class_ 2), (0, u "java/io/Serializable"), (0, .class_ 4), (0, u "java/lang/Object")] 2

/-- java/io/Serializable -/
def k6 : Class := { plain "java/io/Serializable" (some 0) with
  accessFlags := 1537
  interfaces := #[]
  cf := some (fileOf pool6 1 #[] #[] 1537 3 #[] #[])
  fields := #[]
  methods := #[]
  instanceTypes := #[]
  staticTypes := #[]
  resolved := Array.replicate 7 none
  statics := none }

def pool7 : Array CpInfo := pool [(2, .class_ 4), (1, u "java/lang/Enum"), (0, u "name"), (0, u "Ljava/lang/String;"), (2, u "ordinal"), (0, u "I"), (1, .class_ 14), (1, u "java/lang/Object"), (4, u "hash"), (86, .class_ 108), (1, u "java/lang/Enum$EnumDesc"), (2, .class_ 112), (0, u "java/lang/constant/Constable"), (0, .class_ 114), (0, u "java/lang/Comparable"), (0, .class_ 116), (0, u "java/io/Serializable")] 87

/-- java/lang/Enum -/
def k7 : Class := { plain "java/lang/Enum" (some 0) with
  accessFlags := 1057
  interfaces := #[4, 5, 6]
  cf := some (fileOf pool7 2 #[.nestMembers #[106]] #[] 1057 12 #[111, 113, 115] #[{ accessFlags := 18, nameIndex := 5, descriptorIndex := 6, attributes := #[] }, { accessFlags := 18, nameIndex := 9, descriptorIndex := 10, attributes := #[] }, { accessFlags := 2, nameIndex := 19, descriptorIndex := 10, attributes := #[] }])
  fields := #[{ name := "name", type := (.object "java/lang/String"), accessFlags := 18, slot := 0, constantValue := 0 }, { name := "ordinal", type := .int, accessFlags := 18, slot := 1, constantValue := 0 }, { name := "hash", type := .int, accessFlags := 2, slot := 2, constantValue := 0 }]
  methods := #[]
  instanceTypes := #[(.object "java/lang/String"), .int, .int]
  staticTypes := #[]
  resolved := Array.replicate 204 none
  statics := none }

def pool8 : Array CpInfo := pool [(1, .class_ 2), (0, u "com/example/partition_planner/partitionplanner/Verdict"), (0, .fieldref 1 4), (0, .nameAndType 5 6), (0, u "OK"), (0, u "Lcom/example/partition_planner/partitionplanner/Verdict;"), (0, .fieldref 1 8), (0, .nameAndType 9 6), (0, u "WARN"), (0, .fieldref 1 11), (0, .nameAndType 12 6), (0, u "OVER"), (2, u "$VALUES"), (0, u "[Lcom/example/partition_planner/partitionplanner/Verdict;"), (6, .class_ 25), (1, u "java/lang/Enum"), (6, .methodref 33 34), (0, .class_ 35), (0, .nameAndType 36 37), (0, u "com/example/partition_planner/partitionplanner/PartitionSize"), (0, u "cells"), (0, u "()J"), (0, .long 2000000000), (1, .long 1000000), (1, .methodref 33 43), (0, .nameAndType 44 37), (0, u "bytes"), (0, .long 104857600), (25, u "MAX_CELLS"), (0, u "J"), (1, u "RECOMMENDED_MAX_CELLS"), (0, u "RECOMMENDED_MAX_BYTES"), (7, u "of"), (0, u "(Lcom/example/partition_planner/partitionplanner/PartitionSize;)Lcom/example/partition_planner/partitionplanner/Verdict;")] 6

def k8c0 : Code := { maxStack := 4, maxLocals := 2, code := prog_43_method_4_code, exceptionTable := #[], attributes := #[] }
def k8m0 : Method := { name := "of", desc := "(Lcom/example/partition_planner/partitionplanner/PartitionSize;)Lcom/example/partition_planner/partitionplanner/Verdict;", sig := { parameters := [(.object "com/example/partition_planner/partitionplanner/PartitionSize")], returnType := some (.object "com/example/partition_planner/partitionplanner/Verdict") }, accessFlags := 9, code := some k8c0 }
/-- com/example/partition_planner/partitionplanner/Verdict -/
def k8 : Class := { plain "com/example/partition_planner/partitionplanner/Verdict" (some 7) with
  accessFlags := 16433
  interfaces := #[]
  cf := some (fileOf pool8 1 #[] #[{ accessFlags := 9, nameIndex := 83, descriptorIndex := 84, attributes := #[] }] 16433 23 #[] #[{ accessFlags := 16409, nameIndex := 5, descriptorIndex := 6, attributes := #[] }, { accessFlags := 16409, nameIndex := 9, descriptorIndex := 6, attributes := #[] }, { accessFlags := 16409, nameIndex := 12, descriptorIndex := 6, attributes := #[] }, { accessFlags := 26, nameIndex := 71, descriptorIndex := 72, attributes := #[] }, { accessFlags := 26, nameIndex := 74, descriptorIndex := 72, attributes := #[] }, { accessFlags := 26, nameIndex := 75, descriptorIndex := 72, attributes := #[] }, { accessFlags := 4122, nameIndex := 15, descriptorIndex := 16, attributes := #[] }])
  fields := #[{ name := "OK", type := (.object "com/example/partition_planner/partitionplanner/Verdict"), accessFlags := 16409, slot := 0, constantValue := 0 }, { name := "WARN", type := (.object "com/example/partition_planner/partitionplanner/Verdict"), accessFlags := 16409, slot := 1, constantValue := 0 }, { name := "OVER", type := (.object "com/example/partition_planner/partitionplanner/Verdict"), accessFlags := 16409, slot := 2, constantValue := 0 }, { name := "MAX_CELLS", type := .long, accessFlags := 26, slot := 3, constantValue := 0 }, { name := "RECOMMENDED_MAX_CELLS", type := .long, accessFlags := 26, slot := 4, constantValue := 0 }, { name := "RECOMMENDED_MAX_BYTES", type := .long, accessFlags := 26, slot := 5, constantValue := 0 }, { name := "$VALUES", type := (.array (.object "com/example/partition_planner/partitionplanner/Verdict")), accessFlags := 4122, slot := 6, constantValue := 0 }]
  methods := #[k8m0]
  instanceTypes := #[(.object "java/lang/String"), .int, .int]
  staticTypes := #[(.object "com/example/partition_planner/partitionplanner/Verdict"), (.object "com/example/partition_planner/partitionplanner/Verdict"), (.object "com/example/partition_planner/partitionplanner/Verdict"), .long, .long, .long, (.array (.object "com/example/partition_planner/partitionplanner/Verdict"))]
  resolved := Array.replicate 91 none
  statics := some 0 }

def pool9 : Array CpInfo := pool [(1, .class_ 2), (0, u "java/lang/Math"), (1, .class_ 6), (1, u "java/lang/Object"), (0, u "<init>"), (0, u "()V"), (89, .class_ 100), (1, u "java/lang/Math$RandomNumberGeneratorHolder"), (71, u "negativeZeroFloatBits"), (0, u "J"), (2, u "negativeZeroDoubleBits"), (21, u "max"), (46, u "$assertionsDisabled"), (0, u "Z"), (88, u "(II)I"), (2, u "twoToTheDoubleScaleDown"), (0, u "D"), (4, u "twoToTheDoubleScaleUp"), (9, u "E"), (3, u "PI"), (2, u "TAU"), (2, u "DEGREES_TO_RADIANS"), (0, u "RADIANS_TO_DEGREES")] 94

def k9m0 : Method := { name := "<init>", desc := "()V", sig := { parameters := [], returnType := none }, accessFlags := 2, code := none }
def k9c1 : Code := { maxStack := 2, maxLocals := 2, code := jdk_29_method_65_code, exceptionTable := #[], attributes := #[] }
def k9m1 : Method := { name := "max", desc := "(II)I", sig := { parameters := [.int, .int], returnType := some .int }, accessFlags := 9, code := some k9c1 }
/-- java/lang/Math -/
def k9 : Class := { plain "java/lang/Math" (some 0) with
  accessFlags := 49
  interfaces := #[]
  cf := some (fileOf pool9 1 #[.nestMembers #[98]] #[{ accessFlags := 2, nameIndex := 7, descriptorIndex := 8, attributes := #[] }, { accessFlags := 9, nameIndex := 198, descriptorIndex := 335, attributes := #[] }] 49 4 #[] #[{ accessFlags := 25, nameIndex := 354, descriptorIndex := 339, attributes := #[] }, { accessFlags := 25, nameIndex := 358, descriptorIndex := 339, attributes := #[] }, { accessFlags := 25, nameIndex := 361, descriptorIndex := 339, attributes := #[] }, { accessFlags := 26, nameIndex := 364, descriptorIndex := 339, attributes := #[] }, { accessFlags := 26, nameIndex := 365, descriptorIndex := 339, attributes := #[] }, { accessFlags := 26, nameIndex := 172, descriptorIndex := 173, attributes := #[] }, { accessFlags := 26, nameIndex := 176, descriptorIndex := 173, attributes := #[] }, { accessFlags := 8, nameIndex := 344, descriptorIndex := 339, attributes := #[] }, { accessFlags := 8, nameIndex := 338, descriptorIndex := 339, attributes := #[] }, { accessFlags := 4120, nameIndex := 245, descriptorIndex := 246, attributes := #[] }])
  fields := #[{ name := "E", type := .double, accessFlags := 25, slot := 0, constantValue := 0 }, { name := "PI", type := .double, accessFlags := 25, slot := 1, constantValue := 0 }, { name := "TAU", type := .double, accessFlags := 25, slot := 2, constantValue := 0 }, { name := "DEGREES_TO_RADIANS", type := .double, accessFlags := 26, slot := 3, constantValue := 0 }, { name := "RADIANS_TO_DEGREES", type := .double, accessFlags := 26, slot := 4, constantValue := 0 }, { name := "negativeZeroFloatBits", type := .long, accessFlags := 26, slot := 5, constantValue := 0 }, { name := "negativeZeroDoubleBits", type := .long, accessFlags := 26, slot := 6, constantValue := 0 }, { name := "twoToTheDoubleScaleUp", type := .double, accessFlags := 8, slot := 7, constantValue := 0 }, { name := "twoToTheDoubleScaleDown", type := .double, accessFlags := 8, slot := 8, constantValue := 0 }, { name := "$assertionsDisabled", type := .boolean, accessFlags := 4120, slot := 9, constantValue := 0 }]
  methods := #[k9m0, k9m1]
  instanceTypes := #[]
  staticTypes := #[.double, .double, .double, .double, .double, .long, .long, .double, .double, .boolean]
  resolved := Array.replicate 460 none
  statics := none }

def pool10 : Array CpInfo := pool [(1, u "java/lang/Cloneable"), (0, .class_ 1), (0, u "java/lang/Object"), (0, .class_ 3)] 3

/-- java/lang/Cloneable -/
def k10 : Class := { plain "java/lang/Cloneable" (some 0) with
  accessFlags := 1537
  interfaces := #[]
  cf := some (fileOf pool10 2 #[] #[] 1537 4 #[] #[])
  fields := #[]
  methods := #[]
  instanceTypes := #[]
  staticTypes := #[]
  resolved := Array.replicate 8 none
  statics := none }

/-- the primitive byte -/
def k11 : Class := { plain "byte" none with kind := .primitive 'B', accessFlags := 0x411 }
/-- [B -/
def k12 : Class := { plain "[B" (some 0) with kind := .array 11 .byte, interfaces := #[10, 6], accessFlags := 1041 }

/-- the primitive int -/
def k13 : Class := { plain "int" none with kind := .primitive 'I', accessFlags := 0x411 }
/-- [I -/
def k14 : Class := { plain "[I" (some 0) with kind := .array 13 .int, interfaces := #[10, 6], accessFlags := 1041 }

def heap : Heap := #[{ cls := 8, slots := #[.ref 1, .ref 2, .ref 3, .long 0, .long 0, .long 0, .null], vm := .statics 8 },
  { cls := 8, slots := #[.null, .int 0, .int 0], vm := .none },
  { cls := 8, slots := #[.null, .int 1, .int 0], vm := .none },
  { cls := 8, slots := #[.null, .int 2, .int 0], vm := .none }]
def classes : Array Class := #[k0, k1, k2, k3, k4, k5, k6, k7, k8, k9, k10, k11, k12, k13, k14]
def interned : List (Array UInt16 × Addr) := []
def slotsUsed : Nat := 16
def theMethod : MethodId := ⟨1, 1⟩
def args0 : Array Value := #[.long 5, .long 6, .long 7, .int 5]
def aboutOver (below : List Frame) : State where
  vm := { classes := classes, interned := interned.toArray }
  heap := heap
  slotsUsed := slotsUsed
  threads := #[{ frames := .invoking theMethod args0 :: below }]
def below0 : List Frame := [.native { method := ⟨0, 0⟩, args := #[] }]
def about1 : State := aboutOver below0
def p0 : Program := .bare "" "" ""
def e0 : Env := launch0.env 0 0 0
theorem w_frames : about1.frames = Frame.invoking theMethod args0 :: below0 := rfl
set_option maxRecDepth 65536 in
theorem w_args : argsFit about1.vm theMethod args0 = true := by decide +kernel
set_option maxRecDepth 65536 in
theorem w_heap : heapFits about1 = true := by decide +kernel
set_option maxRecDepth 65536 in
theorem w_runnable : about1.curStatus? = some .runnable := by decide +kernel
set_option maxRecDepth 65536 in
theorem w_alone : about1.alone = true := by decide +kernel
set_option maxRecDepth 65536 in
theorem w_named : about1.methodNamed? x = some theMethod := by decide +kernel
set_option maxRecDepth 65536 in
theorem w_hears : about1.hears theMethod below0 = true := by decide +kernel
set_option maxRecDepth 65536 in
theorem w_ripe : about1.ripe theMethod args0 below0 = true := by decide +kernel
theorem w_running : about1.status = .running := rfl
set_option maxRecDepth 65536 in
theorem w_room : about1.hasRoom e0.platform room_1 = true :=
  launch0.hasRoom_least _ room_1 (by decide +kernel) (by decide +kernel) (by decide +kernel) (by decide +kernel) (by decide +kernel) (by decide +kernel)
theorem allAtoms_all (ts : List Jvm.Cond) (a : Array Jvm.Value) (st : Jvm.State) : (allAtoms ts).before a st = ts.all (fun c => c.before a st) := by
  induction ts with
  | nil => rfl
  | cons c t ih =>
    show (Jvm.Cond.and c (allAtoms t)).before a st = _
    rw [Jvm.Cond.before_and, ih, List.all_cons]
def words1 : List Jvm.Cond := Jvm.Cond.code x code maxLocals ret :: tables_1
/-- a 'code' word, met by the world's own term for the bytes: nothing is compared byte by byte -/
theorem code_word {y : MethodName} {bytes : ByteArray} {mx : Nat} {rt : Option FieldType} {a : Array Value} {s : State} {m : MethodId} {meth : Method} {c : Code} (h1 : s.methodNamed? y = some m) (h2 : s.vm.method? m = some meth) (h3 : meth.code = some c) (h4 : c.code = bytes)
    (h5 : (c.maxLocals == mx && c.exceptionTable.isEmpty && decide (c.maxStack ≤ mostOperands) && decide (meth.sig.returnType = rt) && !meth.locks && decide (parseMethodDescriptor y.desc = some meth.sig)) = true) : (Jvm.Cond.code y bytes mx rt).before a s = true := by
  simp only [Bool.and_eq_true, beq_iff_eq, Bool.not_eq_true', decide_eq_true_eq] at h5
  obtain ⟨⟨⟨⟨⟨g1, g2⟩, g3⟩, g4⟩, g5⟩, g6⟩ := h5
  simp [Cond.before, Cond.holds, Cond.value, h1, h2, h3, h4, g1, g2, g3, g4, g5, g6]
def isCode : Jvm.Cond → Bool
  | .code _ _ _ _ => true
  | _ => false
theorem all_split {L : List Jvm.Cond} {P : Jvm.Cond → Bool} (h1 : L.all (fun c => isCode c || P c) = true) (h2 : ∀ c ∈ L.filter isCode, P c = true) : L.all P = true := by
  refine List.all_eq_true.mpr fun c hc => ?_
  have h := List.all_eq_true.mp h1 c hc
  rcases Bool.eq_false_or_eq_true (isCode c) with hi | hi
  · exact h2 c (List.mem_filter.mpr ⟨hc, hi⟩)
  · simpa [hi] using h
set_option maxRecDepth 65536 in
theorem w_c0 : (Jvm.Cond.code x code maxLocals ret).before args0 about1 = true := code_word (m := ⟨1, 1⟩) (meth := k1m1) (c := k1c1) (by decide +kernel) rfl rfl rfl (by decide +kernel)
set_option maxRecDepth 65536 in
theorem w_c1 : (Jvm.Cond.code ({ cls := "com/example/partition_planner/partitionplanner/VerdictOfPinLaw", name := "near", desc := "(JIJJ)J" } : Jvm.MethodName) method_3_code (7 : Nat) (Option.some Jvm.ClassFile.FieldType.long)).before args0 about1 = true := code_word (m := ⟨1, 2⟩) (meth := k1m2) (c := k1c2) (by decide +kernel) rfl rfl rfl (by decide +kernel)
set_option maxRecDepth 65536 in
theorem w_c2 : (Jvm.Cond.code ({ cls := "com/example/partition_planner/partitionplanner/PartitionSize", name := "<init>", desc := "(JJJ)V" } : Jvm.MethodName) prog_19_method_1_code (7 : Nat) (Option.none : Option Jvm.ClassFile.FieldType)).before args0 about1 = true := code_word (m := ⟨3, 0⟩) (meth := k3m0) (c := k3c0) (by decide +kernel) rfl rfl rfl (by decide +kernel)
set_option maxRecDepth 65536 in
theorem w_c3 : (Jvm.Cond.code ({ cls := "java/lang/Record", name := "<init>", desc := "()V" } : Jvm.MethodName) jdk_30_method_1_code (1 : Nat) (Option.none : Option Jvm.ClassFile.FieldType)).before args0 about1 = true := code_word (m := ⟨2, 0⟩) (meth := k2m0) (c := k2c0) (by decide +kernel) rfl rfl rfl (by decide +kernel)
set_option maxRecDepth 65536 in
theorem w_c4 : (Jvm.Cond.code ({ cls := "java/lang/Object", name := "<init>", desc := "()V" } : Jvm.MethodName) object_method_1_code (1 : Nat) (Option.none : Option Jvm.ClassFile.FieldType)).before args0 about1 = true := code_word (m := ⟨0, 0⟩) (meth := k0m0) (c := k0c0) (by decide +kernel) rfl rfl rfl (by decide +kernel)
set_option maxRecDepth 65536 in
theorem w_c5 : (Jvm.Cond.code ({ cls := "com/example/partition_planner/partitionplanner/Verdict", name := "of", desc := "(Lcom/example/partition_planner/partitionplanner/PartitionSize;)Lcom/example/partition_planner/partitionplanner/Verdict;" } : Jvm.MethodName) prog_43_method_4_code (2 : Nat) (Option.some (Jvm.ClassFile.FieldType.object "com/example/partition_planner/partitionplanner/Verdict"))).before args0 about1 = true := code_word (m := ⟨8, 0⟩) (meth := k8m0) (c := k8c0) (by decide +kernel) rfl rfl rfl (by decide +kernel)
set_option maxRecDepth 65536 in
theorem w_c6 : (Jvm.Cond.code ({ cls := "com/example/partition_planner/partitionplanner/PartitionSize", name := "cells", desc := "()J" } : Jvm.MethodName) prog_19_method_7_code (1 : Nat) (Option.some Jvm.ClassFile.FieldType.long)).before args0 about1 = true := code_word (m := ⟨3, 1⟩) (meth := k3m1) (c := k3c1) (by decide +kernel) rfl rfl rfl (by decide +kernel)
set_option maxRecDepth 65536 in
theorem w_c7 : (Jvm.Cond.code ({ cls := "java/lang/Math", name := "max", desc := "(II)I" } : Jvm.MethodName) jdk_29_method_65_code (2 : Nat) (Option.some Jvm.ClassFile.FieldType.int)).before args0 about1 = true := code_word (m := ⟨9, 1⟩) (meth := k9m1) (c := k9c1) (by decide +kernel) rfl rfl rfl (by decide +kernel)
set_option maxRecDepth 65536 in
theorem w_c8 : (Jvm.Cond.code ({ cls := "com/example/partition_planner/partitionplanner/PartitionSize", name := "bytes", desc := "()J" } : Jvm.MethodName) prog_19_method_8_code (1 : Nat) (Option.some Jvm.ClassFile.FieldType.long)).before args0 about1 = true := code_word (m := ⟨3, 2⟩) (meth := k3m2) (c := k3c2) (by decide +kernel) rfl rfl rfl (by decide +kernel)
def codes1 : List Jvm.Cond := [Jvm.Cond.code x code maxLocals ret, Jvm.Cond.code ({ cls := "com/example/partition_planner/partitionplanner/VerdictOfPinLaw", name := "near", desc := "(JIJJ)J" } : Jvm.MethodName) method_3_code (7 : Nat) (Option.some Jvm.ClassFile.FieldType.long), Jvm.Cond.code ({ cls := "com/example/partition_planner/partitionplanner/PartitionSize", name := "<init>", desc := "(JJJ)V" } : Jvm.MethodName) prog_19_method_1_code (7 : Nat) (Option.none : Option Jvm.ClassFile.FieldType), Jvm.Cond.code ({ cls := "java/lang/Record", name := "<init>", desc := "()V" } : Jvm.MethodName) jdk_30_method_1_code (1 : Nat) (Option.none : Option Jvm.ClassFile.FieldType), Jvm.Cond.code ({ cls := "java/lang/Object", name := "<init>", desc := "()V" } : Jvm.MethodName) object_method_1_code (1 : Nat) (Option.none : Option Jvm.ClassFile.FieldType), Jvm.Cond.code ({ cls := "com/example/partition_planner/partitionplanner/Verdict", name := "of", desc := "(Lcom/example/partition_planner/partitionplanner/PartitionSize;)Lcom/example/partition_planner/partitionplanner/Verdict;" } : Jvm.MethodName) prog_43_method_4_code (2 : Nat) (Option.some (Jvm.ClassFile.FieldType.object "com/example/partition_planner/partitionplanner/Verdict")), Jvm.Cond.code ({ cls := "com/example/partition_planner/partitionplanner/PartitionSize", name := "cells", desc := "()J" } : Jvm.MethodName) prog_19_method_7_code (1 : Nat) (Option.some Jvm.ClassFile.FieldType.long), Jvm.Cond.code ({ cls := "java/lang/Math", name := "max", desc := "(II)I" } : Jvm.MethodName) jdk_29_method_65_code (2 : Nat) (Option.some Jvm.ClassFile.FieldType.int), Jvm.Cond.code ({ cls := "com/example/partition_planner/partitionplanner/PartitionSize", name := "bytes", desc := "()J" } : Jvm.MethodName) prog_19_method_8_code (1 : Nat) (Option.some Jvm.ClassFile.FieldType.long)]
set_option maxRecDepth 65536 in
theorem codes_eq : words1.filter isCode = codes1 := rfl
theorem w_codes : ∀ c ∈ words1.filter isCode, c.before args0 about1 = true := by
  rw [codes_eq]
  intro c hc
  simp only [codes1, List.mem_cons, List.not_mem_nil, or_false] at hc
  rcases hc with rfl | rfl | rfl | rfl | rfl | rfl | rfl | rfl | rfl
  · exact w_c0
  · exact w_c1
  · exact w_c2
  · exact w_c3
  · exact w_c4
  · exact w_c5
  · exact w_c6
  · exact w_c7
  · exact w_c8
set_option maxRecDepth 65536 in
theorem w_t1 : (words1.take 24).all (fun c => isCode c || c.before args0 about1) = true := by decide +kernel
set_option maxRecDepth 65536 in
theorem w_t2 : ((words1.drop 24).take 24).all (fun c => isCode c || c.before args0 about1) = true := by decide +kernel
set_option maxRecDepth 65536 in
theorem w_t3 : ((words1.drop 24).drop 24).all (fun c => isCode c || c.before args0 about1) = true := by decide +kernel
theorem w_tables : (allAtoms (Jvm.Cond.code x code maxLocals ret :: tables_1)).before args0 about1 = true := by
  rw [allAtoms_all]
  show words1.all (fun c => c.before args0 about1) = true
  refine all_split ?_ w_codes
  rw [← List.take_append_drop 24 words1, List.all_append, w_t1, ← List.take_append_drop 24 (words1.drop 24), List.all_append, w_t2, w_t3]
  rfl
set_option maxRecDepth 65536 in
theorem w_case : (Jvm.Cond.and given_1 narrow_1).before args0 about1 = true := by decide +kernel
theorem w_applies : (headSpec (Jvm.Cond.code x code maxLocals ret :: tables_1) room_1).applies x e0.platform about1 = true :=
  (Spec.applies_iff w_frames).mpr ⟨w_running, w_runnable, w_alone, w_named, w_hears, w_ripe, w_room, w_tables⟩
theorem atStart : AtStart classFile x code maxLocals ret World_1 tables_1 room_1 Calls_1 rest_1 Pre_1 launch0 p0 e0 about1 theMethod args0 below0 :=
  ⟨lists_1, trivial, launch0.admits_env _ _ _, launch0.least_env, fairChoices_fair.cas, fairChoices_fair.clock, w_frames, w_args, w_heap, w_applies, trivial, trivial, w_case⟩
end start1
theorem witness_1 : WitnessClaimed_1 := ⟨start1.p0, start1.e0, start1.about1, start1.theMethod, start1.args0, start1.below0, start1.atStart⟩
end Jvm.Pilot.@@N@@
