import JvmDerived
import JvmDerived.Pilot.@@N@@Statement
import JvmDerived.Pilot.@@N@@Code
set_option linter.unusedVariables false
set_option linter.unusedSimpArgs false
namespace Jvm.Pilot.@@N@@
open Jvm Jvm.ClassFile Sem Op Lib Jvm.Free Jvm.Stand Jvm.LawKit Jvm.RoadKit Bundle Jvm.Pilot.@@N@@.Jvm.D
/-! the goal of a body's walk, closed under steps that lead to where it holds -/
def Gl (p : Program) (e : Env) (below : List Frame) (s : State) (Q : Option Value → Heap → List Loc → Prop) (k n : Nat) (S0 : State) : Prop :=
  ∃ s₂ o, Steps p.tables e below S0 s₂ ∧ s₂.status = .running ∧ Ended s₂ below o ∧ ∃ v L, o = .returned v ∧ Q v s₂.heap L ∧ FrameEnd s o s₂ L k n
theorem Gl.back {p : Program} {e : Env} {below : List Frame} {s : State} {Q : Option Value → Heap → List Loc → Prop} {k n : Nat} {S0 S1 : State} (h : ∀ t, Steps p.tables e below S1 t → Steps p.tables e below S0 t) (g : Gl p e below s Q k n S1) : Gl p e below s Q k n S0 := by
  obtain ⟨s₂, o, h1, r⟩ := g; exact ⟨s₂, o, h _ h1, r⟩
theorem Gl.ret {p : Program} {l : Launch} {e : Env} {R : Room} {s : State} {m : MethodId} {args : Array Value} {below : List Frame} {meth : Method} {c : Code} {T : State} {locs : List Loc} {cells slots : Nat} (X : Stand p l e R s m args below meth c T locs cells slots) {h : Heap} (eT : T.heap = h)
    {v : Option Value} (hv : meth.sig.returnType = none → v = none) (hlocks : meth.locks = false) {S0 : State} (st : ∀ fs, (∀ (f : JFrame) (acts : List Action), f.method = m → f.locked = none → f.entered = [] → (doReturn e (T.setTop f) acts v).1 = T.setFrames fs) → Steps p.tables e below S0 (T.setFrames fs))
    {Q : Option Value → Heap → List Loc → Prop} {k n : Nat} (hQ : Q v h locs) (hk : cells ≤ k) (hn : slots ≤ n) : Gl p e below s Q k n S0 := by
  obtain ⟨fs, hr, hrun, hended, hW, hsame⟩ := X.leave (v := v) hv hlocks
  exact ⟨_, _, st fs hr, hrun, hended, v, locs, rfl, eT ▸ hQ, ⟨_, rfl⟩, hW, hsame.mono hk hn⟩
def GlW (p : Program) (e : Env) (below : List Frame) (s : State) (Q : Option Value → Heap → List Loc → Prop) (k n : Nat) (S0 : State) : Prop :=
  ∃ s₂ o, Steps p.tables e below S0 s₂ ∧ s₂.status = .running ∧ Ended s₂ below o ∧ ∃ v L, o = .returned v ∧ Q v s₂.heap L ∧ ReturnedEndW s o s₂ L k n
theorem GlW.back {p : Program} {e : Env} {below : List Frame} {s : State} {Q : Option Value → Heap → List Loc → Prop} {k n : Nat} {S0 S1 : State} (h : ∀ t, Steps p.tables e below S1 t → Steps p.tables e below S0 t) (g : GlW p e below s Q k n S1) : GlW p e below s Q k n S0 := by
  obtain ⟨s₂, o, h1, r⟩ := g; exact ⟨s₂, o, h _ h1, r⟩
theorem GlW.ret {p : Program} {l : Launch} {e : Env} {R : Room} {s : State} {vm0 : Vm} {m : MethodId} {args : Array Value} {below : List Frame} {meth : Method} {c : Code} {T : State} {locs : List Loc} {cells slots : Nat} (X : Stand p l e R (s.setVm vm0) m args below meth c T locs cells slots) {h : Heap} (eT : T.heap = h)
    {k0 : Nat} (hS : s.Since vm0 k0) (hk0 : k0 ≤ h.size) {v : Option Value} (hv : meth.sig.returnType = none → v = none) (hlocks : meth.locks = false) {S0 : State} (st : ∀ fs, (∀ (f : JFrame) (acts : List Action), f.method = m → f.locked = none → f.entered = [] → (doReturn e (T.setTop f) acts v).1 = T.setFrames fs) → Steps p.tables e below S0 (T.setFrames fs))
    {Q : Option Value → Heap → List Loc → Prop} {k n : Nat} (hQ : Q v h locs) (hk : cells ≤ k) (hn : slots ≤ n) : GlW p e below s Q k n S0 := by
  obtain ⟨fs, hr, hrun, hended, hE⟩ := X.leaveW hS (by rw [eT]; exact hk0) (v := v) hv hlocks
  exact ⟨_, _, st fs hr, hrun, hended, v, locs, rfl, eT ▸ hQ, hE.1, hE.2.1, hE.2.2.1, hE.2.2.2.mono hk hn⟩
theorem own_lcL {x y : Int64} (h : x < y) : lcmpW x y < 0 := by rw [lcW]; exact (lc_lt x y).mpr h
theorem own_lcLn {x y : Int64} (h : ¬ x < y) : ¬ lcmpW x y < 0 := by rw [lcW]; exact fun q => h ((lc_lt x y).mp q)
theorem own_lcG {x y : Int64} (h : y < x) : 0 < lcmpW x y := by rw [lcW]; exact (lc_gt x y).mpr h
theorem own_lcGn {x y : Int64} (h : ¬ y < x) : ¬ 0 < lcmpW x y := by rw [lcW]; exact fun q => h ((lc_gt x y).mp q)
theorem own_lcE {x y : Int64} (h : x = y) : lcmpW x y = 0 := by rw [lcW]; exact (lc_eq x y).mpr h
theorem own_lcEn {x y : Int64} (h : ¬ x = y) : ¬ lcmpW x y = 0 := by rw [lcW]; exact fun q => h ((lc_eq x y).mp q)
theorem own_fldI {args : Array Value} {s : State} {t : Term} {C n d : String} {k : Int32} {a : Addr} (ev : t.eval args s none [] s = some (.ref a)) (h : (Jvm.Cond.eq (Term.field t C n d) (Term.int k)).value args s none s [] = some true) : Fld s s.heap a C n d (.int k) := by
  have e := fld_at (C := C) (n := n) (dd := d) ev
  obtain ⟨x, y, h1, h2, k1, k2⟩ := cmp_v (Or.inl h)
  obtain rfl : Value.int k = y := Option.some.inj h2
  obtain ⟨z, rfl⟩ := k2
  have q := Jvm.Cond.eq_ints h1 h2
  obtain rfl : z = k := gotT q h
  exact Fld.start (e ▸ h1)
theorem d1_0 : decode prog_62_method_5_code 0 = .ok (.iload_n 0, 1) := by decide +kernel
theorem d1_1 : decode prog_62_method_5_code 1 = .ok (.ifCond .eq 14, 3) := by decide +kernel
theorem d1_4 : decode prog_62_method_5_code 4 = .ok (.iload_n 1, 1) := by decide +kernel
theorem d1_5 : decode prog_62_method_5_code 5 = .ok (.ifCond .eq 10, 3) := by decide +kernel
theorem d1_8 : decode prog_62_method_5_code 8 = .ok (.getstatic 13, 3) := by decide +kernel
theorem d1_11 : decode prog_62_method_5_code 11 = .ok (.astore_n 2, 1) := by decide +kernel
theorem d1_12 : decode prog_62_method_5_code 12 = .ok (.goto 29, 3) := by decide +kernel
theorem d1_41 : decode prog_62_method_5_code 41 = .ok (.aload_n 2, 1) := by decide +kernel
theorem d1_42 : decode prog_62_method_5_code 42 = .ok (.areturn, 1) := by decide +kernel
theorem pn_com_example_uncovert_uncovert_model_srm_Access : plainName "com/example/uncovert/uncovert/model/srm/Access" = true := by first | (simp [plainName, overriddenIn]; done) | decide +kernel
theorem ef_1_READ_MODIFY (m : MethodId)  : entryFrame m #[(.int (1 : Int32)), (.int (1 : Int32))] 3 = mkF m 0 #[.val (.int (1 : Int32)), .val (.int (1 : Int32)), .unset] [] := by first | (simp [entryFrame, mkF, argsToLocals, Value.category]; done) | rfl
def Q1_READ_MODIFY (Z : State) (w : Addr) (h0 : Heap) (n0 : Nat) (v : Option Value) (h : Heap) (L : List Loc) : Prop := Fr n0 L ∧ (v = some (.ref w) ∧ h = h0)
set_option maxRecDepth 65536 in
set_option maxHeartbeats 40000000 in
theorem rm1_READ_MODIFY (l : Launch) (Z : State) (a0 : Array Value) (hw : ∀ d ∈ tables_1, d.before a0 Z = true) (ws : List Jvm.Cond) (w : Addr) (h0 : Heap) (n0 : Nat) (Z0 : n0 ≤ h0.size) (S : Sta Z h0 "com/example/uncovert/uncovert/model/srm/Access" "READ_MODIFY" "Lcom/example/uncovert/uncovert/model/srm/Access;" (.ref w)) :
    MetFree l (⟨"com/example/uncovert/uncovert/model/srm/Access", "of", "(ZZ)Lcom/example/uncovert/uncovert/model/srm/Access;"⟩ : MethodName) (head1 (Jvm.Cond.code (⟨"com/example/uncovert/uncovert/model/srm/Access", "of", "(ZZ)Lcom/example/uncovert/uncovert/model/srm/Access;"⟩ : MethodName) prog_62_method_5_code 3 (some (.object "com/example/uncovert/uncovert/model/srm/Access")) :: ws) ({ frames := 0, cells := 0, slots := 0, locals := 0 } : Room)) (fun as0 U => as0 = #[(.int (1 : Int32)), (.int (1 : Int32))] ∧ Z.Warmed39 U.vm ∧ U.heap = h0) (fun _ _ _ _ _ => True) (fun _ U o U' => ∃ v L, o = .returned v ∧ Q1_READ_MODIFY Z w h0 n0 v U'.heap L ∧ FrameEnd U o U' L ({ frames := 0, cells := 0, slots := 0, locals := 0 } : Room).cells ({ frames := 0, cells := 0, slots := 0, locals := 0 } : Room).slots) := by
  refine MetFree.of_bodySF (plainFor_of_name pn_com_example_uncovert_uncovert_model_srm_Access) hisR ?_
  intro p e s m args below meth c s₁ Bd hml0 hP hK
  obtain ⟨rfl, hZ, hh⟩ := hP
  have hx := Bd.exec
  have hby := Bd.bytes
  have hml : c.maxLocals = 3 := hml0
  have hown : s.vm.findClass "com/example/uncovert/uncovert/model/srm/Access" = some m.cls := findClass_of_methodNamed Bd.named
  have hnm := (name_of_methodNamed Bd.named Bd.method).1
  have X0 : Stand p l e ({ frames := 0, cells := 0, slots := 0, locals := 0 } : Room) s m #[(.int (1 : Int32)), (.int (1 : Int32))] below meth c s₁ [] 0 0 := Stand.of_body Bd
  have e0 : s₁.heap = h0 := by rw [← hh, Bd.state]; rfl
  have N0 := Fr.nil n0
  show Gl p e below s (Q1_READ_MODIFY Z w h0 n0) ({ frames := 0, cells := 0, slots := 0, locals := 0 } : Room).cells ({ frames := 0, cells := 0, slots := 0, locals := 0 } : Room).slots (s₁.setTop (entryFrame m #[(.int (1 : Int32)), (.int (1 : Int32))] 3))
  refine Gl.back (fun _ k => castTop (ef_1_READ_MODIFY m ) k) ?_
  show Gl _ _ _ _ _ _ _ (s₁.setTop (mkF m 0 #[.val (.int (1 : Int32)), .val (.int (1 : Int32)), .unset] []))
  refine Gl.back (fun _ k => XS.iloadN X0.here hx rfl (hb hby d1_0) rfl k) ?_
  show Gl _ _ _ _ _ _ _ (s₁.setTop (mkF m 1 #[.val (.int (1 : Int32)), .val (.int (1 : Int32)), .unset] [(.int (1 : Int32))]))
  refine Gl.back (fun _ k => XS.ifNo X0.here hx rfl (hb hby d1_1) rfl ((if0 _ _).trans (feq (by decide : ¬ (1 : Int32) = (0 : Int32))).1) k) ?_
  show Gl _ _ _ _ _ _ _ (s₁.setTop (mkF m 4 #[.val (.int (1 : Int32)), .val (.int (1 : Int32)), .unset] []))
  refine Gl.back (fun _ k => XS.iloadN X0.here hx rfl (hb hby d1_4) rfl k) ?_
  show Gl _ _ _ _ _ _ _ (s₁.setTop (mkF m 5 #[.val (.int (1 : Int32)), .val (.int (1 : Int32)), .unset] [(.int (1 : Int32))]))
  refine Gl.back (fun _ k => XS.ifNo X0.here hx rfl (hb hby d1_5) rfl ((if0 _ _).trans (feq (by decide : ¬ (1 : Int32) = (0 : Int32))).1) k) ?_
  show Gl _ _ _ _ _ _ _ (s₁.setTop (mkF m 8 #[.val (.int (1 : Int32)), .val (.int (1 : Int32)), .unset] []))
  obtain ⟨T1, X1, e1, st1⟩ := getS2 X0 hx hZ hown (host := "") (Or.inl (hw _ (List.mem_of_getElem? (i := 20) rfl))) Via.refl e0 S (g := (mkF m 8 #[.val (.int (1 : Int32)), .val (.int (1 : Int32)), .unset] [])) rfl (hb hby d1_8)
  refine Gl.back (fun _ k => st1 _ k) ?_
  show Gl _ _ _ _ _ _ _ (T1.setTop (mkF m 11 #[.val (.int (1 : Int32)), .val (.int (1 : Int32)), .unset] [(.ref w)]))
  refine Gl.back (fun _ k => XS.astoreN X1.here hx rfl (hb hby d1_11) rfl rfl (l' := #[.val (.int (1 : Int32)), .val (.int (1 : Int32)), .val (.ref w)]) rfl k) ?_
  show Gl _ _ _ _ _ _ _ (T1.setTop (mkF m 12 #[.val (.int (1 : Int32)), .val (.int (1 : Int32)), .val (.ref w)] []))
  refine Gl.back (fun _ k => XS.goto X1.here hx rfl (pc0 := 12) (pc' := 41) rfl (hb hby d1_12) (by decide) (by decide) k) ?_
  show Gl _ _ _ _ _ _ _ (T1.setTop (mkF m 41 #[.val (.int (1 : Int32)), .val (.int (1 : Int32)), .val (.ref w)] []))
  refine Gl.back (fun _ k => XS.aloadN X1.here hx rfl (hb hby d1_41) rfl rfl k) ?_
  show Gl _ _ _ _ _ _ _ (T1.setTop (mkF m 42 #[.val (.int (1 : Int32)), .val (.int (1 : Int32)), .val (.ref w)] [(.ref w)]))
  exact Gl.ret X1 e1 (v := (some (.ref w))) (fun h => by rw [Bd.returns] at h; cases h) Bd.notSynchronized (fun fs hr => retOut X1 hx (w := (.ref w)) Bd.returns rfl (Or.inr (Or.inr (Or.inr (Or.inr ⟨rfl, rfl, rfl⟩)))) (hb hby d1_42) hr) ⟨N0, rfl, rfl⟩ (by decide) (by decide)
theorem d1_15 : decode prog_62_method_5_code 15 = .ok (.iload_n 0, 1) := by decide +kernel
theorem d1_16 : decode prog_62_method_5_code 16 = .ok (.ifCond .eq 10, 3) := by decide +kernel
theorem d1_19 : decode prog_62_method_5_code 19 = .ok (.getstatic 7, 3) := by decide +kernel
theorem d1_22 : decode prog_62_method_5_code 22 = .ok (.astore_n 2, 1) := by decide +kernel
theorem d1_23 : decode prog_62_method_5_code 23 = .ok (.goto 18, 3) := by decide +kernel
theorem ef_1_READ (m : MethodId)  : entryFrame m #[(.int (1 : Int32)), (.int (0 : Int32))] 3 = mkF m 0 #[.val (.int (1 : Int32)), .val (.int (0 : Int32)), .unset] [] := by first | (simp [entryFrame, mkF, argsToLocals, Value.category]; done) | rfl
def Q1_READ (Z : State) (w : Addr) (h0 : Heap) (n0 : Nat) (v : Option Value) (h : Heap) (L : List Loc) : Prop := Fr n0 L ∧ (v = some (.ref w) ∧ h = h0)
set_option maxRecDepth 65536 in
set_option maxHeartbeats 40000000 in
theorem rm1_READ (l : Launch) (Z : State) (a0 : Array Value) (hw : ∀ d ∈ tables_1, d.before a0 Z = true) (ws : List Jvm.Cond) (w : Addr) (h0 : Heap) (n0 : Nat) (Z0 : n0 ≤ h0.size) (S : Sta Z h0 "com/example/uncovert/uncovert/model/srm/Access" "READ" "Lcom/example/uncovert/uncovert/model/srm/Access;" (.ref w)) :
    MetFree l (⟨"com/example/uncovert/uncovert/model/srm/Access", "of", "(ZZ)Lcom/example/uncovert/uncovert/model/srm/Access;"⟩ : MethodName) (head1 (Jvm.Cond.code (⟨"com/example/uncovert/uncovert/model/srm/Access", "of", "(ZZ)Lcom/example/uncovert/uncovert/model/srm/Access;"⟩ : MethodName) prog_62_method_5_code 3 (some (.object "com/example/uncovert/uncovert/model/srm/Access")) :: ws) ({ frames := 0, cells := 0, slots := 0, locals := 0 } : Room)) (fun as0 U => as0 = #[(.int (1 : Int32)), (.int (0 : Int32))] ∧ Z.Warmed39 U.vm ∧ U.heap = h0) (fun _ _ _ _ _ => True) (fun _ U o U' => ∃ v L, o = .returned v ∧ Q1_READ Z w h0 n0 v U'.heap L ∧ FrameEnd U o U' L ({ frames := 0, cells := 0, slots := 0, locals := 0 } : Room).cells ({ frames := 0, cells := 0, slots := 0, locals := 0 } : Room).slots) := by
  refine MetFree.of_bodySF (plainFor_of_name pn_com_example_uncovert_uncovert_model_srm_Access) hisR ?_
  intro p e s m args below meth c s₁ Bd hml0 hP hK
  obtain ⟨rfl, hZ, hh⟩ := hP
  have hx := Bd.exec
  have hby := Bd.bytes
  have hml : c.maxLocals = 3 := hml0
  have hown : s.vm.findClass "com/example/uncovert/uncovert/model/srm/Access" = some m.cls := findClass_of_methodNamed Bd.named
  have hnm := (name_of_methodNamed Bd.named Bd.method).1
  have X0 : Stand p l e ({ frames := 0, cells := 0, slots := 0, locals := 0 } : Room) s m #[(.int (1 : Int32)), (.int (0 : Int32))] below meth c s₁ [] 0 0 := Stand.of_body Bd
  have e0 : s₁.heap = h0 := by rw [← hh, Bd.state]; rfl
  have N0 := Fr.nil n0
  show Gl p e below s (Q1_READ Z w h0 n0) ({ frames := 0, cells := 0, slots := 0, locals := 0 } : Room).cells ({ frames := 0, cells := 0, slots := 0, locals := 0 } : Room).slots (s₁.setTop (entryFrame m #[(.int (1 : Int32)), (.int (0 : Int32))] 3))
  refine Gl.back (fun _ k => castTop (ef_1_READ m ) k) ?_
  show Gl _ _ _ _ _ _ _ (s₁.setTop (mkF m 0 #[.val (.int (1 : Int32)), .val (.int (0 : Int32)), .unset] []))
  refine Gl.back (fun _ k => XS.iloadN X0.here hx rfl (hb hby d1_0) rfl k) ?_
  show Gl _ _ _ _ _ _ _ (s₁.setTop (mkF m 1 #[.val (.int (1 : Int32)), .val (.int (0 : Int32)), .unset] [(.int (1 : Int32))]))
  refine Gl.back (fun _ k => XS.ifNo X0.here hx rfl (hb hby d1_1) rfl ((if0 _ _).trans (feq (by decide : ¬ (1 : Int32) = (0 : Int32))).1) k) ?_
  show Gl _ _ _ _ _ _ _ (s₁.setTop (mkF m 4 #[.val (.int (1 : Int32)), .val (.int (0 : Int32)), .unset] []))
  refine Gl.back (fun _ k => XS.iloadN X0.here hx rfl (hb hby d1_4) rfl k) ?_
  show Gl _ _ _ _ _ _ _ (s₁.setTop (mkF m 5 #[.val (.int (1 : Int32)), .val (.int (0 : Int32)), .unset] [(.int (0 : Int32))]))
  refine Gl.back (fun _ k => XS.ifYes X0.here hx rfl (pc0 := 5) (pc' := 15) rfl (hb hby d1_5) rfl ((if0 _ _).trans (teq (by decide : (0 : Int32) = (0 : Int32))).1) (by decide) (by decide) k) ?_
  show Gl _ _ _ _ _ _ _ (s₁.setTop (mkF m 15 #[.val (.int (1 : Int32)), .val (.int (0 : Int32)), .unset] []))
  refine Gl.back (fun _ k => XS.iloadN X0.here hx rfl (hb hby d1_15) rfl k) ?_
  show Gl _ _ _ _ _ _ _ (s₁.setTop (mkF m 16 #[.val (.int (1 : Int32)), .val (.int (0 : Int32)), .unset] [(.int (1 : Int32))]))
  refine Gl.back (fun _ k => XS.ifNo X0.here hx rfl (hb hby d1_16) rfl ((if0 _ _).trans (feq (by decide : ¬ (1 : Int32) = (0 : Int32))).1) k) ?_
  show Gl _ _ _ _ _ _ _ (s₁.setTop (mkF m 19 #[.val (.int (1 : Int32)), .val (.int (0 : Int32)), .unset] []))
  obtain ⟨T2, X2, e2, st2⟩ := getS2 X0 hx hZ hown (host := "") (Or.inl (hw _ (List.mem_of_getElem? (i := 24) rfl))) Via.refl e0 S (g := (mkF m 19 #[.val (.int (1 : Int32)), .val (.int (0 : Int32)), .unset] [])) rfl (hb hby d1_19)
  refine Gl.back (fun _ k => st2 _ k) ?_
  show Gl _ _ _ _ _ _ _ (T2.setTop (mkF m 22 #[.val (.int (1 : Int32)), .val (.int (0 : Int32)), .unset] [(.ref w)]))
  refine Gl.back (fun _ k => XS.astoreN X2.here hx rfl (hb hby d1_22) rfl rfl (l' := #[.val (.int (1 : Int32)), .val (.int (0 : Int32)), .val (.ref w)]) rfl k) ?_
  show Gl _ _ _ _ _ _ _ (T2.setTop (mkF m 23 #[.val (.int (1 : Int32)), .val (.int (0 : Int32)), .val (.ref w)] []))
  refine Gl.back (fun _ k => XS.goto X2.here hx rfl (pc0 := 23) (pc' := 41) rfl (hb hby d1_23) (by decide) (by decide) k) ?_
  show Gl _ _ _ _ _ _ _ (T2.setTop (mkF m 41 #[.val (.int (1 : Int32)), .val (.int (0 : Int32)), .val (.ref w)] []))
  refine Gl.back (fun _ k => XS.aloadN X2.here hx rfl (hb hby d1_41) rfl rfl k) ?_
  show Gl _ _ _ _ _ _ _ (T2.setTop (mkF m 42 #[.val (.int (1 : Int32)), .val (.int (0 : Int32)), .val (.ref w)] [(.ref w)]))
  exact Gl.ret X2 e2 (v := (some (.ref w))) (fun h => by rw [Bd.returns] at h; cases h) Bd.notSynchronized (fun fs hr => retOut X2 hx (w := (.ref w)) Bd.returns rfl (Or.inr (Or.inr (Or.inr (Or.inr ⟨rfl, rfl, rfl⟩)))) (hb hby d1_42) hr) ⟨N0, rfl, rfl⟩ (by decide) (by decide)
theorem d1_26 : decode prog_62_method_5_code 26 = .ok (.iload_n 1, 1) := by decide +kernel
theorem d1_27 : decode prog_62_method_5_code 27 = .ok (.ifCond .eq 10, 3) := by decide +kernel
theorem d1_30 : decode prog_62_method_5_code 30 = .ok (.getstatic 10, 3) := by decide +kernel
theorem d1_33 : decode prog_62_method_5_code 33 = .ok (.astore_n 2, 1) := by decide +kernel
theorem d1_34 : decode prog_62_method_5_code 34 = .ok (.goto 7, 3) := by decide +kernel
theorem ef_1_MODIFY (m : MethodId)  : entryFrame m #[(.int (0 : Int32)), (.int (1 : Int32))] 3 = mkF m 0 #[.val (.int (0 : Int32)), .val (.int (1 : Int32)), .unset] [] := by first | (simp [entryFrame, mkF, argsToLocals, Value.category]; done) | rfl
def Q1_MODIFY (Z : State) (w : Addr) (h0 : Heap) (n0 : Nat) (v : Option Value) (h : Heap) (L : List Loc) : Prop := Fr n0 L ∧ (v = some (.ref w) ∧ h = h0)
set_option maxRecDepth 65536 in
set_option maxHeartbeats 40000000 in
theorem rm1_MODIFY (l : Launch) (Z : State) (a0 : Array Value) (hw : ∀ d ∈ tables_1, d.before a0 Z = true) (ws : List Jvm.Cond) (w : Addr) (h0 : Heap) (n0 : Nat) (Z0 : n0 ≤ h0.size) (S : Sta Z h0 "com/example/uncovert/uncovert/model/srm/Access" "MODIFY" "Lcom/example/uncovert/uncovert/model/srm/Access;" (.ref w)) :
    MetFree l (⟨"com/example/uncovert/uncovert/model/srm/Access", "of", "(ZZ)Lcom/example/uncovert/uncovert/model/srm/Access;"⟩ : MethodName) (head1 (Jvm.Cond.code (⟨"com/example/uncovert/uncovert/model/srm/Access", "of", "(ZZ)Lcom/example/uncovert/uncovert/model/srm/Access;"⟩ : MethodName) prog_62_method_5_code 3 (some (.object "com/example/uncovert/uncovert/model/srm/Access")) :: ws) ({ frames := 0, cells := 0, slots := 0, locals := 0 } : Room)) (fun as0 U => as0 = #[(.int (0 : Int32)), (.int (1 : Int32))] ∧ Z.Warmed39 U.vm ∧ U.heap = h0) (fun _ _ _ _ _ => True) (fun _ U o U' => ∃ v L, o = .returned v ∧ Q1_MODIFY Z w h0 n0 v U'.heap L ∧ FrameEnd U o U' L ({ frames := 0, cells := 0, slots := 0, locals := 0 } : Room).cells ({ frames := 0, cells := 0, slots := 0, locals := 0 } : Room).slots) := by
  refine MetFree.of_bodySF (plainFor_of_name pn_com_example_uncovert_uncovert_model_srm_Access) hisR ?_
  intro p e s m args below meth c s₁ Bd hml0 hP hK
  obtain ⟨rfl, hZ, hh⟩ := hP
  have hx := Bd.exec
  have hby := Bd.bytes
  have hml : c.maxLocals = 3 := hml0
  have hown : s.vm.findClass "com/example/uncovert/uncovert/model/srm/Access" = some m.cls := findClass_of_methodNamed Bd.named
  have hnm := (name_of_methodNamed Bd.named Bd.method).1
  have X0 : Stand p l e ({ frames := 0, cells := 0, slots := 0, locals := 0 } : Room) s m #[(.int (0 : Int32)), (.int (1 : Int32))] below meth c s₁ [] 0 0 := Stand.of_body Bd
  have e0 : s₁.heap = h0 := by rw [← hh, Bd.state]; rfl
  have N0 := Fr.nil n0
  show Gl p e below s (Q1_MODIFY Z w h0 n0) ({ frames := 0, cells := 0, slots := 0, locals := 0 } : Room).cells ({ frames := 0, cells := 0, slots := 0, locals := 0 } : Room).slots (s₁.setTop (entryFrame m #[(.int (0 : Int32)), (.int (1 : Int32))] 3))
  refine Gl.back (fun _ k => castTop (ef_1_MODIFY m ) k) ?_
  show Gl _ _ _ _ _ _ _ (s₁.setTop (mkF m 0 #[.val (.int (0 : Int32)), .val (.int (1 : Int32)), .unset] []))
  refine Gl.back (fun _ k => XS.iloadN X0.here hx rfl (hb hby d1_0) rfl k) ?_
  show Gl _ _ _ _ _ _ _ (s₁.setTop (mkF m 1 #[.val (.int (0 : Int32)), .val (.int (1 : Int32)), .unset] [(.int (0 : Int32))]))
  refine Gl.back (fun _ k => XS.ifYes X0.here hx rfl (pc0 := 1) (pc' := 15) rfl (hb hby d1_1) rfl ((if0 _ _).trans (teq (by decide : (0 : Int32) = (0 : Int32))).1) (by decide) (by decide) k) ?_
  show Gl _ _ _ _ _ _ _ (s₁.setTop (mkF m 15 #[.val (.int (0 : Int32)), .val (.int (1 : Int32)), .unset] []))
  refine Gl.back (fun _ k => XS.iloadN X0.here hx rfl (hb hby d1_15) rfl k) ?_
  show Gl _ _ _ _ _ _ _ (s₁.setTop (mkF m 16 #[.val (.int (0 : Int32)), .val (.int (1 : Int32)), .unset] [(.int (0 : Int32))]))
  refine Gl.back (fun _ k => XS.ifYes X0.here hx rfl (pc0 := 16) (pc' := 26) rfl (hb hby d1_16) rfl ((if0 _ _).trans (teq (by decide : (0 : Int32) = (0 : Int32))).1) (by decide) (by decide) k) ?_
  show Gl _ _ _ _ _ _ _ (s₁.setTop (mkF m 26 #[.val (.int (0 : Int32)), .val (.int (1 : Int32)), .unset] []))
  refine Gl.back (fun _ k => XS.iloadN X0.here hx rfl (hb hby d1_26) rfl k) ?_
  show Gl _ _ _ _ _ _ _ (s₁.setTop (mkF m 27 #[.val (.int (0 : Int32)), .val (.int (1 : Int32)), .unset] [(.int (1 : Int32))]))
  refine Gl.back (fun _ k => XS.ifNo X0.here hx rfl (hb hby d1_27) rfl ((if0 _ _).trans (feq (by decide : ¬ (1 : Int32) = (0 : Int32))).1) k) ?_
  show Gl _ _ _ _ _ _ _ (s₁.setTop (mkF m 30 #[.val (.int (0 : Int32)), .val (.int (1 : Int32)), .unset] []))
  obtain ⟨T3, X3, e3, st3⟩ := getS2 X0 hx hZ hown (host := "") (Or.inl (hw _ (List.mem_of_getElem? (i := 22) rfl))) Via.refl e0 S (g := (mkF m 30 #[.val (.int (0 : Int32)), .val (.int (1 : Int32)), .unset] [])) rfl (hb hby d1_30)
  refine Gl.back (fun _ k => st3 _ k) ?_
  show Gl _ _ _ _ _ _ _ (T3.setTop (mkF m 33 #[.val (.int (0 : Int32)), .val (.int (1 : Int32)), .unset] [(.ref w)]))
  refine Gl.back (fun _ k => XS.astoreN X3.here hx rfl (hb hby d1_33) rfl rfl (l' := #[.val (.int (0 : Int32)), .val (.int (1 : Int32)), .val (.ref w)]) rfl k) ?_
  show Gl _ _ _ _ _ _ _ (T3.setTop (mkF m 34 #[.val (.int (0 : Int32)), .val (.int (1 : Int32)), .val (.ref w)] []))
  refine Gl.back (fun _ k => XS.goto X3.here hx rfl (pc0 := 34) (pc' := 41) rfl (hb hby d1_34) (by decide) (by decide) k) ?_
  show Gl _ _ _ _ _ _ _ (T3.setTop (mkF m 41 #[.val (.int (0 : Int32)), .val (.int (1 : Int32)), .val (.ref w)] []))
  refine Gl.back (fun _ k => XS.aloadN X3.here hx rfl (hb hby d1_41) rfl rfl k) ?_
  show Gl _ _ _ _ _ _ _ (T3.setTop (mkF m 42 #[.val (.int (0 : Int32)), .val (.int (1 : Int32)), .val (.ref w)] [(.ref w)]))
  exact Gl.ret X3 e3 (v := (some (.ref w))) (fun h => by rw [Bd.returns] at h; cases h) Bd.notSynchronized (fun fs hr => retOut X3 hx (w := (.ref w)) Bd.returns rfl (Or.inr (Or.inr (Or.inr (Or.inr ⟨rfl, rfl, rfl⟩)))) (hb hby d1_42) hr) ⟨N0, rfl, rfl⟩ (by decide) (by decide)
theorem d1_37 : decode prog_62_method_5_code 37 = .ok (.getstatic 3, 3) := by decide +kernel
theorem d1_40 : decode prog_62_method_5_code 40 = .ok (.astore_n 2, 1) := by decide +kernel
theorem ef_1_NONE (m : MethodId)  : entryFrame m #[(.int (0 : Int32)), (.int (0 : Int32))] 3 = mkF m 0 #[.val (.int (0 : Int32)), .val (.int (0 : Int32)), .unset] [] := by first | (simp [entryFrame, mkF, argsToLocals, Value.category]; done) | rfl
def Q1_NONE (Z : State) (w : Addr) (h0 : Heap) (n0 : Nat) (v : Option Value) (h : Heap) (L : List Loc) : Prop := Fr n0 L ∧ (v = some (.ref w) ∧ h = h0)
set_option maxRecDepth 65536 in
set_option maxHeartbeats 40000000 in
theorem rm1_NONE (l : Launch) (Z : State) (a0 : Array Value) (hw : ∀ d ∈ tables_1, d.before a0 Z = true) (ws : List Jvm.Cond) (w : Addr) (h0 : Heap) (n0 : Nat) (Z0 : n0 ≤ h0.size) (S : Sta Z h0 "com/example/uncovert/uncovert/model/srm/Access" "NONE" "Lcom/example/uncovert/uncovert/model/srm/Access;" (.ref w)) :
    MetFree l (⟨"com/example/uncovert/uncovert/model/srm/Access", "of", "(ZZ)Lcom/example/uncovert/uncovert/model/srm/Access;"⟩ : MethodName) (head1 (Jvm.Cond.code (⟨"com/example/uncovert/uncovert/model/srm/Access", "of", "(ZZ)Lcom/example/uncovert/uncovert/model/srm/Access;"⟩ : MethodName) prog_62_method_5_code 3 (some (.object "com/example/uncovert/uncovert/model/srm/Access")) :: ws) ({ frames := 0, cells := 0, slots := 0, locals := 0 } : Room)) (fun as0 U => as0 = #[(.int (0 : Int32)), (.int (0 : Int32))] ∧ Z.Warmed39 U.vm ∧ U.heap = h0) (fun _ _ _ _ _ => True) (fun _ U o U' => ∃ v L, o = .returned v ∧ Q1_NONE Z w h0 n0 v U'.heap L ∧ FrameEnd U o U' L ({ frames := 0, cells := 0, slots := 0, locals := 0 } : Room).cells ({ frames := 0, cells := 0, slots := 0, locals := 0 } : Room).slots) := by
  refine MetFree.of_bodySF (plainFor_of_name pn_com_example_uncovert_uncovert_model_srm_Access) hisR ?_
  intro p e s m args below meth c s₁ Bd hml0 hP hK
  obtain ⟨rfl, hZ, hh⟩ := hP
  have hx := Bd.exec
  have hby := Bd.bytes
  have hml : c.maxLocals = 3 := hml0
  have hown : s.vm.findClass "com/example/uncovert/uncovert/model/srm/Access" = some m.cls := findClass_of_methodNamed Bd.named
  have hnm := (name_of_methodNamed Bd.named Bd.method).1
  have X0 : Stand p l e ({ frames := 0, cells := 0, slots := 0, locals := 0 } : Room) s m #[(.int (0 : Int32)), (.int (0 : Int32))] below meth c s₁ [] 0 0 := Stand.of_body Bd
  have e0 : s₁.heap = h0 := by rw [← hh, Bd.state]; rfl
  have N0 := Fr.nil n0
  show Gl p e below s (Q1_NONE Z w h0 n0) ({ frames := 0, cells := 0, slots := 0, locals := 0 } : Room).cells ({ frames := 0, cells := 0, slots := 0, locals := 0 } : Room).slots (s₁.setTop (entryFrame m #[(.int (0 : Int32)), (.int (0 : Int32))] 3))
  refine Gl.back (fun _ k => castTop (ef_1_NONE m ) k) ?_
  show Gl _ _ _ _ _ _ _ (s₁.setTop (mkF m 0 #[.val (.int (0 : Int32)), .val (.int (0 : Int32)), .unset] []))
  refine Gl.back (fun _ k => XS.iloadN X0.here hx rfl (hb hby d1_0) rfl k) ?_
  show Gl _ _ _ _ _ _ _ (s₁.setTop (mkF m 1 #[.val (.int (0 : Int32)), .val (.int (0 : Int32)), .unset] [(.int (0 : Int32))]))
  refine Gl.back (fun _ k => XS.ifYes X0.here hx rfl (pc0 := 1) (pc' := 15) rfl (hb hby d1_1) rfl ((if0 _ _).trans (teq (by decide : (0 : Int32) = (0 : Int32))).1) (by decide) (by decide) k) ?_
  show Gl _ _ _ _ _ _ _ (s₁.setTop (mkF m 15 #[.val (.int (0 : Int32)), .val (.int (0 : Int32)), .unset] []))
  refine Gl.back (fun _ k => XS.iloadN X0.here hx rfl (hb hby d1_15) rfl k) ?_
  show Gl _ _ _ _ _ _ _ (s₁.setTop (mkF m 16 #[.val (.int (0 : Int32)), .val (.int (0 : Int32)), .unset] [(.int (0 : Int32))]))
  refine Gl.back (fun _ k => XS.ifYes X0.here hx rfl (pc0 := 16) (pc' := 26) rfl (hb hby d1_16) rfl ((if0 _ _).trans (teq (by decide : (0 : Int32) = (0 : Int32))).1) (by decide) (by decide) k) ?_
  show Gl _ _ _ _ _ _ _ (s₁.setTop (mkF m 26 #[.val (.int (0 : Int32)), .val (.int (0 : Int32)), .unset] []))
  refine Gl.back (fun _ k => XS.iloadN X0.here hx rfl (hb hby d1_26) rfl k) ?_
  show Gl _ _ _ _ _ _ _ (s₁.setTop (mkF m 27 #[.val (.int (0 : Int32)), .val (.int (0 : Int32)), .unset] [(.int (0 : Int32))]))
  refine Gl.back (fun _ k => XS.ifYes X0.here hx rfl (pc0 := 27) (pc' := 37) rfl (hb hby d1_27) rfl ((if0 _ _).trans (teq (by decide : (0 : Int32) = (0 : Int32))).1) (by decide) (by decide) k) ?_
  show Gl _ _ _ _ _ _ _ (s₁.setTop (mkF m 37 #[.val (.int (0 : Int32)), .val (.int (0 : Int32)), .unset] []))
  obtain ⟨T4, X4, e4, st4⟩ := getS2 X0 hx hZ hown (host := "") (Or.inl (hw _ (List.mem_of_getElem? (i := 4) rfl))) Via.refl e0 S (g := (mkF m 37 #[.val (.int (0 : Int32)), .val (.int (0 : Int32)), .unset] [])) rfl (hb hby d1_37)
  refine Gl.back (fun _ k => st4 _ k) ?_
  show Gl _ _ _ _ _ _ _ (T4.setTop (mkF m 40 #[.val (.int (0 : Int32)), .val (.int (0 : Int32)), .unset] [(.ref w)]))
  refine Gl.back (fun _ k => XS.astoreN X4.here hx rfl (hb hby d1_40) rfl rfl (l' := #[.val (.int (0 : Int32)), .val (.int (0 : Int32)), .val (.ref w)]) rfl k) ?_
  show Gl _ _ _ _ _ _ _ (T4.setTop (mkF m 41 #[.val (.int (0 : Int32)), .val (.int (0 : Int32)), .val (.ref w)] []))
  refine Gl.back (fun _ k => XS.aloadN X4.here hx rfl (hb hby d1_41) rfl rfl k) ?_
  show Gl _ _ _ _ _ _ _ (T4.setTop (mkF m 42 #[.val (.int (0 : Int32)), .val (.int (0 : Int32)), .val (.ref w)] [(.ref w)]))
  exact Gl.ret X4 e4 (v := (some (.ref w))) (fun h => by rw [Bd.returns] at h; cases h) Bd.notSynchronized (fun fs hr => retOut X4 hx (w := (.ref w)) Bd.returns rfl (Or.inr (Or.inr (Or.inr (Or.inr ⟨rfl, rfl, rfl⟩)))) (hb hby d1_42) hr) ⟨N0, rfl, rfl⟩ (by decide) (by decide)
theorem d2_0 : decode prog_62_method_7_code 0 = .ok (.aload_n 0, 1) := by decide +kernel
theorem d2_1 : decode prog_62_method_7_code 1 = .ok (.getfield 39, 3) := by decide +kernel
theorem d2_4 : decode prog_62_method_7_code 4 = .ok (.ireturn, 1) := by decide +kernel
theorem ef_2 (m : MethodId) (x0 : Addr) : entryFrame m #[(.ref x0)] 1 = mkF m 0 #[.val (.ref x0)] [] := by first | (simp [entryFrame, mkF, argsToLocals, Value.category]; done) | rfl
def Q2 (Z : State) (a : Addr) (r : Int32) (h0 : Heap) (n0 : Nat) (v : Option Value) (h : Heap) (L : List Loc) : Prop := Fr n0 L ∧ (v = some (.int (nar .boolean r)) ∧ h = h0)
set_option maxRecDepth 65536 in
set_option maxHeartbeats 40000000 in
theorem rm2 (l : Launch) (Z : State) (a0 : Array Value) (hw : ∀ d ∈ tables_1, d.before a0 Z = true) (ws : List Jvm.Cond) (a : Addr) (r : Int32) (h0 : Heap) (n0 : Nat) (Z0 : n0 ≤ h0.size) (F : Fld Z h0 a "com/example/uncovert/uncovert/model/srm/Access" "reads" "Z" (.int r)) :
    MetFree l (⟨"com/example/uncovert/uncovert/model/srm/Access", "reads", "()Z"⟩ : MethodName) (head1 (Jvm.Cond.code (⟨"com/example/uncovert/uncovert/model/srm/Access", "reads", "()Z"⟩ : MethodName) prog_62_method_7_code 1 (some .boolean) :: ws) ({ frames := 0, cells := 0, slots := 0, locals := 0 } : Room)) (fun as0 U => as0 = #[(.ref a)] ∧ Z.Warmed39 U.vm ∧ U.heap = h0) (fun _ _ _ _ _ => True) (fun _ U o U' => ∃ v L, o = .returned v ∧ Q2 Z a r h0 n0 v U'.heap L ∧ FrameEnd U o U' L ({ frames := 0, cells := 0, slots := 0, locals := 0 } : Room).cells ({ frames := 0, cells := 0, slots := 0, locals := 0 } : Room).slots) := by
  refine MetFree.of_bodySF (plainFor_of_name pn_com_example_uncovert_uncovert_model_srm_Access) hisR ?_
  intro p e s m args below meth c s₁ Bd hml0 hP hK
  obtain ⟨rfl, hZ, hh⟩ := hP
  have hx := Bd.exec
  have hby := Bd.bytes
  have hml : c.maxLocals = 1 := hml0
  have hown : s.vm.findClass "com/example/uncovert/uncovert/model/srm/Access" = some m.cls := findClass_of_methodNamed Bd.named
  have hnm := (name_of_methodNamed Bd.named Bd.method).1
  have X0 : Stand p l e ({ frames := 0, cells := 0, slots := 0, locals := 0 } : Room) s m #[(.ref a)] below meth c s₁ [] 0 0 := Stand.of_body Bd
  have e0 : s₁.heap = h0 := by rw [← hh, Bd.state]; rfl
  have N0 := Fr.nil n0
  show Gl p e below s (Q2 Z a r h0 n0) ({ frames := 0, cells := 0, slots := 0, locals := 0 } : Room).cells ({ frames := 0, cells := 0, slots := 0, locals := 0 } : Room).slots (s₁.setTop (entryFrame m #[(.ref a)] 1))
  refine Gl.back (fun _ k => castTop (ef_2 m a) k) ?_
  show Gl _ _ _ _ _ _ _ (s₁.setTop (mkF m 0 #[.val (.ref a)] []))
  refine Gl.back (fun _ k => XS.aloadN X0.here hx rfl (hb hby d2_0) rfl rfl k) ?_
  show Gl _ _ _ _ _ _ _ (s₁.setTop (mkF m 1 #[.val (.ref a)] [(.ref a)]))
  obtain ⟨T5, X5, e5, st5⟩ := getF X0 hx hZ hown (host := "") (Or.inl (hw _ (List.mem_of_getElem? (i := 11) rfl))) Via.refl e0 F (g := (mkF m 1 #[.val (.ref a)] [(.ref a)])) rfl rfl (hb hby d2_1)
  refine Gl.back (fun _ k => st5 _ k) ?_
  show Gl _ _ _ _ _ _ _ (T5.setTop (mkF m 4 #[.val (.ref a)] [(.int r)]))
  exact Gl.ret X5 e5 (v := (some (.int (nar .boolean r)))) (fun h => by rw [Bd.returns] at h; cases h) Bd.notSynchronized (fun fs hr => retN X5 hx (t := .boolean) (z := r) Bd.returns (by simp) (hb hby d2_4) hr) ⟨N0, rfl, rfl⟩ (by decide) (by decide)
theorem d3_0 : decode prog_62_method_8_code 0 = .ok (.aload_n 0, 1) := by decide +kernel
theorem d3_1 : decode prog_62_method_8_code 1 = .ok (.getfield 43, 3) := by decide +kernel
theorem d3_4 : decode prog_62_method_8_code 4 = .ok (.ireturn, 1) := by decide +kernel
theorem ef_3 (m : MethodId) (x0 : Addr) : entryFrame m #[(.ref x0)] 1 = mkF m 0 #[.val (.ref x0)] [] := by first | (simp [entryFrame, mkF, argsToLocals, Value.category]; done) | rfl
def Q3 (Z : State) (a : Addr) (r : Int32) (h0 : Heap) (n0 : Nat) (v : Option Value) (h : Heap) (L : List Loc) : Prop := Fr n0 L ∧ (v = some (.int (nar .boolean r)) ∧ h = h0)
set_option maxRecDepth 65536 in
set_option maxHeartbeats 40000000 in
theorem rm3 (l : Launch) (Z : State) (a0 : Array Value) (hw : ∀ d ∈ tables_1, d.before a0 Z = true) (ws : List Jvm.Cond) (a : Addr) (r : Int32) (h0 : Heap) (n0 : Nat) (Z0 : n0 ≤ h0.size) (F : Fld Z h0 a "com/example/uncovert/uncovert/model/srm/Access" "modifies" "Z" (.int r)) :
    MetFree l (⟨"com/example/uncovert/uncovert/model/srm/Access", "modifies", "()Z"⟩ : MethodName) (head1 (Jvm.Cond.code (⟨"com/example/uncovert/uncovert/model/srm/Access", "modifies", "()Z"⟩ : MethodName) prog_62_method_8_code 1 (some .boolean) :: ws) ({ frames := 0, cells := 0, slots := 0, locals := 0 } : Room)) (fun as0 U => as0 = #[(.ref a)] ∧ Z.Warmed39 U.vm ∧ U.heap = h0) (fun _ _ _ _ _ => True) (fun _ U o U' => ∃ v L, o = .returned v ∧ Q3 Z a r h0 n0 v U'.heap L ∧ FrameEnd U o U' L ({ frames := 0, cells := 0, slots := 0, locals := 0 } : Room).cells ({ frames := 0, cells := 0, slots := 0, locals := 0 } : Room).slots) := by
  refine MetFree.of_bodySF (plainFor_of_name pn_com_example_uncovert_uncovert_model_srm_Access) hisR ?_
  intro p e s m args below meth c s₁ Bd hml0 hP hK
  obtain ⟨rfl, hZ, hh⟩ := hP
  have hx := Bd.exec
  have hby := Bd.bytes
  have hml : c.maxLocals = 1 := hml0
  have hown : s.vm.findClass "com/example/uncovert/uncovert/model/srm/Access" = some m.cls := findClass_of_methodNamed Bd.named
  have hnm := (name_of_methodNamed Bd.named Bd.method).1
  have X0 : Stand p l e ({ frames := 0, cells := 0, slots := 0, locals := 0 } : Room) s m #[(.ref a)] below meth c s₁ [] 0 0 := Stand.of_body Bd
  have e0 : s₁.heap = h0 := by rw [← hh, Bd.state]; rfl
  have N0 := Fr.nil n0
  show Gl p e below s (Q3 Z a r h0 n0) ({ frames := 0, cells := 0, slots := 0, locals := 0 } : Room).cells ({ frames := 0, cells := 0, slots := 0, locals := 0 } : Room).slots (s₁.setTop (entryFrame m #[(.ref a)] 1))
  refine Gl.back (fun _ k => castTop (ef_3 m a) k) ?_
  show Gl _ _ _ _ _ _ _ (s₁.setTop (mkF m 0 #[.val (.ref a)] []))
  refine Gl.back (fun _ k => XS.aloadN X0.here hx rfl (hb hby d3_0) rfl rfl k) ?_
  show Gl _ _ _ _ _ _ _ (s₁.setTop (mkF m 1 #[.val (.ref a)] [(.ref a)]))
  obtain ⟨T6, X6, e6, st6⟩ := getF X0 hx hZ hown (host := "") (Or.inl (hw _ (List.mem_of_getElem? (i := 18) rfl))) Via.refl e0 F (g := (mkF m 1 #[.val (.ref a)] [(.ref a)])) rfl rfl (hb hby d3_1)
  refine Gl.back (fun _ k => st6 _ k) ?_
  show Gl _ _ _ _ _ _ _ (T6.setTop (mkF m 4 #[.val (.ref a)] [(.int r)]))
  exact Gl.ret X6 e6 (v := (some (.int (nar .boolean r)))) (fun h => by rw [Bd.returns] at h; cases h) Bd.notSynchronized (fun fs hr => retN X6 hx (t := .boolean) (z := r) Bd.returns (by simp) (hb hby d3_4) hr) ⟨N0, rfl, rfl⟩ (by decide) (by decide)
theorem pd__ZZ_Lcom_example_uncovert_uncovert_model_srm_Access_ : parseMethodDescriptor "(ZZ)Lcom/example/uncovert/uncovert/model/srm/Access;" = some ⟨[.boolean, .boolean], some (.object "com/example/uncovert/uncovert/model/srm/Access")⟩ := by decide +kernel
theorem pd___Z : parseMethodDescriptor "()Z" = some ⟨[], some .boolean⟩ := by decide +kernel
theorem pn_com_example_uncovert_uncovert_model_srm_AccessOfPinLaw : plainName "com/example/uncovert/uncovert/model/srm/AccessOfPinLaw" = true := by first | (simp [plainName, overriddenIn]; done) | decide +kernel
theorem ef_0 (m : MethodId) (x0 : Int32) : entryFrame m #[(.int x0)] maxLocals = mkF m 0 #[.val (.int x0), .unset, .unset, .unset] [] := by first | (simp [entryFrame, mkF, argsToLocals, Value.category, maxLocals]; done) | rfl
def Q0 (Z : State) (i : Int32) (w_READ_MODIFY : Addr) (w_READ : Addr) (w_MODIFY : Addr) (w_NONE : Addr) (h0 : Heap) (n0 : Nat) (v : Option Value) (h : Heap) (L : List Loc) : Prop := Fr n0 L ∧ (v = some (.int 1))
set_option maxRecDepth 65536 in
set_option maxHeartbeats 40000000 in
theorem rm0 (l : Launch) (Z : State) (a0 : Array Value) (hw : ∀ d ∈ tables_1, d.before a0 Z = true) (ws : List Jvm.Cond) (i : Int32) (w_READ_MODIFY : Addr) (w_READ : Addr) (w_MODIFY : Addr) (w_NONE : Addr) (h0 : Heap) (n0 : Nat) (Z0 : n0 ≤ h0.size) (S_READ_MODIFY : Sta Z h0 "com/example/uncovert/uncovert/model/srm/Access" "READ_MODIFY" "Lcom/example/uncovert/uncovert/model/srm/Access;" (.ref w_READ_MODIFY)) (S_READ : Sta Z h0 "com/example/uncovert/uncovert/model/srm/Access" "READ" "Lcom/example/uncovert/uncovert/model/srm/Access;" (.ref w_READ)) (S_MODIFY : Sta Z h0 "com/example/uncovert/uncovert/model/srm/Access" "MODIFY" "Lcom/example/uncovert/uncovert/model/srm/Access;" (.ref w_MODIFY)) (S_NONE : Sta Z h0 "com/example/uncovert/uncovert/model/srm/Access" "NONE" "Lcom/example/uncovert/uncovert/model/srm/Access;" (.ref w_NONE)) (E_READ_MODIFY : Exa Z h0 w_READ_MODIFY "com/example/uncovert/uncovert/model/srm/Access") (E_READ : Exa Z h0 w_READ "com/example/uncovert/uncovert/model/srm/Access") (E_MODIFY : Exa Z h0 w_MODIFY "com/example/uncovert/uncovert/model/srm/Access") (E_NONE : Exa Z h0 w_NONE "com/example/uncovert/uncovert/model/srm/Access") (F_READ_MODIFY_reads : Fld Z h0 w_READ_MODIFY "com/example/uncovert/uncovert/model/srm/Access" "reads" "Z" (.int 1)) (F_READ_MODIFY_modifies : Fld Z h0 w_READ_MODIFY "com/example/uncovert/uncovert/model/srm/Access" "modifies" "Z" (.int 1)) (F_READ_reads : Fld Z h0 w_READ "com/example/uncovert/uncovert/model/srm/Access" "reads" "Z" (.int 1)) (F_READ_modifies : Fld Z h0 w_READ "com/example/uncovert/uncovert/model/srm/Access" "modifies" "Z" (.int 0)) (F_MODIFY_reads : Fld Z h0 w_MODIFY "com/example/uncovert/uncovert/model/srm/Access" "reads" "Z" (.int 0)) (F_MODIFY_modifies : Fld Z h0 w_MODIFY "com/example/uncovert/uncovert/model/srm/Access" "modifies" "Z" (.int 1)) (F_NONE_reads : Fld Z h0 w_NONE "com/example/uncovert/uncovert/model/srm/Access" "reads" "Z" (.int 0)) (F_NONE_modifies : Fld Z h0 w_NONE "com/example/uncovert/uncovert/model/srm/Access" "modifies" "Z" (.int 0)) :
    MetFree l x (head1 (Jvm.Cond.code x code maxLocals ret :: ws) room_1) (fun as0 U => as0 = #[(.int i)] ∧ Z.Warmed39 U.vm ∧ U.heap = h0) (fun _ _ _ _ _ => True) (fun _ U o U' => ∃ v L, o = .returned v ∧ Q0 Z i w_READ_MODIFY w_READ w_MODIFY w_NONE h0 n0 v U'.heap L ∧ FrameEnd U o U' L room_1.cells room_1.slots) := by
  refine MetFree.of_bodySF (plainFor_of_name pn_com_example_uncovert_uncovert_model_srm_AccessOfPinLaw) hisR ?_
  intro p e s m args below meth c s₁ Bd hml0 hP hK
  obtain ⟨rfl, hZ, hh⟩ := hP
  have hx := Bd.exec
  have hby := Bd.bytes
  have hml : c.maxLocals = 4 := hml0
  have hown : s.vm.findClass "com/example/uncovert/uncovert/model/srm/AccessOfPinLaw" = some m.cls := findClass_of_methodNamed Bd.named
  have hnm := (name_of_methodNamed Bd.named Bd.method).1
  have X0 : Stand p l e room_1 s m #[(.int i)] below meth c s₁ [] 0 0 := Stand.of_body Bd
  have e0 : s₁.heap = h0 := by rw [← hh, Bd.state]; rfl
  have N0 := Fr.nil n0
  show Gl p e below s (Q0 Z i w_READ_MODIFY w_READ w_MODIFY w_NONE h0 n0) room_1.cells room_1.slots (s₁.setTop (entryFrame m #[(.int i)] maxLocals))
  refine Gl.back (fun _ k => castTop (ef_0 m i) k) ?_
  show Gl _ _ _ _ _ _ _ (s₁.setTop (mkF m 0 #[.val (.int i), .unset, .unset, .unset] []))
  refine Gl.back (fun _ k => XS.iloadN X0.here hx rfl (hb hby at_0) rfl k) ?_
  show Gl _ _ _ _ _ _ _ (s₁.setTop (mkF m 1 #[.val (.int i), .unset, .unset, .unset] [(.int i)]))
  refine Gl.back (fun _ k => XS.iconst X0.here hx rfl (hb hby at_1) k) ?_
  show Gl _ _ _ _ _ _ _ (s₁.setTop (mkF m 2 #[.val (.int i), .unset, .unset, .unset] [(.int (1 : Int32)), (.int i)]))
  refine Gl.back (fun _ k => XS.iand X0.here hx rfl (hb hby at_2) rfl k) ?_
  show Gl _ _ _ _ _ _ _ (s₁.setTop (mkF m 3 #[.val (.int i), .unset, .unset, .unset] [(.int (i &&& (1 : Int32)))]))
  by_cases hc3_29 : (i &&& (1 : Int32)) = (0 : Int32)
  · refine Gl.back (fun _ k => XS.ifYes X0.here hx rfl (pc0 := 3) (pc' := 10) rfl (hb hby at_3) rfl ((if0 _ _).trans (teq hc3_29).1) (by decide) (by decide) k) ?_
    show Gl _ _ _ _ _ _ _ (s₁.setTop (mkF m 10 #[.val (.int i), .unset, .unset, .unset] []))
    refine Gl.back (fun _ k => XS.iconst X0.here hx rfl (hb hby at_10) k) ?_
    show Gl _ _ _ _ _ _ _ (s₁.setTop (mkF m 11 #[.val (.int i), .unset, .unset, .unset] [(.int (0 : Int32))]))
    refine Gl.back (fun _ k => XS.istoreN X0.here hx rfl (hb hby at_11) rfl (l' := #[.val (.int i), .val (.int (0 : Int32)), .unset, .unset]) rfl k) ?_
    show Gl _ _ _ _ _ _ _ (s₁.setTop (mkF m 12 #[.val (.int i), .val (.int (0 : Int32)), .unset, .unset] []))
    refine Gl.back (fun _ k => XS.iloadN X0.here hx rfl (hb hby at_12) rfl k) ?_
    show Gl _ _ _ _ _ _ _ (s₁.setTop (mkF m 13 #[.val (.int i), .val (.int (0 : Int32)), .unset, .unset] [(.int i)]))
    refine Gl.back (fun _ k => XS.iconst X0.here hx rfl (hb hby at_13) k) ?_
    show Gl _ _ _ _ _ _ _ (s₁.setTop (mkF m 14 #[.val (.int i), .val (.int (0 : Int32)), .unset, .unset] [(.int (2 : Int32)), (.int i)]))
    refine Gl.back (fun _ k => XS.iand X0.here hx rfl (hb hby at_14) rfl k) ?_
    show Gl _ _ _ _ _ _ _ (s₁.setTop (mkF m 15 #[.val (.int i), .val (.int (0 : Int32)), .unset, .unset] [(.int (i &&& (2 : Int32)))]))
    by_cases hc15_30 : (i &&& (2 : Int32)) = (0 : Int32)
    · refine Gl.back (fun _ k => XS.ifYes X0.here hx rfl (pc0 := 15) (pc' := 22) rfl (hb hby at_15) rfl ((if0 _ _).trans (teq hc15_30).1) (by decide) (by decide) k) ?_
      show Gl _ _ _ _ _ _ _ (s₁.setTop (mkF m 22 #[.val (.int i), .val (.int (0 : Int32)), .unset, .unset] []))
      refine Gl.back (fun _ k => XS.iconst X0.here hx rfl (hb hby at_22) k) ?_
      show Gl _ _ _ _ _ _ _ (s₁.setTop (mkF m 23 #[.val (.int i), .val (.int (0 : Int32)), .unset, .unset] [(.int (0 : Int32))]))
      refine Gl.back (fun _ k => XS.istoreN X0.here hx rfl (hb hby at_23) rfl (l' := #[.val (.int i), .val (.int (0 : Int32)), .val (.int (0 : Int32)), .unset]) rfl k) ?_
      show Gl _ _ _ _ _ _ _ (s₁.setTop (mkF m 24 #[.val (.int i), .val (.int (0 : Int32)), .val (.int (0 : Int32)), .unset] []))
      refine Gl.back (fun _ k => XS.iloadN X0.here hx rfl (hb hby at_24) rfl k) ?_
      show Gl _ _ _ _ _ _ _ (s₁.setTop (mkF m 25 #[.val (.int i), .val (.int (0 : Int32)), .val (.int (0 : Int32)), .unset] [(.int (0 : Int32))]))
      refine Gl.back (fun _ k => XS.iloadN X0.here hx rfl (hb hby at_25) rfl k) ?_
      show Gl _ _ _ _ _ _ _ (s₁.setTop (mkF m 26 #[.val (.int i), .val (.int (0 : Int32)), .val (.int (0 : Int32)), .unset] [(.int (0 : Int32)), (.int (0 : Int32))]))
      obtain ⟨_, _, ⟨T31, L31, k31, n31⟩, -, X31, ⟨Lc31, hQ31, l31, y31, z31⟩, st31⟩ := Jvm.LawKit.callS X0 hx (y := (⟨"com/example/uncovert/uncovert/model/srm/Access", "of", "(ZZ)Lcom/example/uncovert/uncovert/model/srm/Access;"⟩ : MethodName)) hown (mvT hZ (hw _ (List.mem_of_getElem? (i := 0) rfl))) (mvT hZ (hw _ (List.mem_of_getElem? (i := 1) rfl))) (mvT hZ (hw _ (List.mem_of_getElem? (i := 2) rfl))) (mvT hZ (hw _ (List.mem_of_getElem? (i := 3) rfl))) (by decide) (backOf (W := 0) (rm1_NONE l Z a0 hw []  w_NONE h0 n0 Z0 S_NONE) hZ (hw _ (List.mem_of_getElem? (i := 3) rfl)) (hw _ (List.mem_of_getElem? (i := 2) rfl)) (by decide) (by decide)) (g := (mkF m 26 #[.val (.int i), .val (.int (0 : Int32)), .val (.int (0 : Int32)), .unset] [(.int (0 : Int32)), (.int (0 : Int32))])) rfl (by rw [hml]; rfl) (argsL := [(.int (0 : Int32)), (.int (0 : Int32))]) (rest := []) (lenOf pd__ZZ_Lcom_example_uncovert_uncovert_model_srm_Access_ rfl) rfl (by show 2 * 0 + _ ≤ _; exact Nat.le_of_eq rfl) (hb hby at_26) (fun _ _ => ⟨rfl, e0, (by decide : 0 + 0 ≤ _), (by decide : 0 + 0 ≤ _)⟩)
      dsimp only [Pt.U, Pt.locs, Pt.cells, Pt.slots] at X31 l31 y31 z31 st31 hQ31
      subst l31 y31 z31
      obtain ⟨Nq31, rfl, eh31⟩ := hQ31
      have N31 := Fr.app N0 Nq31
      refine Gl.back (fun _ k => st31 _ k) ?_
      show Gl _ _ _ _ _ _ _ (T31.setTop (mkF m 29 #[.val (.int i), .val (.int (0 : Int32)), .val (.int (0 : Int32)), .unset] [(.ref w_NONE)]))
      refine Gl.back (fun _ k => XS.astoreN X31.here hx rfl (hb hby at_29) rfl rfl (l' := #[.val (.int i), .val (.int (0 : Int32)), .val (.int (0 : Int32)), .val (.ref w_NONE)]) rfl k) ?_
      show Gl _ _ _ _ _ _ _ (T31.setTop (mkF m 30 #[.val (.int i), .val (.int (0 : Int32)), .val (.int (0 : Int32)), .val (.ref w_NONE)] []))
      refine Gl.back (fun _ k => XS.aloadN X31.here hx rfl (hb hby at_30) rfl rfl k) ?_
      show Gl _ _ _ _ _ _ _ (T31.setTop (mkF m 31 #[.val (.int i), .val (.int (0 : Int32)), .val (.int (0 : Int32)), .val (.ref w_NONE)] [(.ref w_NONE)]))
      refine Gl.back (fun _ k => XS.ifnonnullYes X31.here hx rfl (pc0 := 31) (pc' := 36) rfl (hb hby at_31) rfl (by decide) (by decide) k) ?_
      show Gl _ _ _ _ _ _ _ (T31.setTop (mkF m 36 #[.val (.int i), .val (.int (0 : Int32)), .val (.int (0 : Int32)), .val (.ref w_NONE)] []))
      refine Gl.back (fun _ k => XS.aloadN X31.here hx rfl (hb hby at_36) rfl rfl k) ?_
      show Gl _ _ _ _ _ _ _ (T31.setTop (mkF m 37 #[.val (.int i), .val (.int (0 : Int32)), .val (.int (0 : Int32)), .val (.ref w_NONE)] [(.ref w_NONE)]))
      obtain ⟨cq32, kq32, q32a, q32b, q32c⟩ := isOf hZ eh31 E_NONE
      obtain ⟨_, _, ⟨T32, L32, k32, n32⟩, -, X32, ⟨Lc32, hQ32, l32, y32, z32⟩, st32⟩ := X31.virtualBack hx (y := (⟨"com/example/uncovert/uncovert/model/srm/Access", "reads", "()Z"⟩ : MethodName)) (z := (⟨"com/example/uncovert/uncovert/model/srm/Access", "reads", "()Z"⟩ : MethodName)) hown (mvT hZ (hw _ (List.mem_of_getElem? (i := 6) rfl))) (mvT hZ (hw _ (List.mem_of_getElem? (i := 7) rfl))) (notFace_of_selects (args := #[]) (mvT hZ (hw _ (List.mem_of_getElem? (i := 9) rfl)))) (mvT hZ (hw _ (List.mem_of_getElem? (i := 9) rfl))) (mvT hZ (hw _ (List.mem_of_getElem? (i := 8) rfl))) (by decide) (backOf (W := 0) (rm2 l Z a0 hw [] w_NONE (0 : Int32) h0 n0 Z0 F_NONE_reads) hZ (hw _ (List.mem_of_getElem? (i := 10) rfl)) (hw _ (List.mem_of_getElem? (i := 2) rfl)) (by decide) (by decide)) q32a q32c (g := (mkF m 37 #[.val (.int i), .val (.int (0 : Int32)), .val (.int (0 : Int32)), .val (.ref w_NONE)] [(.ref w_NONE)])) rfl (by rw [hml]; rfl) (Steps.refl _) (argsL := []) (rest := []) (lenOf pd___Z rfl) rfl (by show 2 * 0 + _ ≤ _; exact Nat.le_of_eq rfl) (hb hby at_37) (fun _ _ => ⟨rfl, eh31, (by decide : 0 + 0 ≤ _), (by decide : 0 + 0 ≤ _)⟩)
      dsimp only [Pt.U, Pt.locs, Pt.cells, Pt.slots] at X32 l32 y32 z32 st32 hQ32
      subst l32 y32 z32
      obtain ⟨Nq32, rfl, eh32⟩ := hQ32
      have N32 := Fr.app N31 Nq32
      refine Gl.back (fun _ k => st32.trans k) ?_
      show Gl _ _ _ _ _ _ _ (T32.setTop (mkF m 40 #[.val (.int i), .val (.int (0 : Int32)), .val (.int (0 : Int32)), .val (.ref w_NONE)] [(.int (0 : Int32))]))
      refine Gl.back (fun _ k => XS.iloadN X32.here hx rfl (hb hby at_40) rfl k) ?_
      show Gl _ _ _ _ _ _ _ (T32.setTop (mkF m 41 #[.val (.int i), .val (.int (0 : Int32)), .val (.int (0 : Int32)), .val (.ref w_NONE)] [(.int (0 : Int32)), (.int (0 : Int32))]))
      refine Gl.back (fun _ k => XS.icmpNo X32.here hx rfl (hb hby at_41) rfl (teq (by decide : (0 : Int32) = (0 : Int32))).2 k) ?_
      show Gl _ _ _ _ _ _ _ (T32.setTop (mkF m 44 #[.val (.int i), .val (.int (0 : Int32)), .val (.int (0 : Int32)), .val (.ref w_NONE)] []))
      refine Gl.back (fun _ k => XS.aloadN X32.here hx rfl (hb hby at_44) rfl rfl k) ?_
      show Gl _ _ _ _ _ _ _ (T32.setTop (mkF m 45 #[.val (.int i), .val (.int (0 : Int32)), .val (.int (0 : Int32)), .val (.ref w_NONE)] [(.ref w_NONE)]))
      obtain ⟨cq33, kq33, q33a, q33b, q33c⟩ := isOf hZ eh32 E_NONE
      obtain ⟨_, _, ⟨T33, L33, k33, n33⟩, -, X33, ⟨Lc33, hQ33, l33, y33, z33⟩, st33⟩ := X32.virtualBack hx (y := (⟨"com/example/uncovert/uncovert/model/srm/Access", "modifies", "()Z"⟩ : MethodName)) (z := (⟨"com/example/uncovert/uncovert/model/srm/Access", "modifies", "()Z"⟩ : MethodName)) hown (mvT hZ (hw _ (List.mem_of_getElem? (i := 13) rfl))) (mvT hZ (hw _ (List.mem_of_getElem? (i := 14) rfl))) (notFace_of_selects (args := #[]) (mvT hZ (hw _ (List.mem_of_getElem? (i := 16) rfl)))) (mvT hZ (hw _ (List.mem_of_getElem? (i := 16) rfl))) (mvT hZ (hw _ (List.mem_of_getElem? (i := 15) rfl))) (by decide) (backOf (W := 0) (rm3 l Z a0 hw [] w_NONE (0 : Int32) h0 n0 Z0 F_NONE_modifies) hZ (hw _ (List.mem_of_getElem? (i := 17) rfl)) (hw _ (List.mem_of_getElem? (i := 2) rfl)) (by decide) (by decide)) q33a q33c (g := (mkF m 45 #[.val (.int i), .val (.int (0 : Int32)), .val (.int (0 : Int32)), .val (.ref w_NONE)] [(.ref w_NONE)])) rfl (by rw [hml]; rfl) (Steps.refl _) (argsL := []) (rest := []) (lenOf pd___Z rfl) rfl (by show 2 * 0 + _ ≤ _; exact Nat.le_of_eq rfl) (hb hby at_45) (fun _ _ => ⟨rfl, eh32, (by decide : 0 + 0 ≤ _), (by decide : 0 + 0 ≤ _)⟩)
      dsimp only [Pt.U, Pt.locs, Pt.cells, Pt.slots] at X33 l33 y33 z33 st33 hQ33
      subst l33 y33 z33
      obtain ⟨Nq33, rfl, eh33⟩ := hQ33
      have N33 := Fr.app N32 Nq33
      refine Gl.back (fun _ k => st33.trans k) ?_
      show Gl _ _ _ _ _ _ _ (T33.setTop (mkF m 48 #[.val (.int i), .val (.int (0 : Int32)), .val (.int (0 : Int32)), .val (.ref w_NONE)] [(.int (0 : Int32))]))
      refine Gl.back (fun _ k => XS.iloadN X33.here hx rfl (hb hby at_48) rfl k) ?_
      show Gl _ _ _ _ _ _ _ (T33.setTop (mkF m 49 #[.val (.int i), .val (.int (0 : Int32)), .val (.int (0 : Int32)), .val (.ref w_NONE)] [(.int (0 : Int32)), (.int (0 : Int32))]))
      refine Gl.back (fun _ k => XS.icmpNo X33.here hx rfl (hb hby at_49) rfl (teq (by decide : (0 : Int32) = (0 : Int32))).2 k) ?_
      show Gl _ _ _ _ _ _ _ (T33.setTop (mkF m 52 #[.val (.int i), .val (.int (0 : Int32)), .val (.int (0 : Int32)), .val (.ref w_NONE)] []))
      refine Gl.back (fun _ k => XS.iconst X33.here hx rfl (hb hby at_52) k) ?_
      show Gl _ _ _ _ _ _ _ (T33.setTop (mkF m 53 #[.val (.int i), .val (.int (0 : Int32)), .val (.int (0 : Int32)), .val (.ref w_NONE)] [(.int (1 : Int32))]))
      refine Gl.back (fun _ k => XS.goto X33.here hx rfl (pc0 := 53) (pc' := 57) rfl (hb hby at_53) (by decide) (by decide) k) ?_
      show Gl _ _ _ _ _ _ _ (T33.setTop (mkF m 57 #[.val (.int i), .val (.int (0 : Int32)), .val (.int (0 : Int32)), .val (.ref w_NONE)] [(.int (1 : Int32))]))
      exact Gl.ret X33 eh33 (v := (some (.int (1 : Int32)))) (fun h => by rw [Bd.returns] at h; cases h) Bd.notSynchronized (fun fs hr => retN X33 hx (t := .boolean) (z := (1 : Int32)) Bd.returns (by simp) (hb hby at_57) hr) ⟨N33, rfl⟩ (by decide) (by decide)
    · refine Gl.back (fun _ k => XS.ifNo X0.here hx rfl (hb hby at_15) rfl ((if0 _ _).trans (feq hc15_30).1) k) ?_
      show Gl _ _ _ _ _ _ _ (s₁.setTop (mkF m 18 #[.val (.int i), .val (.int (0 : Int32)), .unset, .unset] []))
      refine Gl.back (fun _ k => XS.iconst X0.here hx rfl (hb hby at_18) k) ?_
      show Gl _ _ _ _ _ _ _ (s₁.setTop (mkF m 19 #[.val (.int i), .val (.int (0 : Int32)), .unset, .unset] [(.int (1 : Int32))]))
      refine Gl.back (fun _ k => XS.goto X0.here hx rfl (pc0 := 19) (pc' := 23) rfl (hb hby at_19) (by decide) (by decide) k) ?_
      show Gl _ _ _ _ _ _ _ (s₁.setTop (mkF m 23 #[.val (.int i), .val (.int (0 : Int32)), .unset, .unset] [(.int (1 : Int32))]))
      refine Gl.back (fun _ k => XS.istoreN X0.here hx rfl (hb hby at_23) rfl (l' := #[.val (.int i), .val (.int (0 : Int32)), .val (.int (1 : Int32)), .unset]) rfl k) ?_
      show Gl _ _ _ _ _ _ _ (s₁.setTop (mkF m 24 #[.val (.int i), .val (.int (0 : Int32)), .val (.int (1 : Int32)), .unset] []))
      refine Gl.back (fun _ k => XS.iloadN X0.here hx rfl (hb hby at_24) rfl k) ?_
      show Gl _ _ _ _ _ _ _ (s₁.setTop (mkF m 25 #[.val (.int i), .val (.int (0 : Int32)), .val (.int (1 : Int32)), .unset] [(.int (0 : Int32))]))
      refine Gl.back (fun _ k => XS.iloadN X0.here hx rfl (hb hby at_25) rfl k) ?_
      show Gl _ _ _ _ _ _ _ (s₁.setTop (mkF m 26 #[.val (.int i), .val (.int (0 : Int32)), .val (.int (1 : Int32)), .unset] [(.int (1 : Int32)), (.int (0 : Int32))]))
      obtain ⟨_, _, ⟨T34, L34, k34, n34⟩, -, X34, ⟨Lc34, hQ34, l34, y34, z34⟩, st34⟩ := Jvm.LawKit.callS X0 hx (y := (⟨"com/example/uncovert/uncovert/model/srm/Access", "of", "(ZZ)Lcom/example/uncovert/uncovert/model/srm/Access;"⟩ : MethodName)) hown (mvT hZ (hw _ (List.mem_of_getElem? (i := 0) rfl))) (mvT hZ (hw _ (List.mem_of_getElem? (i := 1) rfl))) (mvT hZ (hw _ (List.mem_of_getElem? (i := 2) rfl))) (mvT hZ (hw _ (List.mem_of_getElem? (i := 3) rfl))) (by decide) (backOf (W := 0) (rm1_MODIFY l Z a0 hw []  w_MODIFY h0 n0 Z0 S_MODIFY) hZ (hw _ (List.mem_of_getElem? (i := 3) rfl)) (hw _ (List.mem_of_getElem? (i := 2) rfl)) (by decide) (by decide)) (g := (mkF m 26 #[.val (.int i), .val (.int (0 : Int32)), .val (.int (1 : Int32)), .unset] [(.int (1 : Int32)), (.int (0 : Int32))])) rfl (by rw [hml]; rfl) (argsL := [(.int (0 : Int32)), (.int (1 : Int32))]) (rest := []) (lenOf pd__ZZ_Lcom_example_uncovert_uncovert_model_srm_Access_ rfl) rfl (by show 2 * 0 + _ ≤ _; exact Nat.le_of_eq rfl) (hb hby at_26) (fun _ _ => ⟨rfl, e0, (by decide : 0 + 0 ≤ _), (by decide : 0 + 0 ≤ _)⟩)
      dsimp only [Pt.U, Pt.locs, Pt.cells, Pt.slots] at X34 l34 y34 z34 st34 hQ34
      subst l34 y34 z34
      obtain ⟨Nq34, rfl, eh34⟩ := hQ34
      have N34 := Fr.app N0 Nq34
      refine Gl.back (fun _ k => st34 _ k) ?_
      show Gl _ _ _ _ _ _ _ (T34.setTop (mkF m 29 #[.val (.int i), .val (.int (0 : Int32)), .val (.int (1 : Int32)), .unset] [(.ref w_MODIFY)]))
      refine Gl.back (fun _ k => XS.astoreN X34.here hx rfl (hb hby at_29) rfl rfl (l' := #[.val (.int i), .val (.int (0 : Int32)), .val (.int (1 : Int32)), .val (.ref w_MODIFY)]) rfl k) ?_
      show Gl _ _ _ _ _ _ _ (T34.setTop (mkF m 30 #[.val (.int i), .val (.int (0 : Int32)), .val (.int (1 : Int32)), .val (.ref w_MODIFY)] []))
      refine Gl.back (fun _ k => XS.aloadN X34.here hx rfl (hb hby at_30) rfl rfl k) ?_
      show Gl _ _ _ _ _ _ _ (T34.setTop (mkF m 31 #[.val (.int i), .val (.int (0 : Int32)), .val (.int (1 : Int32)), .val (.ref w_MODIFY)] [(.ref w_MODIFY)]))
      refine Gl.back (fun _ k => XS.ifnonnullYes X34.here hx rfl (pc0 := 31) (pc' := 36) rfl (hb hby at_31) rfl (by decide) (by decide) k) ?_
      show Gl _ _ _ _ _ _ _ (T34.setTop (mkF m 36 #[.val (.int i), .val (.int (0 : Int32)), .val (.int (1 : Int32)), .val (.ref w_MODIFY)] []))
      refine Gl.back (fun _ k => XS.aloadN X34.here hx rfl (hb hby at_36) rfl rfl k) ?_
      show Gl _ _ _ _ _ _ _ (T34.setTop (mkF m 37 #[.val (.int i), .val (.int (0 : Int32)), .val (.int (1 : Int32)), .val (.ref w_MODIFY)] [(.ref w_MODIFY)]))
      obtain ⟨cq35, kq35, q35a, q35b, q35c⟩ := isOf hZ eh34 E_MODIFY
      obtain ⟨_, _, ⟨T35, L35, k35, n35⟩, -, X35, ⟨Lc35, hQ35, l35, y35, z35⟩, st35⟩ := X34.virtualBack hx (y := (⟨"com/example/uncovert/uncovert/model/srm/Access", "reads", "()Z"⟩ : MethodName)) (z := (⟨"com/example/uncovert/uncovert/model/srm/Access", "reads", "()Z"⟩ : MethodName)) hown (mvT hZ (hw _ (List.mem_of_getElem? (i := 6) rfl))) (mvT hZ (hw _ (List.mem_of_getElem? (i := 7) rfl))) (notFace_of_selects (args := #[]) (mvT hZ (hw _ (List.mem_of_getElem? (i := 9) rfl)))) (mvT hZ (hw _ (List.mem_of_getElem? (i := 9) rfl))) (mvT hZ (hw _ (List.mem_of_getElem? (i := 8) rfl))) (by decide) (backOf (W := 0) (rm2 l Z a0 hw [] w_MODIFY (0 : Int32) h0 n0 Z0 F_MODIFY_reads) hZ (hw _ (List.mem_of_getElem? (i := 10) rfl)) (hw _ (List.mem_of_getElem? (i := 2) rfl)) (by decide) (by decide)) q35a q35c (g := (mkF m 37 #[.val (.int i), .val (.int (0 : Int32)), .val (.int (1 : Int32)), .val (.ref w_MODIFY)] [(.ref w_MODIFY)])) rfl (by rw [hml]; rfl) (Steps.refl _) (argsL := []) (rest := []) (lenOf pd___Z rfl) rfl (by show 2 * 0 + _ ≤ _; exact Nat.le_of_eq rfl) (hb hby at_37) (fun _ _ => ⟨rfl, eh34, (by decide : 0 + 0 ≤ _), (by decide : 0 + 0 ≤ _)⟩)
      dsimp only [Pt.U, Pt.locs, Pt.cells, Pt.slots] at X35 l35 y35 z35 st35 hQ35
      subst l35 y35 z35
      obtain ⟨Nq35, rfl, eh35⟩ := hQ35
      have N35 := Fr.app N34 Nq35
      refine Gl.back (fun _ k => st35.trans k) ?_
      show Gl _ _ _ _ _ _ _ (T35.setTop (mkF m 40 #[.val (.int i), .val (.int (0 : Int32)), .val (.int (1 : Int32)), .val (.ref w_MODIFY)] [(.int (0 : Int32))]))
      refine Gl.back (fun _ k => XS.iloadN X35.here hx rfl (hb hby at_40) rfl k) ?_
      show Gl _ _ _ _ _ _ _ (T35.setTop (mkF m 41 #[.val (.int i), .val (.int (0 : Int32)), .val (.int (1 : Int32)), .val (.ref w_MODIFY)] [(.int (0 : Int32)), (.int (0 : Int32))]))
      refine Gl.back (fun _ k => XS.icmpNo X35.here hx rfl (hb hby at_41) rfl (teq (by decide : (0 : Int32) = (0 : Int32))).2 k) ?_
      show Gl _ _ _ _ _ _ _ (T35.setTop (mkF m 44 #[.val (.int i), .val (.int (0 : Int32)), .val (.int (1 : Int32)), .val (.ref w_MODIFY)] []))
      refine Gl.back (fun _ k => XS.aloadN X35.here hx rfl (hb hby at_44) rfl rfl k) ?_
      show Gl _ _ _ _ _ _ _ (T35.setTop (mkF m 45 #[.val (.int i), .val (.int (0 : Int32)), .val (.int (1 : Int32)), .val (.ref w_MODIFY)] [(.ref w_MODIFY)]))
      obtain ⟨cq36, kq36, q36a, q36b, q36c⟩ := isOf hZ eh35 E_MODIFY
      obtain ⟨_, _, ⟨T36, L36, k36, n36⟩, -, X36, ⟨Lc36, hQ36, l36, y36, z36⟩, st36⟩ := X35.virtualBack hx (y := (⟨"com/example/uncovert/uncovert/model/srm/Access", "modifies", "()Z"⟩ : MethodName)) (z := (⟨"com/example/uncovert/uncovert/model/srm/Access", "modifies", "()Z"⟩ : MethodName)) hown (mvT hZ (hw _ (List.mem_of_getElem? (i := 13) rfl))) (mvT hZ (hw _ (List.mem_of_getElem? (i := 14) rfl))) (notFace_of_selects (args := #[]) (mvT hZ (hw _ (List.mem_of_getElem? (i := 16) rfl)))) (mvT hZ (hw _ (List.mem_of_getElem? (i := 16) rfl))) (mvT hZ (hw _ (List.mem_of_getElem? (i := 15) rfl))) (by decide) (backOf (W := 0) (rm3 l Z a0 hw [] w_MODIFY (1 : Int32) h0 n0 Z0 F_MODIFY_modifies) hZ (hw _ (List.mem_of_getElem? (i := 17) rfl)) (hw _ (List.mem_of_getElem? (i := 2) rfl)) (by decide) (by decide)) q36a q36c (g := (mkF m 45 #[.val (.int i), .val (.int (0 : Int32)), .val (.int (1 : Int32)), .val (.ref w_MODIFY)] [(.ref w_MODIFY)])) rfl (by rw [hml]; rfl) (Steps.refl _) (argsL := []) (rest := []) (lenOf pd___Z rfl) rfl (by show 2 * 0 + _ ≤ _; exact Nat.le_of_eq rfl) (hb hby at_45) (fun _ _ => ⟨rfl, eh35, (by decide : 0 + 0 ≤ _), (by decide : 0 + 0 ≤ _)⟩)
      dsimp only [Pt.U, Pt.locs, Pt.cells, Pt.slots] at X36 l36 y36 z36 st36 hQ36
      subst l36 y36 z36
      obtain ⟨Nq36, rfl, eh36⟩ := hQ36
      have N36 := Fr.app N35 Nq36
      refine Gl.back (fun _ k => st36.trans k) ?_
      show Gl _ _ _ _ _ _ _ (T36.setTop (mkF m 48 #[.val (.int i), .val (.int (0 : Int32)), .val (.int (1 : Int32)), .val (.ref w_MODIFY)] [(.int (1 : Int32))]))
      refine Gl.back (fun _ k => XS.iloadN X36.here hx rfl (hb hby at_48) rfl k) ?_
      show Gl _ _ _ _ _ _ _ (T36.setTop (mkF m 49 #[.val (.int i), .val (.int (0 : Int32)), .val (.int (1 : Int32)), .val (.ref w_MODIFY)] [(.int (1 : Int32)), (.int (1 : Int32))]))
      refine Gl.back (fun _ k => XS.icmpNo X36.here hx rfl (hb hby at_49) rfl (teq (by decide : (1 : Int32) = (1 : Int32))).2 k) ?_
      show Gl _ _ _ _ _ _ _ (T36.setTop (mkF m 52 #[.val (.int i), .val (.int (0 : Int32)), .val (.int (1 : Int32)), .val (.ref w_MODIFY)] []))
      refine Gl.back (fun _ k => XS.iconst X36.here hx rfl (hb hby at_52) k) ?_
      show Gl _ _ _ _ _ _ _ (T36.setTop (mkF m 53 #[.val (.int i), .val (.int (0 : Int32)), .val (.int (1 : Int32)), .val (.ref w_MODIFY)] [(.int (1 : Int32))]))
      refine Gl.back (fun _ k => XS.goto X36.here hx rfl (pc0 := 53) (pc' := 57) rfl (hb hby at_53) (by decide) (by decide) k) ?_
      show Gl _ _ _ _ _ _ _ (T36.setTop (mkF m 57 #[.val (.int i), .val (.int (0 : Int32)), .val (.int (1 : Int32)), .val (.ref w_MODIFY)] [(.int (1 : Int32))]))
      exact Gl.ret X36 eh36 (v := (some (.int (1 : Int32)))) (fun h => by rw [Bd.returns] at h; cases h) Bd.notSynchronized (fun fs hr => retN X36 hx (t := .boolean) (z := (1 : Int32)) Bd.returns (by simp) (hb hby at_57) hr) ⟨N36, rfl⟩ (by decide) (by decide)
  · refine Gl.back (fun _ k => XS.ifNo X0.here hx rfl (hb hby at_3) rfl ((if0 _ _).trans (feq hc3_29).1) k) ?_
    show Gl _ _ _ _ _ _ _ (s₁.setTop (mkF m 6 #[.val (.int i), .unset, .unset, .unset] []))
    refine Gl.back (fun _ k => XS.iconst X0.here hx rfl (hb hby at_6) k) ?_
    show Gl _ _ _ _ _ _ _ (s₁.setTop (mkF m 7 #[.val (.int i), .unset, .unset, .unset] [(.int (1 : Int32))]))
    refine Gl.back (fun _ k => XS.goto X0.here hx rfl (pc0 := 7) (pc' := 11) rfl (hb hby at_7) (by decide) (by decide) k) ?_
    show Gl _ _ _ _ _ _ _ (s₁.setTop (mkF m 11 #[.val (.int i), .unset, .unset, .unset] [(.int (1 : Int32))]))
    refine Gl.back (fun _ k => XS.istoreN X0.here hx rfl (hb hby at_11) rfl (l' := #[.val (.int i), .val (.int (1 : Int32)), .unset, .unset]) rfl k) ?_
    show Gl _ _ _ _ _ _ _ (s₁.setTop (mkF m 12 #[.val (.int i), .val (.int (1 : Int32)), .unset, .unset] []))
    refine Gl.back (fun _ k => XS.iloadN X0.here hx rfl (hb hby at_12) rfl k) ?_
    show Gl _ _ _ _ _ _ _ (s₁.setTop (mkF m 13 #[.val (.int i), .val (.int (1 : Int32)), .unset, .unset] [(.int i)]))
    refine Gl.back (fun _ k => XS.iconst X0.here hx rfl (hb hby at_13) k) ?_
    show Gl _ _ _ _ _ _ _ (s₁.setTop (mkF m 14 #[.val (.int i), .val (.int (1 : Int32)), .unset, .unset] [(.int (2 : Int32)), (.int i)]))
    refine Gl.back (fun _ k => XS.iand X0.here hx rfl (hb hby at_14) rfl k) ?_
    show Gl _ _ _ _ _ _ _ (s₁.setTop (mkF m 15 #[.val (.int i), .val (.int (1 : Int32)), .unset, .unset] [(.int (i &&& (2 : Int32)))]))
    by_cases hc15_37 : (i &&& (2 : Int32)) = (0 : Int32)
    · refine Gl.back (fun _ k => XS.ifYes X0.here hx rfl (pc0 := 15) (pc' := 22) rfl (hb hby at_15) rfl ((if0 _ _).trans (teq hc15_37).1) (by decide) (by decide) k) ?_
      show Gl _ _ _ _ _ _ _ (s₁.setTop (mkF m 22 #[.val (.int i), .val (.int (1 : Int32)), .unset, .unset] []))
      refine Gl.back (fun _ k => XS.iconst X0.here hx rfl (hb hby at_22) k) ?_
      show Gl _ _ _ _ _ _ _ (s₁.setTop (mkF m 23 #[.val (.int i), .val (.int (1 : Int32)), .unset, .unset] [(.int (0 : Int32))]))
      refine Gl.back (fun _ k => XS.istoreN X0.here hx rfl (hb hby at_23) rfl (l' := #[.val (.int i), .val (.int (1 : Int32)), .val (.int (0 : Int32)), .unset]) rfl k) ?_
      show Gl _ _ _ _ _ _ _ (s₁.setTop (mkF m 24 #[.val (.int i), .val (.int (1 : Int32)), .val (.int (0 : Int32)), .unset] []))
      refine Gl.back (fun _ k => XS.iloadN X0.here hx rfl (hb hby at_24) rfl k) ?_
      show Gl _ _ _ _ _ _ _ (s₁.setTop (mkF m 25 #[.val (.int i), .val (.int (1 : Int32)), .val (.int (0 : Int32)), .unset] [(.int (1 : Int32))]))
      refine Gl.back (fun _ k => XS.iloadN X0.here hx rfl (hb hby at_25) rfl k) ?_
      show Gl _ _ _ _ _ _ _ (s₁.setTop (mkF m 26 #[.val (.int i), .val (.int (1 : Int32)), .val (.int (0 : Int32)), .unset] [(.int (0 : Int32)), (.int (1 : Int32))]))
      obtain ⟨_, _, ⟨T38, L38, k38, n38⟩, -, X38, ⟨Lc38, hQ38, l38, y38, z38⟩, st38⟩ := Jvm.LawKit.callS X0 hx (y := (⟨"com/example/uncovert/uncovert/model/srm/Access", "of", "(ZZ)Lcom/example/uncovert/uncovert/model/srm/Access;"⟩ : MethodName)) hown (mvT hZ (hw _ (List.mem_of_getElem? (i := 0) rfl))) (mvT hZ (hw _ (List.mem_of_getElem? (i := 1) rfl))) (mvT hZ (hw _ (List.mem_of_getElem? (i := 2) rfl))) (mvT hZ (hw _ (List.mem_of_getElem? (i := 3) rfl))) (by decide) (backOf (W := 0) (rm1_READ l Z a0 hw []  w_READ h0 n0 Z0 S_READ) hZ (hw _ (List.mem_of_getElem? (i := 3) rfl)) (hw _ (List.mem_of_getElem? (i := 2) rfl)) (by decide) (by decide)) (g := (mkF m 26 #[.val (.int i), .val (.int (1 : Int32)), .val (.int (0 : Int32)), .unset] [(.int (0 : Int32)), (.int (1 : Int32))])) rfl (by rw [hml]; rfl) (argsL := [(.int (1 : Int32)), (.int (0 : Int32))]) (rest := []) (lenOf pd__ZZ_Lcom_example_uncovert_uncovert_model_srm_Access_ rfl) rfl (by show 2 * 0 + _ ≤ _; exact Nat.le_of_eq rfl) (hb hby at_26) (fun _ _ => ⟨rfl, e0, (by decide : 0 + 0 ≤ _), (by decide : 0 + 0 ≤ _)⟩)
      dsimp only [Pt.U, Pt.locs, Pt.cells, Pt.slots] at X38 l38 y38 z38 st38 hQ38
      subst l38 y38 z38
      obtain ⟨Nq38, rfl, eh38⟩ := hQ38
      have N38 := Fr.app N0 Nq38
      refine Gl.back (fun _ k => st38 _ k) ?_
      show Gl _ _ _ _ _ _ _ (T38.setTop (mkF m 29 #[.val (.int i), .val (.int (1 : Int32)), .val (.int (0 : Int32)), .unset] [(.ref w_READ)]))
      refine Gl.back (fun _ k => XS.astoreN X38.here hx rfl (hb hby at_29) rfl rfl (l' := #[.val (.int i), .val (.int (1 : Int32)), .val (.int (0 : Int32)), .val (.ref w_READ)]) rfl k) ?_
      show Gl _ _ _ _ _ _ _ (T38.setTop (mkF m 30 #[.val (.int i), .val (.int (1 : Int32)), .val (.int (0 : Int32)), .val (.ref w_READ)] []))
      refine Gl.back (fun _ k => XS.aloadN X38.here hx rfl (hb hby at_30) rfl rfl k) ?_
      show Gl _ _ _ _ _ _ _ (T38.setTop (mkF m 31 #[.val (.int i), .val (.int (1 : Int32)), .val (.int (0 : Int32)), .val (.ref w_READ)] [(.ref w_READ)]))
      refine Gl.back (fun _ k => XS.ifnonnullYes X38.here hx rfl (pc0 := 31) (pc' := 36) rfl (hb hby at_31) rfl (by decide) (by decide) k) ?_
      show Gl _ _ _ _ _ _ _ (T38.setTop (mkF m 36 #[.val (.int i), .val (.int (1 : Int32)), .val (.int (0 : Int32)), .val (.ref w_READ)] []))
      refine Gl.back (fun _ k => XS.aloadN X38.here hx rfl (hb hby at_36) rfl rfl k) ?_
      show Gl _ _ _ _ _ _ _ (T38.setTop (mkF m 37 #[.val (.int i), .val (.int (1 : Int32)), .val (.int (0 : Int32)), .val (.ref w_READ)] [(.ref w_READ)]))
      obtain ⟨cq39, kq39, q39a, q39b, q39c⟩ := isOf hZ eh38 E_READ
      obtain ⟨_, _, ⟨T39, L39, k39, n39⟩, -, X39, ⟨Lc39, hQ39, l39, y39, z39⟩, st39⟩ := X38.virtualBack hx (y := (⟨"com/example/uncovert/uncovert/model/srm/Access", "reads", "()Z"⟩ : MethodName)) (z := (⟨"com/example/uncovert/uncovert/model/srm/Access", "reads", "()Z"⟩ : MethodName)) hown (mvT hZ (hw _ (List.mem_of_getElem? (i := 6) rfl))) (mvT hZ (hw _ (List.mem_of_getElem? (i := 7) rfl))) (notFace_of_selects (args := #[]) (mvT hZ (hw _ (List.mem_of_getElem? (i := 9) rfl)))) (mvT hZ (hw _ (List.mem_of_getElem? (i := 9) rfl))) (mvT hZ (hw _ (List.mem_of_getElem? (i := 8) rfl))) (by decide) (backOf (W := 0) (rm2 l Z a0 hw [] w_READ (1 : Int32) h0 n0 Z0 F_READ_reads) hZ (hw _ (List.mem_of_getElem? (i := 10) rfl)) (hw _ (List.mem_of_getElem? (i := 2) rfl)) (by decide) (by decide)) q39a q39c (g := (mkF m 37 #[.val (.int i), .val (.int (1 : Int32)), .val (.int (0 : Int32)), .val (.ref w_READ)] [(.ref w_READ)])) rfl (by rw [hml]; rfl) (Steps.refl _) (argsL := []) (rest := []) (lenOf pd___Z rfl) rfl (by show 2 * 0 + _ ≤ _; exact Nat.le_of_eq rfl) (hb hby at_37) (fun _ _ => ⟨rfl, eh38, (by decide : 0 + 0 ≤ _), (by decide : 0 + 0 ≤ _)⟩)
      dsimp only [Pt.U, Pt.locs, Pt.cells, Pt.slots] at X39 l39 y39 z39 st39 hQ39
      subst l39 y39 z39
      obtain ⟨Nq39, rfl, eh39⟩ := hQ39
      have N39 := Fr.app N38 Nq39
      refine Gl.back (fun _ k => st39.trans k) ?_
      show Gl _ _ _ _ _ _ _ (T39.setTop (mkF m 40 #[.val (.int i), .val (.int (1 : Int32)), .val (.int (0 : Int32)), .val (.ref w_READ)] [(.int (1 : Int32))]))
      refine Gl.back (fun _ k => XS.iloadN X39.here hx rfl (hb hby at_40) rfl k) ?_
      show Gl _ _ _ _ _ _ _ (T39.setTop (mkF m 41 #[.val (.int i), .val (.int (1 : Int32)), .val (.int (0 : Int32)), .val (.ref w_READ)] [(.int (1 : Int32)), (.int (1 : Int32))]))
      refine Gl.back (fun _ k => XS.icmpNo X39.here hx rfl (hb hby at_41) rfl (teq (by decide : (1 : Int32) = (1 : Int32))).2 k) ?_
      show Gl _ _ _ _ _ _ _ (T39.setTop (mkF m 44 #[.val (.int i), .val (.int (1 : Int32)), .val (.int (0 : Int32)), .val (.ref w_READ)] []))
      refine Gl.back (fun _ k => XS.aloadN X39.here hx rfl (hb hby at_44) rfl rfl k) ?_
      show Gl _ _ _ _ _ _ _ (T39.setTop (mkF m 45 #[.val (.int i), .val (.int (1 : Int32)), .val (.int (0 : Int32)), .val (.ref w_READ)] [(.ref w_READ)]))
      obtain ⟨cq40, kq40, q40a, q40b, q40c⟩ := isOf hZ eh39 E_READ
      obtain ⟨_, _, ⟨T40, L40, k40, n40⟩, -, X40, ⟨Lc40, hQ40, l40, y40, z40⟩, st40⟩ := X39.virtualBack hx (y := (⟨"com/example/uncovert/uncovert/model/srm/Access", "modifies", "()Z"⟩ : MethodName)) (z := (⟨"com/example/uncovert/uncovert/model/srm/Access", "modifies", "()Z"⟩ : MethodName)) hown (mvT hZ (hw _ (List.mem_of_getElem? (i := 13) rfl))) (mvT hZ (hw _ (List.mem_of_getElem? (i := 14) rfl))) (notFace_of_selects (args := #[]) (mvT hZ (hw _ (List.mem_of_getElem? (i := 16) rfl)))) (mvT hZ (hw _ (List.mem_of_getElem? (i := 16) rfl))) (mvT hZ (hw _ (List.mem_of_getElem? (i := 15) rfl))) (by decide) (backOf (W := 0) (rm3 l Z a0 hw [] w_READ (0 : Int32) h0 n0 Z0 F_READ_modifies) hZ (hw _ (List.mem_of_getElem? (i := 17) rfl)) (hw _ (List.mem_of_getElem? (i := 2) rfl)) (by decide) (by decide)) q40a q40c (g := (mkF m 45 #[.val (.int i), .val (.int (1 : Int32)), .val (.int (0 : Int32)), .val (.ref w_READ)] [(.ref w_READ)])) rfl (by rw [hml]; rfl) (Steps.refl _) (argsL := []) (rest := []) (lenOf pd___Z rfl) rfl (by show 2 * 0 + _ ≤ _; exact Nat.le_of_eq rfl) (hb hby at_45) (fun _ _ => ⟨rfl, eh39, (by decide : 0 + 0 ≤ _), (by decide : 0 + 0 ≤ _)⟩)
      dsimp only [Pt.U, Pt.locs, Pt.cells, Pt.slots] at X40 l40 y40 z40 st40 hQ40
      subst l40 y40 z40
      obtain ⟨Nq40, rfl, eh40⟩ := hQ40
      have N40 := Fr.app N39 Nq40
      refine Gl.back (fun _ k => st40.trans k) ?_
      show Gl _ _ _ _ _ _ _ (T40.setTop (mkF m 48 #[.val (.int i), .val (.int (1 : Int32)), .val (.int (0 : Int32)), .val (.ref w_READ)] [(.int (0 : Int32))]))
      refine Gl.back (fun _ k => XS.iloadN X40.here hx rfl (hb hby at_48) rfl k) ?_
      show Gl _ _ _ _ _ _ _ (T40.setTop (mkF m 49 #[.val (.int i), .val (.int (1 : Int32)), .val (.int (0 : Int32)), .val (.ref w_READ)] [(.int (0 : Int32)), (.int (0 : Int32))]))
      refine Gl.back (fun _ k => XS.icmpNo X40.here hx rfl (hb hby at_49) rfl (teq (by decide : (0 : Int32) = (0 : Int32))).2 k) ?_
      show Gl _ _ _ _ _ _ _ (T40.setTop (mkF m 52 #[.val (.int i), .val (.int (1 : Int32)), .val (.int (0 : Int32)), .val (.ref w_READ)] []))
      refine Gl.back (fun _ k => XS.iconst X40.here hx rfl (hb hby at_52) k) ?_
      show Gl _ _ _ _ _ _ _ (T40.setTop (mkF m 53 #[.val (.int i), .val (.int (1 : Int32)), .val (.int (0 : Int32)), .val (.ref w_READ)] [(.int (1 : Int32))]))
      refine Gl.back (fun _ k => XS.goto X40.here hx rfl (pc0 := 53) (pc' := 57) rfl (hb hby at_53) (by decide) (by decide) k) ?_
      show Gl _ _ _ _ _ _ _ (T40.setTop (mkF m 57 #[.val (.int i), .val (.int (1 : Int32)), .val (.int (0 : Int32)), .val (.ref w_READ)] [(.int (1 : Int32))]))
      exact Gl.ret X40 eh40 (v := (some (.int (1 : Int32)))) (fun h => by rw [Bd.returns] at h; cases h) Bd.notSynchronized (fun fs hr => retN X40 hx (t := .boolean) (z := (1 : Int32)) Bd.returns (by simp) (hb hby at_57) hr) ⟨N40, rfl⟩ (by decide) (by decide)
    · refine Gl.back (fun _ k => XS.ifNo X0.here hx rfl (hb hby at_15) rfl ((if0 _ _).trans (feq hc15_37).1) k) ?_
      show Gl _ _ _ _ _ _ _ (s₁.setTop (mkF m 18 #[.val (.int i), .val (.int (1 : Int32)), .unset, .unset] []))
      refine Gl.back (fun _ k => XS.iconst X0.here hx rfl (hb hby at_18) k) ?_
      show Gl _ _ _ _ _ _ _ (s₁.setTop (mkF m 19 #[.val (.int i), .val (.int (1 : Int32)), .unset, .unset] [(.int (1 : Int32))]))
      refine Gl.back (fun _ k => XS.goto X0.here hx rfl (pc0 := 19) (pc' := 23) rfl (hb hby at_19) (by decide) (by decide) k) ?_
      show Gl _ _ _ _ _ _ _ (s₁.setTop (mkF m 23 #[.val (.int i), .val (.int (1 : Int32)), .unset, .unset] [(.int (1 : Int32))]))
      refine Gl.back (fun _ k => XS.istoreN X0.here hx rfl (hb hby at_23) rfl (l' := #[.val (.int i), .val (.int (1 : Int32)), .val (.int (1 : Int32)), .unset]) rfl k) ?_
      show Gl _ _ _ _ _ _ _ (s₁.setTop (mkF m 24 #[.val (.int i), .val (.int (1 : Int32)), .val (.int (1 : Int32)), .unset] []))
      refine Gl.back (fun _ k => XS.iloadN X0.here hx rfl (hb hby at_24) rfl k) ?_
      show Gl _ _ _ _ _ _ _ (s₁.setTop (mkF m 25 #[.val (.int i), .val (.int (1 : Int32)), .val (.int (1 : Int32)), .unset] [(.int (1 : Int32))]))
      refine Gl.back (fun _ k => XS.iloadN X0.here hx rfl (hb hby at_25) rfl k) ?_
      show Gl _ _ _ _ _ _ _ (s₁.setTop (mkF m 26 #[.val (.int i), .val (.int (1 : Int32)), .val (.int (1 : Int32)), .unset] [(.int (1 : Int32)), (.int (1 : Int32))]))
      obtain ⟨_, _, ⟨T41, L41, k41, n41⟩, -, X41, ⟨Lc41, hQ41, l41, y41, z41⟩, st41⟩ := Jvm.LawKit.callS X0 hx (y := (⟨"com/example/uncovert/uncovert/model/srm/Access", "of", "(ZZ)Lcom/example/uncovert/uncovert/model/srm/Access;"⟩ : MethodName)) hown (mvT hZ (hw _ (List.mem_of_getElem? (i := 0) rfl))) (mvT hZ (hw _ (List.mem_of_getElem? (i := 1) rfl))) (mvT hZ (hw _ (List.mem_of_getElem? (i := 2) rfl))) (mvT hZ (hw _ (List.mem_of_getElem? (i := 3) rfl))) (by decide) (backOf (W := 0) (rm1_READ_MODIFY l Z a0 hw []  w_READ_MODIFY h0 n0 Z0 S_READ_MODIFY) hZ (hw _ (List.mem_of_getElem? (i := 3) rfl)) (hw _ (List.mem_of_getElem? (i := 2) rfl)) (by decide) (by decide)) (g := (mkF m 26 #[.val (.int i), .val (.int (1 : Int32)), .val (.int (1 : Int32)), .unset] [(.int (1 : Int32)), (.int (1 : Int32))])) rfl (by rw [hml]; rfl) (argsL := [(.int (1 : Int32)), (.int (1 : Int32))]) (rest := []) (lenOf pd__ZZ_Lcom_example_uncovert_uncovert_model_srm_Access_ rfl) rfl (by show 2 * 0 + _ ≤ _; exact Nat.le_of_eq rfl) (hb hby at_26) (fun _ _ => ⟨rfl, e0, (by decide : 0 + 0 ≤ _), (by decide : 0 + 0 ≤ _)⟩)
      dsimp only [Pt.U, Pt.locs, Pt.cells, Pt.slots] at X41 l41 y41 z41 st41 hQ41
      subst l41 y41 z41
      obtain ⟨Nq41, rfl, eh41⟩ := hQ41
      have N41 := Fr.app N0 Nq41
      refine Gl.back (fun _ k => st41 _ k) ?_
      show Gl _ _ _ _ _ _ _ (T41.setTop (mkF m 29 #[.val (.int i), .val (.int (1 : Int32)), .val (.int (1 : Int32)), .unset] [(.ref w_READ_MODIFY)]))
      refine Gl.back (fun _ k => XS.astoreN X41.here hx rfl (hb hby at_29) rfl rfl (l' := #[.val (.int i), .val (.int (1 : Int32)), .val (.int (1 : Int32)), .val (.ref w_READ_MODIFY)]) rfl k) ?_
      show Gl _ _ _ _ _ _ _ (T41.setTop (mkF m 30 #[.val (.int i), .val (.int (1 : Int32)), .val (.int (1 : Int32)), .val (.ref w_READ_MODIFY)] []))
      refine Gl.back (fun _ k => XS.aloadN X41.here hx rfl (hb hby at_30) rfl rfl k) ?_
      show Gl _ _ _ _ _ _ _ (T41.setTop (mkF m 31 #[.val (.int i), .val (.int (1 : Int32)), .val (.int (1 : Int32)), .val (.ref w_READ_MODIFY)] [(.ref w_READ_MODIFY)]))
      refine Gl.back (fun _ k => XS.ifnonnullYes X41.here hx rfl (pc0 := 31) (pc' := 36) rfl (hb hby at_31) rfl (by decide) (by decide) k) ?_
      show Gl _ _ _ _ _ _ _ (T41.setTop (mkF m 36 #[.val (.int i), .val (.int (1 : Int32)), .val (.int (1 : Int32)), .val (.ref w_READ_MODIFY)] []))
      refine Gl.back (fun _ k => XS.aloadN X41.here hx rfl (hb hby at_36) rfl rfl k) ?_
      show Gl _ _ _ _ _ _ _ (T41.setTop (mkF m 37 #[.val (.int i), .val (.int (1 : Int32)), .val (.int (1 : Int32)), .val (.ref w_READ_MODIFY)] [(.ref w_READ_MODIFY)]))
      obtain ⟨cq42, kq42, q42a, q42b, q42c⟩ := isOf hZ eh41 E_READ_MODIFY
      obtain ⟨_, _, ⟨T42, L42, k42, n42⟩, -, X42, ⟨Lc42, hQ42, l42, y42, z42⟩, st42⟩ := X41.virtualBack hx (y := (⟨"com/example/uncovert/uncovert/model/srm/Access", "reads", "()Z"⟩ : MethodName)) (z := (⟨"com/example/uncovert/uncovert/model/srm/Access", "reads", "()Z"⟩ : MethodName)) hown (mvT hZ (hw _ (List.mem_of_getElem? (i := 6) rfl))) (mvT hZ (hw _ (List.mem_of_getElem? (i := 7) rfl))) (notFace_of_selects (args := #[]) (mvT hZ (hw _ (List.mem_of_getElem? (i := 9) rfl)))) (mvT hZ (hw _ (List.mem_of_getElem? (i := 9) rfl))) (mvT hZ (hw _ (List.mem_of_getElem? (i := 8) rfl))) (by decide) (backOf (W := 0) (rm2 l Z a0 hw [] w_READ_MODIFY (1 : Int32) h0 n0 Z0 F_READ_MODIFY_reads) hZ (hw _ (List.mem_of_getElem? (i := 10) rfl)) (hw _ (List.mem_of_getElem? (i := 2) rfl)) (by decide) (by decide)) q42a q42c (g := (mkF m 37 #[.val (.int i), .val (.int (1 : Int32)), .val (.int (1 : Int32)), .val (.ref w_READ_MODIFY)] [(.ref w_READ_MODIFY)])) rfl (by rw [hml]; rfl) (Steps.refl _) (argsL := []) (rest := []) (lenOf pd___Z rfl) rfl (by show 2 * 0 + _ ≤ _; exact Nat.le_of_eq rfl) (hb hby at_37) (fun _ _ => ⟨rfl, eh41, (by decide : 0 + 0 ≤ _), (by decide : 0 + 0 ≤ _)⟩)
      dsimp only [Pt.U, Pt.locs, Pt.cells, Pt.slots] at X42 l42 y42 z42 st42 hQ42
      subst l42 y42 z42
      obtain ⟨Nq42, rfl, eh42⟩ := hQ42
      have N42 := Fr.app N41 Nq42
      refine Gl.back (fun _ k => st42.trans k) ?_
      show Gl _ _ _ _ _ _ _ (T42.setTop (mkF m 40 #[.val (.int i), .val (.int (1 : Int32)), .val (.int (1 : Int32)), .val (.ref w_READ_MODIFY)] [(.int (1 : Int32))]))
      refine Gl.back (fun _ k => XS.iloadN X42.here hx rfl (hb hby at_40) rfl k) ?_
      show Gl _ _ _ _ _ _ _ (T42.setTop (mkF m 41 #[.val (.int i), .val (.int (1 : Int32)), .val (.int (1 : Int32)), .val (.ref w_READ_MODIFY)] [(.int (1 : Int32)), (.int (1 : Int32))]))
      refine Gl.back (fun _ k => XS.icmpNo X42.here hx rfl (hb hby at_41) rfl (teq (by decide : (1 : Int32) = (1 : Int32))).2 k) ?_
      show Gl _ _ _ _ _ _ _ (T42.setTop (mkF m 44 #[.val (.int i), .val (.int (1 : Int32)), .val (.int (1 : Int32)), .val (.ref w_READ_MODIFY)] []))
      refine Gl.back (fun _ k => XS.aloadN X42.here hx rfl (hb hby at_44) rfl rfl k) ?_
      show Gl _ _ _ _ _ _ _ (T42.setTop (mkF m 45 #[.val (.int i), .val (.int (1 : Int32)), .val (.int (1 : Int32)), .val (.ref w_READ_MODIFY)] [(.ref w_READ_MODIFY)]))
      obtain ⟨cq43, kq43, q43a, q43b, q43c⟩ := isOf hZ eh42 E_READ_MODIFY
      obtain ⟨_, _, ⟨T43, L43, k43, n43⟩, -, X43, ⟨Lc43, hQ43, l43, y43, z43⟩, st43⟩ := X42.virtualBack hx (y := (⟨"com/example/uncovert/uncovert/model/srm/Access", "modifies", "()Z"⟩ : MethodName)) (z := (⟨"com/example/uncovert/uncovert/model/srm/Access", "modifies", "()Z"⟩ : MethodName)) hown (mvT hZ (hw _ (List.mem_of_getElem? (i := 13) rfl))) (mvT hZ (hw _ (List.mem_of_getElem? (i := 14) rfl))) (notFace_of_selects (args := #[]) (mvT hZ (hw _ (List.mem_of_getElem? (i := 16) rfl)))) (mvT hZ (hw _ (List.mem_of_getElem? (i := 16) rfl))) (mvT hZ (hw _ (List.mem_of_getElem? (i := 15) rfl))) (by decide) (backOf (W := 0) (rm3 l Z a0 hw [] w_READ_MODIFY (1 : Int32) h0 n0 Z0 F_READ_MODIFY_modifies) hZ (hw _ (List.mem_of_getElem? (i := 17) rfl)) (hw _ (List.mem_of_getElem? (i := 2) rfl)) (by decide) (by decide)) q43a q43c (g := (mkF m 45 #[.val (.int i), .val (.int (1 : Int32)), .val (.int (1 : Int32)), .val (.ref w_READ_MODIFY)] [(.ref w_READ_MODIFY)])) rfl (by rw [hml]; rfl) (Steps.refl _) (argsL := []) (rest := []) (lenOf pd___Z rfl) rfl (by show 2 * 0 + _ ≤ _; exact Nat.le_of_eq rfl) (hb hby at_45) (fun _ _ => ⟨rfl, eh42, (by decide : 0 + 0 ≤ _), (by decide : 0 + 0 ≤ _)⟩)
      dsimp only [Pt.U, Pt.locs, Pt.cells, Pt.slots] at X43 l43 y43 z43 st43 hQ43
      subst l43 y43 z43
      obtain ⟨Nq43, rfl, eh43⟩ := hQ43
      have N43 := Fr.app N42 Nq43
      refine Gl.back (fun _ k => st43.trans k) ?_
      show Gl _ _ _ _ _ _ _ (T43.setTop (mkF m 48 #[.val (.int i), .val (.int (1 : Int32)), .val (.int (1 : Int32)), .val (.ref w_READ_MODIFY)] [(.int (1 : Int32))]))
      refine Gl.back (fun _ k => XS.iloadN X43.here hx rfl (hb hby at_48) rfl k) ?_
      show Gl _ _ _ _ _ _ _ (T43.setTop (mkF m 49 #[.val (.int i), .val (.int (1 : Int32)), .val (.int (1 : Int32)), .val (.ref w_READ_MODIFY)] [(.int (1 : Int32)), (.int (1 : Int32))]))
      refine Gl.back (fun _ k => XS.icmpNo X43.here hx rfl (hb hby at_49) rfl (teq (by decide : (1 : Int32) = (1 : Int32))).2 k) ?_
      show Gl _ _ _ _ _ _ _ (T43.setTop (mkF m 52 #[.val (.int i), .val (.int (1 : Int32)), .val (.int (1 : Int32)), .val (.ref w_READ_MODIFY)] []))
      refine Gl.back (fun _ k => XS.iconst X43.here hx rfl (hb hby at_52) k) ?_
      show Gl _ _ _ _ _ _ _ (T43.setTop (mkF m 53 #[.val (.int i), .val (.int (1 : Int32)), .val (.int (1 : Int32)), .val (.ref w_READ_MODIFY)] [(.int (1 : Int32))]))
      refine Gl.back (fun _ k => XS.goto X43.here hx rfl (pc0 := 53) (pc' := 57) rfl (hb hby at_53) (by decide) (by decide) k) ?_
      show Gl _ _ _ _ _ _ _ (T43.setTop (mkF m 57 #[.val (.int i), .val (.int (1 : Int32)), .val (.int (1 : Int32)), .val (.ref w_READ_MODIFY)] [(.int (1 : Int32))]))
      exact Gl.ret X43 eh43 (v := (some (.int (1 : Int32)))) (fun h => by rw [Bd.returns] at h; cases h) Bd.notSynchronized (fun fs hr => retN X43 hx (t := .boolean) (z := (1 : Int32)) Bd.returns (by simp) (hb hby at_57) hr) ⟨N43, rfl⟩ (by decide) (by decide)
set_option maxRecDepth 65536 in
set_option maxHeartbeats 40000000 in
theorem comes_1 {Post : Tables → Env → Array Value → State → Outcome → State → Prop} (hpost : ∀ tb e args s v u, (limb_1_1.after args s (.returned v) u = true ∧ limb_1_2.after args s (.returned v) u = true ∧ True) → FrameEnd s (.returned v) u (Jvm.fieldLocs frame_1_writes args s ++ Jvm.arrayLocs frame_1_arrays args s ++ Jvm.staticLocs frame_1_statics s) 0 0 → Post tb e args s (.returned v) u) :
    ArmFor flags0 classFile x code maxLocals ret World_1 tables_1 room_1 Calls_1 rest_1 Pre_1 Post := by
  intro l hfl _ _ p e ha hc hk s m args below hf hA hF happ hP
  obtain ⟨hcalls, hrest, hpre⟩ := hP
  obtain ⟨-, -, -, hnamed, -, -, -, hat⟩ := (Spec.applies_iff hf).mp happ
  obtain ⟨hg, hn⟩ := and_e (Cond.before_iff.mp (show (Jvm.Cond.and given_1 narrow_1).before args s = true from hpre))
  obtain ⟨gv44, gv45⟩ := and_e hg
  obtain ⟨w0, rfl⟩ : ∃ w0 : Value, args = #[w0] := by
    have hs : args.size = 1 := by simpa [Cond.value, given_1] using gv44
    obtain ⟨L⟩ := args
    match L, hs with
    | [w0], _ => exact ⟨w0, rfl⟩
  have hw := fun d (hd : d ∈ tables_1) => atoms_spec (ws := Jvm.Cond.code x code maxLocals ret :: tables_1) hat d (List.mem_cons_of_mem _ hd)
  have hfit : Fit s := fun {y c} hc i hi => by
    obtain ⟨ha, rfl⟩ := Array.getElem?_eq_some_iff.mp hc
    have q := List.all_eq_true.mp ((Array.all_eq_true_iff_forall_mem.mp hF) _ (Array.getElem_mem ha)) i (List.mem_range.mpr hi)
    simpa [Array.getElem?_eq_getElem hi] using q
  obtain ⟨i0, ei0⟩ := is_v gv45
  obtain rfl : w0 = (.int i0) := Option.some.inj ei0
  obtain ⟨gn7, gn8⟩ := and_e hn
  obtain ⟨w_NONE, ev_NONE⟩ := exa_v gn7
  have S_NONE := Sta.start ev_NONE (Or.inr ⟨(hw _ (List.mem_of_getElem? (i := 2) rfl)), (hw _ (List.mem_of_getElem? (i := 5) rfl))⟩)
  have E_NONE := Exa.start ev_NONE gn7
  obtain ⟨gn9, gn10⟩ := and_e gn8
  obtain ⟨gn11, gn12⟩ := and_e gn10
  obtain ⟨gn13, gn14⟩ := and_e gn12
  obtain ⟨w_READ_MODIFY, ev_READ_MODIFY⟩ := exa_v gn13
  have S_READ_MODIFY := Sta.start ev_READ_MODIFY (Or.inr ⟨(hw _ (List.mem_of_getElem? (i := 2) rfl)), (hw _ (List.mem_of_getElem? (i := 21) rfl))⟩)
  have E_READ_MODIFY := Exa.start ev_READ_MODIFY gn13
  obtain ⟨gn15, gn16⟩ := and_e gn14
  obtain ⟨gn17, gn18⟩ := and_e gn16
  obtain ⟨gn19, gn20⟩ := and_e gn18
  obtain ⟨w_MODIFY, ev_MODIFY⟩ := exa_v gn19
  have S_MODIFY := Sta.start ev_MODIFY (Or.inr ⟨(hw _ (List.mem_of_getElem? (i := 2) rfl)), (hw _ (List.mem_of_getElem? (i := 23) rfl))⟩)
  have E_MODIFY := Exa.start ev_MODIFY gn19
  obtain ⟨gn21, gn22⟩ := and_e gn20
  obtain ⟨gn23, gn24⟩ := and_e gn22
  obtain ⟨gn25, gn26⟩ := and_e gn24
  obtain ⟨w_READ, ev_READ⟩ := exa_v gn25
  have S_READ := Sta.start ev_READ (Or.inr ⟨(hw _ (List.mem_of_getElem? (i := 2) rfl)), (hw _ (List.mem_of_getElem? (i := 25) rfl))⟩)
  have E_READ := Exa.start ev_READ gn25
  obtain ⟨gn27, gn28⟩ := and_e gn26
  have F_NONE_reads := own_fldI ev_NONE gn9
  have F_NONE_modifies := own_fldI ev_NONE gn11
  have F_READ_MODIFY_reads := own_fldI ev_READ_MODIFY gn15
  have F_READ_MODIFY_modifies := own_fldI ev_READ_MODIFY gn17
  have F_MODIFY_reads := own_fldI ev_MODIFY gn21
  have F_MODIFY_modifies := own_fldI ev_MODIFY gn23
  have F_READ_reads := own_fldI ev_READ gn27
  have F_READ_modifies := own_fldI ev_READ gn28
  obtain ⟨n, o, h1, h2, h3, _, L, rfl, ⟨N, rfl⟩, hq⟩ := rm0 l s _ hw tables_1 i0 w_READ_MODIFY w_READ w_MODIFY w_NONE s.heap s.heap.size (Nat.le_refl _) S_READ_MODIFY S_READ S_MODIFY S_NONE E_READ_MODIFY E_READ E_MODIFY E_NONE F_READ_MODIFY_reads F_READ_MODIFY_modifies F_READ_reads F_READ_modifies F_MODIFY_reads F_MODIFY_modifies F_NONE_reads F_NONE_modifies p e ha hc hk s m _ below hf ((Spec.applies_iff_loose hf).mp happ).1 ⟨rfl, State.Warmed39.refl s, rfl⟩ trivial
  refine ⟨n, _, h1, h2, h3, hpost _ _ _ _ _ _ ⟨Cond.after_iff.mpr rfl, Cond.after_iff.mpr (eq_i res_at (Term.int_eval (1)) rfl), trivial⟩ ⟨hq.1, hq.2.1, (hq.2.2.sift fun y hy => Or.inr (N y hy)).mono (by decide) (by decide)⟩⟩
theorem main_1_1 : Claimed_1_1 := comes_1 fun _ _ _ _ _ _ h hF => ⟨h.1, hF⟩
theorem main_1_2 : Claimed_1_2 := comes_1 fun _ _ _ _ _ _ h hF => ⟨h.2.1, hF⟩
end Jvm.Pilot.@@N@@
namespace Jvm.Pilot.@@N@@
open Jvm Jvm.ClassFile Sem Op Lib Jvm.Free Jvm.Stand Jvm.Pilot.@@N@@.Jvm.D
/-! MADE BY PROGRAM (witnessworld.py) out of the Statement's table words and the real class files: 12 classes; the members and pool entries that the words name. The judged class is class 1, her method 1. -/
namespace start1
open Jvm.ClassFile
def u (s : String) : CpInfo := .utf8 (stringToUtf16 s)
/-- a pool by its gaps: so many unusable entries, then the entry; so many at the end -/
def gap : Nat → List CpInfo → List CpInfo
  | 0, r => r
  | n + 1, r => .unusable :: gap n r
def poolList (es : List (Nat × CpInfo)) (last : Nat) : List CpInfo := es.foldr (fun e r => gap e.1 (e.2 :: r)) (gap last [])
def pool (es : List (Nat × CpInfo)) (last : Nat) : Array CpInfo := ⟨poolList es last⟩
def fileOf (pool : Array CpInfo) (this : Nat) (attrs : Array Attribute := #[]) (ms : Array MethodInfo := #[]) (fl : Nat := 33) (sup : Nat := 0) (ifs : Array Nat := #[]) (fds : Array FieldInfo := #[]) : ClassFile where
  minorVersion := 0
  majorVersion := 65
  constantPool := pool
  accessFlags := fl
  thisClass := this
  superClass := sup
  interfaces := ifs
  fields := fds
  methods := ms
  attributes := attrs
def plain (name : String) (sup : Option ClassId) : Class where
  name := name
  kind := .ordinary
  loader := none
  accessFlags := 33
  super := sup
  interfaces := #[]
  cf := none
  fields := #[]
  methods := #[]
  instanceTypes := #[]
  staticTypes := #[]
  resolved := #[]
  callSites := []
  init := .initialized
  statics := none
  mirror := none

def pool0 : Array CpInfo := pool [(5, u "<init>"), (0, u "()V"), (1, .class_ 10), (1, u "java/lang/Object")] 113

def k0m0 : Method := { name := "<init>", desc := "()V", sig := { parameters := [], returnType := none }, accessFlags := 1, code := none }
/-- java/lang/Object -/
def k0 : Class := { plain "java/lang/Object" none with
  accessFlags := 33
  interfaces := #[]
  cf := some (fileOf pool0 8 #[] #[{ accessFlags := 1, nameIndex := 5, descriptorIndex := 6, attributes := #[] }] 33 0 #[] #[])
  fields := #[]
  methods := #[k0m0]
  instanceTypes := #[]
  staticTypes := #[]
  resolved := Array.replicate 124 none
  statics := none }

def pool1 : Array CpInfo := pool [(2, .class_ 4), (1, u "java/lang/Object"), (0, u "<init>"), (0, u "()V"), (0, .methodref 8 9), (0, .class_ 10), (0, .nameAndType 11 12), (0, u "com/example/uncovert/uncovert/model/srm/Access"), (0, u "of"), (0, u "(ZZ)Lcom/example/uncovert/uncovert/model/srm/Access;"), (0, .methodref 8 14), (0, .nameAndType 15 16), (0, u "reads"), (0, u "()Z"), (0, .methodref 8 18), (0, .nameAndType 19 16), (0, u "modifies"), (0, .class_ 21), (0, u "com/example/uncovert/uncovert/model/srm/AccessOfPinLaw"), (2, u "law"), (0, u "(I)Z")] 3

def k1m0 : Method := { name := "<init>", desc := "()V", sig := { parameters := [], returnType := none }, accessFlags := 2, code := none }
def k1c1 : Code := { maxStack := 2, maxLocals := 4, code := code, exceptionTable := #[], attributes := #[] }
def k1m1 : Method := { name := "law", desc := "(I)Z", sig := { parameters := [.int], returnType := some .boolean }, accessFlags := 9, code := some k1c1 }
/-- com/example/uncovert/uncovert/model/srm/AccessOfPinLaw -/
def k1 : Class := { plain "com/example/uncovert/uncovert/model/srm/AccessOfPinLaw" (some 0) with
  accessFlags := 49
  interfaces := #[]
  cf := some (fileOf pool1 20 #[] #[{ accessFlags := 2, nameIndex := 5, descriptorIndex := 6, attributes := #[] }, { accessFlags := 9, nameIndex := 24, descriptorIndex := 25, attributes := #[] }] 49 2 #[] #[])
  fields := #[]
  methods := #[k1m0, k1m1]
  instanceTypes := #[]
  staticTypes := #[]
  resolved := Array.replicate 29 none
  statics := none }

def pool2 : Array CpInfo := pool [(1, .class_ 2), (0, u "java/lang/constant/Constable"), (0, .class_ 4), (0, u "java/lang/Object")] 6

/-- java/lang/constant/Constable -/
def k2 : Class := { plain "java/lang/constant/Constable" (some 0) with
  accessFlags := 1537
  interfaces := #[]
  cf := some (fileOf pool2 1 #[] #[] 1537 3 #[] #[])
  fields := #[]
  methods := #[]
  instanceTypes := #[]
  staticTypes := #[]
  resolved := Array.replicate 11 none
  statics := none }

def pool3 : Array CpInfo := pool [(1, .class_ 2), (0, u "java/lang/Comparable"), (0, .class_ 4), (0, u "java/lang/Object")] 7

/-- java/lang/Comparable -/
def k3 : Class := { plain "java/lang/Comparable" (some 0) with
  accessFlags := 1537
  interfaces := #[]
  cf := some (fileOf pool3 1 #[] #[] 1537 3 #[] #[])
  fields := #[]
  methods := #[]
  instanceTypes := #[]
  staticTypes := #[]
  resolved := Array.replicate 12 none
  statics := none }

def pool4 : Array CpInfo := pool [(1, .class_ 2), (0, u "java/io/Serializable"), (0, .class_ 4), (0, u "java/lang/Object")] 2

/-- java/io/Serializable -/
def k4 : Class := { plain "java/io/Serializable" (some 0) with
  accessFlags := 1537
  interfaces := #[]
  cf := some (fileOf pool4 1 #[] #[] 1537 3 #[] #[])
  fields := #[]
  methods := #[]
  instanceTypes := #[]
  staticTypes := #[]
  resolved := Array.replicate 7 none
  statics := none }

def pool5 : Array CpInfo := pool [(2, .class_ 4), (1, u "java/lang/Enum"), (0, u "name"), (0, u "Ljava/lang/String;"), (2, u "ordinal"), (0, u "I"), (1, .class_ 14), (1, u "java/lang/Object"), (4, u "hash"), (86, .class_ 108), (1, u "java/lang/Enum$EnumDesc"), (2, .class_ 112), (0, u "java/lang/constant/Constable"), (0, .class_ 114), (0, u "java/lang/Comparable"), (0, .class_ 116), (0, u "java/io/Serializable")] 87

/-- java/lang/Enum -/
def k5 : Class := { plain "java/lang/Enum" (some 0) with
  accessFlags := 1057
  interfaces := #[2, 3, 4]
  cf := some (fileOf pool5 2 #[.nestMembers #[106]] #[] 1057 12 #[111, 113, 115] #[{ accessFlags := 18, nameIndex := 5, descriptorIndex := 6, attributes := #[] }, { accessFlags := 18, nameIndex := 9, descriptorIndex := 10, attributes := #[] }, { accessFlags := 2, nameIndex := 19, descriptorIndex := 10, attributes := #[] }])
  fields := #[{ name := "name", type := (.object "java/lang/String"), accessFlags := 18, slot := 0, constantValue := 0 }, { name := "ordinal", type := .int, accessFlags := 18, slot := 1, constantValue := 0 }, { name := "hash", type := .int, accessFlags := 2, slot := 2, constantValue := 0 }]
  methods := #[]
  instanceTypes := #[(.object "java/lang/String"), .int, .int]
  staticTypes := #[]
  resolved := Array.replicate 204 none
  statics := none }

def pool6 : Array CpInfo := pool [(1, .class_ 2), (0, u "com/example/uncovert/uncovert/model/srm/Access"), (0, .fieldref 1 4), (0, .nameAndType 5 6), (0, u "NONE"), (0, u "Lcom/example/uncovert/uncovert/model/srm/Access;"), (0, .fieldref 1 8), (0, .nameAndType 9 6), (0, u "READ"), (0, .fieldref 1 11), (0, .nameAndType 12 6), (0, u "MODIFY"), (0, .fieldref 1 14), (0, .nameAndType 15 6), (0, u "READ_MODIFY"), (2, u "$VALUES"), (0, u "[Lcom/example/uncovert/uncovert/model/srm/Access;"), (6, .class_ 28), (1, u "java/lang/Enum"), (8, u "text"), (0, u "Ljava/lang/String;"), (0, .fieldref 1 40), (0, .nameAndType 41 42), (0, u "reads"), (0, u "Z"), (0, .fieldref 1 44), (0, .nameAndType 45 42), (0, u "modifies"), (2, u "ALL"), (36, u "of"), (0, u "(ZZ)Lcom/example/uncovert/uncovert/model/srm/Access;"), (2, u "()Z")] 5

def k6c0 : Code := { maxStack := 1, maxLocals := 3, code := prog_62_method_5_code, exceptionTable := #[], attributes := #[] }
def k6m0 : Method := { name := "of", desc := "(ZZ)Lcom/example/uncovert/uncovert/model/srm/Access;", sig := { parameters := [.boolean, .boolean], returnType := some (.object "com/example/uncovert/uncovert/model/srm/Access") }, accessFlags := 9, code := some k6c0 }
def k6c1 : Code := { maxStack := 1, maxLocals := 1, code := prog_62_method_7_code, exceptionTable := #[], attributes := #[] }
def k6m1 : Method := { name := "reads", desc := "()Z", sig := { parameters := [], returnType := some .boolean }, accessFlags := 1, code := some k6c1 }
def k6c2 : Code := { maxStack := 1, maxLocals := 1, code := prog_62_method_8_code, exceptionTable := #[], attributes := #[] }
def k6m2 : Method := { name := "modifies", desc := "()Z", sig := { parameters := [], returnType := some .boolean }, accessFlags := 1, code := some k6c2 }
/-- com/example/uncovert/uncovert/model/srm/Access -/
def k6 : Class := { plain "com/example/uncovert/uncovert/model/srm/Access" (some 5) with
  accessFlags := 16433
  interfaces := #[]
  cf := some (fileOf pool6 1 #[] #[{ accessFlags := 9, nameIndex := 85, descriptorIndex := 86, attributes := #[] }, { accessFlags := 1, nameIndex := 41, descriptorIndex := 89, attributes := #[] }, { accessFlags := 1, nameIndex := 45, descriptorIndex := 89, attributes := #[] }] 16433 26 #[] #[{ accessFlags := 16409, nameIndex := 5, descriptorIndex := 6, attributes := #[] }, { accessFlags := 16409, nameIndex := 9, descriptorIndex := 6, attributes := #[] }, { accessFlags := 16409, nameIndex := 12, descriptorIndex := 6, attributes := #[] }, { accessFlags := 16409, nameIndex := 15, descriptorIndex := 6, attributes := #[] }, { accessFlags := 26, nameIndex := 48, descriptorIndex := 19, attributes := #[] }, { accessFlags := 18, nameIndex := 37, descriptorIndex := 38, attributes := #[] }, { accessFlags := 18, nameIndex := 41, descriptorIndex := 42, attributes := #[] }, { accessFlags := 18, nameIndex := 45, descriptorIndex := 42, attributes := #[] }, { accessFlags := 4122, nameIndex := 18, descriptorIndex := 19, attributes := #[] }])
  fields := #[{ name := "NONE", type := (.object "com/example/uncovert/uncovert/model/srm/Access"), accessFlags := 16409, slot := 0, constantValue := 0 }, { name := "READ", type := (.object "com/example/uncovert/uncovert/model/srm/Access"), accessFlags := 16409, slot := 1, constantValue := 0 }, { name := "MODIFY", type := (.object "com/example/uncovert/uncovert/model/srm/Access"), accessFlags := 16409, slot := 2, constantValue := 0 }, { name := "READ_MODIFY", type := (.object "com/example/uncovert/uncovert/model/srm/Access"), accessFlags := 16409, slot := 3, constantValue := 0 }, { name := "ALL", type := (.array (.object "com/example/uncovert/uncovert/model/srm/Access")), accessFlags := 26, slot := 4, constantValue := 0 }, { name := "text", type := (.object "java/lang/String"), accessFlags := 18, slot := 3, constantValue := 0 }, { name := "reads", type := .boolean, accessFlags := 18, slot := 4, constantValue := 0 }, { name := "modifies", type := .boolean, accessFlags := 18, slot := 5, constantValue := 0 }, { name := "$VALUES", type := (.array (.object "com/example/uncovert/uncovert/model/srm/Access")), accessFlags := 4122, slot := 5, constantValue := 0 }]
  methods := #[k6m0, k6m1, k6m2]
  instanceTypes := #[(.object "java/lang/String"), .int, .int, (.object "java/lang/String"), .boolean, .boolean]
  staticTypes := #[(.object "com/example/uncovert/uncovert/model/srm/Access"), (.object "com/example/uncovert/uncovert/model/srm/Access"), (.object "com/example/uncovert/uncovert/model/srm/Access"), (.object "com/example/uncovert/uncovert/model/srm/Access"), (.array (.object "com/example/uncovert/uncovert/model/srm/Access")), (.array (.object "com/example/uncovert/uncovert/model/srm/Access"))]
  resolved := Array.replicate 95 none
  statics := some 0 }

def pool7 : Array CpInfo := pool [(1, u "java/lang/Cloneable"), (0, .class_ 1), (0, u "java/lang/Object"), (0, .class_ 3)] 3

/-- java/lang/Cloneable -/
def k7 : Class := { plain "java/lang/Cloneable" (some 0) with
  accessFlags := 1537
  interfaces := #[]
  cf := some (fileOf pool7 2 #[] #[] 1537 4 #[] #[])
  fields := #[]
  methods := #[]
  instanceTypes := #[]
  staticTypes := #[]
  resolved := Array.replicate 8 none
  statics := none }

/-- the primitive byte -/
def k8 : Class := { plain "byte" none with kind := .primitive 'B', accessFlags := 0x411 }
/-- [B -/
def k9 : Class := { plain "[B" (some 0) with kind := .array 8 .byte, interfaces := #[7, 4], accessFlags := 1041 }

/-- the primitive int -/
def k10 : Class := { plain "int" none with kind := .primitive 'I', accessFlags := 0x411 }
/-- [I -/
def k11 : Class := { plain "[I" (some 0) with kind := .array 10 .int, interfaces := #[7, 4], accessFlags := 1041 }

def heap : Heap := #[{ cls := 6, slots := #[.ref 1, .ref 2, .ref 3, .ref 4, .null, .null], vm := .statics 6 },
  { cls := 6, slots := #[.null, .int 0, .int 0, .null, .int 0, .int 0], vm := .none },
  { cls := 6, slots := #[.null, .int 1, .int 0, .null, .int 1, .int 0], vm := .none },
  { cls := 6, slots := #[.null, .int 2, .int 0, .null, .int 0, .int 1], vm := .none },
  { cls := 6, slots := #[.null, .int 3, .int 0, .null, .int 1, .int 1], vm := .none }]
def classes : Array Class := #[k0, k1, k2, k3, k4, k5, k6, k7, k8, k9, k10, k11]
def interned : List (Array UInt16 × Addr) := []
def slotsUsed : Nat := 30
def theMethod : MethodId := ⟨1, 1⟩
def args0 : Array Value := #[.int 5]
def aboutOver (below : List Frame) : State where
  vm := { classes := classes, interned := interned.toArray }
  heap := heap
  slotsUsed := slotsUsed
  threads := #[{ frames := .invoking theMethod args0 :: below }]
def below0 : List Frame := [.native { method := ⟨0, 0⟩, args := #[] }]
def about1 : State := aboutOver below0
def p0 : Program := .bare "" "" ""
def e0 : Env := launch0.env 0 0 0
theorem w_frames : about1.frames = Frame.invoking theMethod args0 :: below0 := rfl
set_option maxRecDepth 65536 in
theorem w_args : argsFit about1.vm theMethod args0 = true := by decide +kernel
set_option maxRecDepth 65536 in
theorem w_heap : heapFits about1 = true := by decide +kernel
set_option maxRecDepth 65536 in
theorem w_runnable : about1.curStatus? = some .runnable := by decide +kernel
set_option maxRecDepth 65536 in
theorem w_alone : about1.alone = true := by decide +kernel
set_option maxRecDepth 65536 in
theorem w_named : about1.methodNamed? x = some theMethod := by decide +kernel
set_option maxRecDepth 65536 in
theorem w_hears : about1.hears theMethod below0 = true := by decide +kernel
set_option maxRecDepth 65536 in
theorem w_ripe : about1.ripe theMethod args0 below0 = true := by decide +kernel
theorem w_running : about1.status = .running := rfl
set_option maxRecDepth 65536 in
theorem w_room : about1.hasRoom e0.platform room_1 = true :=
  launch0.hasRoom_least _ room_1 (by decide +kernel) (by decide +kernel) (by decide +kernel) (by decide +kernel) (by decide +kernel) (by decide +kernel)
theorem allAtoms_all (ts : List Jvm.Cond) (a : Array Jvm.Value) (st : Jvm.State) : (allAtoms ts).before a st = ts.all (fun c => c.before a st) := by
  induction ts with
  | nil => rfl
  | cons c t ih =>
    show (Jvm.Cond.and c (allAtoms t)).before a st = _
    rw [Jvm.Cond.before_and, ih, List.all_cons]
def words1 : List Jvm.Cond := Jvm.Cond.code x code maxLocals ret :: tables_1
/-- a 'code' word, met by the world's own term for the bytes: nothing is compared byte by byte -/
theorem code_word {y : MethodName} {bytes : ByteArray} {mx : Nat} {rt : Option FieldType} {a : Array Value} {s : State} {m : MethodId} {meth : Method} {c : Code} (h1 : s.methodNamed? y = some m) (h2 : s.vm.method? m = some meth) (h3 : meth.code = some c) (h4 : c.code = bytes)
    (h5 : (c.maxLocals == mx && c.exceptionTable.isEmpty && decide (c.maxStack ≤ mostOperands) && decide (meth.sig.returnType = rt) && !meth.locks && decide (parseMethodDescriptor y.desc = some meth.sig)) = true) : (Jvm.Cond.code y bytes mx rt).before a s = true := by
  simp only [Bool.and_eq_true, beq_iff_eq, Bool.not_eq_true', decide_eq_true_eq] at h5
  obtain ⟨⟨⟨⟨⟨g1, g2⟩, g3⟩, g4⟩, g5⟩, g6⟩ := h5
  simp [Cond.before, Cond.holds, Cond.value, h1, h2, h3, h4, g1, g2, g3, g4, g5, g6]
def isCode : Jvm.Cond → Bool
  | .code _ _ _ _ => true
  | _ => false
theorem all_split {L : List Jvm.Cond} {P : Jvm.Cond → Bool} (h1 : L.all (fun c => isCode c || P c) = true) (h2 : ∀ c ∈ L.filter isCode, P c = true) : L.all P = true := by
  refine List.all_eq_true.mpr fun c hc => ?_
  have h := List.all_eq_true.mp h1 c hc
  rcases Bool.eq_false_or_eq_true (isCode c) with hi | hi
  · exact h2 c (List.mem_filter.mpr ⟨hc, hi⟩)
  · simpa [hi] using h
set_option maxRecDepth 65536 in
theorem w_c0 : (Jvm.Cond.code x code maxLocals ret).before args0 about1 = true := code_word (m := ⟨1, 1⟩) (meth := k1m1) (c := k1c1) (by decide +kernel) rfl rfl rfl (by decide +kernel)
set_option maxRecDepth 65536 in
theorem w_c1 : (Jvm.Cond.code ({ cls := "com/example/uncovert/uncovert/model/srm/Access", name := "of", desc := "(ZZ)Lcom/example/uncovert/uncovert/model/srm/Access;" } : Jvm.MethodName) prog_62_method_5_code (3 : Nat) (Option.some (Jvm.ClassFile.FieldType.object "com/example/uncovert/uncovert/model/srm/Access"))).before args0 about1 = true := code_word (m := ⟨6, 0⟩) (meth := k6m0) (c := k6c0) (by decide +kernel) rfl rfl rfl (by decide +kernel)
set_option maxRecDepth 65536 in
theorem w_c2 : (Jvm.Cond.code ({ cls := "com/example/uncovert/uncovert/model/srm/Access", name := "reads", desc := "()Z" } : Jvm.MethodName) prog_62_method_7_code (1 : Nat) (Option.some Jvm.ClassFile.FieldType.boolean)).before args0 about1 = true := code_word (m := ⟨6, 1⟩) (meth := k6m1) (c := k6c1) (by decide +kernel) rfl rfl rfl (by decide +kernel)
set_option maxRecDepth 65536 in
theorem w_c3 : (Jvm.Cond.code ({ cls := "com/example/uncovert/uncovert/model/srm/Access", name := "modifies", desc := "()Z" } : Jvm.MethodName) prog_62_method_8_code (1 : Nat) (Option.some Jvm.ClassFile.FieldType.boolean)).before args0 about1 = true := code_word (m := ⟨6, 2⟩) (meth := k6m2) (c := k6c2) (by decide +kernel) rfl rfl rfl (by decide +kernel)
def codes1 : List Jvm.Cond := [Jvm.Cond.code x code maxLocals ret, Jvm.Cond.code ({ cls := "com/example/uncovert/uncovert/model/srm/Access", name := "of", desc := "(ZZ)Lcom/example/uncovert/uncovert/model/srm/Access;" } : Jvm.MethodName) prog_62_method_5_code (3 : Nat) (Option.some (Jvm.ClassFile.FieldType.object "com/example/uncovert/uncovert/model/srm/Access")), Jvm.Cond.code ({ cls := "com/example/uncovert/uncovert/model/srm/Access", name := "reads", desc := "()Z" } : Jvm.MethodName) prog_62_method_7_code (1 : Nat) (Option.some Jvm.ClassFile.FieldType.boolean), Jvm.Cond.code ({ cls := "com/example/uncovert/uncovert/model/srm/Access", name := "modifies", desc := "()Z" } : Jvm.MethodName) prog_62_method_8_code (1 : Nat) (Option.some Jvm.ClassFile.FieldType.boolean)]
set_option maxRecDepth 65536 in
theorem codes_eq : words1.filter isCode = codes1 := rfl
theorem w_codes : ∀ c ∈ words1.filter isCode, c.before args0 about1 = true := by
  rw [codes_eq]
  intro c hc
  simp only [codes1, List.mem_cons, List.not_mem_nil, or_false] at hc
  rcases hc with rfl | rfl | rfl | rfl
  · exact w_c0
  · exact w_c1
  · exact w_c2
  · exact w_c3
set_option maxRecDepth 65536 in
theorem w_t1 : (words1.take 24).all (fun c => isCode c || c.before args0 about1) = true := by decide +kernel
set_option maxRecDepth 65536 in
theorem w_t2 : (words1.drop 24).all (fun c => isCode c || c.before args0 about1) = true := by decide +kernel
theorem w_tables : (allAtoms (Jvm.Cond.code x code maxLocals ret :: tables_1)).before args0 about1 = true := by
  rw [allAtoms_all]
  show words1.all (fun c => c.before args0 about1) = true
  refine all_split ?_ w_codes
  rw [← List.take_append_drop 24 words1, List.all_append, w_t1, w_t2]
  rfl
set_option maxRecDepth 65536 in
theorem w_case : (Jvm.Cond.and given_1 narrow_1).before args0 about1 = true := by decide +kernel
theorem w_applies : (headSpec (Jvm.Cond.code x code maxLocals ret :: tables_1) room_1).applies x e0.platform about1 = true :=
  (Spec.applies_iff w_frames).mpr ⟨w_running, w_runnable, w_alone, w_named, w_hears, w_ripe, w_room, w_tables⟩
theorem atStart : AtStart classFile x code maxLocals ret World_1 tables_1 room_1 Calls_1 rest_1 Pre_1 launch0 p0 e0 about1 theMethod args0 below0 :=
  ⟨lists_1, trivial, launch0.admits_env _ _ _, launch0.least_env, fairChoices_fair.cas, fairChoices_fair.clock, w_frames, w_args, w_heap, w_applies, trivial, trivial, w_case⟩
end start1
theorem witness_1 : WitnessClaimed_1 := ⟨start1.p0, start1.e0, start1.about1, start1.theMethod, start1.args0, start1.below0, start1.atStart⟩
end Jvm.Pilot.@@N@@
