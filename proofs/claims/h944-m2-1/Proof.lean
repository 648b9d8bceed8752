import JvmDerived
import JvmDerived.Pilot.@@N@@Statement
import JvmDerived.Pilot.@@N@@Code
set_option linter.unusedVariables false
set_option linter.unusedSimpArgs false
namespace Jvm.Pilot.@@N@@
open Jvm Jvm.ClassFile Sem Op Lib Jvm.Free Jvm.Stand Jvm.LawKit Jvm.RoadKit Bundle Jvm.Pilot.@@N@@.Jvm.D
/-! the goal of a body's walk, closed under steps that lead to where it holds -/
def Gl (p : Program) (e : Env) (below : List Frame) (s : State) (Q : Option Value → Heap → List Loc → Prop) (k n : Nat) (S0 : State) : Prop :=
  ∃ s₂ o, Steps p.tables e below S0 s₂ ∧ s₂.status = .running ∧ Ended s₂ below o ∧ ∃ v L, o = .returned v ∧ Q v s₂.heap L ∧ FrameEnd s o s₂ L k n
theorem Gl.back {p : Program} {e : Env} {below : List Frame} {s : State} {Q : Option Value → Heap → List Loc → Prop} {k n : Nat} {S0 S1 : State} (h : ∀ t, Steps p.tables e below S1 t → Steps p.tables e below S0 t) (g : Gl p e below s Q k n S1) : Gl p e below s Q k n S0 := by
  obtain ⟨s₂, o, h1, r⟩ := g; exact ⟨s₂, o, h _ h1, r⟩
theorem Gl.ret {p : Program} {l : Launch} {e : Env} {R : Room} {s : State} {m : MethodId} {args : Array Value} {below : List Frame} {meth : Method} {c : Code} {T : State} {locs : List Loc} {cells slots : Nat} (X : Stand p l e R s m args below meth c T locs cells slots) {h : Heap} (eT : T.heap = h)
    {v : Option Value} (hv : meth.sig.returnType = none → v = none) (hlocks : meth.locks = false) {S0 : State} (st : ∀ fs, (∀ (f : JFrame) (acts : List Action), f.method = m → f.locked = none → f.entered = [] → (doReturn e (T.setTop f) acts v).1 = T.setFrames fs) → Steps p.tables e below S0 (T.setFrames fs))
    {Q : Option Value → Heap → List Loc → Prop} {k n : Nat} (hQ : Q v h locs) (hk : cells ≤ k) (hn : slots ≤ n) : Gl p e below s Q k n S0 := by
  obtain ⟨fs, hr, hrun, hended, hW, hsame⟩ := X.leave (v := v) hv hlocks
  exact ⟨_, _, st fs hr, hrun, hended, v, locs, rfl, eT ▸ hQ, ⟨_, rfl⟩, hW, hsame.mono hk hn⟩
def GlW (p : Program) (e : Env) (below : List Frame) (s : State) (Q : Option Value → Heap → List Loc → Prop) (k n : Nat) (S0 : State) : Prop :=
  ∃ s₂ o, Steps p.tables e below S0 s₂ ∧ s₂.status = .running ∧ Ended s₂ below o ∧ ∃ v L, o = .returned v ∧ Q v s₂.heap L ∧ ReturnedEndW s o s₂ L k n
theorem GlW.back {p : Program} {e : Env} {below : List Frame} {s : State} {Q : Option Value → Heap → List Loc → Prop} {k n : Nat} {S0 S1 : State} (h : ∀ t, Steps p.tables e below S1 t → Steps p.tables e below S0 t) (g : GlW p e below s Q k n S1) : GlW p e below s Q k n S0 := by
  obtain ⟨s₂, o, h1, r⟩ := g; exact ⟨s₂, o, h _ h1, r⟩
theorem GlW.ret {p : Program} {l : Launch} {e : Env} {R : Room} {s : State} {vm0 : Vm} {m : MethodId} {args : Array Value} {below : List Frame} {meth : Method} {c : Code} {T : State} {locs : List Loc} {cells slots : Nat} (X : Stand p l e R (s.setVm vm0) m args below meth c T locs cells slots) {h : Heap} (eT : T.heap = h)
    {k0 : Nat} (hS : s.Since vm0 k0) (hk0 : k0 ≤ h.size) {v : Option Value} (hv : meth.sig.returnType = none → v = none) (hlocks : meth.locks = false) {S0 : State} (st : ∀ fs, (∀ (f : JFrame) (acts : List Action), f.method = m → f.locked = none → f.entered = [] → (doReturn e (T.setTop f) acts v).1 = T.setFrames fs) → Steps p.tables e below S0 (T.setFrames fs))
    {Q : Option Value → Heap → List Loc → Prop} {k n : Nat} (hQ : Q v h locs) (hk : cells ≤ k) (hn : slots ≤ n) : GlW p e below s Q k n S0 := by
  obtain ⟨fs, hr, hrun, hended, hE⟩ := X.leaveW hS (by rw [eT]; exact hk0) (v := v) hv hlocks
  exact ⟨_, _, st fs hr, hrun, hended, v, locs, rfl, eT ▸ hQ, hE.1, hE.2.1, hE.2.2.1, hE.2.2.2.mono hk hn⟩
theorem own_lcL {x y : Int64} (h : x < y) : lcmpW x y < 0 := by rw [lcW]; exact (lc_lt x y).mpr h
theorem own_lcLn {x y : Int64} (h : ¬ x < y) : ¬ lcmpW x y < 0 := by rw [lcW]; exact fun q => h ((lc_lt x y).mp q)
theorem own_lcG {x y : Int64} (h : y < x) : 0 < lcmpW x y := by rw [lcW]; exact (lc_gt x y).mpr h
theorem own_lcGn {x y : Int64} (h : ¬ y < x) : ¬ 0 < lcmpW x y := by rw [lcW]; exact fun q => h ((lc_gt x y).mp q)
theorem own_lcE {x y : Int64} (h : x = y) : lcmpW x y = 0 := by rw [lcW]; exact (lc_eq x y).mpr h
theorem own_lcEn {x y : Int64} (h : ¬ x = y) : ¬ lcmpW x y = 0 := by rw [lcW]; exact fun q => h ((lc_eq x y).mp q)
theorem own_fldI {args : Array Value} {s : State} {t : Term} {C n d : String} {k : Int32} {a : Addr} (ev : t.eval args s none [] s = some (.ref a)) (h : (Jvm.Cond.eq (Term.field t C n d) (Term.int k)).value args s none s [] = some true) : Fld s s.heap a C n d (.int k) := by
  have e := fld_at (C := C) (n := n) (dd := d) ev
  obtain ⟨x, y, h1, h2, k1, k2⟩ := cmp_v (Or.inl h)
  obtain rfl : Value.int k = y := Option.some.inj h2
  obtain ⟨z, rfl⟩ := k2
  have q := Jvm.Cond.eq_ints h1 h2
  obtain rfl : z = k := gotT q h
  exact Fld.start (e ▸ h1)
theorem d1_0 : decode prog_47_method_4_code 0 = .ok (.aload_n 0, 1) := by decide +kernel
theorem d1_1 : decode prog_47_method_4_code 1 = .ok (.getstatic 10, 3) := by decide +kernel
theorem d1_4 : decode prog_47_method_4_code 4 = .ok (.if_acmp .eq 7, 3) := by decide +kernel
theorem d1_11 : decode prog_47_method_4_code 11 = .ok (.iconst 0, 1) := by decide +kernel
theorem d1_12 : decode prog_47_method_4_code 12 = .ok (.ireturn, 1) := by decide +kernel
theorem d1_7 : decode prog_47_method_4_code 7 = .ok (.iconst 1, 1) := by decide +kernel
theorem d1_8 : decode prog_47_method_4_code 8 = .ok (.goto 4, 3) := by decide +kernel
theorem pn_com_example_vet_vet_report_Level : plainName "com/example/vet/vet/report/Level" = true := by first | (simp [plainName, overriddenIn]; done) | decide +kernel
theorem ef_1 (m : MethodId) (x0 : Addr) : entryFrame m #[(.ref x0)] 1 = mkF m 0 #[.val (.ref x0)] [] := by first | (simp [entryFrame, mkF, argsToLocals, Value.category]; done) | rfl
def Q1 (Z : State) (a : Addr) (w : Addr) (h0 : Heap) (n0 : Nat) (v : Option Value) (h : Heap) (L : List Loc) : Prop := Fr n0 L ∧ ((v = some (.int 1) ∧ ¬ a = w ∧ h = h0) ∨ (v = some (.int 0) ∧ a = w ∧ h = h0))
set_option maxRecDepth 65536 in
set_option maxHeartbeats 40000000 in
theorem rm1 (l : Launch) (Z : State) (a0 : Array Value) (hw : ∀ d ∈ tables_1, d.before a0 Z = true) (ws : List Jvm.Cond) (a : Addr) (w : Addr) (h0 : Heap) (n0 : Nat) (Z0 : n0 ≤ h0.size) (S : Sta Z h0 "com/example/vet/vet/report/Level" "INFO" "Lcom/example/vet/vet/report/Level;" (.ref w)) :
    MetFree l (⟨"com/example/vet/vet/report/Level", "fails", "()Z"⟩ : MethodName) (head1 (Jvm.Cond.code (⟨"com/example/vet/vet/report/Level", "fails", "()Z"⟩ : MethodName) prog_47_method_4_code 1 (some .boolean) :: ws) ({ frames := 0, cells := 0, slots := 0, locals := 0 } : Room)) (fun as0 U => as0 = #[(.ref a)] ∧ Z.Warmed39 U.vm ∧ U.heap = h0) (fun _ _ _ _ _ => True) (fun _ U o U' => ∃ v L, o = .returned v ∧ Q1 Z a w h0 n0 v U'.heap L ∧ FrameEnd U o U' L ({ frames := 0, cells := 0, slots := 0, locals := 0 } : Room).cells ({ frames := 0, cells := 0, slots := 0, locals := 0 } : Room).slots) := by
  refine MetFree.of_bodySF (plainFor_of_name pn_com_example_vet_vet_report_Level) hisR ?_
  intro p e s m args below meth c s₁ Bd hml0 hP hK
  obtain ⟨rfl, hZ, hh⟩ := hP
  have hx := Bd.exec
  have hby := Bd.bytes
  have hml : c.maxLocals = 1 := hml0
  have hown : s.vm.findClass "com/example/vet/vet/report/Level" = some m.cls := findClass_of_methodNamed Bd.named
  have hnm := (name_of_methodNamed Bd.named Bd.method).1
  have X0 : Stand p l e ({ frames := 0, cells := 0, slots := 0, locals := 0 } : Room) s m #[(.ref a)] below meth c s₁ [] 0 0 := Stand.of_body Bd
  have e0 : s₁.heap = h0 := by rw [← hh, Bd.state]; rfl
  have N0 := Fr.nil n0
  show Gl p e below s (Q1 Z a w h0 n0) ({ frames := 0, cells := 0, slots := 0, locals := 0 } : Room).cells ({ frames := 0, cells := 0, slots := 0, locals := 0 } : Room).slots (s₁.setTop (entryFrame m #[(.ref a)] 1))
  refine Gl.back (fun _ k => castTop (ef_1 m a) k) ?_
  show Gl _ _ _ _ _ _ _ (s₁.setTop (mkF m 0 #[.val (.ref a)] []))
  refine Gl.back (fun _ k => XS.aloadN X0.here hx rfl (hb hby d1_0) rfl rfl k) ?_
  show Gl _ _ _ _ _ _ _ (s₁.setTop (mkF m 1 #[.val (.ref a)] [(.ref a)]))
  obtain ⟨T1, X1, e1, st1⟩ := getS2 X0 hx hZ hown (host := "") (Or.inl (hw _ (List.mem_of_getElem? (i := 9) rfl))) Via.refl e0 S (g := (mkF m 1 #[.val (.ref a)] [(.ref a)])) rfl (hb hby d1_1)
  refine Gl.back (fun _ k => st1 _ k) ?_
  show Gl _ _ _ _ _ _ _ (T1.setTop (mkF m 4 #[.val (.ref a)] [(.ref w), (.ref a)]))
  by_cases ha4_2 : a = w
  · refine Gl.back (fun _ k => Jvm.RoadKit.acmp (g := (mkF m 4 #[.val (.ref a)] [(.ref w), (.ref a)])) X1 hx rfl rfl rfl (pc0 := 4) (pc' := 11) (same := true) rfl (hb hby d1_4) rfl (decide_eq_true (congrArg Value.ref ha4_2)) (by decide) (by decide) k) ?_
    show Gl _ _ _ _ _ _ _ (T1.setTop (mkF m 11 #[.val (.ref a)] []))
    refine Gl.back (fun _ k => XS.iconst X1.here hx rfl (hb hby d1_11) k) ?_
    show Gl _ _ _ _ _ _ _ (T1.setTop (mkF m 12 #[.val (.ref a)] [(.int (0 : Int32))]))
    exact Gl.ret X1 e1 (v := (some (.int (0 : Int32)))) (fun h => by rw [Bd.returns] at h; cases h) Bd.notSynchronized (fun fs hr => retN X1 hx (t := .boolean) (z := (0 : Int32)) Bd.returns (by simp) (hb hby d1_12) hr) ⟨N0, Or.inr ⟨rfl, ha4_2, rfl⟩⟩ (by decide) (by decide)
  · refine Gl.back (fun _ k => Jvm.RoadKit.acmp (g := (mkF m 4 #[.val (.ref a)] [(.ref w), (.ref a)])) X1 hx rfl rfl rfl (pc0 := 4) (pc' := 7) (same := false) rfl (hb hby d1_4) rfl (decide_eq_false fun q => ha4_2 (Value.ref.inj q)) (by decide) (by decide) k) ?_
    show Gl _ _ _ _ _ _ _ (T1.setTop (mkF m 7 #[.val (.ref a)] []))
    refine Gl.back (fun _ k => XS.iconst X1.here hx rfl (hb hby d1_7) k) ?_
    show Gl _ _ _ _ _ _ _ (T1.setTop (mkF m 8 #[.val (.ref a)] [(.int (1 : Int32))]))
    refine Gl.back (fun _ k => XS.goto X1.here hx rfl (pc0 := 8) (pc' := 12) rfl (hb hby d1_8) (by decide) (by decide) k) ?_
    show Gl _ _ _ _ _ _ _ (T1.setTop (mkF m 12 #[.val (.ref a)] [(.int (1 : Int32))]))
    exact Gl.ret X1 e1 (v := (some (.int (1 : Int32)))) (fun h => by rw [Bd.returns] at h; cases h) Bd.notSynchronized (fun fs hr => retN X1 hx (t := .boolean) (z := (1 : Int32)) Bd.returns (by simp) (hb hby d1_12) hr) ⟨N0, Or.inl ⟨rfl, ha4_2, rfl⟩⟩ (by decide) (by decide)
theorem pd___Z : parseMethodDescriptor "()Z" = some ⟨[], some .boolean⟩ := by decide +kernel
theorem pn_com_example_vet_vet_report_LevelFailsPinLaw : plainName "com/example/vet/vet/report/LevelFailsPinLaw" = true := by first | (simp [plainName, overriddenIn]; done) | decide +kernel
theorem ef_0 (m : MethodId) (x0 : Int32) : entryFrame m #[(.int x0)] maxLocals = mkF m 0 #[.val (.int x0), .unset, .unset, .unset] [] := by first | (simp [entryFrame, mkF, argsToLocals, Value.category, maxLocals]; done) | rfl
def Q0 (Z : State) (i : Int32) (w_ERROR : Addr) (w_WARNING : Addr) (w_INFO : Addr) (h0 : Heap) (n0 : Nat) (v : Option Value) (h : Heap) (L : List Loc) : Prop := Fr n0 L ∧ (v = some (.int 1))
set_option maxRecDepth 65536 in
set_option maxHeartbeats 40000000 in
theorem rm0 (l : Launch) (Z : State) (a0 : Array Value) (hw : ∀ d ∈ tables_1, d.before a0 Z = true) (ws : List Jvm.Cond) (i : Int32) (w_ERROR : Addr) (w_WARNING : Addr) (w_INFO : Addr) (h0 : Heap) (n0 : Nat) (Z0 : n0 ≤ h0.size) (S_ERROR : Sta Z h0 "com/example/vet/vet/report/Level" "ERROR" "Lcom/example/vet/vet/report/Level;" (.ref w_ERROR)) (S_WARNING : Sta Z h0 "com/example/vet/vet/report/Level" "WARNING" "Lcom/example/vet/vet/report/Level;" (.ref w_WARNING)) (S_INFO : Sta Z h0 "com/example/vet/vet/report/Level" "INFO" "Lcom/example/vet/vet/report/Level;" (.ref w_INFO)) (E_ERROR : Exa Z h0 w_ERROR "com/example/vet/vet/report/Level") (E_WARNING : Exa Z h0 w_WARNING "com/example/vet/vet/report/Level") (E_INFO : Exa Z h0 w_INFO "com/example/vet/vet/report/Level") (ne_ERROR : w_ERROR ≠ w_INFO) (ne_WARNING : w_WARNING ≠ w_INFO) :
    MetFree l x (head1 (Jvm.Cond.code x code maxLocals ret :: ws) room_1) (fun as0 U => as0 = #[(.int i)] ∧ Z.Warmed39 U.vm ∧ U.heap = h0) (fun _ _ _ _ _ => True) (fun _ U o U' => ∃ v L, o = .returned v ∧ Q0 Z i w_ERROR w_WARNING w_INFO h0 n0 v U'.heap L ∧ FrameEnd U o U' L room_1.cells room_1.slots) := by
  refine MetFree.of_bodySF (plainFor_of_name pn_com_example_vet_vet_report_LevelFailsPinLaw) hisR ?_
  intro p e s m args below meth c s₁ Bd hml0 hP hK
  obtain ⟨rfl, hZ, hh⟩ := hP
  have hx := Bd.exec
  have hby := Bd.bytes
  have hml : c.maxLocals = 4 := hml0
  have hown : s.vm.findClass "com/example/vet/vet/report/LevelFailsPinLaw" = some m.cls := findClass_of_methodNamed Bd.named
  have hnm := (name_of_methodNamed Bd.named Bd.method).1
  have X0 : Stand p l e room_1 s m #[(.int i)] below meth c s₁ [] 0 0 := Stand.of_body Bd
  have e0 : s₁.heap = h0 := by rw [← hh, Bd.state]; rfl
  have N0 := Fr.nil n0
  show Gl p e below s (Q0 Z i w_ERROR w_WARNING w_INFO h0 n0) room_1.cells room_1.slots (s₁.setTop (entryFrame m #[(.int i)] maxLocals))
  refine Gl.back (fun _ k => castTop (ef_0 m i) k) ?_
  show Gl _ _ _ _ _ _ _ (s₁.setTop (mkF m 0 #[.val (.int i), .unset, .unset, .unset] []))
  refine Gl.back (fun _ k => XS.iloadN X0.here hx rfl (hb hby at_0) rfl k) ?_
  show Gl _ _ _ _ _ _ _ (s₁.setTop (mkF m 1 #[.val (.int i), .unset, .unset, .unset] [(.int i)]))
  refine Gl.back (fun _ k => X0.ldcInt hx hown (mvT hZ (hw _ (List.mem_of_getElem? (i := 0) rfl))) (g := (mkF m 1 #[.val (.int i), .unset, .unset, .unset] [(.int i)])) rfl (hb hby at_1) _ k) ?_
  show Gl _ _ _ _ _ _ _ (s₁.setTop (mkF m 3 #[.val (.int i), .unset, .unset, .unset] [(.int (2147483647 : Int32)), (.int i)]))
  refine Gl.back (fun _ k => XS.iand X0.here hx rfl (hb hby at_3) rfl k) ?_
  show Gl _ _ _ _ _ _ _ (s₁.setTop (mkF m 4 #[.val (.int i), .unset, .unset, .unset] [(.int (i &&& (2147483647 : Int32)))]))
  refine Gl.back (fun _ k => XS.iconst X0.here hx rfl (hb hby at_4) k) ?_
  show Gl _ _ _ _ _ _ _ (s₁.setTop (mkF m 5 #[.val (.int i), .unset, .unset, .unset] [(.int (3 : Int32)), (.int (i &&& (2147483647 : Int32)))]))
  refine Gl.back (fun _ k => iremM X0 hx rfl (hb hby at_5) rfl (by decide) k) ?_
  show Gl _ _ _ _ _ _ _ (s₁.setTop (mkF m 6 #[.val (.int i), .unset, .unset, .unset] [(.int ((i &&& (2147483647 : Int32)) % (3 : Int32)))]))
  refine Gl.back (fun _ k => XS.istoreN X0.here hx rfl (hb hby at_6) rfl (l' := #[.val (.int i), .val (.int ((i &&& (2147483647 : Int32)) % (3 : Int32))), .unset, .unset]) rfl k) ?_
  show Gl _ _ _ _ _ _ _ (s₁.setTop (mkF m 7 #[.val (.int i), .val (.int ((i &&& (2147483647 : Int32)) % (3 : Int32))), .unset, .unset] []))
  refine Gl.back (fun _ k => XS.iloadN X0.here hx rfl (hb hby at_7) rfl k) ?_
  show Gl _ _ _ _ _ _ _ (s₁.setTop (mkF m 8 #[.val (.int i), .val (.int ((i &&& (2147483647 : Int32)) % (3 : Int32))), .unset, .unset] [(.int ((i &&& (2147483647 : Int32)) % (3 : Int32)))]))
  by_cases hc8_13 : ((i &&& (2147483647 : Int32)) % (3 : Int32)) = (0 : Int32)
  · refine Gl.back (fun _ k => XS.ifNo X0.here hx rfl (hb hby at_8) rfl ((if0 _ _).trans (teq hc8_13).2) k) ?_
    show Gl _ _ _ _ _ _ _ (s₁.setTop (mkF m 11 #[.val (.int i), .val (.int ((i &&& (2147483647 : Int32)) % (3 : Int32))), .unset, .unset] []))
    obtain ⟨T14, X14, e14, st14⟩ := getS2 X0 hx hZ hown (host := "") (Or.inl (hw _ (List.mem_of_getElem? (i := 1) rfl))) Via.refl e0 S_ERROR (g := (mkF m 11 #[.val (.int i), .val (.int ((i &&& (2147483647 : Int32)) % (3 : Int32))), .unset, .unset] [])) rfl (hb hby at_11)
    refine Gl.back (fun _ k => st14 _ k) ?_
    show Gl _ _ _ _ _ _ _ (T14.setTop (mkF m 14 #[.val (.int i), .val (.int ((i &&& (2147483647 : Int32)) % (3 : Int32))), .unset, .unset] [(.ref w_ERROR)]))
    refine Gl.back (fun _ k => XS.astoreN X14.here hx rfl (hb hby at_14) rfl rfl (l' := #[.val (.int i), .val (.int ((i &&& (2147483647 : Int32)) % (3 : Int32))), .val (.ref w_ERROR), .unset]) rfl k) ?_
    show Gl _ _ _ _ _ _ _ (T14.setTop (mkF m 15 #[.val (.int i), .val (.int ((i &&& (2147483647 : Int32)) % (3 : Int32))), .val (.ref w_ERROR), .unset] []))
    refine Gl.back (fun _ k => XS.iconst X14.here hx rfl (hb hby at_15) k) ?_
    show Gl _ _ _ _ _ _ _ (T14.setTop (mkF m 16 #[.val (.int i), .val (.int ((i &&& (2147483647 : Int32)) % (3 : Int32))), .val (.ref w_ERROR), .unset] [(.int (1 : Int32))]))
    refine Gl.back (fun _ k => XS.istoreN X14.here hx rfl (hb hby at_16) rfl (l' := #[.val (.int i), .val (.int ((i &&& (2147483647 : Int32)) % (3 : Int32))), .val (.ref w_ERROR), .val (.int (1 : Int32))]) rfl k) ?_
    show Gl _ _ _ _ _ _ _ (T14.setTop (mkF m 17 #[.val (.int i), .val (.int ((i &&& (2147483647 : Int32)) % (3 : Int32))), .val (.ref w_ERROR), .val (.int (1 : Int32))] []))
    refine Gl.back (fun _ k => XS.goto X14.here hx rfl (pc0 := 17) (pc' := 40) rfl (hb hby at_17) (by decide) (by decide) k) ?_
    show Gl _ _ _ _ _ _ _ (T14.setTop (mkF m 40 #[.val (.int i), .val (.int ((i &&& (2147483647 : Int32)) % (3 : Int32))), .val (.ref w_ERROR), .val (.int (1 : Int32))] []))
    refine Gl.back (fun _ k => XS.aloadN X14.here hx rfl (hb hby at_40) rfl rfl k) ?_
    show Gl _ _ _ _ _ _ _ (T14.setTop (mkF m 41 #[.val (.int i), .val (.int ((i &&& (2147483647 : Int32)) % (3 : Int32))), .val (.ref w_ERROR), .val (.int (1 : Int32))] [(.ref w_ERROR)]))
    obtain ⟨cq15, kq15, q15a, q15b, q15c⟩ := isOf hZ e14 E_ERROR
    obtain ⟨_, _, ⟨T15, L15, k15, n15⟩, -, X15, ⟨Lc15, hQ15, l15, y15, z15⟩, st15⟩ := X14.virtualBack hx (y := (⟨"com/example/vet/vet/report/Level", "fails", "()Z"⟩ : MethodName)) (z := (⟨"com/example/vet/vet/report/Level", "fails", "()Z"⟩ : MethodName)) hown (mvT hZ (hw _ (List.mem_of_getElem? (i := 4) rfl))) (mvT hZ (hw _ (List.mem_of_getElem? (i := 5) rfl))) (notFace_of_selects (args := #[]) (mvT hZ (hw _ (List.mem_of_getElem? (i := 7) rfl)))) (mvT hZ (hw _ (List.mem_of_getElem? (i := 7) rfl))) (mvT hZ (hw _ (List.mem_of_getElem? (i := 6) rfl))) (by decide) (backOf (W := 0) (rm1 l Z a0 hw [] w_ERROR w_INFO h0 n0 Z0 S_INFO) hZ (hw _ (List.mem_of_getElem? (i := 8) rfl)) (hw _ (List.mem_of_getElem? (i := 2) rfl)) (by decide) (by decide)) q15a q15c (g := (mkF m 41 #[.val (.int i), .val (.int ((i &&& (2147483647 : Int32)) % (3 : Int32))), .val (.ref w_ERROR), .val (.int (1 : Int32))] [(.ref w_ERROR)])) rfl (by rw [hml]; rfl) (Steps.refl _) (argsL := []) (rest := []) (lenOf pd___Z rfl) rfl (by show 2 * 0 + _ ≤ _; exact Nat.le_of_eq rfl) (hb hby at_41) (fun _ _ => ⟨rfl, e14, (by decide : 0 + 0 ≤ _), (by decide : 0 + 0 ≤ _)⟩)
    dsimp only [Pt.U, Pt.locs, Pt.cells, Pt.slots] at X15 l15 y15 z15 st15 hQ15
    subst l15 y15 z15
    obtain ⟨Nq15, hQ15⟩ := hQ15
    rcases hQ15 with ⟨rfl, hn15, eh15⟩ | ⟨rfl, hp15, eh15⟩
    · have N15 := Fr.app N0 Nq15
      refine Gl.back (fun _ k => st15.trans k) ?_
      show Gl _ _ _ _ _ _ _ (T15.setTop (mkF m 44 #[.val (.int i), .val (.int ((i &&& (2147483647 : Int32)) % (3 : Int32))), .val (.ref w_ERROR), .val (.int (1 : Int32))] [(.int (1 : Int32))]))
      refine Gl.back (fun _ k => XS.iloadN X15.here hx rfl (hb hby at_44) rfl k) ?_
      show Gl _ _ _ _ _ _ _ (T15.setTop (mkF m 45 #[.val (.int i), .val (.int ((i &&& (2147483647 : Int32)) % (3 : Int32))), .val (.ref w_ERROR), .val (.int (1 : Int32))] [(.int (1 : Int32)), (.int (1 : Int32))]))
      refine Gl.back (fun _ k => XS.icmpNo X15.here hx rfl (hb hby at_45) rfl (teq (by decide : (1 : Int32) = (1 : Int32))).2 k) ?_
      show Gl _ _ _ _ _ _ _ (T15.setTop (mkF m 48 #[.val (.int i), .val (.int ((i &&& (2147483647 : Int32)) % (3 : Int32))), .val (.ref w_ERROR), .val (.int (1 : Int32))] []))
      refine Gl.back (fun _ k => XS.iconst X15.here hx rfl (hb hby at_48) k) ?_
      show Gl _ _ _ _ _ _ _ (T15.setTop (mkF m 49 #[.val (.int i), .val (.int ((i &&& (2147483647 : Int32)) % (3 : Int32))), .val (.ref w_ERROR), .val (.int (1 : Int32))] [(.int (1 : Int32))]))
      refine Gl.back (fun _ k => XS.goto X15.here hx rfl (pc0 := 49) (pc' := 53) rfl (hb hby at_49) (by decide) (by decide) k) ?_
      show Gl _ _ _ _ _ _ _ (T15.setTop (mkF m 53 #[.val (.int i), .val (.int ((i &&& (2147483647 : Int32)) % (3 : Int32))), .val (.ref w_ERROR), .val (.int (1 : Int32))] [(.int (1 : Int32))]))
      exact Gl.ret X15 eh15 (v := (some (.int (1 : Int32)))) (fun h => by rw [Bd.returns] at h; cases h) Bd.notSynchronized (fun fs hr => retN X15 hx (t := .boolean) (z := (1 : Int32)) Bd.returns (by simp) (hb hby at_53) hr) ⟨N15, rfl⟩ (by decide) (by decide)
    · exact absurd hp15 ne_ERROR
  · refine Gl.back (fun _ k => XS.ifYes X0.here hx rfl (pc0 := 8) (pc' := 20) rfl (hb hby at_8) rfl ((if0 _ _).trans (feq hc8_13).2) (by decide) (by decide) k) ?_
    show Gl _ _ _ _ _ _ _ (s₁.setTop (mkF m 20 #[.val (.int i), .val (.int ((i &&& (2147483647 : Int32)) % (3 : Int32))), .unset, .unset] []))
    refine Gl.back (fun _ k => XS.iloadN X0.here hx rfl (hb hby at_20) rfl k) ?_
    show Gl _ _ _ _ _ _ _ (s₁.setTop (mkF m 21 #[.val (.int i), .val (.int ((i &&& (2147483647 : Int32)) % (3 : Int32))), .unset, .unset] [(.int ((i &&& (2147483647 : Int32)) % (3 : Int32)))]))
    refine Gl.back (fun _ k => XS.iconst X0.here hx rfl (hb hby at_21) k) ?_
    show Gl _ _ _ _ _ _ _ (s₁.setTop (mkF m 22 #[.val (.int i), .val (.int ((i &&& (2147483647 : Int32)) % (3 : Int32))), .unset, .unset] [(.int (1 : Int32)), (.int ((i &&& (2147483647 : Int32)) % (3 : Int32)))]))
    by_cases hc22_16 : ((i &&& (2147483647 : Int32)) % (3 : Int32)) = (1 : Int32)
    · refine Gl.back (fun _ k => XS.icmpNo X0.here hx rfl (hb hby at_22) rfl (teq hc22_16).2 k) ?_
      show Gl _ _ _ _ _ _ _ (s₁.setTop (mkF m 25 #[.val (.int i), .val (.int ((i &&& (2147483647 : Int32)) % (3 : Int32))), .unset, .unset] []))
      obtain ⟨T17, X17, e17, st17⟩ := getS2 X0 hx hZ hown (host := "") (Or.inl (hw _ (List.mem_of_getElem? (i := 12) rfl))) Via.refl e0 S_WARNING (g := (mkF m 25 #[.val (.int i), .val (.int ((i &&& (2147483647 : Int32)) % (3 : Int32))), .unset, .unset] [])) rfl (hb hby at_25)
      refine Gl.back (fun _ k => st17 _ k) ?_
      show Gl _ _ _ _ _ _ _ (T17.setTop (mkF m 28 #[.val (.int i), .val (.int ((i &&& (2147483647 : Int32)) % (3 : Int32))), .unset, .unset] [(.ref w_WARNING)]))
      refine Gl.back (fun _ k => XS.astoreN X17.here hx rfl (hb hby at_28) rfl rfl (l' := #[.val (.int i), .val (.int ((i &&& (2147483647 : Int32)) % (3 : Int32))), .val (.ref w_WARNING), .unset]) rfl k) ?_
      show Gl _ _ _ _ _ _ _ (T17.setTop (mkF m 29 #[.val (.int i), .val (.int ((i &&& (2147483647 : Int32)) % (3 : Int32))), .val (.ref w_WARNING), .unset] []))
      refine Gl.back (fun _ k => XS.iconst X17.here hx rfl (hb hby at_29) k) ?_
      show Gl _ _ _ _ _ _ _ (T17.setTop (mkF m 30 #[.val (.int i), .val (.int ((i &&& (2147483647 : Int32)) % (3 : Int32))), .val (.ref w_WARNING), .unset] [(.int (1 : Int32))]))
      refine Gl.back (fun _ k => XS.istoreN X17.here hx rfl (hb hby at_30) rfl (l' := #[.val (.int i), .val (.int ((i &&& (2147483647 : Int32)) % (3 : Int32))), .val (.ref w_WARNING), .val (.int (1 : Int32))]) rfl k) ?_
      show Gl _ _ _ _ _ _ _ (T17.setTop (mkF m 31 #[.val (.int i), .val (.int ((i &&& (2147483647 : Int32)) % (3 : Int32))), .val (.ref w_WARNING), .val (.int (1 : Int32))] []))
      refine Gl.back (fun _ k => XS.goto X17.here hx rfl (pc0 := 31) (pc' := 40) rfl (hb hby at_31) (by decide) (by decide) k) ?_
      show Gl _ _ _ _ _ _ _ (T17.setTop (mkF m 40 #[.val (.int i), .val (.int ((i &&& (2147483647 : Int32)) % (3 : Int32))), .val (.ref w_WARNING), .val (.int (1 : Int32))] []))
      refine Gl.back (fun _ k => XS.aloadN X17.here hx rfl (hb hby at_40) rfl rfl k) ?_
      show Gl _ _ _ _ _ _ _ (T17.setTop (mkF m 41 #[.val (.int i), .val (.int ((i &&& (2147483647 : Int32)) % (3 : Int32))), .val (.ref w_WARNING), .val (.int (1 : Int32))] [(.ref w_WARNING)]))
      obtain ⟨cq18, kq18, q18a, q18b, q18c⟩ := isOf hZ e17 E_WARNING
      obtain ⟨_, _, ⟨T18, L18, k18, n18⟩, -, X18, ⟨Lc18, hQ18, l18, y18, z18⟩, st18⟩ := X17.virtualBack hx (y := (⟨"com/example/vet/vet/report/Level", "fails", "()Z"⟩ : MethodName)) (z := (⟨"com/example/vet/vet/report/Level", "fails", "()Z"⟩ : MethodName)) hown (mvT hZ (hw _ (List.mem_of_getElem? (i := 4) rfl))) (mvT hZ (hw _ (List.mem_of_getElem? (i := 5) rfl))) (notFace_of_selects (args := #[]) (mvT hZ (hw _ (List.mem_of_getElem? (i := 7) rfl)))) (mvT hZ (hw _ (List.mem_of_getElem? (i := 7) rfl))) (mvT hZ (hw _ (List.mem_of_getElem? (i := 6) rfl))) (by decide) (backOf (W := 0) (rm1 l Z a0 hw [] w_WARNING w_INFO h0 n0 Z0 S_INFO) hZ (hw _ (List.mem_of_getElem? (i := 8) rfl)) (hw _ (List.mem_of_getElem? (i := 2) rfl)) (by decide) (by decide)) q18a q18c (g := (mkF m 41 #[.val (.int i), .val (.int ((i &&& (2147483647 : Int32)) % (3 : Int32))), .val (.ref w_WARNING), .val (.int (1 : Int32))] [(.ref w_WARNING)])) rfl (by rw [hml]; rfl) (Steps.refl _) (argsL := []) (rest := []) (lenOf pd___Z rfl) rfl (by show 2 * 0 + _ ≤ _; exact Nat.le_of_eq rfl) (hb hby at_41) (fun _ _ => ⟨rfl, e17, (by decide : 0 + 0 ≤ _), (by decide : 0 + 0 ≤ _)⟩)
      dsimp only [Pt.U, Pt.locs, Pt.cells, Pt.slots] at X18 l18 y18 z18 st18 hQ18
      subst l18 y18 z18
      obtain ⟨Nq18, hQ18⟩ := hQ18
      rcases hQ18 with ⟨rfl, hn18, eh18⟩ | ⟨rfl, hp18, eh18⟩
      · have N18 := Fr.app N0 Nq18
        refine Gl.back (fun _ k => st18.trans k) ?_
        show Gl _ _ _ _ _ _ _ (T18.setTop (mkF m 44 #[.val (.int i), .val (.int ((i &&& (2147483647 : Int32)) % (3 : Int32))), .val (.ref w_WARNING), .val (.int (1 : Int32))] [(.int (1 : Int32))]))
        refine Gl.back (fun _ k => XS.iloadN X18.here hx rfl (hb hby at_44) rfl k) ?_
        show Gl _ _ _ _ _ _ _ (T18.setTop (mkF m 45 #[.val (.int i), .val (.int ((i &&& (2147483647 : Int32)) % (3 : Int32))), .val (.ref w_WARNING), .val (.int (1 : Int32))] [(.int (1 : Int32)), (.int (1 : Int32))]))
        refine Gl.back (fun _ k => XS.icmpNo X18.here hx rfl (hb hby at_45) rfl (teq (by decide : (1 : Int32) = (1 : Int32))).2 k) ?_
        show Gl _ _ _ _ _ _ _ (T18.setTop (mkF m 48 #[.val (.int i), .val (.int ((i &&& (2147483647 : Int32)) % (3 : Int32))), .val (.ref w_WARNING), .val (.int (1 : Int32))] []))
        refine Gl.back (fun _ k => XS.iconst X18.here hx rfl (hb hby at_48) k) ?_
        show Gl _ _ _ _ _ _ _ (T18.setTop (mkF m 49 #[.val (.int i), .val (.int ((i &&& (2147483647 : Int32)) % (3 : Int32))), .val (.ref w_WARNING), .val (.int (1 : Int32))] [(.int (1 : Int32))]))
        refine Gl.back (fun _ k => XS.goto X18.here hx rfl (pc0 := 49) (pc' := 53) rfl (hb hby at_49) (by decide) (by decide) k) ?_
        show Gl _ _ _ _ _ _ _ (T18.setTop (mkF m 53 #[.val (.int i), .val (.int ((i &&& (2147483647 : Int32)) % (3 : Int32))), .val (.ref w_WARNING), .val (.int (1 : Int32))] [(.int (1 : Int32))]))
        exact Gl.ret X18 eh18 (v := (some (.int (1 : Int32)))) (fun h => by rw [Bd.returns] at h; cases h) Bd.notSynchronized (fun fs hr => retN X18 hx (t := .boolean) (z := (1 : Int32)) Bd.returns (by simp) (hb hby at_53) hr) ⟨N18, rfl⟩ (by decide) (by decide)
      · exact absurd hp18 ne_WARNING
    · refine Gl.back (fun _ k => XS.icmpYes X0.here hx rfl (pc0 := 22) (pc' := 34) rfl (hb hby at_22) rfl (feq hc22_16).2 (by decide) (by decide) k) ?_
      show Gl _ _ _ _ _ _ _ (s₁.setTop (mkF m 34 #[.val (.int i), .val (.int ((i &&& (2147483647 : Int32)) % (3 : Int32))), .unset, .unset] []))
      obtain ⟨T19, X19, e19, st19⟩ := getS2 X0 hx hZ hown (host := "") (Or.inl (hw _ (List.mem_of_getElem? (i := 11) rfl))) Via.refl e0 S_INFO (g := (mkF m 34 #[.val (.int i), .val (.int ((i &&& (2147483647 : Int32)) % (3 : Int32))), .unset, .unset] [])) rfl (hb hby at_34)
      refine Gl.back (fun _ k => st19 _ k) ?_
      show Gl _ _ _ _ _ _ _ (T19.setTop (mkF m 37 #[.val (.int i), .val (.int ((i &&& (2147483647 : Int32)) % (3 : Int32))), .unset, .unset] [(.ref w_INFO)]))
      refine Gl.back (fun _ k => XS.astoreN X19.here hx rfl (hb hby at_37) rfl rfl (l' := #[.val (.int i), .val (.int ((i &&& (2147483647 : Int32)) % (3 : Int32))), .val (.ref w_INFO), .unset]) rfl k) ?_
      show Gl _ _ _ _ _ _ _ (T19.setTop (mkF m 38 #[.val (.int i), .val (.int ((i &&& (2147483647 : Int32)) % (3 : Int32))), .val (.ref w_INFO), .unset] []))
      refine Gl.back (fun _ k => XS.iconst X19.here hx rfl (hb hby at_38) k) ?_
      show Gl _ _ _ _ _ _ _ (T19.setTop (mkF m 39 #[.val (.int i), .val (.int ((i &&& (2147483647 : Int32)) % (3 : Int32))), .val (.ref w_INFO), .unset] [(.int (0 : Int32))]))
      refine Gl.back (fun _ k => XS.istoreN X19.here hx rfl (hb hby at_39) rfl (l' := #[.val (.int i), .val (.int ((i &&& (2147483647 : Int32)) % (3 : Int32))), .val (.ref w_INFO), .val (.int (0 : Int32))]) rfl k) ?_
      show Gl _ _ _ _ _ _ _ (T19.setTop (mkF m 40 #[.val (.int i), .val (.int ((i &&& (2147483647 : Int32)) % (3 : Int32))), .val (.ref w_INFO), .val (.int (0 : Int32))] []))
      refine Gl.back (fun _ k => XS.aloadN X19.here hx rfl (hb hby at_40) rfl rfl k) ?_
      show Gl _ _ _ _ _ _ _ (T19.setTop (mkF m 41 #[.val (.int i), .val (.int ((i &&& (2147483647 : Int32)) % (3 : Int32))), .val (.ref w_INFO), .val (.int (0 : Int32))] [(.ref w_INFO)]))
      obtain ⟨cq20, kq20, q20a, q20b, q20c⟩ := isOf hZ e19 E_INFO
      obtain ⟨_, _, ⟨T20, L20, k20, n20⟩, -, X20, ⟨Lc20, hQ20, l20, y20, z20⟩, st20⟩ := X19.virtualBack hx (y := (⟨"com/example/vet/vet/report/Level", "fails", "()Z"⟩ : MethodName)) (z := (⟨"com/example/vet/vet/report/Level", "fails", "()Z"⟩ : MethodName)) hown (mvT hZ (hw _ (List.mem_of_getElem? (i := 4) rfl))) (mvT hZ (hw _ (List.mem_of_getElem? (i := 5) rfl))) (notFace_of_selects (args := #[]) (mvT hZ (hw _ (List.mem_of_getElem? (i := 7) rfl)))) (mvT hZ (hw _ (List.mem_of_getElem? (i := 7) rfl))) (mvT hZ (hw _ (List.mem_of_getElem? (i := 6) rfl))) (by decide) (backOf (W := 0) (rm1 l Z a0 hw [] w_INFO w_INFO h0 n0 Z0 S_INFO) hZ (hw _ (List.mem_of_getElem? (i := 8) rfl)) (hw _ (List.mem_of_getElem? (i := 2) rfl)) (by decide) (by decide)) q20a q20c (g := (mkF m 41 #[.val (.int i), .val (.int ((i &&& (2147483647 : Int32)) % (3 : Int32))), .val (.ref w_INFO), .val (.int (0 : Int32))] [(.ref w_INFO)])) rfl (by rw [hml]; rfl) (Steps.refl _) (argsL := []) (rest := []) (lenOf pd___Z rfl) rfl (by show 2 * 0 + _ ≤ _; exact Nat.le_of_eq rfl) (hb hby at_41) (fun _ _ => ⟨rfl, e19, (by decide : 0 + 0 ≤ _), (by decide : 0 + 0 ≤ _)⟩)
      dsimp only [Pt.U, Pt.locs, Pt.cells, Pt.slots] at X20 l20 y20 z20 st20 hQ20
      subst l20 y20 z20
      obtain ⟨Nq20, hQ20⟩ := hQ20
      rcases hQ20 with ⟨rfl, hn20, eh20⟩ | ⟨rfl, hp20, eh20⟩
      · exact absurd rfl hn20
      · have N20 := Fr.app N0 Nq20
        refine Gl.back (fun _ k => st20.trans k) ?_
        show Gl _ _ _ _ _ _ _ (T20.setTop (mkF m 44 #[.val (.int i), .val (.int ((i &&& (2147483647 : Int32)) % (3 : Int32))), .val (.ref w_INFO), .val (.int (0 : Int32))] [(.int (0 : Int32))]))
        refine Gl.back (fun _ k => XS.iloadN X20.here hx rfl (hb hby at_44) rfl k) ?_
        show Gl _ _ _ _ _ _ _ (T20.setTop (mkF m 45 #[.val (.int i), .val (.int ((i &&& (2147483647 : Int32)) % (3 : Int32))), .val (.ref w_INFO), .val (.int (0 : Int32))] [(.int (0 : Int32)), (.int (0 : Int32))]))
        refine Gl.back (fun _ k => XS.icmpNo X20.here hx rfl (hb hby at_45) rfl (teq (by decide : (0 : Int32) = (0 : Int32))).2 k) ?_
        show Gl _ _ _ _ _ _ _ (T20.setTop (mkF m 48 #[.val (.int i), .val (.int ((i &&& (2147483647 : Int32)) % (3 : Int32))), .val (.ref w_INFO), .val (.int (0 : Int32))] []))
        refine Gl.back (fun _ k => XS.iconst X20.here hx rfl (hb hby at_48) k) ?_
        show Gl _ _ _ _ _ _ _ (T20.setTop (mkF m 49 #[.val (.int i), .val (.int ((i &&& (2147483647 : Int32)) % (3 : Int32))), .val (.ref w_INFO), .val (.int (0 : Int32))] [(.int (1 : Int32))]))
        refine Gl.back (fun _ k => XS.goto X20.here hx rfl (pc0 := 49) (pc' := 53) rfl (hb hby at_49) (by decide) (by decide) k) ?_
        show Gl _ _ _ _ _ _ _ (T20.setTop (mkF m 53 #[.val (.int i), .val (.int ((i &&& (2147483647 : Int32)) % (3 : Int32))), .val (.ref w_INFO), .val (.int (0 : Int32))] [(.int (1 : Int32))]))
        exact Gl.ret X20 eh20 (v := (some (.int (1 : Int32)))) (fun h => by rw [Bd.returns] at h; cases h) Bd.notSynchronized (fun fs hr => retN X20 hx (t := .boolean) (z := (1 : Int32)) Bd.returns (by simp) (hb hby at_53) hr) ⟨N20, rfl⟩ (by decide) (by decide)
set_option maxRecDepth 65536 in
set_option maxHeartbeats 40000000 in
theorem comes_1 {Post : Tables → Env → Array Value → State → Outcome → State → Prop} (hpost : ∀ tb e args s v u, (limb_1_1.after args s (.returned v) u = true ∧ limb_1_2.after args s (.returned v) u = true ∧ True) → FrameEnd s (.returned v) u (Jvm.fieldLocs frame_1_writes args s ++ Jvm.arrayLocs frame_1_arrays args s ++ Jvm.staticLocs frame_1_statics s) 0 0 → Post tb e args s (.returned v) u) :
    ArmFor flags0 classFile x code maxLocals ret World_1 tables_1 room_1 Calls_1 rest_1 Pre_1 Post := by
  intro l hfl _ _ p e ha hc hk s m args below hf hA hF happ hP
  obtain ⟨hcalls, hrest, hpre⟩ := hP
  obtain ⟨-, -, -, hnamed, -, -, -, hat⟩ := (Spec.applies_iff hf).mp happ
  obtain ⟨hg, hn⟩ := and_e (Cond.before_iff.mp (show (Jvm.Cond.and given_1 narrow_1).before args s = true from hpre))
  obtain ⟨gv21, gv22⟩ := and_e hg
  obtain ⟨w0, rfl⟩ : ∃ w0 : Value, args = #[w0] := by
    have hs : args.size = 1 := by simpa [Cond.value, given_1] using gv21
    obtain ⟨L⟩ := args
    match L, hs with
    | [w0], _ => exact ⟨w0, rfl⟩
  have hw := fun d (hd : d ∈ tables_1) => atoms_spec (ws := Jvm.Cond.code x code maxLocals ret :: tables_1) hat d (List.mem_cons_of_mem _ hd)
  have hfit : Fit s := fun {y c} hc i hi => by
    obtain ⟨ha, rfl⟩ := Array.getElem?_eq_some_iff.mp hc
    have q := List.all_eq_true.mp ((Array.all_eq_true_iff_forall_mem.mp hF) _ (Array.getElem_mem ha)) i (List.mem_range.mpr hi)
    simpa [Array.getElem?_eq_getElem hi] using q
  obtain ⟨i0, ei0⟩ := is_v gv22
  obtain rfl : w0 = (.int i0) := Option.some.inj ei0
  obtain ⟨gn3, gn4⟩ := and_e hn
  obtain ⟨w_ERROR, ev_ERROR⟩ := exa_v gn3
  have S_ERROR := Sta.start ev_ERROR (Or.inr ⟨(hw _ (List.mem_of_getElem? (i := 2) rfl)), (hw _ (List.mem_of_getElem? (i := 3) rfl))⟩)
  have E_ERROR := Exa.start ev_ERROR gn3
  obtain ⟨gn5, gn6⟩ := and_e gn4
  obtain ⟨w_INFO, ev_INFO⟩ := exa_v gn5
  have S_INFO := Sta.start ev_INFO (Or.inr ⟨(hw _ (List.mem_of_getElem? (i := 2) rfl)), (hw _ (List.mem_of_getElem? (i := 10) rfl))⟩)
  have E_INFO := Exa.start ev_INFO gn5
  obtain ⟨gn7, gn8⟩ := and_e gn6
  obtain ⟨gn9, gn10⟩ := and_e gn8
  obtain ⟨gn11, gn12⟩ := and_e gn10
  obtain ⟨w_WARNING, ev_WARNING⟩ := exa_v gn11
  have S_WARNING := Sta.start ev_WARNING (Or.inr ⟨(hw _ (List.mem_of_getElem? (i := 2) rfl)), (hw _ (List.mem_of_getElem? (i := 13) rfl))⟩)
  have E_WARNING := Exa.start ev_WARNING gn11
  have F_ERROR_ordinal := own_fldI ev_ERROR gn7
  have F_INFO_ordinal := own_fldI ev_INFO gn9
  have F_WARNING_ordinal := own_fldI ev_WARNING gn12
  obtain ⟨n, o, h1, h2, h3, _, L, rfl, ⟨N, rfl⟩, hq⟩ := rm0 l s _ hw tables_1 i0 w_ERROR w_WARNING w_INFO s.heap s.heap.size (Nat.le_refl _) S_ERROR S_WARNING S_INFO E_ERROR E_WARNING E_INFO (Fld.ne F_ERROR_ordinal F_INFO_ordinal (by decide)) (Fld.ne F_WARNING_ordinal F_INFO_ordinal (by decide)) p e ha hc hk s m _ below hf ((Spec.applies_iff_loose hf).mp happ).1 ⟨rfl, State.Warmed39.refl s, rfl⟩ trivial
  refine ⟨n, _, h1, h2, h3, hpost _ _ _ _ _ _ ⟨Cond.after_iff.mpr rfl, Cond.after_iff.mpr (eq_i res_at (Term.int_eval (1)) rfl), trivial⟩ ⟨hq.1, hq.2.1, (hq.2.2.sift fun y hy => Or.inr (N y hy)).mono (by decide) (by decide)⟩⟩
theorem main_1_1 : Claimed_1_1 := comes_1 fun _ _ _ _ _ _ h hF => ⟨h.1, hF⟩
theorem main_1_2 : Claimed_1_2 := comes_1 fun _ _ _ _ _ _ h hF => ⟨h.2.1, hF⟩
end Jvm.Pilot.@@N@@
namespace Jvm.Pilot.@@N@@
open Jvm Jvm.ClassFile Sem Op Lib Jvm.Free Jvm.Stand Jvm.Pilot.@@N@@.Jvm.D
/-! MADE BY PROGRAM (witnessworld.py) out of the Statement's table words and the real class files: 12 classes; the members and pool entries that the words name. The judged class is class 1, her method 1. -/
namespace start1
open Jvm.ClassFile
def u (s : String) : CpInfo := .utf8 (stringToUtf16 s)
/-- a pool by its gaps: so many unusable entries, then the entry; so many at the end -/
def gap : Nat → List CpInfo → List CpInfo
  | 0, r => r
  | n + 1, r => .unusable :: gap n r
def poolList (es : List (Nat × CpInfo)) (last : Nat) : List CpInfo := es.foldr (fun e r => gap e.1 (e.2 :: r)) (gap last [])
def pool (es : List (Nat × CpInfo)) (last : Nat) : Array CpInfo := ⟨poolList es last⟩
def fileOf (pool : Array CpInfo) (this : Nat) (attrs : Array Attribute := #[]) (ms : Array MethodInfo := #[]) (fl : Nat := 33) (sup : Nat := 0) (ifs : Array Nat := #[]) (fds : Array FieldInfo := #[]) : ClassFile where
  minorVersion := 0
  majorVersion := 65
  constantPool := pool
  accessFlags := fl
  thisClass := this
  superClass := sup
  interfaces := ifs
  fields := fds
  methods := ms
  attributes := attrs
def plain (name : String) (sup : Option ClassId) : Class where
  name := name
  kind := .ordinary
  loader := none
  accessFlags := 33
  super := sup
  interfaces := #[]
  cf := none
  fields := #[]
  methods := #[]
  instanceTypes := #[]
  staticTypes := #[]
  resolved := #[]
  callSites := []
  init := .initialized
  statics := none
  mirror := none

def pool0 : Array CpInfo := pool [(5, u "<init>"), (0, u "()V"), (1, .class_ 10), (1, u "java/lang/Object")] 113

def k0m0 : Method := { name := "<init>", desc := "()V", sig := { parameters := [], returnType := none }, accessFlags := 1, code := none }
/-- java/lang/Object -/
def k0 : Class := { plain "java/lang/Object" none with
  accessFlags := 33
  interfaces := #[]
  cf := some (fileOf pool0 8 #[] #[{ accessFlags := 1, nameIndex := 5, descriptorIndex := 6, attributes := #[] }] 33 0 #[] #[])
  fields := #[]
  methods := #[k0m0]
  instanceTypes := #[]
  staticTypes := #[]
  resolved := Array.replicate 124 none
  statics := none }

def pool1 : Array CpInfo := pool [(2, .class_ 4), (1, u "java/lang/Object"), (0, u "<init>"), (0, u "()V"), (0, .integer 2147483647), (0, .fieldref 9 10), (0, .class_ 11), (0, .nameAndType 12 13), (0, u "com/example/vet/vet/report/Level"), (0, u "ERROR"), (0, u "Lcom/example/vet/vet/report/Level;"), (0, .fieldref 9 15), (0, .nameAndType 16 13), (0, u "WARNING"), (0, .fieldref 9 18), (0, .nameAndType 19 13), (0, u "INFO"), (0, .methodref 9 21), (0, .nameAndType 22 23), (0, u "fails"), (0, u "()Z"), (0, .class_ 25), (0, u "com/example/vet/vet/report/LevelFailsPinLaw"), (2, u "law"), (0, u "(I)Z")] 3

def k1m0 : Method := { name := "<init>", desc := "()V", sig := { parameters := [], returnType := none }, accessFlags := 1, code := none }
def k1c1 : Code := { maxStack := 2, maxLocals := 4, code := code, exceptionTable := #[], attributes := #[] }
def k1m1 : Method := { name := "law", desc := "(I)Z", sig := { parameters := [.int], returnType := some .boolean }, accessFlags := 9, code := some k1c1 }
/-- com/example/vet/vet/report/LevelFailsPinLaw -/
def k1 : Class := { plain "com/example/vet/vet/report/LevelFailsPinLaw" (some 0) with
  accessFlags := 49
  interfaces := #[]
  cf := some (fileOf pool1 24 #[] #[{ accessFlags := 1, nameIndex := 5, descriptorIndex := 6, attributes := #[] }, { accessFlags := 9, nameIndex := 28, descriptorIndex := 29, attributes := #[] }] 49 2 #[] #[])
  fields := #[]
  methods := #[k1m0, k1m1]
  instanceTypes := #[]
  staticTypes := #[]
  resolved := Array.replicate 33 none
  statics := none }

def pool2 : Array CpInfo := pool [(1, .class_ 2), (0, u "java/lang/constant/Constable"), (0, .class_ 4), (0, u "java/lang/Object")] 6

/-- java/lang/constant/Constable -/
def k2 : Class := { plain "java/lang/constant/Constable" (some 0) with
  accessFlags := 1537
  interfaces := #[]
  cf := some (fileOf pool2 1 #[] #[] 1537 3 #[] #[])
  fields := #[]
  methods := #[]
  instanceTypes := #[]
  staticTypes := #[]
  resolved := Array.replicate 11 none
  statics := none }

def pool3 : Array CpInfo := pool [(1, .class_ 2), (0, u "java/lang/Comparable"), (0, .class_ 4), (0, u "java/lang/Object")] 7

/-- java/lang/Comparable -/
def k3 : Class := { plain "java/lang/Comparable" (some 0) with
  accessFlags := 1537
  interfaces := #[]
  cf := some (fileOf pool3 1 #[] #[] 1537 3 #[] #[])
  fields := #[]
  methods := #[]
  instanceTypes := #[]
  staticTypes := #[]
  resolved := Array.replicate 12 none
  statics := none }

def pool4 : Array CpInfo := pool [(1, .class_ 2), (0, u "java/io/Serializable"), (0, .class_ 4), (0, u "java/lang/Object")] 2

/-- java/io/Serializable -/
def k4 : Class := { plain "java/io/Serializable" (some 0) with
  accessFlags := 1537
  interfaces := #[]
  cf := some (fileOf pool4 1 #[] #[] 1537 3 #[] #[])
  fields := #[]
  methods := #[]
  instanceTypes := #[]
  staticTypes := #[]
  resolved := Array.replicate 7 none
  statics := none }

def pool5 : Array CpInfo := pool [(2, .class_ 4), (1, u "java/lang/Enum"), (0, u "name"), (0, u "Ljava/lang/String;"), (2, u "ordinal"), (0, u "I"), (1, .class_ 14), (1, u "java/lang/Object"), (4, u "hash"), (86, .class_ 108), (1, u "java/lang/Enum$EnumDesc"), (2, .class_ 112), (0, u "java/lang/constant/Constable"), (0, .class_ 114), (0, u "java/lang/Comparable"), (0, .class_ 116), (0, u "java/io/Serializable")] 87

/-- java/lang/Enum -/
def k5 : Class := { plain "java/lang/Enum" (some 0) with
  accessFlags := 1057
  interfaces := #[2, 3, 4]
  cf := some (fileOf pool5 2 #[.nestMembers #[106]] #[] 1057 12 #[111, 113, 115] #[{ accessFlags := 18, nameIndex := 5, descriptorIndex := 6, attributes := #[] }, { accessFlags := 18, nameIndex := 9, descriptorIndex := 10, attributes := #[] }, { accessFlags := 2, nameIndex := 19, descriptorIndex := 10, attributes := #[] }])
  fields := #[{ name := "name", type := (.object "java/lang/String"), accessFlags := 18, slot := 0, constantValue := 0 }, { name := "ordinal", type := .int, accessFlags := 18, slot := 1, constantValue := 0 }, { name := "hash", type := .int, accessFlags := 2, slot := 2, constantValue := 0 }]
  methods := #[]
  instanceTypes := #[(.object "java/lang/String"), .int, .int]
  staticTypes := #[]
  resolved := Array.replicate 204 none
  statics := none }

def pool6 : Array CpInfo := pool [(1, .class_ 2), (0, u "com/example/vet/vet/report/Level"), (2, u "ERROR"), (0, u "Lcom/example/vet/vet/report/Level;"), (2, u "WARNING"), (0, .fieldref 1 11), (0, .nameAndType 12 6), (0, u "INFO"), (2, u "$VALUES"), (0, u "[Lcom/example/vet/vet/report/Level;"), (6, .class_ 25), (1, u "java/lang/Enum"), (37, u "fails"), (0, u "()Z")] 6

def k6c0 : Code := { maxStack := 2, maxLocals := 1, code := prog_47_method_4_code, exceptionTable := #[], attributes := #[] }
def k6m0 : Method := { name := "fails", desc := "()Z", sig := { parameters := [], returnType := some .boolean }, accessFlags := 1, code := some k6c0 }
/-- com/example/vet/vet/report/Level -/
def k6 : Class := { plain "com/example/vet/vet/report/Level" (some 5) with
  accessFlags := 16433
  interfaces := #[]
  cf := some (fileOf pool6 1 #[] #[{ accessFlags := 1, nameIndex := 63, descriptorIndex := 64, attributes := #[] }] 16433 23 #[] #[{ accessFlags := 16409, nameIndex := 5, descriptorIndex := 6, attributes := #[] }, { accessFlags := 16409, nameIndex := 9, descriptorIndex := 6, attributes := #[] }, { accessFlags := 16409, nameIndex := 12, descriptorIndex := 6, attributes := #[] }, { accessFlags := 4122, nameIndex := 15, descriptorIndex := 16, attributes := #[] }])
  fields := #[{ name := "ERROR", type := (.object "com/example/vet/vet/report/Level"), accessFlags := 16409, slot := 0, constantValue := 0 }, { name := "WARNING", type := (.object "com/example/vet/vet/report/Level"), accessFlags := 16409, slot := 1, constantValue := 0 }, { name := "INFO", type := (.object "com/example/vet/vet/report/Level"), accessFlags := 16409, slot := 2, constantValue := 0 }, { name := "$VALUES", type := (.array (.object "com/example/vet/vet/report/Level")), accessFlags := 4122, slot := 3, constantValue := 0 }]
  methods := #[k6m0]
  instanceTypes := #[(.object "java/lang/String"), .int, .int]
  staticTypes := #[(.object "com/example/vet/vet/report/Level"), (.object "com/example/vet/vet/report/Level"), (.object "com/example/vet/vet/report/Level"), (.array (.object "com/example/vet/vet/report/Level"))]
  resolved := Array.replicate 71 none
  statics := some 0 }

def pool7 : Array CpInfo := pool [(1, u "java/lang/Cloneable"), (0, .class_ 1), (0, u "java/lang/Object"), (0, .class_ 3)] 3

/-- java/lang/Cloneable -/
def k7 : Class := { plain "java/lang/Cloneable" (some 0) with
  accessFlags := 1537
  interfaces := #[]
  cf := some (fileOf pool7 2 #[] #[] 1537 4 #[] #[])
  fields := #[]
  methods := #[]
  instanceTypes := #[]
  staticTypes := #[]
  resolved := Array.replicate 8 none
  statics := none }

/-- the primitive byte -/
def k8 : Class := { plain "byte" none with kind := .primitive 'B', accessFlags := 0x411 }
/-- [B -/
def k9 : Class := { plain "[B" (some 0) with kind := .array 8 .byte, interfaces := #[7, 4], accessFlags := 1041 }

/-- the primitive int -/
def k10 : Class := { plain "int" none with kind := .primitive 'I', accessFlags := 0x411 }
/-- [I -/
def k11 : Class := { plain "[I" (some 0) with kind := .array 10 .int, interfaces := #[7, 4], accessFlags := 1041 }

def heap : Heap := #[{ cls := 6, slots := #[.ref 1, .ref 2, .ref 3, .null], vm := .statics 6 },
  { cls := 6, slots := #[.null, .int 0, .int 0], vm := .none },
  { cls := 6, slots := #[.null, .int 1, .int 0], vm := .none },
  { cls := 6, slots := #[.null, .int 2, .int 0], vm := .none }]
def classes : Array Class := #[k0, k1, k2, k3, k4, k5, k6, k7, k8, k9, k10, k11]
def interned : List (Array UInt16 × Addr) := []
def slotsUsed : Nat := 13
def theMethod : MethodId := ⟨1, 1⟩
def args0 : Array Value := #[.int 5]
def aboutOver (below : List Frame) : State where
  vm := { classes := classes, interned := interned.toArray }
  heap := heap
  slotsUsed := slotsUsed
  threads := #[{ frames := .invoking theMethod args0 :: below }]
def below0 : List Frame := [.native { method := ⟨0, 0⟩, args := #[] }]
def about1 : State := aboutOver below0
def p0 : Program := .bare "" "" ""
def e0 : Env := launch0.env 0 0 0
theorem w_frames : about1.frames = Frame.invoking theMethod args0 :: below0 := rfl
set_option maxRecDepth 65536 in
theorem w_args : argsFit about1.vm theMethod args0 = true := by decide +kernel
set_option maxRecDepth 65536 in
theorem w_heap : heapFits about1 = true := by decide +kernel
set_option maxRecDepth 65536 in
theorem w_runnable : about1.curStatus? = some .runnable := by decide +kernel
set_option maxRecDepth 65536 in
theorem w_alone : about1.alone = true := by decide +kernel
set_option maxRecDepth 65536 in
theorem w_named : about1.methodNamed? x = some theMethod := by decide +kernel
set_option maxRecDepth 65536 in
theorem w_hears : about1.hears theMethod below0 = true := by decide +kernel
set_option maxRecDepth 65536 in
theorem w_ripe : about1.ripe theMethod args0 below0 = true := by decide +kernel
theorem w_running : about1.status = .running := rfl
set_option maxRecDepth 65536 in
theorem w_room : about1.hasRoom e0.platform room_1 = true :=
  launch0.hasRoom_least _ room_1 (by decide +kernel) (by decide +kernel) (by decide +kernel) (by decide +kernel) (by decide +kernel) (by decide +kernel)
theorem allAtoms_all (ts : List Jvm.Cond) (a : Array Jvm.Value) (st : Jvm.State) : (allAtoms ts).before a st = ts.all (fun c => c.before a st) := by
  induction ts with
  | nil => rfl
  | cons c t ih =>
    show (Jvm.Cond.and c (allAtoms t)).before a st = _
    rw [Jvm.Cond.before_and, ih, List.all_cons]
def words1 : List Jvm.Cond := Jvm.Cond.code x code maxLocals ret :: tables_1
/-- a 'code' word, met by the world's own term for the bytes: nothing is compared byte by byte -/
theorem code_word {y : MethodName} {bytes : ByteArray} {mx : Nat} {rt : Option FieldType} {a : Array Value} {s : State} {m : MethodId} {meth : Method} {c : Code} (h1 : s.methodNamed? y = some m) (h2 : s.vm.method? m = some meth) (h3 : meth.code = some c) (h4 : c.code = bytes)
    (h5 : (c.maxLocals == mx && c.exceptionTable.isEmpty && decide (c.maxStack ≤ mostOperands) && decide (meth.sig.returnType = rt) && !meth.locks && decide (parseMethodDescriptor y.desc = some meth.sig)) = true) : (Jvm.Cond.code y bytes mx rt).before a s = true := by
  simp only [Bool.and_eq_true, beq_iff_eq, Bool.not_eq_true', decide_eq_true_eq] at h5
  obtain ⟨⟨⟨⟨⟨g1, g2⟩, g3⟩, g4⟩, g5⟩, g6⟩ := h5
  simp [Cond.before, Cond.holds, Cond.value, h1, h2, h3, h4, g1, g2, g3, g4, g5, g6]
def isCode : Jvm.Cond → Bool
  | .code _ _ _ _ => true
  | _ => false
theorem all_split {L : List Jvm.Cond} {P : Jvm.Cond → Bool} (h1 : L.all (fun c => isCode c || P c) = true) (h2 : ∀ c ∈ L.filter isCode, P c = true) : L.all P = true := by
  refine List.all_eq_true.mpr fun c hc => ?_
  have h := List.all_eq_true.mp h1 c hc
  rcases Bool.eq_false_or_eq_true (isCode c) with hi | hi
  · exact h2 c (List.mem_filter.mpr ⟨hc, hi⟩)
  · simpa [hi] using h
set_option maxRecDepth 65536 in
theorem w_c0 : (Jvm.Cond.code x code maxLocals ret).before args0 about1 = true := code_word (m := ⟨1, 1⟩) (meth := k1m1) (c := k1c1) (by decide +kernel) rfl rfl rfl (by decide +kernel)
set_option maxRecDepth 65536 in
theorem w_c1 : (Jvm.Cond.code ({ cls := "com/example/vet/vet/report/Level", name := "fails", desc := "()Z" } : Jvm.MethodName) prog_47_method_4_code (1 : Nat) (Option.some Jvm.ClassFile.FieldType.boolean)).before args0 about1 = true := code_word (m := ⟨6, 0⟩) (meth := k6m0) (c := k6c0) (by decide +kernel) rfl rfl rfl (by decide +kernel)
def codes1 : List Jvm.Cond := [Jvm.Cond.code x code maxLocals ret, Jvm.Cond.code ({ cls := "com/example/vet/vet/report/Level", name := "fails", desc := "()Z" } : Jvm.MethodName) prog_47_method_4_code (1 : Nat) (Option.some Jvm.ClassFile.FieldType.boolean)]
set_option maxRecDepth 65536 in
theorem codes_eq : words1.filter isCode = codes1 := rfl
theorem w_codes : ∀ c ∈ words1.filter isCode, c.before args0 about1 = true := by
  rw [codes_eq]
  intro c hc
  simp only [codes1, List.mem_cons, List.not_mem_nil, or_false] at hc
  rcases hc with rfl | rfl
  · exact w_c0
  · exact w_c1
set_option maxRecDepth 65536 in
theorem w_t1 : words1.all (fun c => isCode c || c.before args0 about1) = true := by decide +kernel
theorem w_tables : (allAtoms (Jvm.Cond.code x code maxLocals ret :: tables_1)).before args0 about1 = true := by
  rw [allAtoms_all]
  show words1.all (fun c => c.before args0 about1) = true
  refine all_split ?_ w_codes
  rw [w_t1]
set_option maxRecDepth 65536 in
theorem w_case : (Jvm.Cond.and given_1 narrow_1).before args0 about1 = true := by decide +kernel
theorem w_applies : (headSpec (Jvm.Cond.code x code maxLocals ret :: tables_1) room_1).applies x e0.platform about1 = true :=
  (Spec.applies_iff w_frames).mpr ⟨w_running, w_runnable, w_alone, w_named, w_hears, w_ripe, w_room, w_tables⟩
theorem atStart : AtStart classFile x code maxLocals ret World_1 tables_1 room_1 Calls_1 rest_1 Pre_1 launch0 p0 e0 about1 theMethod args0 below0 :=
  ⟨lists_1, trivial, launch0.admits_env _ _ _, launch0.least_env, fairChoices_fair.cas, fairChoices_fair.clock, w_frames, w_args, w_heap, w_applies, trivial, trivial, w_case⟩
end start1
theorem witness_1 : WitnessClaimed_1 := ⟨start1.p0, start1.e0, start1.about1, start1.theMethod, start1.args0, start1.below0, start1.atStart⟩
end Jvm.Pilot.@@N@@
