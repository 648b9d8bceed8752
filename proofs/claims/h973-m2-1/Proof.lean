import JvmDerived
import JvmDerived.Pilot.@@N@@Statement
import JvmDerived.Pilot.@@N@@Code
set_option linter.unusedVariables false
set_option linter.unusedSimpArgs false
@@BLOCK:NumsL.lean.txt@@
namespace Jvm.Pilot.@@N@@
open Jvm Jvm.ClassFile Sem Op Lib Jvm.Free Jvm.Stand Jvm.LawKit Jvm.RoadKit Bundle Jvm.Pilot.@@N@@.Jvm.D
/-! the goal of a body's walk, closed under steps that lead to where it holds -/
def Gl (p : Program) (e : Env) (below : List Frame) (s : State) (Q : Option Value → Heap → List Loc → Prop) (k n : Nat) (S0 : State) : Prop :=
  ∃ s₂ o, Steps p.tables e below S0 s₂ ∧ s₂.status = .running ∧ Ended s₂ below o ∧ ∃ v L, o = .returned v ∧ Q v s₂.heap L ∧ FrameEnd s o s₂ L k n
theorem Gl.back {p : Program} {e : Env} {below : List Frame} {s : State} {Q : Option Value → Heap → List Loc → Prop} {k n : Nat} {S0 S1 : State} (h : ∀ t, Steps p.tables e below S1 t → Steps p.tables e below S0 t) (g : Gl p e below s Q k n S1) : Gl p e below s Q k n S0 := by
  obtain ⟨s₂, o, h1, r⟩ := g; exact ⟨s₂, o, h _ h1, r⟩
theorem Gl.ret {p : Program} {l : Launch} {e : Env} {R : Room} {s : State} {m : MethodId} {args : Array Value} {below : List Frame} {meth : Method} {c : Code} {T : State} {locs : List Loc} {cells slots : Nat} (X : Stand p l e R s m args below meth c T locs cells slots) {h : Heap} (eT : T.heap = h)
    {v : Option Value} (hv : meth.sig.returnType = none → v = none) (hlocks : meth.locks = false) {S0 : State} (st : ∀ fs, (∀ (f : JFrame) (acts : List Action), f.method = m → f.locked = none → f.entered = [] → (doReturn e (T.setTop f) acts v).1 = T.setFrames fs) → Steps p.tables e below S0 (T.setFrames fs))
    {Q : Option Value → Heap → List Loc → Prop} {k n : Nat} (hQ : Q v h locs) (hk : cells ≤ k) (hn : slots ≤ n) : Gl p e below s Q k n S0 := by
  obtain ⟨fs, hr, hrun, hended, hW, hsame⟩ := X.leave (v := v) hv hlocks
  exact ⟨_, _, st fs hr, hrun, hended, v, locs, rfl, eT ▸ hQ, ⟨_, rfl⟩, hW, hsame.mono hk hn⟩
def GlW (p : Program) (e : Env) (below : List Frame) (s : State) (Q : Option Value → Heap → List Loc → Prop) (k n : Nat) (S0 : State) : Prop :=
  ∃ s₂ o, Steps p.tables e below S0 s₂ ∧ s₂.status = .running ∧ Ended s₂ below o ∧ ∃ v L, o = .returned v ∧ Q v s₂.heap L ∧ ReturnedEndW s o s₂ L k n
theorem GlW.back {p : Program} {e : Env} {below : List Frame} {s : State} {Q : Option Value → Heap → List Loc → Prop} {k n : Nat} {S0 S1 : State} (h : ∀ t, Steps p.tables e below S1 t → Steps p.tables e below S0 t) (g : GlW p e below s Q k n S1) : GlW p e below s Q k n S0 := by
  obtain ⟨s₂, o, h1, r⟩ := g; exact ⟨s₂, o, h _ h1, r⟩
theorem GlW.ret {p : Program} {l : Launch} {e : Env} {R : Room} {s : State} {vm0 : Vm} {m : MethodId} {args : Array Value} {below : List Frame} {meth : Method} {c : Code} {T : State} {locs : List Loc} {cells slots : Nat} (X : Stand p l e R (s.setVm vm0) m args below meth c T locs cells slots) {h : Heap} (eT : T.heap = h)
    {k0 : Nat} (hS : s.Since vm0 k0) (hk0 : k0 ≤ h.size) {v : Option Value} (hv : meth.sig.returnType = none → v = none) (hlocks : meth.locks = false) {S0 : State} (st : ∀ fs, (∀ (f : JFrame) (acts : List Action), f.method = m → f.locked = none → f.entered = [] → (doReturn e (T.setTop f) acts v).1 = T.setFrames fs) → Steps p.tables e below S0 (T.setFrames fs))
    {Q : Option Value → Heap → List Loc → Prop} {k n : Nat} (hQ : Q v h locs) (hk : cells ≤ k) (hn : slots ≤ n) : GlW p e below s Q k n S0 := by
  obtain ⟨fs, hr, hrun, hended, hE⟩ := X.leaveW hS (by rw [eT]; exact hk0) (v := v) hv hlocks
  exact ⟨_, _, st fs hr, hrun, hended, v, locs, rfl, eT ▸ hQ, hE.1, hE.2.1, hE.2.2.1, hE.2.2.2.mono hk hn⟩
theorem own_lcL {x y : Int64} (h : x < y) : lcmpW x y < 0 := by rw [lcW]; exact (lc_lt x y).mpr h
theorem own_lcLn {x y : Int64} (h : ¬ x < y) : ¬ lcmpW x y < 0 := by rw [lcW]; exact fun q => h ((lc_lt x y).mp q)
theorem own_lcG {x y : Int64} (h : y < x) : 0 < lcmpW x y := by rw [lcW]; exact (lc_gt x y).mpr h
theorem own_lcGn {x y : Int64} (h : ¬ y < x) : ¬ 0 < lcmpW x y := by rw [lcW]; exact fun q => h ((lc_gt x y).mp q)
theorem own_lcE {x y : Int64} (h : x = y) : lcmpW x y = 0 := by rw [lcW]; exact (lc_eq x y).mpr h
theorem own_lcEn {x y : Int64} (h : ¬ x = y) : ¬ lcmpW x y = 0 := by rw [lcW]; exact fun q => h ((lc_eq x y).mp q)
theorem own_fldI {args : Array Value} {s : State} {t : Term} {C n d : String} {k : Int32} {a : Addr} (ev : t.eval args s none [] s = some (.ref a)) (h : (Jvm.Cond.eq (Term.field t C n d) (Term.int k)).value args s none s [] = some true) : Fld s s.heap a C n d (.int k) := by
  have e := fld_at (C := C) (n := n) (dd := d) ev
  obtain ⟨x, y, h1, h2, k1, k2⟩ := cmp_v (Or.inl h)
  obtain rfl : Value.int k = y := Option.some.inj h2
  obtain ⟨z, rfl⟩ := k2
  have q := Jvm.Cond.eq_ints h1 h2
  obtain rfl : z = k := gotT q h
  exact Fld.start (e ▸ h1)
theorem own_16 {x : Int32} (h : 0 ≤ x.toInt ∧ x.toInt < 16) : x = 0 ∨ x = 1 ∨ x = 2 ∨ x = 3 ∨ x = 4 ∨ x = 5 ∨ x = 6 ∨ x = 7 ∨ x = 8 ∨ x = 9 ∨ x = 10 ∨ x = 11 ∨ x = 12 ∨ x = 13 ∨ x = 14 ∨ x = 15 := by
  have e : ∀ y : Int32, x.toInt = y.toInt → x = y := fun y => Int32.toInt_inj.mp
  obtain ⟨h1, h2⟩ := h
  have hx : x.toInt = 0 ∨ x.toInt = 1 ∨ x.toInt = 2 ∨ x.toInt = 3 ∨ x.toInt = 4 ∨ x.toInt = 5 ∨ x.toInt = 6 ∨ x.toInt = 7 ∨ x.toInt = 8 ∨ x.toInt = 9 ∨ x.toInt = 10 ∨ x.toInt = 11 ∨ x.toInt = 12 ∨ x.toInt = 13 ∨ x.toInt = 14 ∨ x.toInt = 15 := by omega
  rcases hx with q | q | q | q | q | q | q | q | q | q | q | q | q | q | q | q
  · exact Or.inl (e 0 q)
  · exact Or.inr (Or.inl (e 1 q))
  · exact Or.inr (Or.inr (Or.inl (e 2 q)))
  · exact Or.inr (Or.inr (Or.inr (Or.inl (e 3 q))))
  · exact Or.inr (Or.inr (Or.inr (Or.inr (Or.inl (e 4 q)))))
  · exact Or.inr (Or.inr (Or.inr (Or.inr (Or.inr (Or.inl (e 5 q))))))
  · exact Or.inr (Or.inr (Or.inr (Or.inr (Or.inr (Or.inr (Or.inl (e 6 q)))))))
  · exact Or.inr (Or.inr (Or.inr (Or.inr (Or.inr (Or.inr (Or.inr (Or.inl (e 7 q))))))))
  · exact Or.inr (Or.inr (Or.inr (Or.inr (Or.inr (Or.inr (Or.inr (Or.inr (Or.inl (e 8 q)))))))))
  · exact Or.inr (Or.inr (Or.inr (Or.inr (Or.inr (Or.inr (Or.inr (Or.inr (Or.inr (Or.inl (e 9 q))))))))))
  · exact Or.inr (Or.inr (Or.inr (Or.inr (Or.inr (Or.inr (Or.inr (Or.inr (Or.inr (Or.inr (Or.inl (e 10 q)))))))))))
  · exact Or.inr (Or.inr (Or.inr (Or.inr (Or.inr (Or.inr (Or.inr (Or.inr (Or.inr (Or.inr (Or.inr (Or.inl (e 11 q))))))))))))
  · exact Or.inr (Or.inr (Or.inr (Or.inr (Or.inr (Or.inr (Or.inr (Or.inr (Or.inr (Or.inr (Or.inr (Or.inr (Or.inl (e 12 q)))))))))))))
  · exact Or.inr (Or.inr (Or.inr (Or.inr (Or.inr (Or.inr (Or.inr (Or.inr (Or.inr (Or.inr (Or.inr (Or.inr (Or.inr (Or.inl (e 13 q))))))))))))))
  · exact Or.inr (Or.inr (Or.inr (Or.inr (Or.inr (Or.inr (Or.inr (Or.inr (Or.inr (Or.inr (Or.inr (Or.inr (Or.inr (Or.inr (Or.inl (e 14 q)))))))))))))))
  · exact Or.inr (Or.inr (Or.inr (Or.inr (Or.inr (Or.inr (Or.inr (Or.inr (Or.inr (Or.inr (Or.inr (Or.inr (Or.inr (Or.inr (Or.inr (e 15 q)))))))))))))))
theorem own_and15 (x : Int32) : 0 ≤ (x &&& (15 : Int32)).toInt ∧ (x &&& (15 : Int32)).toInt < 16 := by
  have h := Jvm.Kit.i32_mask x 15 (k := 4) (by decide) (by decide)
  omega
theorem own_rem16 (x : Int32) : 0 ≤ ((x &&& (2147483647 : Int32)) % (16 : Int32)).toInt ∧ ((x &&& (2147483647 : Int32)) % (16 : Int32)).toInt < 16 := by
  have h := Jvm.Kit.i32_mask x 2147483647 (k := 31) (by decide) (by decide)
  have h0 : 0 ≤ (x &&& (2147483647 : Int32)).toInt := by omega
  have h2 := Jvm.Kit.i32_rem_nonneg (y := (16 : Int32)) h0
  have h3 : (16 : Int32).toInt = 16 := by decide
  rw [h3] at h2
  omega
theorem d1_0 : decode method_2_code 0 = .ok (.iload_n 0, 1) := by decide +kernel
theorem d1_1 : decode method_2_code 1 = .ok (.ifCond .ne 7, 3) := by decide +kernel
theorem d1_4 : decode method_2_code 4 = .ok (.getstatic 7, 3) := by decide +kernel
theorem d1_7 : decode method_2_code 7 = .ok (.areturn, 1) := by decide +kernel
theorem pn_com_example_demi_orm_demiorm_query_OperatorTakesCollectionPinLaw : plainName "com/example/demi_orm/demiorm/query/OperatorTakesCollectionPinLaw" = true := by first | (simp [plainName, overriddenIn]; done) | decide +kernel
theorem ef_1_EQUALS (m : MethodId)  : entryFrame m #[(.int (0 : Int32))] 1 = mkF m 0 #[.val (.int (0 : Int32))] [] := by first | (simp [entryFrame, mkF, argsToLocals, Value.category]; done) | rfl
def Q1_EQUALS (Z : State) (w : Addr) (h0 : Heap) (n0 : Nat) (v : Option Value) (h : Heap) (L : List Loc) : Prop := Fr n0 L ∧ (v = some (.ref w) ∧ h = h0)
set_option maxRecDepth 65536 in
set_option maxHeartbeats 40000000 in
theorem rm1_EQUALS (l : Launch) (Z : State) (a0 : Array Value) (hw : ∀ d ∈ tables_1, d.before a0 Z = true) (ws : List Jvm.Cond) (w : Addr) (h0 : Heap) (n0 : Nat) (Z0 : n0 ≤ h0.size) (S : Sta Z h0 "com/example/demi_orm/demiorm/query/Operator" "EQUALS" "Lcom/example/demi_orm/demiorm/query/Operator;" (.ref w)) :
    MetFree l (⟨"com/example/demi_orm/demiorm/query/OperatorTakesCollectionPinLaw", "pick", "(I)Lcom/example/demi_orm/demiorm/query/Operator;"⟩ : MethodName) (head1 (Jvm.Cond.code (⟨"com/example/demi_orm/demiorm/query/OperatorTakesCollectionPinLaw", "pick", "(I)Lcom/example/demi_orm/demiorm/query/Operator;"⟩ : MethodName) method_2_code 1 (some (.object "com/example/demi_orm/demiorm/query/Operator")) :: ws) ({ frames := 0, cells := 0, slots := 0, locals := 0 } : Room)) (fun as0 U => as0 = #[(.int (0 : Int32))] ∧ Z.Warmed39 U.vm ∧ U.heap = h0) (fun _ _ _ _ _ => True) (fun _ U o U' => ∃ v L, o = .returned v ∧ Q1_EQUALS Z w h0 n0 v U'.heap L ∧ FrameEnd U o U' L ({ frames := 0, cells := 0, slots := 0, locals := 0 } : Room).cells ({ frames := 0, cells := 0, slots := 0, locals := 0 } : Room).slots) := by
  refine MetFree.of_bodySF (plainFor_of_name pn_com_example_demi_orm_demiorm_query_OperatorTakesCollectionPinLaw) hisR ?_
  intro p e s m args below meth c s₁ Bd hml0 hP hK
  obtain ⟨rfl, hZ, hh⟩ := hP
  have hx := Bd.exec
  have hby := Bd.bytes
  have hml : c.maxLocals = 1 := hml0
  have hown : s.vm.findClass "com/example/demi_orm/demiorm/query/OperatorTakesCollectionPinLaw" = some m.cls := findClass_of_methodNamed Bd.named
  have hnm := (name_of_methodNamed Bd.named Bd.method).1
  have X0 : Stand p l e ({ frames := 0, cells := 0, slots := 0, locals := 0 } : Room) s m #[(.int (0 : Int32))] below meth c s₁ [] 0 0 := Stand.of_body Bd
  have e0 : s₁.heap = h0 := by rw [← hh, Bd.state]; rfl
  have N0 := Fr.nil n0
  show Gl p e below s (Q1_EQUALS Z w h0 n0) ({ frames := 0, cells := 0, slots := 0, locals := 0 } : Room).cells ({ frames := 0, cells := 0, slots := 0, locals := 0 } : Room).slots (s₁.setTop (entryFrame m #[(.int (0 : Int32))] 1))
  refine Gl.back (fun _ k => castTop (ef_1_EQUALS m ) k) ?_
  show Gl _ _ _ _ _ _ _ (s₁.setTop (mkF m 0 #[.val (.int (0 : Int32))] []))
  refine Gl.back (fun _ k => XS.iloadN X0.here hx rfl (hb hby d1_0) rfl k) ?_
  show Gl _ _ _ _ _ _ _ (s₁.setTop (mkF m 1 #[.val (.int (0 : Int32))] [(.int (0 : Int32))]))
  refine Gl.back (fun _ k => XS.ifNo X0.here hx rfl (hb hby d1_1) rfl ((if0 _ _).trans (teq (by decide : (0 : Int32) = (0 : Int32))).2) k) ?_
  show Gl _ _ _ _ _ _ _ (s₁.setTop (mkF m 4 #[.val (.int (0 : Int32))] []))
  obtain ⟨T1, X1, e1, st1⟩ := getS2 X0 hx hZ hown (host := "") (Or.inl (hw _ (List.mem_of_getElem? (i := 4) rfl))) Via.refl e0 S (g := (mkF m 4 #[.val (.int (0 : Int32))] [])) rfl (hb hby d1_4)
  refine Gl.back (fun _ k => st1 _ k) ?_
  show Gl _ _ _ _ _ _ _ (T1.setTop (mkF m 7 #[.val (.int (0 : Int32))] [(.ref w)]))
  exact Gl.ret X1 e1 (v := (some (.ref w))) (fun h => by rw [Bd.returns] at h; cases h) Bd.notSynchronized (fun fs hr => retOut X1 hx (w := (.ref w)) Bd.returns rfl (Or.inr (Or.inr (Or.inr (Or.inr ⟨rfl, rfl, rfl⟩)))) (hb hby d1_7) hr) ⟨N0, rfl, rfl⟩ (by decide) (by decide)
theorem d1_8 : decode method_2_code 8 = .ok (.iload_n 0, 1) := by decide +kernel
theorem d1_9 : decode method_2_code 9 = .ok (.iconst 1, 1) := by decide +kernel
theorem d1_10 : decode method_2_code 10 = .ok (.if_icmp .ne 7, 3) := by decide +kernel
theorem d1_13 : decode method_2_code 13 = .ok (.getstatic 13, 3) := by decide +kernel
theorem d1_16 : decode method_2_code 16 = .ok (.areturn, 1) := by decide +kernel
theorem ef_1_NOT_EQUALS (m : MethodId)  : entryFrame m #[(.int (1 : Int32))] 1 = mkF m 0 #[.val (.int (1 : Int32))] [] := by first | (simp [entryFrame, mkF, argsToLocals, Value.category]; done) | rfl
def Q1_NOT_EQUALS (Z : State) (w : Addr) (h0 : Heap) (n0 : Nat) (v : Option Value) (h : Heap) (L : List Loc) : Prop := Fr n0 L ∧ (v = some (.ref w) ∧ h = h0)
set_option maxRecDepth 65536 in
set_option maxHeartbeats 40000000 in
theorem rm1_NOT_EQUALS (l : Launch) (Z : State) (a0 : Array Value) (hw : ∀ d ∈ tables_1, d.before a0 Z = true) (ws : List Jvm.Cond) (w : Addr) (h0 : Heap) (n0 : Nat) (Z0 : n0 ≤ h0.size) (S : Sta Z h0 "com/example/demi_orm/demiorm/query/Operator" "NOT_EQUALS" "Lcom/example/demi_orm/demiorm/query/Operator;" (.ref w)) :
    MetFree l (⟨"com/example/demi_orm/demiorm/query/OperatorTakesCollectionPinLaw", "pick", "(I)Lcom/example/demi_orm/demiorm/query/Operator;"⟩ : MethodName) (head1 (Jvm.Cond.code (⟨"com/example/demi_orm/demiorm/query/OperatorTakesCollectionPinLaw", "pick", "(I)Lcom/example/demi_orm/demiorm/query/Operator;"⟩ : MethodName) method_2_code 1 (some (.object "com/example/demi_orm/demiorm/query/Operator")) :: ws) ({ frames := 0, cells := 0, slots := 0, locals := 0 } : Room)) (fun as0 U => as0 = #[(.int (1 : Int32))] ∧ Z.Warmed39 U.vm ∧ U.heap = h0) (fun _ _ _ _ _ => True) (fun _ U o U' => ∃ v L, o = .returned v ∧ Q1_NOT_EQUALS Z w h0 n0 v U'.heap L ∧ FrameEnd U o U' L ({ frames := 0, cells := 0, slots := 0, locals := 0 } : Room).cells ({ frames := 0, cells := 0, slots := 0, locals := 0 } : Room).slots) := by
  refine MetFree.of_bodySF (plainFor_of_name pn_com_example_demi_orm_demiorm_query_OperatorTakesCollectionPinLaw) hisR ?_
  intro p e s m args below meth c s₁ Bd hml0 hP hK
  obtain ⟨rfl, hZ, hh⟩ := hP
  have hx := Bd.exec
  have hby := Bd.bytes
  have hml : c.maxLocals = 1 := hml0
  have hown : s.vm.findClass "com/example/demi_orm/demiorm/query/OperatorTakesCollectionPinLaw" = some m.cls := findClass_of_methodNamed Bd.named
  have hnm := (name_of_methodNamed Bd.named Bd.method).1
  have X0 : Stand p l e ({ frames := 0, cells := 0, slots := 0, locals := 0 } : Room) s m #[(.int (1 : Int32))] below meth c s₁ [] 0 0 := Stand.of_body Bd
  have e0 : s₁.heap = h0 := by rw [← hh, Bd.state]; rfl
  have N0 := Fr.nil n0
  show Gl p e below s (Q1_NOT_EQUALS Z w h0 n0) ({ frames := 0, cells := 0, slots := 0, locals := 0 } : Room).cells ({ frames := 0, cells := 0, slots := 0, locals := 0 } : Room).slots (s₁.setTop (entryFrame m #[(.int (1 : Int32))] 1))
  refine Gl.back (fun _ k => castTop (ef_1_NOT_EQUALS m ) k) ?_
  show Gl _ _ _ _ _ _ _ (s₁.setTop (mkF m 0 #[.val (.int (1 : Int32))] []))
  refine Gl.back (fun _ k => XS.iloadN X0.here hx rfl (hb hby d1_0) rfl k) ?_
  show Gl _ _ _ _ _ _ _ (s₁.setTop (mkF m 1 #[.val (.int (1 : Int32))] [(.int (1 : Int32))]))
  refine Gl.back (fun _ k => XS.ifYes X0.here hx rfl (pc0 := 1) (pc' := 8) rfl (hb hby d1_1) rfl ((if0 _ _).trans (feq (by decide : ¬ (1 : Int32) = (0 : Int32))).2) (by decide) (by decide) k) ?_
  show Gl _ _ _ _ _ _ _ (s₁.setTop (mkF m 8 #[.val (.int (1 : Int32))] []))
  refine Gl.back (fun _ k => XS.iloadN X0.here hx rfl (hb hby d1_8) rfl k) ?_
  show Gl _ _ _ _ _ _ _ (s₁.setTop (mkF m 9 #[.val (.int (1 : Int32))] [(.int (1 : Int32))]))
  refine Gl.back (fun _ k => XS.iconst X0.here hx rfl (hb hby d1_9) k) ?_
  show Gl _ _ _ _ _ _ _ (s₁.setTop (mkF m 10 #[.val (.int (1 : Int32))] [(.int (1 : Int32)), (.int (1 : Int32))]))
  refine Gl.back (fun _ k => XS.icmpNo X0.here hx rfl (hb hby d1_10) rfl (teq (by decide : (1 : Int32) = (1 : Int32))).2 k) ?_
  show Gl _ _ _ _ _ _ _ (s₁.setTop (mkF m 13 #[.val (.int (1 : Int32))] []))
  obtain ⟨T2, X2, e2, st2⟩ := getS2 X0 hx hZ hown (host := "") (Or.inl (hw _ (List.mem_of_getElem? (i := 58) rfl))) Via.refl e0 S (g := (mkF m 13 #[.val (.int (1 : Int32))] [])) rfl (hb hby d1_13)
  refine Gl.back (fun _ k => st2 _ k) ?_
  show Gl _ _ _ _ _ _ _ (T2.setTop (mkF m 16 #[.val (.int (1 : Int32))] [(.ref w)]))
  exact Gl.ret X2 e2 (v := (some (.ref w))) (fun h => by rw [Bd.returns] at h; cases h) Bd.notSynchronized (fun fs hr => retOut X2 hx (w := (.ref w)) Bd.returns rfl (Or.inr (Or.inr (Or.inr (Or.inr ⟨rfl, rfl, rfl⟩)))) (hb hby d1_16) hr) ⟨N0, rfl, rfl⟩ (by decide) (by decide)
theorem d1_17 : decode method_2_code 17 = .ok (.iload_n 0, 1) := by decide +kernel
theorem d1_18 : decode method_2_code 18 = .ok (.iconst 2, 1) := by decide +kernel
theorem d1_19 : decode method_2_code 19 = .ok (.if_icmp .ne 7, 3) := by decide +kernel
theorem d1_22 : decode method_2_code 22 = .ok (.getstatic 16, 3) := by decide +kernel
theorem d1_25 : decode method_2_code 25 = .ok (.areturn, 1) := by decide +kernel
theorem ef_1_LESS_THAN (m : MethodId)  : entryFrame m #[(.int (2 : Int32))] 1 = mkF m 0 #[.val (.int (2 : Int32))] [] := by first | (simp [entryFrame, mkF, argsToLocals, Value.category]; done) | rfl
def Q1_LESS_THAN (Z : State) (w : Addr) (h0 : Heap) (n0 : Nat) (v : Option Value) (h : Heap) (L : List Loc) : Prop := Fr n0 L ∧ (v = some (.ref w) ∧ h = h0)
set_option maxRecDepth 65536 in
set_option maxHeartbeats 40000000 in
theorem rm1_LESS_THAN (l : Launch) (Z : State) (a0 : Array Value) (hw : ∀ d ∈ tables_1, d.before a0 Z = true) (ws : List Jvm.Cond) (w : Addr) (h0 : Heap) (n0 : Nat) (Z0 : n0 ≤ h0.size) (S : Sta Z h0 "com/example/demi_orm/demiorm/query/Operator" "LESS_THAN" "Lcom/example/demi_orm/demiorm/query/Operator;" (.ref w)) :
    MetFree l (⟨"com/example/demi_orm/demiorm/query/OperatorTakesCollectionPinLaw", "pick", "(I)Lcom/example/demi_orm/demiorm/query/Operator;"⟩ : MethodName) (head1 (Jvm.Cond.code (⟨"com/example/demi_orm/demiorm/query/OperatorTakesCollectionPinLaw", "pick", "(I)Lcom/example/demi_orm/demiorm/query/Operator;"⟩ : MethodName) method_2_code 1 (some (.object "com/example/demi_orm/demiorm/query/Operator")) :: ws) ({ frames := 0, cells := 0, slots := 0, locals := 0 } : Room)) (fun as0 U => as0 = #[(.int (2 : Int32))] ∧ Z.Warmed39 U.vm ∧ U.heap = h0) (fun _ _ _ _ _ => True) (fun _ U o U' => ∃ v L, o = .returned v ∧ Q1_LESS_THAN Z w h0 n0 v U'.heap L ∧ FrameEnd U o U' L ({ frames := 0, cells := 0, slots := 0, locals := 0 } : Room).cells ({ frames := 0, cells := 0, slots := 0, locals := 0 } : Room).slots) := by
  refine MetFree.of_bodySF (plainFor_of_name pn_com_example_demi_orm_demiorm_query_OperatorTakesCollectionPinLaw) hisR ?_
  intro p e s m args below meth c s₁ Bd hml0 hP hK
  obtain ⟨rfl, hZ, hh⟩ := hP
  have hx := Bd.exec
  have hby := Bd.bytes
  have hml : c.maxLocals = 1 := hml0
  have hown : s.vm.findClass "com/example/demi_orm/demiorm/query/OperatorTakesCollectionPinLaw" = some m.cls := findClass_of_methodNamed Bd.named
  have hnm := (name_of_methodNamed Bd.named Bd.method).1
  have X0 : Stand p l e ({ frames := 0, cells := 0, slots := 0, locals := 0 } : Room) s m #[(.int (2 : Int32))] below meth c s₁ [] 0 0 := Stand.of_body Bd
  have e0 : s₁.heap = h0 := by rw [← hh, Bd.state]; rfl
  have N0 := Fr.nil n0
  show Gl p e below s (Q1_LESS_THAN Z w h0 n0) ({ frames := 0, cells := 0, slots := 0, locals := 0 } : Room).cells ({ frames := 0, cells := 0, slots := 0, locals := 0 } : Room).slots (s₁.setTop (entryFrame m #[(.int (2 : Int32))] 1))
  refine Gl.back (fun _ k => castTop (ef_1_LESS_THAN m ) k) ?_
  show Gl _ _ _ _ _ _ _ (s₁.setTop (mkF m 0 #[.val (.int (2 : Int32))] []))
  refine Gl.back (fun _ k => XS.iloadN X0.here hx rfl (hb hby d1_0) rfl k) ?_
  show Gl _ _ _ _ _ _ _ (s₁.setTop (mkF m 1 #[.val (.int (2 : Int32))] [(.int (2 : Int32))]))
  refine Gl.back (fun _ k => XS.ifYes X0.here hx rfl (pc0 := 1) (pc' := 8) rfl (hb hby d1_1) rfl ((if0 _ _).trans (feq (by decide : ¬ (2 : Int32) = (0 : Int32))).2) (by decide) (by decide) k) ?_
  show Gl _ _ _ _ _ _ _ (s₁.setTop (mkF m 8 #[.val (.int (2 : Int32))] []))
  refine Gl.back (fun _ k => XS.iloadN X0.here hx rfl (hb hby d1_8) rfl k) ?_
  show Gl _ _ _ _ _ _ _ (s₁.setTop (mkF m 9 #[.val (.int (2 : Int32))] [(.int (2 : Int32))]))
  refine Gl.back (fun _ k => XS.iconst X0.here hx rfl (hb hby d1_9) k) ?_
  show Gl _ _ _ _ _ _ _ (s₁.setTop (mkF m 10 #[.val (.int (2 : Int32))] [(.int (1 : Int32)), (.int (2 : Int32))]))
  refine Gl.back (fun _ k => XS.icmpYes X0.here hx rfl (pc0 := 10) (pc' := 17) rfl (hb hby d1_10) rfl (feq (by decide : ¬ (2 : Int32) = (1 : Int32))).2 (by decide) (by decide) k) ?_
  show Gl _ _ _ _ _ _ _ (s₁.setTop (mkF m 17 #[.val (.int (2 : Int32))] []))
  refine Gl.back (fun _ k => XS.iloadN X0.here hx rfl (hb hby d1_17) rfl k) ?_
  show Gl _ _ _ _ _ _ _ (s₁.setTop (mkF m 18 #[.val (.int (2 : Int32))] [(.int (2 : Int32))]))
  refine Gl.back (fun _ k => XS.iconst X0.here hx rfl (hb hby d1_18) k) ?_
  show Gl _ _ _ _ _ _ _ (s₁.setTop (mkF m 19 #[.val (.int (2 : Int32))] [(.int (2 : Int32)), (.int (2 : Int32))]))
  refine Gl.back (fun _ k => XS.icmpNo X0.here hx rfl (hb hby d1_19) rfl (teq (by decide : (2 : Int32) = (2 : Int32))).2 k) ?_
  show Gl _ _ _ _ _ _ _ (s₁.setTop (mkF m 22 #[.val (.int (2 : Int32))] []))
  obtain ⟨T3, X3, e3, st3⟩ := getS2 X0 hx hZ hown (host := "") (Or.inl (hw _ (List.mem_of_getElem? (i := 53) rfl))) Via.refl e0 S (g := (mkF m 22 #[.val (.int (2 : Int32))] [])) rfl (hb hby d1_22)
  refine Gl.back (fun _ k => st3 _ k) ?_
  show Gl _ _ _ _ _ _ _ (T3.setTop (mkF m 25 #[.val (.int (2 : Int32))] [(.ref w)]))
  exact Gl.ret X3 e3 (v := (some (.ref w))) (fun h => by rw [Bd.returns] at h; cases h) Bd.notSynchronized (fun fs hr => retOut X3 hx (w := (.ref w)) Bd.returns rfl (Or.inr (Or.inr (Or.inr (Or.inr ⟨rfl, rfl, rfl⟩)))) (hb hby d1_25) hr) ⟨N0, rfl, rfl⟩ (by decide) (by decide)
theorem d1_26 : decode method_2_code 26 = .ok (.iload_n 0, 1) := by decide +kernel
theorem d1_27 : decode method_2_code 27 = .ok (.iconst 3, 1) := by decide +kernel
theorem d1_28 : decode method_2_code 28 = .ok (.if_icmp .ne 7, 3) := by decide +kernel
theorem d1_31 : decode method_2_code 31 = .ok (.getstatic 19, 3) := by decide +kernel
theorem d1_34 : decode method_2_code 34 = .ok (.areturn, 1) := by decide +kernel
theorem ef_1_LESS_THAN_OR_EQUAL (m : MethodId)  : entryFrame m #[(.int (3 : Int32))] 1 = mkF m 0 #[.val (.int (3 : Int32))] [] := by first | (simp [entryFrame, mkF, argsToLocals, Value.category]; done) | rfl
def Q1_LESS_THAN_OR_EQUAL (Z : State) (w : Addr) (h0 : Heap) (n0 : Nat) (v : Option Value) (h : Heap) (L : List Loc) : Prop := Fr n0 L ∧ (v = some (.ref w) ∧ h = h0)
set_option maxRecDepth 65536 in
set_option maxHeartbeats 40000000 in
theorem rm1_LESS_THAN_OR_EQUAL (l : Launch) (Z : State) (a0 : Array Value) (hw : ∀ d ∈ tables_1, d.before a0 Z = true) (ws : List Jvm.Cond) (w : Addr) (h0 : Heap) (n0 : Nat) (Z0 : n0 ≤ h0.size) (S : Sta Z h0 "com/example/demi_orm/demiorm/query/Operator" "LESS_THAN_OR_EQUAL" "Lcom/example/demi_orm/demiorm/query/Operator;" (.ref w)) :
    MetFree l (⟨"com/example/demi_orm/demiorm/query/OperatorTakesCollectionPinLaw", "pick", "(I)Lcom/example/demi_orm/demiorm/query/Operator;"⟩ : MethodName) (head1 (Jvm.Cond.code (⟨"com/example/demi_orm/demiorm/query/OperatorTakesCollectionPinLaw", "pick", "(I)Lcom/example/demi_orm/demiorm/query/Operator;"⟩ : MethodName) method_2_code 1 (some (.object "com/example/demi_orm/demiorm/query/Operator")) :: ws) ({ frames := 0, cells := 0, slots := 0, locals := 0 } : Room)) (fun as0 U => as0 = #[(.int (3 : Int32))] ∧ Z.Warmed39 U.vm ∧ U.heap = h0) (fun _ _ _ _ _ => True) (fun _ U o U' => ∃ v L, o = .returned v ∧ Q1_LESS_THAN_OR_EQUAL Z w h0 n0 v U'.heap L ∧ FrameEnd U o U' L ({ frames := 0, cells := 0, slots := 0, locals := 0 } : Room).cells ({ frames := 0, cells := 0, slots := 0, locals := 0 } : Room).slots) := by
  refine MetFree.of_bodySF (plainFor_of_name pn_com_example_demi_orm_demiorm_query_OperatorTakesCollectionPinLaw) hisR ?_
  intro p e s m args below meth c s₁ Bd hml0 hP hK
  obtain ⟨rfl, hZ, hh⟩ := hP
  have hx := Bd.exec
  have hby := Bd.bytes
  have hml : c.maxLocals = 1 := hml0
  have hown : s.vm.findClass "com/example/demi_orm/demiorm/query/OperatorTakesCollectionPinLaw" = some m.cls := findClass_of_methodNamed Bd.named
  have hnm := (name_of_methodNamed Bd.named Bd.method).1
  have X0 : Stand p l e ({ frames := 0, cells := 0, slots := 0, locals := 0 } : Room) s m #[(.int (3 : Int32))] below meth c s₁ [] 0 0 := Stand.of_body Bd
  have e0 : s₁.heap = h0 := by rw [← hh, Bd.state]; rfl
  have N0 := Fr.nil n0
  show Gl p e below s (Q1_LESS_THAN_OR_EQUAL Z w h0 n0) ({ frames := 0, cells := 0, slots := 0, locals := 0 } : Room).cells ({ frames := 0, cells := 0, slots := 0, locals := 0 } : Room).slots (s₁.setTop (entryFrame m #[(.int (3 : Int32))] 1))
  refine Gl.back (fun _ k => castTop (ef_1_LESS_THAN_OR_EQUAL m ) k) ?_
  show Gl _ _ _ _ _ _ _ (s₁.setTop (mkF m 0 #[.val (.int (3 : Int32))] []))
  refine Gl.back (fun _ k => XS.iloadN X0.here hx rfl (hb hby d1_0) rfl k) ?_
  show Gl _ _ _ _ _ _ _ (s₁.setTop (mkF m 1 #[.val (.int (3 : Int32))] [(.int (3 : Int32))]))
  refine Gl.back (fun _ k => XS.ifYes X0.here hx rfl (pc0 := 1) (pc' := 8) rfl (hb hby d1_1) rfl ((if0 _ _).trans (feq (by decide : ¬ (3 : Int32) = (0 : Int32))).2) (by decide) (by decide) k) ?_
  show Gl _ _ _ _ _ _ _ (s₁.setTop (mkF m 8 #[.val (.int (3 : Int32))] []))
  refine Gl.back (fun _ k => XS.iloadN X0.here hx rfl (hb hby d1_8) rfl k) ?_
  show Gl _ _ _ _ _ _ _ (s₁.setTop (mkF m 9 #[.val (.int (3 : Int32))] [(.int (3 : Int32))]))
  refine Gl.back (fun _ k => XS.iconst X0.here hx rfl (hb hby d1_9) k) ?_
  show Gl _ _ _ _ _ _ _ (s₁.setTop (mkF m 10 #[.val (.int (3 : Int32))] [(.int (1 : Int32)), (.int (3 : Int32))]))
  refine Gl.back (fun _ k => XS.icmpYes X0.here hx rfl (pc0 := 10) (pc' := 17) rfl (hb hby d1_10) rfl (feq (by decide : ¬ (3 : Int32) = (1 : Int32))).2 (by decide) (by decide) k) ?_
  show Gl _ _ _ _ _ _ _ (s₁.setTop (mkF m 17 #[.val (.int (3 : Int32))] []))
  refine Gl.back (fun _ k => XS.iloadN X0.here hx rfl (hb hby d1_17) rfl k) ?_
  show Gl _ _ _ _ _ _ _ (s₁.setTop (mkF m 18 #[.val (.int (3 : Int32))] [(.int (3 : Int32))]))
  refine Gl.back (fun _ k => XS.iconst X0.here hx rfl (hb hby d1_18) k) ?_
  show Gl _ _ _ _ _ _ _ (s₁.setTop (mkF m 19 #[.val (.int (3 : Int32))] [(.int (2 : Int32)), (.int (3 : Int32))]))
  refine Gl.back (fun _ k => XS.icmpYes X0.here hx rfl (pc0 := 19) (pc' := 26) rfl (hb hby d1_19) rfl (feq (by decide : ¬ (3 : Int32) = (2 : Int32))).2 (by decide) (by decide) k) ?_
  show Gl _ _ _ _ _ _ _ (s₁.setTop (mkF m 26 #[.val (.int (3 : Int32))] []))
  refine Gl.back (fun _ k => XS.iloadN X0.here hx rfl (hb hby d1_26) rfl k) ?_
  show Gl _ _ _ _ _ _ _ (s₁.setTop (mkF m 27 #[.val (.int (3 : Int32))] [(.int (3 : Int32))]))
  refine Gl.back (fun _ k => XS.iconst X0.here hx rfl (hb hby d1_27) k) ?_
  show Gl _ _ _ _ _ _ _ (s₁.setTop (mkF m 28 #[.val (.int (3 : Int32))] [(.int (3 : Int32)), (.int (3 : Int32))]))
  refine Gl.back (fun _ k => XS.icmpNo X0.here hx rfl (hb hby d1_28) rfl (teq (by decide : (3 : Int32) = (3 : Int32))).2 k) ?_
  show Gl _ _ _ _ _ _ _ (s₁.setTop (mkF m 31 #[.val (.int (3 : Int32))] []))
  obtain ⟨T4, X4, e4, st4⟩ := getS2 X0 hx hZ hown (host := "") (Or.inl (hw _ (List.mem_of_getElem? (i := 16) rfl))) Via.refl e0 S (g := (mkF m 31 #[.val (.int (3 : Int32))] [])) rfl (hb hby d1_31)
  refine Gl.back (fun _ k => st4 _ k) ?_
  show Gl _ _ _ _ _ _ _ (T4.setTop (mkF m 34 #[.val (.int (3 : Int32))] [(.ref w)]))
  exact Gl.ret X4 e4 (v := (some (.ref w))) (fun h => by rw [Bd.returns] at h; cases h) Bd.notSynchronized (fun fs hr => retOut X4 hx (w := (.ref w)) Bd.returns rfl (Or.inr (Or.inr (Or.inr (Or.inr ⟨rfl, rfl, rfl⟩)))) (hb hby d1_34) hr) ⟨N0, rfl, rfl⟩ (by decide) (by decide)
theorem d1_35 : decode method_2_code 35 = .ok (.iload_n 0, 1) := by decide +kernel
theorem d1_36 : decode method_2_code 36 = .ok (.iconst 4, 1) := by decide +kernel
theorem d1_37 : decode method_2_code 37 = .ok (.if_icmp .ne 7, 3) := by decide +kernel
theorem d1_40 : decode method_2_code 40 = .ok (.getstatic 22, 3) := by decide +kernel
theorem d1_43 : decode method_2_code 43 = .ok (.areturn, 1) := by decide +kernel
theorem ef_1_GREATER_THAN (m : MethodId)  : entryFrame m #[(.int (4 : Int32))] 1 = mkF m 0 #[.val (.int (4 : Int32))] [] := by first | (simp [entryFrame, mkF, argsToLocals, Value.category]; done) | rfl
def Q1_GREATER_THAN (Z : State) (w : Addr) (h0 : Heap) (n0 : Nat) (v : Option Value) (h : Heap) (L : List Loc) : Prop := Fr n0 L ∧ (v = some (.ref w) ∧ h = h0)
set_option maxRecDepth 65536 in
set_option maxHeartbeats 40000000 in
theorem rm1_GREATER_THAN (l : Launch) (Z : State) (a0 : Array Value) (hw : ∀ d ∈ tables_1, d.before a0 Z = true) (ws : List Jvm.Cond) (w : Addr) (h0 : Heap) (n0 : Nat) (Z0 : n0 ≤ h0.size) (S : Sta Z h0 "com/example/demi_orm/demiorm/query/Operator" "GREATER_THAN" "Lcom/example/demi_orm/demiorm/query/Operator;" (.ref w)) :
    MetFree l (⟨"com/example/demi_orm/demiorm/query/OperatorTakesCollectionPinLaw", "pick", "(I)Lcom/example/demi_orm/demiorm/query/Operator;"⟩ : MethodName) (head1 (Jvm.Cond.code (⟨"com/example/demi_orm/demiorm/query/OperatorTakesCollectionPinLaw", "pick", "(I)Lcom/example/demi_orm/demiorm/query/Operator;"⟩ : MethodName) method_2_code 1 (some (.object "com/example/demi_orm/demiorm/query/Operator")) :: ws) ({ frames := 0, cells := 0, slots := 0, locals := 0 } : Room)) (fun as0 U => as0 = #[(.int (4 : Int32))] ∧ Z.Warmed39 U.vm ∧ U.heap = h0) (fun _ _ _ _ _ => True) (fun _ U o U' => ∃ v L, o = .returned v ∧ Q1_GREATER_THAN Z w h0 n0 v U'.heap L ∧ FrameEnd U o U' L ({ frames := 0, cells := 0, slots := 0, locals := 0 } : Room).cells ({ frames := 0, cells := 0, slots := 0, locals := 0 } : Room).slots) := by
  refine MetFree.of_bodySF (plainFor_of_name pn_com_example_demi_orm_demiorm_query_OperatorTakesCollectionPinLaw) hisR ?_
  intro p e s m args below meth c s₁ Bd hml0 hP hK
  obtain ⟨rfl, hZ, hh⟩ := hP
  have hx := Bd.exec
  have hby := Bd.bytes
  have hml : c.maxLocals = 1 := hml0
  have hown : s.vm.findClass "com/example/demi_orm/demiorm/query/OperatorTakesCollectionPinLaw" = some m.cls := findClass_of_methodNamed Bd.named
  have hnm := (name_of_methodNamed Bd.named Bd.method).1
  have X0 : Stand p l e ({ frames := 0, cells := 0, slots := 0, locals := 0 } : Room) s m #[(.int (4 : Int32))] below meth c s₁ [] 0 0 := Stand.of_body Bd
  have e0 : s₁.heap = h0 := by rw [← hh, Bd.state]; rfl
  have N0 := Fr.nil n0
  show Gl p e below s (Q1_GREATER_THAN Z w h0 n0) ({ frames := 0, cells := 0, slots := 0, locals := 0 } : Room).cells ({ frames := 0, cells := 0, slots := 0, locals := 0 } : Room).slots (s₁.setTop (entryFrame m #[(.int (4 : Int32))] 1))
  refine Gl.back (fun _ k => castTop (ef_1_GREATER_THAN m ) k) ?_
  show Gl _ _ _ _ _ _ _ (s₁.setTop (mkF m 0 #[.val (.int (4 : Int32))] []))
  refine Gl.back (fun _ k => XS.iloadN X0.here hx rfl (hb hby d1_0) rfl k) ?_
  show Gl _ _ _ _ _ _ _ (s₁.setTop (mkF m 1 #[.val (.int (4 : Int32))] [(.int (4 : Int32))]))
  refine Gl.back (fun _ k => XS.ifYes X0.here hx rfl (pc0 := 1) (pc' := 8) rfl (hb hby d1_1) rfl ((if0 _ _).trans (feq (by decide : ¬ (4 : Int32) = (0 : Int32))).2) (by decide) (by decide) k) ?_
  show Gl _ _ _ _ _ _ _ (s₁.setTop (mkF m 8 #[.val (.int (4 : Int32))] []))
  refine Gl.back (fun _ k => XS.iloadN X0.here hx rfl (hb hby d1_8) rfl k) ?_
  show Gl _ _ _ _ _ _ _ (s₁.setTop (mkF m 9 #[.val (.int (4 : Int32))] [(.int (4 : Int32))]))
  refine Gl.back (fun _ k => XS.iconst X0.here hx rfl (hb hby d1_9) k) ?_
  show Gl _ _ _ _ _ _ _ (s₁.setTop (mkF m 10 #[.val (.int (4 : Int32))] [(.int (1 : Int32)), (.int (4 : Int32))]))
  refine Gl.back (fun _ k => XS.icmpYes X0.here hx rfl (pc0 := 10) (pc' := 17) rfl (hb hby d1_10) rfl (feq (by decide : ¬ (4 : Int32) = (1 : Int32))).2 (by decide) (by decide) k) ?_
  show Gl _ _ _ _ _ _ _ (s₁.setTop (mkF m 17 #[.val (.int (4 : Int32))] []))
  refine Gl.back (fun _ k => XS.iloadN X0.here hx rfl (hb hby d1_17) rfl k) ?_
  show Gl _ _ _ _ _ _ _ (s₁.setTop (mkF m 18 #[.val (.int (4 : Int32))] [(.int (4 : Int32))]))
  refine Gl.back (fun _ k => XS.iconst X0.here hx rfl (hb hby d1_18) k) ?_
  show Gl _ _ _ _ _ _ _ (s₁.setTop (mkF m 19 #[.val (.int (4 : Int32))] [(.int (2 : Int32)), (.int (4 : Int32))]))
  refine Gl.back (fun _ k => XS.icmpYes X0.here hx rfl (pc0 := 19) (pc' := 26) rfl (hb hby d1_19) rfl (feq (by decide : ¬ (4 : Int32) = (2 : Int32))).2 (by decide) (by decide) k) ?_
  show Gl _ _ _ _ _ _ _ (s₁.setTop (mkF m 26 #[.val (.int (4 : Int32))] []))
  refine Gl.back (fun _ k => XS.iloadN X0.here hx rfl (hb hby d1_26) rfl k) ?_
  show Gl _ _ _ _ _ _ _ (s₁.setTop (mkF m 27 #[.val (.int (4 : Int32))] [(.int (4 : Int32))]))
  refine Gl.back (fun _ k => XS.iconst X0.here hx rfl (hb hby d1_27) k) ?_
  show Gl _ _ _ _ _ _ _ (s₁.setTop (mkF m 28 #[.val (.int (4 : Int32))] [(.int (3 : Int32)), (.int (4 : Int32))]))
  refine Gl.back (fun _ k => XS.icmpYes X0.here hx rfl (pc0 := 28) (pc' := 35) rfl (hb hby d1_28) rfl (feq (by decide : ¬ (4 : Int32) = (3 : Int32))).2 (by decide) (by decide) k) ?_
  show Gl _ _ _ _ _ _ _ (s₁.setTop (mkF m 35 #[.val (.int (4 : Int32))] []))
  refine Gl.back (fun _ k => XS.iloadN X0.here hx rfl (hb hby d1_35) rfl k) ?_
  show Gl _ _ _ _ _ _ _ (s₁.setTop (mkF m 36 #[.val (.int (4 : Int32))] [(.int (4 : Int32))]))
  refine Gl.back (fun _ k => XS.iconst X0.here hx rfl (hb hby d1_36) k) ?_
  show Gl _ _ _ _ _ _ _ (s₁.setTop (mkF m 37 #[.val (.int (4 : Int32))] [(.int (4 : Int32)), (.int (4 : Int32))]))
  refine Gl.back (fun _ k => XS.icmpNo X0.here hx rfl (hb hby d1_37) rfl (teq (by decide : (4 : Int32) = (4 : Int32))).2 k) ?_
  show Gl _ _ _ _ _ _ _ (s₁.setTop (mkF m 40 #[.val (.int (4 : Int32))] []))
  obtain ⟨T5, X5, e5, st5⟩ := getS2 X0 hx hZ hown (host := "") (Or.inl (hw _ (List.mem_of_getElem? (i := 59) rfl))) Via.refl e0 S (g := (mkF m 40 #[.val (.int (4 : Int32))] [])) rfl (hb hby d1_40)
  refine Gl.back (fun _ k => st5 _ k) ?_
  show Gl _ _ _ _ _ _ _ (T5.setTop (mkF m 43 #[.val (.int (4 : Int32))] [(.ref w)]))
  exact Gl.ret X5 e5 (v := (some (.ref w))) (fun h => by rw [Bd.returns] at h; cases h) Bd.notSynchronized (fun fs hr => retOut X5 hx (w := (.ref w)) Bd.returns rfl (Or.inr (Or.inr (Or.inr (Or.inr ⟨rfl, rfl, rfl⟩)))) (hb hby d1_43) hr) ⟨N0, rfl, rfl⟩ (by decide) (by decide)
theorem d1_44 : decode method_2_code 44 = .ok (.iload_n 0, 1) := by decide +kernel
theorem d1_45 : decode method_2_code 45 = .ok (.iconst 5, 1) := by decide +kernel
theorem d1_46 : decode method_2_code 46 = .ok (.if_icmp .ne 7, 3) := by decide +kernel
theorem d1_49 : decode method_2_code 49 = .ok (.getstatic 25, 3) := by decide +kernel
theorem d1_52 : decode method_2_code 52 = .ok (.areturn, 1) := by decide +kernel
theorem ef_1_GREATER_THAN_OR_EQUAL (m : MethodId)  : entryFrame m #[(.int (5 : Int32))] 1 = mkF m 0 #[.val (.int (5 : Int32))] [] := by first | (simp [entryFrame, mkF, argsToLocals, Value.category]; done) | rfl
def Q1_GREATER_THAN_OR_EQUAL (Z : State) (w : Addr) (h0 : Heap) (n0 : Nat) (v : Option Value) (h : Heap) (L : List Loc) : Prop := Fr n0 L ∧ (v = some (.ref w) ∧ h = h0)
set_option maxRecDepth 65536 in
set_option maxHeartbeats 40000000 in
theorem rm1_GREATER_THAN_OR_EQUAL (l : Launch) (Z : State) (a0 : Array Value) (hw : ∀ d ∈ tables_1, d.before a0 Z = true) (ws : List Jvm.Cond) (w : Addr) (h0 : Heap) (n0 : Nat) (Z0 : n0 ≤ h0.size) (S : Sta Z h0 "com/example/demi_orm/demiorm/query/Operator" "GREATER_THAN_OR_EQUAL" "Lcom/example/demi_orm/demiorm/query/Operator;" (.ref w)) :
    MetFree l (⟨"com/example/demi_orm/demiorm/query/OperatorTakesCollectionPinLaw", "pick", "(I)Lcom/example/demi_orm/demiorm/query/Operator;"⟩ : MethodName) (head1 (Jvm.Cond.code (⟨"com/example/demi_orm/demiorm/query/OperatorTakesCollectionPinLaw", "pick", "(I)Lcom/example/demi_orm/demiorm/query/Operator;"⟩ : MethodName) method_2_code 1 (some (.object "com/example/demi_orm/demiorm/query/Operator")) :: ws) ({ frames := 0, cells := 0, slots := 0, locals := 0 } : Room)) (fun as0 U => as0 = #[(.int (5 : Int32))] ∧ Z.Warmed39 U.vm ∧ U.heap = h0) (fun _ _ _ _ _ => True) (fun _ U o U' => ∃ v L, o = .returned v ∧ Q1_GREATER_THAN_OR_EQUAL Z w h0 n0 v U'.heap L ∧ FrameEnd U o U' L ({ frames := 0, cells := 0, slots := 0, locals := 0 } : Room).cells ({ frames := 0, cells := 0, slots := 0, locals := 0 } : Room).slots) := by
  refine MetFree.of_bodySF (plainFor_of_name pn_com_example_demi_orm_demiorm_query_OperatorTakesCollectionPinLaw) hisR ?_
  intro p e s m args below meth c s₁ Bd hml0 hP hK
  obtain ⟨rfl, hZ, hh⟩ := hP
  have hx := Bd.exec
  have hby := Bd.bytes
  have hml : c.maxLocals = 1 := hml0
  have hown : s.vm.findClass "com/example/demi_orm/demiorm/query/OperatorTakesCollectionPinLaw" = some m.cls := findClass_of_methodNamed Bd.named
  have hnm := (name_of_methodNamed Bd.named Bd.method).1
  have X0 : Stand p l e ({ frames := 0, cells := 0, slots := 0, locals := 0 } : Room) s m #[(.int (5 : Int32))] below meth c s₁ [] 0 0 := Stand.of_body Bd
  have e0 : s₁.heap = h0 := by rw [← hh, Bd.state]; rfl
  have N0 := Fr.nil n0
  show Gl p e below s (Q1_GREATER_THAN_OR_EQUAL Z w h0 n0) ({ frames := 0, cells := 0, slots := 0, locals := 0 } : Room).cells ({ frames := 0, cells := 0, slots := 0, locals := 0 } : Room).slots (s₁.setTop (entryFrame m #[(.int (5 : Int32))] 1))
  refine Gl.back (fun _ k => castTop (ef_1_GREATER_THAN_OR_EQUAL m ) k) ?_
  show Gl _ _ _ _ _ _ _ (s₁.setTop (mkF m 0 #[.val (.int (5 : Int32))] []))
  refine Gl.back (fun _ k => XS.iloadN X0.here hx rfl (hb hby d1_0) rfl k) ?_
  show Gl _ _ _ _ _ _ _ (s₁.setTop (mkF m 1 #[.val (.int (5 : Int32))] [(.int (5 : Int32))]))
  refine Gl.back (fun _ k => XS.ifYes X0.here hx rfl (pc0 := 1) (pc' := 8) rfl (hb hby d1_1) rfl ((if0 _ _).trans (feq (by decide : ¬ (5 : Int32) = (0 : Int32))).2) (by decide) (by decide) k) ?_
  show Gl _ _ _ _ _ _ _ (s₁.setTop (mkF m 8 #[.val (.int (5 : Int32))] []))
  refine Gl.back (fun _ k => XS.iloadN X0.here hx rfl (hb hby d1_8) rfl k) ?_
  show Gl _ _ _ _ _ _ _ (s₁.setTop (mkF m 9 #[.val (.int (5 : Int32))] [(.int (5 : Int32))]))
  refine Gl.back (fun _ k => XS.iconst X0.here hx rfl (hb hby d1_9) k) ?_
  show Gl _ _ _ _ _ _ _ (s₁.setTop (mkF m 10 #[.val (.int (5 : Int32))] [(.int (1 : Int32)), (.int (5 : Int32))]))
  refine Gl.back (fun _ k => XS.icmpYes X0.here hx rfl (pc0 := 10) (pc' := 17) rfl (hb hby d1_10) rfl (feq (by decide : ¬ (5 : Int32) = (1 : Int32))).2 (by decide) (by decide) k) ?_
  show Gl _ _ _ _ _ _ _ (s₁.setTop (mkF m 17 #[.val (.int (5 : Int32))] []))
  refine Gl.back (fun _ k => XS.iloadN X0.here hx rfl (hb hby d1_17) rfl k) ?_
  show Gl _ _ _ _ _ _ _ (s₁.setTop (mkF m 18 #[.val (.int (5 : Int32))] [(.int (5 : Int32))]))
  refine Gl.back (fun _ k => XS.iconst X0.here hx rfl (hb hby d1_18) k) ?_
  show Gl _ _ _ _ _ _ _ (s₁.setTop (mkF m 19 #[.val (.int (5 : Int32))] [(.int (2 : Int32)), (.int (5 : Int32))]))
  refine Gl.back (fun _ k => XS.icmpYes X0.here hx rfl (pc0 := 19) (pc' := 26) rfl (hb hby d1_19) rfl (feq (by decide : ¬ (5 : Int32) = (2 : Int32))).2 (by decide) (by decide) k) ?_
  show Gl _ _ _ _ _ _ _ (s₁.setTop (mkF m 26 #[.val (.int (5 : Int32))] []))
  refine Gl.back (fun _ k => XS.iloadN X0.here hx rfl (hb hby d1_26) rfl k) ?_
  show Gl _ _ _ _ _ _ _ (s₁.setTop (mkF m 27 #[.val (.int (5 : Int32))] [(.int (5 : Int32))]))
  refine Gl.back (fun _ k => XS.iconst X0.here hx rfl (hb hby d1_27) k) ?_
  show Gl _ _ _ _ _ _ _ (s₁.setTop (mkF m 28 #[.val (.int (5 : Int32))] [(.int (3 : Int32)), (.int (5 : Int32))]))
  refine Gl.back (fun _ k => XS.icmpYes X0.here hx rfl (pc0 := 28) (pc' := 35) rfl (hb hby d1_28) rfl (feq (by decide : ¬ (5 : Int32) = (3 : Int32))).2 (by decide) (by decide) k) ?_
  show Gl _ _ _ _ _ _ _ (s₁.setTop (mkF m 35 #[.val (.int (5 : Int32))] []))
  refine Gl.back (fun _ k => XS.iloadN X0.here hx rfl (hb hby d1_35) rfl k) ?_
  show Gl _ _ _ _ _ _ _ (s₁.setTop (mkF m 36 #[.val (.int (5 : Int32))] [(.int (5 : Int32))]))
  refine Gl.back (fun _ k => XS.iconst X0.here hx rfl (hb hby d1_36) k) ?_
  show Gl _ _ _ _ _ _ _ (s₁.setTop (mkF m 37 #[.val (.int (5 : Int32))] [(.int (4 : Int32)), (.int (5 : Int32))]))
  refine Gl.back (fun _ k => XS.icmpYes X0.here hx rfl (pc0 := 37) (pc' := 44) rfl (hb hby d1_37) rfl (feq (by decide : ¬ (5 : Int32) = (4 : Int32))).2 (by decide) (by decide) k) ?_
  show Gl _ _ _ _ _ _ _ (s₁.setTop (mkF m 44 #[.val (.int (5 : Int32))] []))
  refine Gl.back (fun _ k => XS.iloadN X0.here hx rfl (hb hby d1_44) rfl k) ?_
  show Gl _ _ _ _ _ _ _ (s₁.setTop (mkF m 45 #[.val (.int (5 : Int32))] [(.int (5 : Int32))]))
  refine Gl.back (fun _ k => XS.iconst X0.here hx rfl (hb hby d1_45) k) ?_
  show Gl _ _ _ _ _ _ _ (s₁.setTop (mkF m 46 #[.val (.int (5 : Int32))] [(.int (5 : Int32)), (.int (5 : Int32))]))
  refine Gl.back (fun _ k => XS.icmpNo X0.here hx rfl (hb hby d1_46) rfl (teq (by decide : (5 : Int32) = (5 : Int32))).2 k) ?_
  show Gl _ _ _ _ _ _ _ (s₁.setTop (mkF m 49 #[.val (.int (5 : Int32))] []))
  obtain ⟨T6, X6, e6, st6⟩ := getS2 X0 hx hZ hown (host := "") (Or.inl (hw _ (List.mem_of_getElem? (i := 66) rfl))) Via.refl e0 S (g := (mkF m 49 #[.val (.int (5 : Int32))] [])) rfl (hb hby d1_49)
  refine Gl.back (fun _ k => st6 _ k) ?_
  show Gl _ _ _ _ _ _ _ (T6.setTop (mkF m 52 #[.val (.int (5 : Int32))] [(.ref w)]))
  exact Gl.ret X6 e6 (v := (some (.ref w))) (fun h => by rw [Bd.returns] at h; cases h) Bd.notSynchronized (fun fs hr => retOut X6 hx (w := (.ref w)) Bd.returns rfl (Or.inr (Or.inr (Or.inr (Or.inr ⟨rfl, rfl, rfl⟩)))) (hb hby d1_52) hr) ⟨N0, rfl, rfl⟩ (by decide) (by decide)
theorem d1_53 : decode method_2_code 53 = .ok (.iload_n 0, 1) := by decide +kernel
theorem d1_54 : decode method_2_code 54 = .ok (.bipush 6, 2) := by decide +kernel
theorem d1_56 : decode method_2_code 56 = .ok (.if_icmp .ne 7, 3) := by decide +kernel
theorem d1_59 : decode method_2_code 59 = .ok (.getstatic 28, 3) := by decide +kernel
theorem d1_62 : decode method_2_code 62 = .ok (.areturn, 1) := by decide +kernel
theorem ef_1_BETWEEN (m : MethodId)  : entryFrame m #[(.int (6 : Int32))] 1 = mkF m 0 #[.val (.int (6 : Int32))] [] := by first | (simp [entryFrame, mkF, argsToLocals, Value.category]; done) | rfl
def Q1_BETWEEN (Z : State) (w : Addr) (h0 : Heap) (n0 : Nat) (v : Option Value) (h : Heap) (L : List Loc) : Prop := Fr n0 L ∧ (v = some (.ref w) ∧ h = h0)
set_option maxRecDepth 65536 in
set_option maxHeartbeats 40000000 in
theorem rm1_BETWEEN (l : Launch) (Z : State) (a0 : Array Value) (hw : ∀ d ∈ tables_1, d.before a0 Z = true) (ws : List Jvm.Cond) (w : Addr) (h0 : Heap) (n0 : Nat) (Z0 : n0 ≤ h0.size) (S : Sta Z h0 "com/example/demi_orm/demiorm/query/Operator" "BETWEEN" "Lcom/example/demi_orm/demiorm/query/Operator;" (.ref w)) :
    MetFree l (⟨"com/example/demi_orm/demiorm/query/OperatorTakesCollectionPinLaw", "pick", "(I)Lcom/example/demi_orm/demiorm/query/Operator;"⟩ : MethodName) (head1 (Jvm.Cond.code (⟨"com/example/demi_orm/demiorm/query/OperatorTakesCollectionPinLaw", "pick", "(I)Lcom/example/demi_orm/demiorm/query/Operator;"⟩ : MethodName) method_2_code 1 (some (.object "com/example/demi_orm/demiorm/query/Operator")) :: ws) ({ frames := 0, cells := 0, slots := 0, locals := 0 } : Room)) (fun as0 U => as0 = #[(.int (6 : Int32))] ∧ Z.Warmed39 U.vm ∧ U.heap = h0) (fun _ _ _ _ _ => True) (fun _ U o U' => ∃ v L, o = .returned v ∧ Q1_BETWEEN Z w h0 n0 v U'.heap L ∧ FrameEnd U o U' L ({ frames := 0, cells := 0, slots := 0, locals := 0 } : Room).cells ({ frames := 0, cells := 0, slots := 0, locals := 0 } : Room).slots) := by
  refine MetFree.of_bodySF (plainFor_of_name pn_com_example_demi_orm_demiorm_query_OperatorTakesCollectionPinLaw) hisR ?_
  intro p e s m args below meth c s₁ Bd hml0 hP hK
  obtain ⟨rfl, hZ, hh⟩ := hP
  have hx := Bd.exec
  have hby := Bd.bytes
  have hml : c.maxLocals = 1 := hml0
  have hown : s.vm.findClass "com/example/demi_orm/demiorm/query/OperatorTakesCollectionPinLaw" = some m.cls := findClass_of_methodNamed Bd.named
  have hnm := (name_of_methodNamed Bd.named Bd.method).1
  have X0 : Stand p l e ({ frames := 0, cells := 0, slots := 0, locals := 0 } : Room) s m #[(.int (6 : Int32))] below meth c s₁ [] 0 0 := Stand.of_body Bd
  have e0 : s₁.heap = h0 := by rw [← hh, Bd.state]; rfl
  have N0 := Fr.nil n0
  show Gl p e below s (Q1_BETWEEN Z w h0 n0) ({ frames := 0, cells := 0, slots := 0, locals := 0 } : Room).cells ({ frames := 0, cells := 0, slots := 0, locals := 0 } : Room).slots (s₁.setTop (entryFrame m #[(.int (6 : Int32))] 1))
  refine Gl.back (fun _ k => castTop (ef_1_BETWEEN m ) k) ?_
  show Gl _ _ _ _ _ _ _ (s₁.setTop (mkF m 0 #[.val (.int (6 : Int32))] []))
  refine Gl.back (fun _ k => XS.iloadN X0.here hx rfl (hb hby d1_0) rfl k) ?_
  show Gl _ _ _ _ _ _ _ (s₁.setTop (mkF m 1 #[.val (.int (6 : Int32))] [(.int (6 : Int32))]))
  refine Gl.back (fun _ k => XS.ifYes X0.here hx rfl (pc0 := 1) (pc' := 8) rfl (hb hby d1_1) rfl ((if0 _ _).trans (feq (by decide : ¬ (6 : Int32) = (0 : Int32))).2) (by decide) (by decide) k) ?_
  show Gl _ _ _ _ _ _ _ (s₁.setTop (mkF m 8 #[.val (.int (6 : Int32))] []))
  refine Gl.back (fun _ k => XS.iloadN X0.here hx rfl (hb hby d1_8) rfl k) ?_
  show Gl _ _ _ _ _ _ _ (s₁.setTop (mkF m 9 #[.val (.int (6 : Int32))] [(.int (6 : Int32))]))
  refine Gl.back (fun _ k => XS.iconst X0.here hx rfl (hb hby d1_9) k) ?_
  show Gl _ _ _ _ _ _ _ (s₁.setTop (mkF m 10 #[.val (.int (6 : Int32))] [(.int (1 : Int32)), (.int (6 : Int32))]))
  refine Gl.back (fun _ k => XS.icmpYes X0.here hx rfl (pc0 := 10) (pc' := 17) rfl (hb hby d1_10) rfl (feq (by decide : ¬ (6 : Int32) = (1 : Int32))).2 (by decide) (by decide) k) ?_
  show Gl _ _ _ _ _ _ _ (s₁.setTop (mkF m 17 #[.val (.int (6 : Int32))] []))
  refine Gl.back (fun _ k => XS.iloadN X0.here hx rfl (hb hby d1_17) rfl k) ?_
  show Gl _ _ _ _ _ _ _ (s₁.setTop (mkF m 18 #[.val (.int (6 : Int32))] [(.int (6 : Int32))]))
  refine Gl.back (fun _ k => XS.iconst X0.here hx rfl (hb hby d1_18) k) ?_
  show Gl _ _ _ _ _ _ _ (s₁.setTop (mkF m 19 #[.val (.int (6 : Int32))] [(.int (2 : Int32)), (.int (6 : Int32))]))
  refine Gl.back (fun _ k => XS.icmpYes X0.here hx rfl (pc0 := 19) (pc' := 26) rfl (hb hby d1_19) rfl (feq (by decide : ¬ (6 : Int32) = (2 : Int32))).2 (by decide) (by decide) k) ?_
  show Gl _ _ _ _ _ _ _ (s₁.setTop (mkF m 26 #[.val (.int (6 : Int32))] []))
  refine Gl.back (fun _ k => XS.iloadN X0.here hx rfl (hb hby d1_26) rfl k) ?_
  show Gl _ _ _ _ _ _ _ (s₁.setTop (mkF m 27 #[.val (.int (6 : Int32))] [(.int (6 : Int32))]))
  refine Gl.back (fun _ k => XS.iconst X0.here hx rfl (hb hby d1_27) k) ?_
  show Gl _ _ _ _ _ _ _ (s₁.setTop (mkF m 28 #[.val (.int (6 : Int32))] [(.int (3 : Int32)), (.int (6 : Int32))]))
  refine Gl.back (fun _ k => XS.icmpYes X0.here hx rfl (pc0 := 28) (pc' := 35) rfl (hb hby d1_28) rfl (feq (by decide : ¬ (6 : Int32) = (3 : Int32))).2 (by decide) (by decide) k) ?_
  show Gl _ _ _ _ _ _ _ (s₁.setTop (mkF m 35 #[.val (.int (6 : Int32))] []))
  refine Gl.back (fun _ k => XS.iloadN X0.here hx rfl (hb hby d1_35) rfl k) ?_
  show Gl _ _ _ _ _ _ _ (s₁.setTop (mkF m 36 #[.val (.int (6 : Int32))] [(.int (6 : Int32))]))
  refine Gl.back (fun _ k => XS.iconst X0.here hx rfl (hb hby d1_36) k) ?_
  show Gl _ _ _ _ _ _ _ (s₁.setTop (mkF m 37 #[.val (.int (6 : Int32))] [(.int (4 : Int32)), (.int (6 : Int32))]))
  refine Gl.back (fun _ k => XS.icmpYes X0.here hx rfl (pc0 := 37) (pc' := 44) rfl (hb hby d1_37) rfl (feq (by decide : ¬ (6 : Int32) = (4 : Int32))).2 (by decide) (by decide) k) ?_
  show Gl _ _ _ _ _ _ _ (s₁.setTop (mkF m 44 #[.val (.int (6 : Int32))] []))
  refine Gl.back (fun _ k => XS.iloadN X0.here hx rfl (hb hby d1_44) rfl k) ?_
  show Gl _ _ _ _ _ _ _ (s₁.setTop (mkF m 45 #[.val (.int (6 : Int32))] [(.int (6 : Int32))]))
  refine Gl.back (fun _ k => XS.iconst X0.here hx rfl (hb hby d1_45) k) ?_
  show Gl _ _ _ _ _ _ _ (s₁.setTop (mkF m 46 #[.val (.int (6 : Int32))] [(.int (5 : Int32)), (.int (6 : Int32))]))
  refine Gl.back (fun _ k => XS.icmpYes X0.here hx rfl (pc0 := 46) (pc' := 53) rfl (hb hby d1_46) rfl (feq (by decide : ¬ (6 : Int32) = (5 : Int32))).2 (by decide) (by decide) k) ?_
  show Gl _ _ _ _ _ _ _ (s₁.setTop (mkF m 53 #[.val (.int (6 : Int32))] []))
  refine Gl.back (fun _ k => XS.iloadN X0.here hx rfl (hb hby d1_53) rfl k) ?_
  show Gl _ _ _ _ _ _ _ (s₁.setTop (mkF m 54 #[.val (.int (6 : Int32))] [(.int (6 : Int32))]))
  refine Gl.back (fun _ k => XS.bipush X0.here hx rfl (hb hby d1_54) k) ?_
  show Gl _ _ _ _ _ _ _ (s₁.setTop (mkF m 56 #[.val (.int (6 : Int32))] [(.int (6 : Int32)), (.int (6 : Int32))]))
  refine Gl.back (fun _ k => XS.icmpNo X0.here hx rfl (hb hby d1_56) rfl (teq (by decide : (6 : Int32) = (6 : Int32))).2 k) ?_
  show Gl _ _ _ _ _ _ _ (s₁.setTop (mkF m 59 #[.val (.int (6 : Int32))] []))
  obtain ⟨T7, X7, e7, st7⟩ := getS2 X0 hx hZ hown (host := "") (Or.inl (hw _ (List.mem_of_getElem? (i := 63) rfl))) Via.refl e0 S (g := (mkF m 59 #[.val (.int (6 : Int32))] [])) rfl (hb hby d1_59)
  refine Gl.back (fun _ k => st7 _ k) ?_
  show Gl _ _ _ _ _ _ _ (T7.setTop (mkF m 62 #[.val (.int (6 : Int32))] [(.ref w)]))
  exact Gl.ret X7 e7 (v := (some (.ref w))) (fun h => by rw [Bd.returns] at h; cases h) Bd.notSynchronized (fun fs hr => retOut X7 hx (w := (.ref w)) Bd.returns rfl (Or.inr (Or.inr (Or.inr (Or.inr ⟨rfl, rfl, rfl⟩)))) (hb hby d1_62) hr) ⟨N0, rfl, rfl⟩ (by decide) (by decide)
theorem d1_63 : decode method_2_code 63 = .ok (.iload_n 0, 1) := by decide +kernel
theorem d1_64 : decode method_2_code 64 = .ok (.bipush 7, 2) := by decide +kernel
theorem d1_66 : decode method_2_code 66 = .ok (.if_icmp .ne 7, 3) := by decide +kernel
theorem d1_69 : decode method_2_code 69 = .ok (.getstatic 31, 3) := by decide +kernel
theorem d1_72 : decode method_2_code 72 = .ok (.areturn, 1) := by decide +kernel
theorem ef_1_IS_NULL (m : MethodId)  : entryFrame m #[(.int (7 : Int32))] 1 = mkF m 0 #[.val (.int (7 : Int32))] [] := by first | (simp [entryFrame, mkF, argsToLocals, Value.category]; done) | rfl
def Q1_IS_NULL (Z : State) (w : Addr) (h0 : Heap) (n0 : Nat) (v : Option Value) (h : Heap) (L : List Loc) : Prop := Fr n0 L ∧ (v = some (.ref w) ∧ h = h0)
set_option maxRecDepth 65536 in
set_option maxHeartbeats 40000000 in
theorem rm1_IS_NULL (l : Launch) (Z : State) (a0 : Array Value) (hw : ∀ d ∈ tables_1, d.before a0 Z = true) (ws : List Jvm.Cond) (w : Addr) (h0 : Heap) (n0 : Nat) (Z0 : n0 ≤ h0.size) (S : Sta Z h0 "com/example/demi_orm/demiorm/query/Operator" "IS_NULL" "Lcom/example/demi_orm/demiorm/query/Operator;" (.ref w)) :
    MetFree l (⟨"com/example/demi_orm/demiorm/query/OperatorTakesCollectionPinLaw", "pick", "(I)Lcom/example/demi_orm/demiorm/query/Operator;"⟩ : MethodName) (head1 (Jvm.Cond.code (⟨"com/example/demi_orm/demiorm/query/OperatorTakesCollectionPinLaw", "pick", "(I)Lcom/example/demi_orm/demiorm/query/Operator;"⟩ : MethodName) method_2_code 1 (some (.object "com/example/demi_orm/demiorm/query/Operator")) :: ws) ({ frames := 0, cells := 0, slots := 0, locals := 0 } : Room)) (fun as0 U => as0 = #[(.int (7 : Int32))] ∧ Z.Warmed39 U.vm ∧ U.heap = h0) (fun _ _ _ _ _ => True) (fun _ U o U' => ∃ v L, o = .returned v ∧ Q1_IS_NULL Z w h0 n0 v U'.heap L ∧ FrameEnd U o U' L ({ frames := 0, cells := 0, slots := 0, locals := 0 } : Room).cells ({ frames := 0, cells := 0, slots := 0, locals := 0 } : Room).slots) := by
  refine MetFree.of_bodySF (plainFor_of_name pn_com_example_demi_orm_demiorm_query_OperatorTakesCollectionPinLaw) hisR ?_
  intro p e s m args below meth c s₁ Bd hml0 hP hK
  obtain ⟨rfl, hZ, hh⟩ := hP
  have hx := Bd.exec
  have hby := Bd.bytes
  have hml : c.maxLocals = 1 := hml0
  have hown : s.vm.findClass "com/example/demi_orm/demiorm/query/OperatorTakesCollectionPinLaw" = some m.cls := findClass_of_methodNamed Bd.named
  have hnm := (name_of_methodNamed Bd.named Bd.method).1
  have X0 : Stand p l e ({ frames := 0, cells := 0, slots := 0, locals := 0 } : Room) s m #[(.int (7 : Int32))] below meth c s₁ [] 0 0 := Stand.of_body Bd
  have e0 : s₁.heap = h0 := by rw [← hh, Bd.state]; rfl
  have N0 := Fr.nil n0
  show Gl p e below s (Q1_IS_NULL Z w h0 n0) ({ frames := 0, cells := 0, slots := 0, locals := 0 } : Room).cells ({ frames := 0, cells := 0, slots := 0, locals := 0 } : Room).slots (s₁.setTop (entryFrame m #[(.int (7 : Int32))] 1))
  refine Gl.back (fun _ k => castTop (ef_1_IS_NULL m ) k) ?_
  show Gl _ _ _ _ _ _ _ (s₁.setTop (mkF m 0 #[.val (.int (7 : Int32))] []))
  refine Gl.back (fun _ k => XS.iloadN X0.here hx rfl (hb hby d1_0) rfl k) ?_
  show Gl _ _ _ _ _ _ _ (s₁.setTop (mkF m 1 #[.val (.int (7 : Int32))] [(.int (7 : Int32))]))
  refine Gl.back (fun _ k => XS.ifYes X0.here hx rfl (pc0 := 1) (pc' := 8) rfl (hb hby d1_1) rfl ((if0 _ _).trans (feq (by decide : ¬ (7 : Int32) = (0 : Int32))).2) (by decide) (by decide) k) ?_
  show Gl _ _ _ _ _ _ _ (s₁.setTop (mkF m 8 #[.val (.int (7 : Int32))] []))
  refine Gl.back (fun _ k => XS.iloadN X0.here hx rfl (hb hby d1_8) rfl k) ?_
  show Gl _ _ _ _ _ _ _ (s₁.setTop (mkF m 9 #[.val (.int (7 : Int32))] [(.int (7 : Int32))]))
  refine Gl.back (fun _ k => XS.iconst X0.here hx rfl (hb hby d1_9) k) ?_
  show Gl _ _ _ _ _ _ _ (s₁.setTop (mkF m 10 #[.val (.int (7 : Int32))] [(.int (1 : Int32)), (.int (7 : Int32))]))
  refine Gl.back (fun _ k => XS.icmpYes X0.here hx rfl (pc0 := 10) (pc' := 17) rfl (hb hby d1_10) rfl (feq (by decide : ¬ (7 : Int32) = (1 : Int32))).2 (by decide) (by decide) k) ?_
  show Gl _ _ _ _ _ _ _ (s₁.setTop (mkF m 17 #[.val (.int (7 : Int32))] []))
  refine Gl.back (fun _ k => XS.iloadN X0.here hx rfl (hb hby d1_17) rfl k) ?_
  show Gl _ _ _ _ _ _ _ (s₁.setTop (mkF m 18 #[.val (.int (7 : Int32))] [(.int (7 : Int32))]))
  refine Gl.back (fun _ k => XS.iconst X0.here hx rfl (hb hby d1_18) k) ?_
  show Gl _ _ _ _ _ _ _ (s₁.setTop (mkF m 19 #[.val (.int (7 : Int32))] [(.int (2 : Int32)), (.int (7 : Int32))]))
  refine Gl.back (fun _ k => XS.icmpYes X0.here hx rfl (pc0 := 19) (pc' := 26) rfl (hb hby d1_19) rfl (feq (by decide : ¬ (7 : Int32) = (2 : Int32))).2 (by decide) (by decide) k) ?_
  show Gl _ _ _ _ _ _ _ (s₁.setTop (mkF m 26 #[.val (.int (7 : Int32))] []))
  refine Gl.back (fun _ k => XS.iloadN X0.here hx rfl (hb hby d1_26) rfl k) ?_
  show Gl _ _ _ _ _ _ _ (s₁.setTop (mkF m 27 #[.val (.int (7 : Int32))] [(.int (7 : Int32))]))
  refine Gl.back (fun _ k => XS.iconst X0.here hx rfl (hb hby d1_27) k) ?_
  show Gl _ _ _ _ _ _ _ (s₁.setTop (mkF m 28 #[.val (.int (7 : Int32))] [(.int (3 : Int32)), (.int (7 : Int32))]))
  refine Gl.back (fun _ k => XS.icmpYes X0.here hx rfl (pc0 := 28) (pc' := 35) rfl (hb hby d1_28) rfl (feq (by decide : ¬ (7 : Int32) = (3 : Int32))).2 (by decide) (by decide) k) ?_
  show Gl _ _ _ _ _ _ _ (s₁.setTop (mkF m 35 #[.val (.int (7 : Int32))] []))
  refine Gl.back (fun _ k => XS.iloadN X0.here hx rfl (hb hby d1_35) rfl k) ?_
  show Gl _ _ _ _ _ _ _ (s₁.setTop (mkF m 36 #[.val (.int (7 : Int32))] [(.int (7 : Int32))]))
  refine Gl.back (fun _ k => XS.iconst X0.here hx rfl (hb hby d1_36) k) ?_
  show Gl _ _ _ _ _ _ _ (s₁.setTop (mkF m 37 #[.val (.int (7 : Int32))] [(.int (4 : Int32)), (.int (7 : Int32))]))
  refine Gl.back (fun _ k => XS.icmpYes X0.here hx rfl (pc0 := 37) (pc' := 44) rfl (hb hby d1_37) rfl (feq (by decide : ¬ (7 : Int32) = (4 : Int32))).2 (by decide) (by decide) k) ?_
  show Gl _ _ _ _ _ _ _ (s₁.setTop (mkF m 44 #[.val (.int (7 : Int32))] []))
  refine Gl.back (fun _ k => XS.iloadN X0.here hx rfl (hb hby d1_44) rfl k) ?_
  show Gl _ _ _ _ _ _ _ (s₁.setTop (mkF m 45 #[.val (.int (7 : Int32))] [(.int (7 : Int32))]))
  refine Gl.back (fun _ k => XS.iconst X0.here hx rfl (hb hby d1_45) k) ?_
  show Gl _ _ _ _ _ _ _ (s₁.setTop (mkF m 46 #[.val (.int (7 : Int32))] [(.int (5 : Int32)), (.int (7 : Int32))]))
  refine Gl.back (fun _ k => XS.icmpYes X0.here hx rfl (pc0 := 46) (pc' := 53) rfl (hb hby d1_46) rfl (feq (by decide : ¬ (7 : Int32) = (5 : Int32))).2 (by decide) (by decide) k) ?_
  show Gl _ _ _ _ _ _ _ (s₁.setTop (mkF m 53 #[.val (.int (7 : Int32))] []))
  refine Gl.back (fun _ k => XS.iloadN X0.here hx rfl (hb hby d1_53) rfl k) ?_
  show Gl _ _ _ _ _ _ _ (s₁.setTop (mkF m 54 #[.val (.int (7 : Int32))] [(.int (7 : Int32))]))
  refine Gl.back (fun _ k => XS.bipush X0.here hx rfl (hb hby d1_54) k) ?_
  show Gl _ _ _ _ _ _ _ (s₁.setTop (mkF m 56 #[.val (.int (7 : Int32))] [(.int (6 : Int32)), (.int (7 : Int32))]))
  refine Gl.back (fun _ k => XS.icmpYes X0.here hx rfl (pc0 := 56) (pc' := 63) rfl (hb hby d1_56) rfl (feq (by decide : ¬ (7 : Int32) = (6 : Int32))).2 (by decide) (by decide) k) ?_
  show Gl _ _ _ _ _ _ _ (s₁.setTop (mkF m 63 #[.val (.int (7 : Int32))] []))
  refine Gl.back (fun _ k => XS.iloadN X0.here hx rfl (hb hby d1_63) rfl k) ?_
  show Gl _ _ _ _ _ _ _ (s₁.setTop (mkF m 64 #[.val (.int (7 : Int32))] [(.int (7 : Int32))]))
  refine Gl.back (fun _ k => XS.bipush X0.here hx rfl (hb hby d1_64) k) ?_
  show Gl _ _ _ _ _ _ _ (s₁.setTop (mkF m 66 #[.val (.int (7 : Int32))] [(.int (7 : Int32)), (.int (7 : Int32))]))
  refine Gl.back (fun _ k => XS.icmpNo X0.here hx rfl (hb hby d1_66) rfl (teq (by decide : (7 : Int32) = (7 : Int32))).2 k) ?_
  show Gl _ _ _ _ _ _ _ (s₁.setTop (mkF m 69 #[.val (.int (7 : Int32))] []))
  obtain ⟨T8, X8, e8, st8⟩ := getS2 X0 hx hZ hown (host := "") (Or.inl (hw _ (List.mem_of_getElem? (i := 51) rfl))) Via.refl e0 S (g := (mkF m 69 #[.val (.int (7 : Int32))] [])) rfl (hb hby d1_69)
  refine Gl.back (fun _ k => st8 _ k) ?_
  show Gl _ _ _ _ _ _ _ (T8.setTop (mkF m 72 #[.val (.int (7 : Int32))] [(.ref w)]))
  exact Gl.ret X8 e8 (v := (some (.ref w))) (fun h => by rw [Bd.returns] at h; cases h) Bd.notSynchronized (fun fs hr => retOut X8 hx (w := (.ref w)) Bd.returns rfl (Or.inr (Or.inr (Or.inr (Or.inr ⟨rfl, rfl, rfl⟩)))) (hb hby d1_72) hr) ⟨N0, rfl, rfl⟩ (by decide) (by decide)
theorem d1_73 : decode method_2_code 73 = .ok (.iload_n 0, 1) := by decide +kernel
theorem d1_74 : decode method_2_code 74 = .ok (.bipush 8, 2) := by decide +kernel
theorem d1_76 : decode method_2_code 76 = .ok (.if_icmp .ne 7, 3) := by decide +kernel
theorem d1_79 : decode method_2_code 79 = .ok (.getstatic 34, 3) := by decide +kernel
theorem d1_82 : decode method_2_code 82 = .ok (.areturn, 1) := by decide +kernel
theorem ef_1_IS_NOT_NULL (m : MethodId)  : entryFrame m #[(.int (8 : Int32))] 1 = mkF m 0 #[.val (.int (8 : Int32))] [] := by first | (simp [entryFrame, mkF, argsToLocals, Value.category]; done) | rfl
def Q1_IS_NOT_NULL (Z : State) (w : Addr) (h0 : Heap) (n0 : Nat) (v : Option Value) (h : Heap) (L : List Loc) : Prop := Fr n0 L ∧ (v = some (.ref w) ∧ h = h0)
set_option maxRecDepth 65536 in
set_option maxHeartbeats 40000000 in
theorem rm1_IS_NOT_NULL (l : Launch) (Z : State) (a0 : Array Value) (hw : ∀ d ∈ tables_1, d.before a0 Z = true) (ws : List Jvm.Cond) (w : Addr) (h0 : Heap) (n0 : Nat) (Z0 : n0 ≤ h0.size) (S : Sta Z h0 "com/example/demi_orm/demiorm/query/Operator" "IS_NOT_NULL" "Lcom/example/demi_orm/demiorm/query/Operator;" (.ref w)) :
    MetFree l (⟨"com/example/demi_orm/demiorm/query/OperatorTakesCollectionPinLaw", "pick", "(I)Lcom/example/demi_orm/demiorm/query/Operator;"⟩ : MethodName) (head1 (Jvm.Cond.code (⟨"com/example/demi_orm/demiorm/query/OperatorTakesCollectionPinLaw", "pick", "(I)Lcom/example/demi_orm/demiorm/query/Operator;"⟩ : MethodName) method_2_code 1 (some (.object "com/example/demi_orm/demiorm/query/Operator")) :: ws) ({ frames := 0, cells := 0, slots := 0, locals := 0 } : Room)) (fun as0 U => as0 = #[(.int (8 : Int32))] ∧ Z.Warmed39 U.vm ∧ U.heap = h0) (fun _ _ _ _ _ => True) (fun _ U o U' => ∃ v L, o = .returned v ∧ Q1_IS_NOT_NULL Z w h0 n0 v U'.heap L ∧ FrameEnd U o U' L ({ frames := 0, cells := 0, slots := 0, locals := 0 } : Room).cells ({ frames := 0, cells := 0, slots := 0, locals := 0 } : Room).slots) := by
  refine MetFree.of_bodySF (plainFor_of_name pn_com_example_demi_orm_demiorm_query_OperatorTakesCollectionPinLaw) hisR ?_
  intro p e s m args below meth c s₁ Bd hml0 hP hK
  obtain ⟨rfl, hZ, hh⟩ := hP
  have hx := Bd.exec
  have hby := Bd.bytes
  have hml : c.maxLocals = 1 := hml0
  have hown : s.vm.findClass "com/example/demi_orm/demiorm/query/OperatorTakesCollectionPinLaw" = some m.cls := findClass_of_methodNamed Bd.named
  have hnm := (name_of_methodNamed Bd.named Bd.method).1
  have X0 : Stand p l e ({ frames := 0, cells := 0, slots := 0, locals := 0 } : Room) s m #[(.int (8 : Int32))] below meth c s₁ [] 0 0 := Stand.of_body Bd
  have e0 : s₁.heap = h0 := by rw [← hh, Bd.state]; rfl
  have N0 := Fr.nil n0
  show Gl p e below s (Q1_IS_NOT_NULL Z w h0 n0) ({ frames := 0, cells := 0, slots := 0, locals := 0 } : Room).cells ({ frames := 0, cells := 0, slots := 0, locals := 0 } : Room).slots (s₁.setTop (entryFrame m #[(.int (8 : Int32))] 1))
  refine Gl.back (fun _ k => castTop (ef_1_IS_NOT_NULL m ) k) ?_
  show Gl _ _ _ _ _ _ _ (s₁.setTop (mkF m 0 #[.val (.int (8 : Int32))] []))
  refine Gl.back (fun _ k => XS.iloadN X0.here hx rfl (hb hby d1_0) rfl k) ?_
  show Gl _ _ _ _ _ _ _ (s₁.setTop (mkF m 1 #[.val (.int (8 : Int32))] [(.int (8 : Int32))]))
  refine Gl.back (fun _ k => XS.ifYes X0.here hx rfl (pc0 := 1) (pc' := 8) rfl (hb hby d1_1) rfl ((if0 _ _).trans (feq (by decide : ¬ (8 : Int32) = (0 : Int32))).2) (by decide) (by decide) k) ?_
  show Gl _ _ _ _ _ _ _ (s₁.setTop (mkF m 8 #[.val (.int (8 : Int32))] []))
  refine Gl.back (fun _ k => XS.iloadN X0.here hx rfl (hb hby d1_8) rfl k) ?_
  show Gl _ _ _ _ _ _ _ (s₁.setTop (mkF m 9 #[.val (.int (8 : Int32))] [(.int (8 : Int32))]))
  refine Gl.back (fun _ k => XS.iconst X0.here hx rfl (hb hby d1_9) k) ?_
  show Gl _ _ _ _ _ _ _ (s₁.setTop (mkF m 10 #[.val (.int (8 : Int32))] [(.int (1 : Int32)), (.int (8 : Int32))]))
  refine Gl.back (fun _ k => XS.icmpYes X0.here hx rfl (pc0 := 10) (pc' := 17) rfl (hb hby d1_10) rfl (feq (by decide : ¬ (8 : Int32) = (1 : Int32))).2 (by decide) (by decide) k) ?_
  show Gl _ _ _ _ _ _ _ (s₁.setTop (mkF m 17 #[.val (.int (8 : Int32))] []))
  refine Gl.back (fun _ k => XS.iloadN X0.here hx rfl (hb hby d1_17) rfl k) ?_
  show Gl _ _ _ _ _ _ _ (s₁.setTop (mkF m 18 #[.val (.int (8 : Int32))] [(.int (8 : Int32))]))
  refine Gl.back (fun _ k => XS.iconst X0.here hx rfl (hb hby d1_18) k) ?_
  show Gl _ _ _ _ _ _ _ (s₁.setTop (mkF m 19 #[.val (.int (8 : Int32))] [(.int (2 : Int32)), (.int (8 : Int32))]))
  refine Gl.back (fun _ k => XS.icmpYes X0.here hx rfl (pc0 := 19) (pc' := 26) rfl (hb hby d1_19) rfl (feq (by decide : ¬ (8 : Int32) = (2 : Int32))).2 (by decide) (by decide) k) ?_
  show Gl _ _ _ _ _ _ _ (s₁.setTop (mkF m 26 #[.val (.int (8 : Int32))] []))
  refine Gl.back (fun _ k => XS.iloadN X0.here hx rfl (hb hby d1_26) rfl k) ?_
  show Gl _ _ _ _ _ _ _ (s₁.setTop (mkF m 27 #[.val (.int (8 : Int32))] [(.int (8 : Int32))]))
  refine Gl.back (fun _ k => XS.iconst X0.here hx rfl (hb hby d1_27) k) ?_
  show Gl _ _ _ _ _ _ _ (s₁.setTop (mkF m 28 #[.val (.int (8 : Int32))] [(.int (3 : Int32)), (.int (8 : Int32))]))
  refine Gl.back (fun _ k => XS.icmpYes X0.here hx rfl (pc0 := 28) (pc' := 35) rfl (hb hby d1_28) rfl (feq (by decide : ¬ (8 : Int32) = (3 : Int32))).2 (by decide) (by decide) k) ?_
  show Gl _ _ _ _ _ _ _ (s₁.setTop (mkF m 35 #[.val (.int (8 : Int32))] []))
  refine Gl.back (fun _ k => XS.iloadN X0.here hx rfl (hb hby d1_35) rfl k) ?_
  show Gl _ _ _ _ _ _ _ (s₁.setTop (mkF m 36 #[.val (.int (8 : Int32))] [(.int (8 : Int32))]))
  refine Gl.back (fun _ k => XS.iconst X0.here hx rfl (hb hby d1_36) k) ?_
  show Gl _ _ _ _ _ _ _ (s₁.setTop (mkF m 37 #[.val (.int (8 : Int32))] [(.int (4 : Int32)), (.int (8 : Int32))]))
  refine Gl.back (fun _ k => XS.icmpYes X0.here hx rfl (pc0 := 37) (pc' := 44) rfl (hb hby d1_37) rfl (feq (by decide : ¬ (8 : Int32) = (4 : Int32))).2 (by decide) (by decide) k) ?_
  show Gl _ _ _ _ _ _ _ (s₁.setTop (mkF m 44 #[.val (.int (8 : Int32))] []))
  refine Gl.back (fun _ k => XS.iloadN X0.here hx rfl (hb hby d1_44) rfl k) ?_
  show Gl _ _ _ _ _ _ _ (s₁.setTop (mkF m 45 #[.val (.int (8 : Int32))] [(.int (8 : Int32))]))
  refine Gl.back (fun _ k => XS.iconst X0.here hx rfl (hb hby d1_45) k) ?_
  show Gl _ _ _ _ _ _ _ (s₁.setTop (mkF m 46 #[.val (.int (8 : Int32))] [(.int (5 : Int32)), (.int (8 : Int32))]))
  refine Gl.back (fun _ k => XS.icmpYes X0.here hx rfl (pc0 := 46) (pc' := 53) rfl (hb hby d1_46) rfl (feq (by decide : ¬ (8 : Int32) = (5 : Int32))).2 (by decide) (by decide) k) ?_
  show Gl _ _ _ _ _ _ _ (s₁.setTop (mkF m 53 #[.val (.int (8 : Int32))] []))
  refine Gl.back (fun _ k => XS.iloadN X0.here hx rfl (hb hby d1_53) rfl k) ?_
  show Gl _ _ _ _ _ _ _ (s₁.setTop (mkF m 54 #[.val (.int (8 : Int32))] [(.int (8 : Int32))]))
  refine Gl.back (fun _ k => XS.bipush X0.here hx rfl (hb hby d1_54) k) ?_
  show Gl _ _ _ _ _ _ _ (s₁.setTop (mkF m 56 #[.val (.int (8 : Int32))] [(.int (6 : Int32)), (.int (8 : Int32))]))
  refine Gl.back (fun _ k => XS.icmpYes X0.here hx rfl (pc0 := 56) (pc' := 63) rfl (hb hby d1_56) rfl (feq (by decide : ¬ (8 : Int32) = (6 : Int32))).2 (by decide) (by decide) k) ?_
  show Gl _ _ _ _ _ _ _ (s₁.setTop (mkF m 63 #[.val (.int (8 : Int32))] []))
  refine Gl.back (fun _ k => XS.iloadN X0.here hx rfl (hb hby d1_63) rfl k) ?_
  show Gl _ _ _ _ _ _ _ (s₁.setTop (mkF m 64 #[.val (.int (8 : Int32))] [(.int (8 : Int32))]))
  refine Gl.back (fun _ k => XS.bipush X0.here hx rfl (hb hby d1_64) k) ?_
  show Gl _ _ _ _ _ _ _ (s₁.setTop (mkF m 66 #[.val (.int (8 : Int32))] [(.int (7 : Int32)), (.int (8 : Int32))]))
  refine Gl.back (fun _ k => XS.icmpYes X0.here hx rfl (pc0 := 66) (pc' := 73) rfl (hb hby d1_66) rfl (feq (by decide : ¬ (8 : Int32) = (7 : Int32))).2 (by decide) (by decide) k) ?_
  show Gl _ _ _ _ _ _ _ (s₁.setTop (mkF m 73 #[.val (.int (8 : Int32))] []))
  refine Gl.back (fun _ k => XS.iloadN X0.here hx rfl (hb hby d1_73) rfl k) ?_
  show Gl _ _ _ _ _ _ _ (s₁.setTop (mkF m 74 #[.val (.int (8 : Int32))] [(.int (8 : Int32))]))
  refine Gl.back (fun _ k => XS.bipush X0.here hx rfl (hb hby d1_74) k) ?_
  show Gl _ _ _ _ _ _ _ (s₁.setTop (mkF m 76 #[.val (.int (8 : Int32))] [(.int (8 : Int32)), (.int (8 : Int32))]))
  refine Gl.back (fun _ k => XS.icmpNo X0.here hx rfl (hb hby d1_76) rfl (teq (by decide : (8 : Int32) = (8 : Int32))).2 k) ?_
  show Gl _ _ _ _ _ _ _ (s₁.setTop (mkF m 79 #[.val (.int (8 : Int32))] []))
  obtain ⟨T9, X9, e9, st9⟩ := getS2 X0 hx hZ hown (host := "") (Or.inl (hw _ (List.mem_of_getElem? (i := 56) rfl))) Via.refl e0 S (g := (mkF m 79 #[.val (.int (8 : Int32))] [])) rfl (hb hby d1_79)
  refine Gl.back (fun _ k => st9 _ k) ?_
  show Gl _ _ _ _ _ _ _ (T9.setTop (mkF m 82 #[.val (.int (8 : Int32))] [(.ref w)]))
  exact Gl.ret X9 e9 (v := (some (.ref w))) (fun h => by rw [Bd.returns] at h; cases h) Bd.notSynchronized (fun fs hr => retOut X9 hx (w := (.ref w)) Bd.returns rfl (Or.inr (Or.inr (Or.inr (Or.inr ⟨rfl, rfl, rfl⟩)))) (hb hby d1_82) hr) ⟨N0, rfl, rfl⟩ (by decide) (by decide)
theorem d1_83 : decode method_2_code 83 = .ok (.iload_n 0, 1) := by decide +kernel
theorem d1_84 : decode method_2_code 84 = .ok (.bipush 9, 2) := by decide +kernel
theorem d1_86 : decode method_2_code 86 = .ok (.if_icmp .ne 7, 3) := by decide +kernel
theorem d1_89 : decode method_2_code 89 = .ok (.getstatic 37, 3) := by decide +kernel
theorem d1_92 : decode method_2_code 92 = .ok (.areturn, 1) := by decide +kernel
theorem ef_1_LIKE (m : MethodId)  : entryFrame m #[(.int (9 : Int32))] 1 = mkF m 0 #[.val (.int (9 : Int32))] [] := by first | (simp [entryFrame, mkF, argsToLocals, Value.category]; done) | rfl
def Q1_LIKE (Z : State) (w : Addr) (h0 : Heap) (n0 : Nat) (v : Option Value) (h : Heap) (L : List Loc) : Prop := Fr n0 L ∧ (v = some (.ref w) ∧ h = h0)
set_option maxRecDepth 65536 in
set_option maxHeartbeats 40000000 in
theorem rm1_LIKE (l : Launch) (Z : State) (a0 : Array Value) (hw : ∀ d ∈ tables_1, d.before a0 Z = true) (ws : List Jvm.Cond) (w : Addr) (h0 : Heap) (n0 : Nat) (Z0 : n0 ≤ h0.size) (S : Sta Z h0 "com/example/demi_orm/demiorm/query/Operator" "LIKE" "Lcom/example/demi_orm/demiorm/query/Operator;" (.ref w)) :
    MetFree l (⟨"com/example/demi_orm/demiorm/query/OperatorTakesCollectionPinLaw", "pick", "(I)Lcom/example/demi_orm/demiorm/query/Operator;"⟩ : MethodName) (head1 (Jvm.Cond.code (⟨"com/example/demi_orm/demiorm/query/OperatorTakesCollectionPinLaw", "pick", "(I)Lcom/example/demi_orm/demiorm/query/Operator;"⟩ : MethodName) method_2_code 1 (some (.object "com/example/demi_orm/demiorm/query/Operator")) :: ws) ({ frames := 0, cells := 0, slots := 0, locals := 0 } : Room)) (fun as0 U => as0 = #[(.int (9 : Int32))] ∧ Z.Warmed39 U.vm ∧ U.heap = h0) (fun _ _ _ _ _ => True) (fun _ U o U' => ∃ v L, o = .returned v ∧ Q1_LIKE Z w h0 n0 v U'.heap L ∧ FrameEnd U o U' L ({ frames := 0, cells := 0, slots := 0, locals := 0 } : Room).cells ({ frames := 0, cells := 0, slots := 0, locals := 0 } : Room).slots) := by
  refine MetFree.of_bodySF (plainFor_of_name pn_com_example_demi_orm_demiorm_query_OperatorTakesCollectionPinLaw) hisR ?_
  intro p e s m args below meth c s₁ Bd hml0 hP hK
  obtain ⟨rfl, hZ, hh⟩ := hP
  have hx := Bd.exec
  have hby := Bd.bytes
  have hml : c.maxLocals = 1 := hml0
  have hown : s.vm.findClass "com/example/demi_orm/demiorm/query/OperatorTakesCollectionPinLaw" = some m.cls := findClass_of_methodNamed Bd.named
  have hnm := (name_of_methodNamed Bd.named Bd.method).1
  have X0 : Stand p l e ({ frames := 0, cells := 0, slots := 0, locals := 0 } : Room) s m #[(.int (9 : Int32))] below meth c s₁ [] 0 0 := Stand.of_body Bd
  have e0 : s₁.heap = h0 := by rw [← hh, Bd.state]; rfl
  have N0 := Fr.nil n0
  show Gl p e below s (Q1_LIKE Z w h0 n0) ({ frames := 0, cells := 0, slots := 0, locals := 0 } : Room).cells ({ frames := 0, cells := 0, slots := 0, locals := 0 } : Room).slots (s₁.setTop (entryFrame m #[(.int (9 : Int32))] 1))
  refine Gl.back (fun _ k => castTop (ef_1_LIKE m ) k) ?_
  show Gl _ _ _ _ _ _ _ (s₁.setTop (mkF m 0 #[.val (.int (9 : Int32))] []))
  refine Gl.back (fun _ k => XS.iloadN X0.here hx rfl (hb hby d1_0) rfl k) ?_
  show Gl _ _ _ _ _ _ _ (s₁.setTop (mkF m 1 #[.val (.int (9 : Int32))] [(.int (9 : Int32))]))
  refine Gl.back (fun _ k => XS.ifYes X0.here hx rfl (pc0 := 1) (pc' := 8) rfl (hb hby d1_1) rfl ((if0 _ _).trans (feq (by decide : ¬ (9 : Int32) = (0 : Int32))).2) (by decide) (by decide) k) ?_
  show Gl _ _ _ _ _ _ _ (s₁.setTop (mkF m 8 #[.val (.int (9 : Int32))] []))
  refine Gl.back (fun _ k => XS.iloadN X0.here hx rfl (hb hby d1_8) rfl k) ?_
  show Gl _ _ _ _ _ _ _ (s₁.setTop (mkF m 9 #[.val (.int (9 : Int32))] [(.int (9 : Int32))]))
  refine Gl.back (fun _ k => XS.iconst X0.here hx rfl (hb hby d1_9) k) ?_
  show Gl _ _ _ _ _ _ _ (s₁.setTop (mkF m 10 #[.val (.int (9 : Int32))] [(.int (1 : Int32)), (.int (9 : Int32))]))
  refine Gl.back (fun _ k => XS.icmpYes X0.here hx rfl (pc0 := 10) (pc' := 17) rfl (hb hby d1_10) rfl (feq (by decide : ¬ (9 : Int32) = (1 : Int32))).2 (by decide) (by decide) k) ?_
  show Gl _ _ _ _ _ _ _ (s₁.setTop (mkF m 17 #[.val (.int (9 : Int32))] []))
  refine Gl.back (fun _ k => XS.iloadN X0.here hx rfl (hb hby d1_17) rfl k) ?_
  show Gl _ _ _ _ _ _ _ (s₁.setTop (mkF m 18 #[.val (.int (9 : Int32))] [(.int (9 : Int32))]))
  refine Gl.back (fun _ k => XS.iconst X0.here hx rfl (hb hby d1_18) k) ?_
  show Gl _ _ _ _ _ _ _ (s₁.setTop (mkF m 19 #[.val (.int (9 : Int32))] [(.int (2 : Int32)), (.int (9 : Int32))]))
  refine Gl.back (fun _ k => XS.icmpYes X0.here hx rfl (pc0 := 19) (pc' := 26) rfl (hb hby d1_19) rfl (feq (by decide : ¬ (9 : Int32) = (2 : Int32))).2 (by decide) (by decide) k) ?_
  show Gl _ _ _ _ _ _ _ (s₁.setTop (mkF m 26 #[.val (.int (9 : Int32))] []))
  refine Gl.back (fun _ k => XS.iloadN X0.here hx rfl (hb hby d1_26) rfl k) ?_
  show Gl _ _ _ _ _ _ _ (s₁.setTop (mkF m 27 #[.val (.int (9 : Int32))] [(.int (9 : Int32))]))
  refine Gl.back (fun _ k => XS.iconst X0.here hx rfl (hb hby d1_27) k) ?_
  show Gl _ _ _ _ _ _ _ (s₁.setTop (mkF m 28 #[.val (.int (9 : Int32))] [(.int (3 : Int32)), (.int (9 : Int32))]))
  refine Gl.back (fun _ k => XS.icmpYes X0.here hx rfl (pc0 := 28) (pc' := 35) rfl (hb hby d1_28) rfl (feq (by decide : ¬ (9 : Int32) = (3 : Int32))).2 (by decide) (by decide) k) ?_
  show Gl _ _ _ _ _ _ _ (s₁.setTop (mkF m 35 #[.val (.int (9 : Int32))] []))
  refine Gl.back (fun _ k => XS.iloadN X0.here hx rfl (hb hby d1_35) rfl k) ?_
  show Gl _ _ _ _ _ _ _ (s₁.setTop (mkF m 36 #[.val (.int (9 : Int32))] [(.int (9 : Int32))]))
  refine Gl.back (fun _ k => XS.iconst X0.here hx rfl (hb hby d1_36) k) ?_
  show Gl _ _ _ _ _ _ _ (s₁.setTop (mkF m 37 #[.val (.int (9 : Int32))] [(.int (4 : Int32)), (.int (9 : Int32))]))
  refine Gl.back (fun _ k => XS.icmpYes X0.here hx rfl (pc0 := 37) (pc' := 44) rfl (hb hby d1_37) rfl (feq (by decide : ¬ (9 : Int32) = (4 : Int32))).2 (by decide) (by decide) k) ?_
  show Gl _ _ _ _ _ _ _ (s₁.setTop (mkF m 44 #[.val (.int (9 : Int32))] []))
  refine Gl.back (fun _ k => XS.iloadN X0.here hx rfl (hb hby d1_44) rfl k) ?_
  show Gl _ _ _ _ _ _ _ (s₁.setTop (mkF m 45 #[.val (.int (9 : Int32))] [(.int (9 : Int32))]))
  refine Gl.back (fun _ k => XS.iconst X0.here hx rfl (hb hby d1_45) k) ?_
  show Gl _ _ _ _ _ _ _ (s₁.setTop (mkF m 46 #[.val (.int (9 : Int32))] [(.int (5 : Int32)), (.int (9 : Int32))]))
  refine Gl.back (fun _ k => XS.icmpYes X0.here hx rfl (pc0 := 46) (pc' := 53) rfl (hb hby d1_46) rfl (feq (by decide : ¬ (9 : Int32) = (5 : Int32))).2 (by decide) (by decide) k) ?_
  show Gl _ _ _ _ _ _ _ (s₁.setTop (mkF m 53 #[.val (.int (9 : Int32))] []))
  refine Gl.back (fun _ k => XS.iloadN X0.here hx rfl (hb hby d1_53) rfl k) ?_
  show Gl _ _ _ _ _ _ _ (s₁.setTop (mkF m 54 #[.val (.int (9 : Int32))] [(.int (9 : Int32))]))
  refine Gl.back (fun _ k => XS.bipush X0.here hx rfl (hb hby d1_54) k) ?_
  show Gl _ _ _ _ _ _ _ (s₁.setTop (mkF m 56 #[.val (.int (9 : Int32))] [(.int (6 : Int32)), (.int (9 : Int32))]))
  refine Gl.back (fun _ k => XS.icmpYes X0.here hx rfl (pc0 := 56) (pc' := 63) rfl (hb hby d1_56) rfl (feq (by decide : ¬ (9 : Int32) = (6 : Int32))).2 (by decide) (by decide) k) ?_
  show Gl _ _ _ _ _ _ _ (s₁.setTop (mkF m 63 #[.val (.int (9 : Int32))] []))
  refine Gl.back (fun _ k => XS.iloadN X0.here hx rfl (hb hby d1_63) rfl k) ?_
  show Gl _ _ _ _ _ _ _ (s₁.setTop (mkF m 64 #[.val (.int (9 : Int32))] [(.int (9 : Int32))]))
  refine Gl.back (fun _ k => XS.bipush X0.here hx rfl (hb hby d1_64) k) ?_
  show Gl _ _ _ _ _ _ _ (s₁.setTop (mkF m 66 #[.val (.int (9 : Int32))] [(.int (7 : Int32)), (.int (9 : Int32))]))
  refine Gl.back (fun _ k => XS.icmpYes X0.here hx rfl (pc0 := 66) (pc' := 73) rfl (hb hby d1_66) rfl (feq (by decide : ¬ (9 : Int32) = (7 : Int32))).2 (by decide) (by decide) k) ?_
  show Gl _ _ _ _ _ _ _ (s₁.setTop (mkF m 73 #[.val (.int (9 : Int32))] []))
  refine Gl.back (fun _ k => XS.iloadN X0.here hx rfl (hb hby d1_73) rfl k) ?_
  show Gl _ _ _ _ _ _ _ (s₁.setTop (mkF m 74 #[.val (.int (9 : Int32))] [(.int (9 : Int32))]))
  refine Gl.back (fun _ k => XS.bipush X0.here hx rfl (hb hby d1_74) k) ?_
  show Gl _ _ _ _ _ _ _ (s₁.setTop (mkF m 76 #[.val (.int (9 : Int32))] [(.int (8 : Int32)), (.int (9 : Int32))]))
  refine Gl.back (fun _ k => XS.icmpYes X0.here hx rfl (pc0 := 76) (pc' := 83) rfl (hb hby d1_76) rfl (feq (by decide : ¬ (9 : Int32) = (8 : Int32))).2 (by decide) (by decide) k) ?_
  show Gl _ _ _ _ _ _ _ (s₁.setTop (mkF m 83 #[.val (.int (9 : Int32))] []))
  refine Gl.back (fun _ k => XS.iloadN X0.here hx rfl (hb hby d1_83) rfl k) ?_
  show Gl _ _ _ _ _ _ _ (s₁.setTop (mkF m 84 #[.val (.int (9 : Int32))] [(.int (9 : Int32))]))
  refine Gl.back (fun _ k => XS.bipush X0.here hx rfl (hb hby d1_84) k) ?_
  show Gl _ _ _ _ _ _ _ (s₁.setTop (mkF m 86 #[.val (.int (9 : Int32))] [(.int (9 : Int32)), (.int (9 : Int32))]))
  refine Gl.back (fun _ k => XS.icmpNo X0.here hx rfl (hb hby d1_86) rfl (teq (by decide : (9 : Int32) = (9 : Int32))).2 k) ?_
  show Gl _ _ _ _ _ _ _ (s₁.setTop (mkF m 89 #[.val (.int (9 : Int32))] []))
  obtain ⟨T10, X10, e10, st10⟩ := getS2 X0 hx hZ hown (host := "") (Or.inl (hw _ (List.mem_of_getElem? (i := 65) rfl))) Via.refl e0 S (g := (mkF m 89 #[.val (.int (9 : Int32))] [])) rfl (hb hby d1_89)
  refine Gl.back (fun _ k => st10 _ k) ?_
  show Gl _ _ _ _ _ _ _ (T10.setTop (mkF m 92 #[.val (.int (9 : Int32))] [(.ref w)]))
  exact Gl.ret X10 e10 (v := (some (.ref w))) (fun h => by rw [Bd.returns] at h; cases h) Bd.notSynchronized (fun fs hr => retOut X10 hx (w := (.ref w)) Bd.returns rfl (Or.inr (Or.inr (Or.inr (Or.inr ⟨rfl, rfl, rfl⟩)))) (hb hby d1_92) hr) ⟨N0, rfl, rfl⟩ (by decide) (by decide)
theorem d1_93 : decode method_2_code 93 = .ok (.iload_n 0, 1) := by decide +kernel
theorem d1_94 : decode method_2_code 94 = .ok (.bipush 10, 2) := by decide +kernel
theorem d1_96 : decode method_2_code 96 = .ok (.if_icmp .ne 7, 3) := by decide +kernel
theorem d1_99 : decode method_2_code 99 = .ok (.getstatic 40, 3) := by decide +kernel
theorem d1_102 : decode method_2_code 102 = .ok (.areturn, 1) := by decide +kernel
theorem ef_1_NOT_LIKE (m : MethodId)  : entryFrame m #[(.int (10 : Int32))] 1 = mkF m 0 #[.val (.int (10 : Int32))] [] := by first | (simp [entryFrame, mkF, argsToLocals, Value.category]; done) | rfl
def Q1_NOT_LIKE (Z : State) (w : Addr) (h0 : Heap) (n0 : Nat) (v : Option Value) (h : Heap) (L : List Loc) : Prop := Fr n0 L ∧ (v = some (.ref w) ∧ h = h0)
set_option maxRecDepth 65536 in
set_option maxHeartbeats 40000000 in
theorem rm1_NOT_LIKE (l : Launch) (Z : State) (a0 : Array Value) (hw : ∀ d ∈ tables_1, d.before a0 Z = true) (ws : List Jvm.Cond) (w : Addr) (h0 : Heap) (n0 : Nat) (Z0 : n0 ≤ h0.size) (S : Sta Z h0 "com/example/demi_orm/demiorm/query/Operator" "NOT_LIKE" "Lcom/example/demi_orm/demiorm/query/Operator;" (.ref w)) :
    MetFree l (⟨"com/example/demi_orm/demiorm/query/OperatorTakesCollectionPinLaw", "pick", "(I)Lcom/example/demi_orm/demiorm/query/Operator;"⟩ : MethodName) (head1 (Jvm.Cond.code (⟨"com/example/demi_orm/demiorm/query/OperatorTakesCollectionPinLaw", "pick", "(I)Lcom/example/demi_orm/demiorm/query/Operator;"⟩ : MethodName) method_2_code 1 (some (.object "com/example/demi_orm/demiorm/query/Operator")) :: ws) ({ frames := 0, cells := 0, slots := 0, locals := 0 } : Room)) (fun as0 U => as0 = #[(.int (10 : Int32))] ∧ Z.Warmed39 U.vm ∧ U.heap = h0) (fun _ _ _ _ _ => True) (fun _ U o U' => ∃ v L, o = .returned v ∧ Q1_NOT_LIKE Z w h0 n0 v U'.heap L ∧ FrameEnd U o U' L ({ frames := 0, cells := 0, slots := 0, locals := 0 } : Room).cells ({ frames := 0, cells := 0, slots := 0, locals := 0 } : Room).slots) := by
  refine MetFree.of_bodySF (plainFor_of_name pn_com_example_demi_orm_demiorm_query_OperatorTakesCollectionPinLaw) hisR ?_
  intro p e s m args below meth c s₁ Bd hml0 hP hK
  obtain ⟨rfl, hZ, hh⟩ := hP
  have hx := Bd.exec
  have hby := Bd.bytes
  have hml : c.maxLocals = 1 := hml0
  have hown : s.vm.findClass "com/example/demi_orm/demiorm/query/OperatorTakesCollectionPinLaw" = some m.cls := findClass_of_methodNamed Bd.named
  have hnm := (name_of_methodNamed Bd.named Bd.method).1
  have X0 : Stand p l e ({ frames := 0, cells := 0, slots := 0, locals := 0 } : Room) s m #[(.int (10 : Int32))] below meth c s₁ [] 0 0 := Stand.of_body Bd
  have e0 : s₁.heap = h0 := by rw [← hh, Bd.state]; rfl
  have N0 := Fr.nil n0
  show Gl p e below s (Q1_NOT_LIKE Z w h0 n0) ({ frames := 0, cells := 0, slots := 0, locals := 0 } : Room).cells ({ frames := 0, cells := 0, slots := 0, locals := 0 } : Room).slots (s₁.setTop (entryFrame m #[(.int (10 : Int32))] 1))
  refine Gl.back (fun _ k => castTop (ef_1_NOT_LIKE m ) k) ?_
  show Gl _ _ _ _ _ _ _ (s₁.setTop (mkF m 0 #[.val (.int (10 : Int32))] []))
  refine Gl.back (fun _ k => XS.iloadN X0.here hx rfl (hb hby d1_0) rfl k) ?_
  show Gl _ _ _ _ _ _ _ (s₁.setTop (mkF m 1 #[.val (.int (10 : Int32))] [(.int (10 : Int32))]))
  refine Gl.back (fun _ k => XS.ifYes X0.here hx rfl (pc0 := 1) (pc' := 8) rfl (hb hby d1_1) rfl ((if0 _ _).trans (feq (by decide : ¬ (10 : Int32) = (0 : Int32))).2) (by decide) (by decide) k) ?_
  show Gl _ _ _ _ _ _ _ (s₁.setTop (mkF m 8 #[.val (.int (10 : Int32))] []))
  refine Gl.back (fun _ k => XS.iloadN X0.here hx rfl (hb hby d1_8) rfl k) ?_
  show Gl _ _ _ _ _ _ _ (s₁.setTop (mkF m 9 #[.val (.int (10 : Int32))] [(.int (10 : Int32))]))
  refine Gl.back (fun _ k => XS.iconst X0.here hx rfl (hb hby d1_9) k) ?_
  show Gl _ _ _ _ _ _ _ (s₁.setTop (mkF m 10 #[.val (.int (10 : Int32))] [(.int (1 : Int32)), (.int (10 : Int32))]))
  refine Gl.back (fun _ k => XS.icmpYes X0.here hx rfl (pc0 := 10) (pc' := 17) rfl (hb hby d1_10) rfl (feq (by decide : ¬ (10 : Int32) = (1 : Int32))).2 (by decide) (by decide) k) ?_
  show Gl _ _ _ _ _ _ _ (s₁.setTop (mkF m 17 #[.val (.int (10 : Int32))] []))
  refine Gl.back (fun _ k => XS.iloadN X0.here hx rfl (hb hby d1_17) rfl k) ?_
  show Gl _ _ _ _ _ _ _ (s₁.setTop (mkF m 18 #[.val (.int (10 : Int32))] [(.int (10 : Int32))]))
  refine Gl.back (fun _ k => XS.iconst X0.here hx rfl (hb hby d1_18) k) ?_
  show Gl _ _ _ _ _ _ _ (s₁.setTop (mkF m 19 #[.val (.int (10 : Int32))] [(.int (2 : Int32)), (.int (10 : Int32))]))
  refine Gl.back (fun _ k => XS.icmpYes X0.here hx rfl (pc0 := 19) (pc' := 26) rfl (hb hby d1_19) rfl (feq (by decide : ¬ (10 : Int32) = (2 : Int32))).2 (by decide) (by decide) k) ?_
  show Gl _ _ _ _ _ _ _ (s₁.setTop (mkF m 26 #[.val (.int (10 : Int32))] []))
  refine Gl.back (fun _ k => XS.iloadN X0.here hx rfl (hb hby d1_26) rfl k) ?_
  show Gl _ _ _ _ _ _ _ (s₁.setTop (mkF m 27 #[.val (.int (10 : Int32))] [(.int (10 : Int32))]))
  refine Gl.back (fun _ k => XS.iconst X0.here hx rfl (hb hby d1_27) k) ?_
  show Gl _ _ _ _ _ _ _ (s₁.setTop (mkF m 28 #[.val (.int (10 : Int32))] [(.int (3 : Int32)), (.int (10 : Int32))]))
  refine Gl.back (fun _ k => XS.icmpYes X0.here hx rfl (pc0 := 28) (pc' := 35) rfl (hb hby d1_28) rfl (feq (by decide : ¬ (10 : Int32) = (3 : Int32))).2 (by decide) (by decide) k) ?_
  show Gl _ _ _ _ _ _ _ (s₁.setTop (mkF m 35 #[.val (.int (10 : Int32))] []))
  refine Gl.back (fun _ k => XS.iloadN X0.here hx rfl (hb hby d1_35) rfl k) ?_
  show Gl _ _ _ _ _ _ _ (s₁.setTop (mkF m 36 #[.val (.int (10 : Int32))] [(.int (10 : Int32))]))
  refine Gl.back (fun _ k => XS.iconst X0.here hx rfl (hb hby d1_36) k) ?_
  show Gl _ _ _ _ _ _ _ (s₁.setTop (mkF m 37 #[.val (.int (10 : Int32))] [(.int (4 : Int32)), (.int (10 : Int32))]))
  refine Gl.back (fun _ k => XS.icmpYes X0.here hx rfl (pc0 := 37) (pc' := 44) rfl (hb hby d1_37) rfl (feq (by decide : ¬ (10 : Int32) = (4 : Int32))).2 (by decide) (by decide) k) ?_
  show Gl _ _ _ _ _ _ _ (s₁.setTop (mkF m 44 #[.val (.int (10 : Int32))] []))
  refine Gl.back (fun _ k => XS.iloadN X0.here hx rfl (hb hby d1_44) rfl k) ?_
  show Gl _ _ _ _ _ _ _ (s₁.setTop (mkF m 45 #[.val (.int (10 : Int32))] [(.int (10 : Int32))]))
  refine Gl.back (fun _ k => XS.iconst X0.here hx rfl (hb hby d1_45) k) ?_
  show Gl _ _ _ _ _ _ _ (s₁.setTop (mkF m 46 #[.val (.int (10 : Int32))] [(.int (5 : Int32)), (.int (10 : Int32))]))
  refine Gl.back (fun _ k => XS.icmpYes X0.here hx rfl (pc0 := 46) (pc' := 53) rfl (hb hby d1_46) rfl (feq (by decide : ¬ (10 : Int32) = (5 : Int32))).2 (by decide) (by decide) k) ?_
  show Gl _ _ _ _ _ _ _ (s₁.setTop (mkF m 53 #[.val (.int (10 : Int32))] []))
  refine Gl.back (fun _ k => XS.iloadN X0.here hx rfl (hb hby d1_53) rfl k) ?_
  show Gl _ _ _ _ _ _ _ (s₁.setTop (mkF m 54 #[.val (.int (10 : Int32))] [(.int (10 : Int32))]))
  refine Gl.back (fun _ k => XS.bipush X0.here hx rfl (hb hby d1_54) k) ?_
  show Gl _ _ _ _ _ _ _ (s₁.setTop (mkF m 56 #[.val (.int (10 : Int32))] [(.int (6 : Int32)), (.int (10 : Int32))]))
  refine Gl.back (fun _ k => XS.icmpYes X0.here hx rfl (pc0 := 56) (pc' := 63) rfl (hb hby d1_56) rfl (feq (by decide : ¬ (10 : Int32) = (6 : Int32))).2 (by decide) (by decide) k) ?_
  show Gl _ _ _ _ _ _ _ (s₁.setTop (mkF m 63 #[.val (.int (10 : Int32))] []))
  refine Gl.back (fun _ k => XS.iloadN X0.here hx rfl (hb hby d1_63) rfl k) ?_
  show Gl _ _ _ _ _ _ _ (s₁.setTop (mkF m 64 #[.val (.int (10 : Int32))] [(.int (10 : Int32))]))
  refine Gl.back (fun _ k => XS.bipush X0.here hx rfl (hb hby d1_64) k) ?_
  show Gl _ _ _ _ _ _ _ (s₁.setTop (mkF m 66 #[.val (.int (10 : Int32))] [(.int (7 : Int32)), (.int (10 : Int32))]))
  refine Gl.back (fun _ k => XS.icmpYes X0.here hx rfl (pc0 := 66) (pc' := 73) rfl (hb hby d1_66) rfl (feq (by decide : ¬ (10 : Int32) = (7 : Int32))).2 (by decide) (by decide) k) ?_
  show Gl _ _ _ _ _ _ _ (s₁.setTop (mkF m 73 #[.val (.int (10 : Int32))] []))
  refine Gl.back (fun _ k => XS.iloadN X0.here hx rfl (hb hby d1_73) rfl k) ?_
  show Gl _ _ _ _ _ _ _ (s₁.setTop (mkF m 74 #[.val (.int (10 : Int32))] [(.int (10 : Int32))]))
  refine Gl.back (fun _ k => XS.bipush X0.here hx rfl (hb hby d1_74) k) ?_
  show Gl _ _ _ _ _ _ _ (s₁.setTop (mkF m 76 #[.val (.int (10 : Int32))] [(.int (8 : Int32)), (.int (10 : Int32))]))
  refine Gl.back (fun _ k => XS.icmpYes X0.here hx rfl (pc0 := 76) (pc' := 83) rfl (hb hby d1_76) rfl (feq (by decide : ¬ (10 : Int32) = (8 : Int32))).2 (by decide) (by decide) k) ?_
  show Gl _ _ _ _ _ _ _ (s₁.setTop (mkF m 83 #[.val (.int (10 : Int32))] []))
  refine Gl.back (fun _ k => XS.iloadN X0.here hx rfl (hb hby d1_83) rfl k) ?_
  show Gl _ _ _ _ _ _ _ (s₁.setTop (mkF m 84 #[.val (.int (10 : Int32))] [(.int (10 : Int32))]))
  refine Gl.back (fun _ k => XS.bipush X0.here hx rfl (hb hby d1_84) k) ?_
  show Gl _ _ _ _ _ _ _ (s₁.setTop (mkF m 86 #[.val (.int (10 : Int32))] [(.int (9 : Int32)), (.int (10 : Int32))]))
  refine Gl.back (fun _ k => XS.icmpYes X0.here hx rfl (pc0 := 86) (pc' := 93) rfl (hb hby d1_86) rfl (feq (by decide : ¬ (10 : Int32) = (9 : Int32))).2 (by decide) (by decide) k) ?_
  show Gl _ _ _ _ _ _ _ (s₁.setTop (mkF m 93 #[.val (.int (10 : Int32))] []))
  refine Gl.back (fun _ k => XS.iloadN X0.here hx rfl (hb hby d1_93) rfl k) ?_
  show Gl _ _ _ _ _ _ _ (s₁.setTop (mkF m 94 #[.val (.int (10 : Int32))] [(.int (10 : Int32))]))
  refine Gl.back (fun _ k => XS.bipush X0.here hx rfl (hb hby d1_94) k) ?_
  show Gl _ _ _ _ _ _ _ (s₁.setTop (mkF m 96 #[.val (.int (10 : Int32))] [(.int (10 : Int32)), (.int (10 : Int32))]))
  refine Gl.back (fun _ k => XS.icmpNo X0.here hx rfl (hb hby d1_96) rfl (teq (by decide : (10 : Int32) = (10 : Int32))).2 k) ?_
  show Gl _ _ _ _ _ _ _ (s₁.setTop (mkF m 99 #[.val (.int (10 : Int32))] []))
  obtain ⟨T11, X11, e11, st11⟩ := getS2 X0 hx hZ hown (host := "") (Or.inl (hw _ (List.mem_of_getElem? (i := 50) rfl))) Via.refl e0 S (g := (mkF m 99 #[.val (.int (10 : Int32))] [])) rfl (hb hby d1_99)
  refine Gl.back (fun _ k => st11 _ k) ?_
  show Gl _ _ _ _ _ _ _ (T11.setTop (mkF m 102 #[.val (.int (10 : Int32))] [(.ref w)]))
  exact Gl.ret X11 e11 (v := (some (.ref w))) (fun h => by rw [Bd.returns] at h; cases h) Bd.notSynchronized (fun fs hr => retOut X11 hx (w := (.ref w)) Bd.returns rfl (Or.inr (Or.inr (Or.inr (Or.inr ⟨rfl, rfl, rfl⟩)))) (hb hby d1_102) hr) ⟨N0, rfl, rfl⟩ (by decide) (by decide)
theorem d1_103 : decode method_2_code 103 = .ok (.iload_n 0, 1) := by decide +kernel
theorem d1_104 : decode method_2_code 104 = .ok (.bipush 11, 2) := by decide +kernel
theorem d1_106 : decode method_2_code 106 = .ok (.if_icmp .ne 7, 3) := by decide +kernel
theorem d1_109 : decode method_2_code 109 = .ok (.getstatic 43, 3) := by decide +kernel
theorem d1_112 : decode method_2_code 112 = .ok (.areturn, 1) := by decide +kernel
theorem ef_1_STARTING_WITH (m : MethodId)  : entryFrame m #[(.int (11 : Int32))] 1 = mkF m 0 #[.val (.int (11 : Int32))] [] := by first | (simp [entryFrame, mkF, argsToLocals, Value.category]; done) | rfl
def Q1_STARTING_WITH (Z : State) (w : Addr) (h0 : Heap) (n0 : Nat) (v : Option Value) (h : Heap) (L : List Loc) : Prop := Fr n0 L ∧ (v = some (.ref w) ∧ h = h0)
set_option maxRecDepth 65536 in
set_option maxHeartbeats 40000000 in
theorem rm1_STARTING_WITH (l : Launch) (Z : State) (a0 : Array Value) (hw : ∀ d ∈ tables_1, d.before a0 Z = true) (ws : List Jvm.Cond) (w : Addr) (h0 : Heap) (n0 : Nat) (Z0 : n0 ≤ h0.size) (S : Sta Z h0 "com/example/demi_orm/demiorm/query/Operator" "STARTING_WITH" "Lcom/example/demi_orm/demiorm/query/Operator;" (.ref w)) :
    MetFree l (⟨"com/example/demi_orm/demiorm/query/OperatorTakesCollectionPinLaw", "pick", "(I)Lcom/example/demi_orm/demiorm/query/Operator;"⟩ : MethodName) (head1 (Jvm.Cond.code (⟨"com/example/demi_orm/demiorm/query/OperatorTakesCollectionPinLaw", "pick", "(I)Lcom/example/demi_orm/demiorm/query/Operator;"⟩ : MethodName) method_2_code 1 (some (.object "com/example/demi_orm/demiorm/query/Operator")) :: ws) ({ frames := 0, cells := 0, slots := 0, locals := 0 } : Room)) (fun as0 U => as0 = #[(.int (11 : Int32))] ∧ Z.Warmed39 U.vm ∧ U.heap = h0) (fun _ _ _ _ _ => True) (fun _ U o U' => ∃ v L, o = .returned v ∧ Q1_STARTING_WITH Z w h0 n0 v U'.heap L ∧ FrameEnd U o U' L ({ frames := 0, cells := 0, slots := 0, locals := 0 } : Room).cells ({ frames := 0, cells := 0, slots := 0, locals := 0 } : Room).slots) := by
  refine MetFree.of_bodySF (plainFor_of_name pn_com_example_demi_orm_demiorm_query_OperatorTakesCollectionPinLaw) hisR ?_
  intro p e s m args below meth c s₁ Bd hml0 hP hK
  obtain ⟨rfl, hZ, hh⟩ := hP
  have hx := Bd.exec
  have hby := Bd.bytes
  have hml : c.maxLocals = 1 := hml0
  have hown : s.vm.findClass "com/example/demi_orm/demiorm/query/OperatorTakesCollectionPinLaw" = some m.cls := findClass_of_methodNamed Bd.named
  have hnm := (name_of_methodNamed Bd.named Bd.method).1
  have X0 : Stand p l e ({ frames := 0, cells := 0, slots := 0, locals := 0 } : Room) s m #[(.int (11 : Int32))] below meth c s₁ [] 0 0 := Stand.of_body Bd
  have e0 : s₁.heap = h0 := by rw [← hh, Bd.state]; rfl
  have N0 := Fr.nil n0
  show Gl p e below s (Q1_STARTING_WITH Z w h0 n0) ({ frames := 0, cells := 0, slots := 0, locals := 0 } : Room).cells ({ frames := 0, cells := 0, slots := 0, locals := 0 } : Room).slots (s₁.setTop (entryFrame m #[(.int (11 : Int32))] 1))
  refine Gl.back (fun _ k => castTop (ef_1_STARTING_WITH m ) k) ?_
  show Gl _ _ _ _ _ _ _ (s₁.setTop (mkF m 0 #[.val (.int (11 : Int32))] []))
  refine Gl.back (fun _ k => XS.iloadN X0.here hx rfl (hb hby d1_0) rfl k) ?_
  show Gl _ _ _ _ _ _ _ (s₁.setTop (mkF m 1 #[.val (.int (11 : Int32))] [(.int (11 : Int32))]))
  refine Gl.back (fun _ k => XS.ifYes X0.here hx rfl (pc0 := 1) (pc' := 8) rfl (hb hby d1_1) rfl ((if0 _ _).trans (feq (by decide : ¬ (11 : Int32) = (0 : Int32))).2) (by decide) (by decide) k) ?_
  show Gl _ _ _ _ _ _ _ (s₁.setTop (mkF m 8 #[.val (.int (11 : Int32))] []))
  refine Gl.back (fun _ k => XS.iloadN X0.here hx rfl (hb hby d1_8) rfl k) ?_
  show Gl _ _ _ _ _ _ _ (s₁.setTop (mkF m 9 #[.val (.int (11 : Int32))] [(.int (11 : Int32))]))
  refine Gl.back (fun _ k => XS.iconst X0.here hx rfl (hb hby d1_9) k) ?_
  show Gl _ _ _ _ _ _ _ (s₁.setTop (mkF m 10 #[.val (.int (11 : Int32))] [(.int (1 : Int32)), (.int (11 : Int32))]))
  refine Gl.back (fun _ k => XS.icmpYes X0.here hx rfl (pc0 := 10) (pc' := 17) rfl (hb hby d1_10) rfl (feq (by decide : ¬ (11 : Int32) = (1 : Int32))).2 (by decide) (by decide) k) ?_
  show Gl _ _ _ _ _ _ _ (s₁.setTop (mkF m 17 #[.val (.int (11 : Int32))] []))
  refine Gl.back (fun _ k => XS.iloadN X0.here hx rfl (hb hby d1_17) rfl k) ?_
  show Gl _ _ _ _ _ _ _ (s₁.setTop (mkF m 18 #[.val (.int (11 : Int32))] [(.int (11 : Int32))]))
  refine Gl.back (fun _ k => XS.iconst X0.here hx rfl (hb hby d1_18) k) ?_
  show Gl _ _ _ _ _ _ _ (s₁.setTop (mkF m 19 #[.val (.int (11 : Int32))] [(.int (2 : Int32)), (.int (11 : Int32))]))
  refine Gl.back (fun _ k => XS.icmpYes X0.here hx rfl (pc0 := 19) (pc' := 26) rfl (hb hby d1_19) rfl (feq (by decide : ¬ (11 : Int32) = (2 : Int32))).2 (by decide) (by decide) k) ?_
  show Gl _ _ _ _ _ _ _ (s₁.setTop (mkF m 26 #[.val (.int (11 : Int32))] []))
  refine Gl.back (fun _ k => XS.iloadN X0.here hx rfl (hb hby d1_26) rfl k) ?_
  show Gl _ _ _ _ _ _ _ (s₁.setTop (mkF m 27 #[.val (.int (11 : Int32))] [(.int (11 : Int32))]))
  refine Gl.back (fun _ k => XS.iconst X0.here hx rfl (hb hby d1_27) k) ?_
  show Gl _ _ _ _ _ _ _ (s₁.setTop (mkF m 28 #[.val (.int (11 : Int32))] [(.int (3 : Int32)), (.int (11 : Int32))]))
  refine Gl.back (fun _ k => XS.icmpYes X0.here hx rfl (pc0 := 28) (pc' := 35) rfl (hb hby d1_28) rfl (feq (by decide : ¬ (11 : Int32) = (3 : Int32))).2 (by decide) (by decide) k) ?_
  show Gl _ _ _ _ _ _ _ (s₁.setTop (mkF m 35 #[.val (.int (11 : Int32))] []))
  refine Gl.back (fun _ k => XS.iloadN X0.here hx rfl (hb hby d1_35) rfl k) ?_
  show Gl _ _ _ _ _ _ _ (s₁.setTop (mkF m 36 #[.val (.int (11 : Int32))] [(.int (11 : Int32))]))
  refine Gl.back (fun _ k => XS.iconst X0.here hx rfl (hb hby d1_36) k) ?_
  show Gl _ _ _ _ _ _ _ (s₁.setTop (mkF m 37 #[.val (.int (11 : Int32))] [(.int (4 : Int32)), (.int (11 : Int32))]))
  refine Gl.back (fun _ k => XS.icmpYes X0.here hx rfl (pc0 := 37) (pc' := 44) rfl (hb hby d1_37) rfl (feq (by decide : ¬ (11 : Int32) = (4 : Int32))).2 (by decide) (by decide) k) ?_
  show Gl _ _ _ _ _ _ _ (s₁.setTop (mkF m 44 #[.val (.int (11 : Int32))] []))
  refine Gl.back (fun _ k => XS.iloadN X0.here hx rfl (hb hby d1_44) rfl k) ?_
  show Gl _ _ _ _ _ _ _ (s₁.setTop (mkF m 45 #[.val (.int (11 : Int32))] [(.int (11 : Int32))]))
  refine Gl.back (fun _ k => XS.iconst X0.here hx rfl (hb hby d1_45) k) ?_
  show Gl _ _ _ _ _ _ _ (s₁.setTop (mkF m 46 #[.val (.int (11 : Int32))] [(.int (5 : Int32)), (.int (11 : Int32))]))
  refine Gl.back (fun _ k => XS.icmpYes X0.here hx rfl (pc0 := 46) (pc' := 53) rfl (hb hby d1_46) rfl (feq (by decide : ¬ (11 : Int32) = (5 : Int32))).2 (by decide) (by decide) k) ?_
  show Gl _ _ _ _ _ _ _ (s₁.setTop (mkF m 53 #[.val (.int (11 : Int32))] []))
  refine Gl.back (fun _ k => XS.iloadN X0.here hx rfl (hb hby d1_53) rfl k) ?_
  show Gl _ _ _ _ _ _ _ (s₁.setTop (mkF m 54 #[.val (.int (11 : Int32))] [(.int (11 : Int32))]))
  refine Gl.back (fun _ k => XS.bipush X0.here hx rfl (hb hby d1_54) k) ?_
  show Gl _ _ _ _ _ _ _ (s₁.setTop (mkF m 56 #[.val (.int (11 : Int32))] [(.int (6 : Int32)), (.int (11 : Int32))]))
  refine Gl.back (fun _ k => XS.icmpYes X0.here hx rfl (pc0 := 56) (pc' := 63) rfl (hb hby d1_56) rfl (feq (by decide : ¬ (11 : Int32) = (6 : Int32))).2 (by decide) (by decide) k) ?_
  show Gl _ _ _ _ _ _ _ (s₁.setTop (mkF m 63 #[.val (.int (11 : Int32))] []))
  refine Gl.back (fun _ k => XS.iloadN X0.here hx rfl (hb hby d1_63) rfl k) ?_
  show Gl _ _ _ _ _ _ _ (s₁.setTop (mkF m 64 #[.val (.int (11 : Int32))] [(.int (11 : Int32))]))
  refine Gl.back (fun _ k => XS.bipush X0.here hx rfl (hb hby d1_64) k) ?_
  show Gl _ _ _ _ _ _ _ (s₁.setTop (mkF m 66 #[.val (.int (11 : Int32))] [(.int (7 : Int32)), (.int (11 : Int32))]))
  refine Gl.back (fun _ k => XS.icmpYes X0.here hx rfl (pc0 := 66) (pc' := 73) rfl (hb hby d1_66) rfl (feq (by decide : ¬ (11 : Int32) = (7 : Int32))).2 (by decide) (by decide) k) ?_
  show Gl _ _ _ _ _ _ _ (s₁.setTop (mkF m 73 #[.val (.int (11 : Int32))] []))
  refine Gl.back (fun _ k => XS.iloadN X0.here hx rfl (hb hby d1_73) rfl k) ?_
  show Gl _ _ _ _ _ _ _ (s₁.setTop (mkF m 74 #[.val (.int (11 : Int32))] [(.int (11 : Int32))]))
  refine Gl.back (fun _ k => XS.bipush X0.here hx rfl (hb hby d1_74) k) ?_
  show Gl _ _ _ _ _ _ _ (s₁.setTop (mkF m 76 #[.val (.int (11 : Int32))] [(.int (8 : Int32)), (.int (11 : Int32))]))
  refine Gl.back (fun _ k => XS.icmpYes X0.here hx rfl (pc0 := 76) (pc' := 83) rfl (hb hby d1_76) rfl (feq (by decide : ¬ (11 : Int32) = (8 : Int32))).2 (by decide) (by decide) k) ?_
  show Gl _ _ _ _ _ _ _ (s₁.setTop (mkF m 83 #[.val (.int (11 : Int32))] []))
  refine Gl.back (fun _ k => XS.iloadN X0.here hx rfl (hb hby d1_83) rfl k) ?_
  show Gl _ _ _ _ _ _ _ (s₁.setTop (mkF m 84 #[.val (.int (11 : Int32))] [(.int (11 : Int32))]))
  refine Gl.back (fun _ k => XS.bipush X0.here hx rfl (hb hby d1_84) k) ?_
  show Gl _ _ _ _ _ _ _ (s₁.setTop (mkF m 86 #[.val (.int (11 : Int32))] [(.int (9 : Int32)), (.int (11 : Int32))]))
  refine Gl.back (fun _ k => XS.icmpYes X0.here hx rfl (pc0 := 86) (pc' := 93) rfl (hb hby d1_86) rfl (feq (by decide : ¬ (11 : Int32) = (9 : Int32))).2 (by decide) (by decide) k) ?_
  show Gl _ _ _ _ _ _ _ (s₁.setTop (mkF m 93 #[.val (.int (11 : Int32))] []))
  refine Gl.back (fun _ k => XS.iloadN X0.here hx rfl (hb hby d1_93) rfl k) ?_
  show Gl _ _ _ _ _ _ _ (s₁.setTop (mkF m 94 #[.val (.int (11 : Int32))] [(.int (11 : Int32))]))
  refine Gl.back (fun _ k => XS.bipush X0.here hx rfl (hb hby d1_94) k) ?_
  show Gl _ _ _ _ _ _ _ (s₁.setTop (mkF m 96 #[.val (.int (11 : Int32))] [(.int (10 : Int32)), (.int (11 : Int32))]))
  refine Gl.back (fun _ k => XS.icmpYes X0.here hx rfl (pc0 := 96) (pc' := 103) rfl (hb hby d1_96) rfl (feq (by decide : ¬ (11 : Int32) = (10 : Int32))).2 (by decide) (by decide) k) ?_
  show Gl _ _ _ _ _ _ _ (s₁.setTop (mkF m 103 #[.val (.int (11 : Int32))] []))
  refine Gl.back (fun _ k => XS.iloadN X0.here hx rfl (hb hby d1_103) rfl k) ?_
  show Gl _ _ _ _ _ _ _ (s₁.setTop (mkF m 104 #[.val (.int (11 : Int32))] [(.int (11 : Int32))]))
  refine Gl.back (fun _ k => XS.bipush X0.here hx rfl (hb hby d1_104) k) ?_
  show Gl _ _ _ _ _ _ _ (s₁.setTop (mkF m 106 #[.val (.int (11 : Int32))] [(.int (11 : Int32)), (.int (11 : Int32))]))
  refine Gl.back (fun _ k => XS.icmpNo X0.here hx rfl (hb hby d1_106) rfl (teq (by decide : (11 : Int32) = (11 : Int32))).2 k) ?_
  show Gl _ _ _ _ _ _ _ (s₁.setTop (mkF m 109 #[.val (.int (11 : Int32))] []))
  obtain ⟨T12, X12, e12, st12⟩ := getS2 X0 hx hZ hown (host := "") (Or.inl (hw _ (List.mem_of_getElem? (i := 55) rfl))) Via.refl e0 S (g := (mkF m 109 #[.val (.int (11 : Int32))] [])) rfl (hb hby d1_109)
  refine Gl.back (fun _ k => st12 _ k) ?_
  show Gl _ _ _ _ _ _ _ (T12.setTop (mkF m 112 #[.val (.int (11 : Int32))] [(.ref w)]))
  exact Gl.ret X12 e12 (v := (some (.ref w))) (fun h => by rw [Bd.returns] at h; cases h) Bd.notSynchronized (fun fs hr => retOut X12 hx (w := (.ref w)) Bd.returns rfl (Or.inr (Or.inr (Or.inr (Or.inr ⟨rfl, rfl, rfl⟩)))) (hb hby d1_112) hr) ⟨N0, rfl, rfl⟩ (by decide) (by decide)
theorem d1_113 : decode method_2_code 113 = .ok (.iload_n 0, 1) := by decide +kernel
theorem d1_114 : decode method_2_code 114 = .ok (.bipush 12, 2) := by decide +kernel
theorem d1_116 : decode method_2_code 116 = .ok (.if_icmp .ne 7, 3) := by decide +kernel
theorem d1_119 : decode method_2_code 119 = .ok (.getstatic 46, 3) := by decide +kernel
theorem d1_122 : decode method_2_code 122 = .ok (.areturn, 1) := by decide +kernel
theorem ef_1_ENDING_WITH (m : MethodId)  : entryFrame m #[(.int (12 : Int32))] 1 = mkF m 0 #[.val (.int (12 : Int32))] [] := by first | (simp [entryFrame, mkF, argsToLocals, Value.category]; done) | rfl
def Q1_ENDING_WITH (Z : State) (w : Addr) (h0 : Heap) (n0 : Nat) (v : Option Value) (h : Heap) (L : List Loc) : Prop := Fr n0 L ∧ (v = some (.ref w) ∧ h = h0)
set_option maxRecDepth 65536 in
set_option maxHeartbeats 40000000 in
theorem rm1_ENDING_WITH (l : Launch) (Z : State) (a0 : Array Value) (hw : ∀ d ∈ tables_1, d.before a0 Z = true) (ws : List Jvm.Cond) (w : Addr) (h0 : Heap) (n0 : Nat) (Z0 : n0 ≤ h0.size) (S : Sta Z h0 "com/example/demi_orm/demiorm/query/Operator" "ENDING_WITH" "Lcom/example/demi_orm/demiorm/query/Operator;" (.ref w)) :
    MetFree l (⟨"com/example/demi_orm/demiorm/query/OperatorTakesCollectionPinLaw", "pick", "(I)Lcom/example/demi_orm/demiorm/query/Operator;"⟩ : MethodName) (head1 (Jvm.Cond.code (⟨"com/example/demi_orm/demiorm/query/OperatorTakesCollectionPinLaw", "pick", "(I)Lcom/example/demi_orm/demiorm/query/Operator;"⟩ : MethodName) method_2_code 1 (some (.object "com/example/demi_orm/demiorm/query/Operator")) :: ws) ({ frames := 0, cells := 0, slots := 0, locals := 0 } : Room)) (fun as0 U => as0 = #[(.int (12 : Int32))] ∧ Z.Warmed39 U.vm ∧ U.heap = h0) (fun _ _ _ _ _ => True) (fun _ U o U' => ∃ v L, o = .returned v ∧ Q1_ENDING_WITH Z w h0 n0 v U'.heap L ∧ FrameEnd U o U' L ({ frames := 0, cells := 0, slots := 0, locals := 0 } : Room).cells ({ frames := 0, cells := 0, slots := 0, locals := 0 } : Room).slots) := by
  refine MetFree.of_bodySF (plainFor_of_name pn_com_example_demi_orm_demiorm_query_OperatorTakesCollectionPinLaw) hisR ?_
  intro p e s m args below meth c s₁ Bd hml0 hP hK
  obtain ⟨rfl, hZ, hh⟩ := hP
  have hx := Bd.exec
  have hby := Bd.bytes
  have hml : c.maxLocals = 1 := hml0
  have hown : s.vm.findClass "com/example/demi_orm/demiorm/query/OperatorTakesCollectionPinLaw" = some m.cls := findClass_of_methodNamed Bd.named
  have hnm := (name_of_methodNamed Bd.named Bd.method).1
  have X0 : Stand p l e ({ frames := 0, cells := 0, slots := 0, locals := 0 } : Room) s m #[(.int (12 : Int32))] below meth c s₁ [] 0 0 := Stand.of_body Bd
  have e0 : s₁.heap = h0 := by rw [← hh, Bd.state]; rfl
  have N0 := Fr.nil n0
  show Gl p e below s (Q1_ENDING_WITH Z w h0 n0) ({ frames := 0, cells := 0, slots := 0, locals := 0 } : Room).cells ({ frames := 0, cells := 0, slots := 0, locals := 0 } : Room).slots (s₁.setTop (entryFrame m #[(.int (12 : Int32))] 1))
  refine Gl.back (fun _ k => castTop (ef_1_ENDING_WITH m ) k) ?_
  show Gl _ _ _ _ _ _ _ (s₁.setTop (mkF m 0 #[.val (.int (12 : Int32))] []))
  refine Gl.back (fun _ k => XS.iloadN X0.here hx rfl (hb hby d1_0) rfl k) ?_
  show Gl _ _ _ _ _ _ _ (s₁.setTop (mkF m 1 #[.val (.int (12 : Int32))] [(.int (12 : Int32))]))
  refine Gl.back (fun _ k => XS.ifYes X0.here hx rfl (pc0 := 1) (pc' := 8) rfl (hb hby d1_1) rfl ((if0 _ _).trans (feq (by decide : ¬ (12 : Int32) = (0 : Int32))).2) (by decide) (by decide) k) ?_
  show Gl _ _ _ _ _ _ _ (s₁.setTop (mkF m 8 #[.val (.int (12 : Int32))] []))
  refine Gl.back (fun _ k => XS.iloadN X0.here hx rfl (hb hby d1_8) rfl k) ?_
  show Gl _ _ _ _ _ _ _ (s₁.setTop (mkF m 9 #[.val (.int (12 : Int32))] [(.int (12 : Int32))]))
  refine Gl.back (fun _ k => XS.iconst X0.here hx rfl (hb hby d1_9) k) ?_
  show Gl _ _ _ _ _ _ _ (s₁.setTop (mkF m 10 #[.val (.int (12 : Int32))] [(.int (1 : Int32)), (.int (12 : Int32))]))
  refine Gl.back (fun _ k => XS.icmpYes X0.here hx rfl (pc0 := 10) (pc' := 17) rfl (hb hby d1_10) rfl (feq (by decide : ¬ (12 : Int32) = (1 : Int32))).2 (by decide) (by decide) k) ?_
  show Gl _ _ _ _ _ _ _ (s₁.setTop (mkF m 17 #[.val (.int (12 : Int32))] []))
  refine Gl.back (fun _ k => XS.iloadN X0.here hx rfl (hb hby d1_17) rfl k) ?_
  show Gl _ _ _ _ _ _ _ (s₁.setTop (mkF m 18 #[.val (.int (12 : Int32))] [(.int (12 : Int32))]))
  refine Gl.back (fun _ k => XS.iconst X0.here hx rfl (hb hby d1_18) k) ?_
  show Gl _ _ _ _ _ _ _ (s₁.setTop (mkF m 19 #[.val (.int (12 : Int32))] [(.int (2 : Int32)), (.int (12 : Int32))]))
  refine Gl.back (fun _ k => XS.icmpYes X0.here hx rfl (pc0 := 19) (pc' := 26) rfl (hb hby d1_19) rfl (feq (by decide : ¬ (12 : Int32) = (2 : Int32))).2 (by decide) (by decide) k) ?_
  show Gl _ _ _ _ _ _ _ (s₁.setTop (mkF m 26 #[.val (.int (12 : Int32))] []))
  refine Gl.back (fun _ k => XS.iloadN X0.here hx rfl (hb hby d1_26) rfl k) ?_
  show Gl _ _ _ _ _ _ _ (s₁.setTop (mkF m 27 #[.val (.int (12 : Int32))] [(.int (12 : Int32))]))
  refine Gl.back (fun _ k => XS.iconst X0.here hx rfl (hb hby d1_27) k) ?_
  show Gl _ _ _ _ _ _ _ (s₁.setTop (mkF m 28 #[.val (.int (12 : Int32))] [(.int (3 : Int32)), (.int (12 : Int32))]))
  refine Gl.back (fun _ k => XS.icmpYes X0.here hx rfl (pc0 := 28) (pc' := 35) rfl (hb hby d1_28) rfl (feq (by decide : ¬ (12 : Int32) = (3 : Int32))).2 (by decide) (by decide) k) ?_
  show Gl _ _ _ _ _ _ _ (s₁.setTop (mkF m 35 #[.val (.int (12 : Int32))] []))
  refine Gl.back (fun _ k => XS.iloadN X0.here hx rfl (hb hby d1_35) rfl k) ?_
  show Gl _ _ _ _ _ _ _ (s₁.setTop (mkF m 36 #[.val (.int (12 : Int32))] [(.int (12 : Int32))]))
  refine Gl.back (fun _ k => XS.iconst X0.here hx rfl (hb hby d1_36) k) ?_
  show Gl _ _ _ _ _ _ _ (s₁.setTop (mkF m 37 #[.val (.int (12 : Int32))] [(.int (4 : Int32)), (.int (12 : Int32))]))
  refine Gl.back (fun _ k => XS.icmpYes X0.here hx rfl (pc0 := 37) (pc' := 44) rfl (hb hby d1_37) rfl (feq (by decide : ¬ (12 : Int32) = (4 : Int32))).2 (by decide) (by decide) k) ?_
  show Gl _ _ _ _ _ _ _ (s₁.setTop (mkF m 44 #[.val (.int (12 : Int32))] []))
  refine Gl.back (fun _ k => XS.iloadN X0.here hx rfl (hb hby d1_44) rfl k) ?_
  show Gl _ _ _ _ _ _ _ (s₁.setTop (mkF m 45 #[.val (.int (12 : Int32))] [(.int (12 : Int32))]))
  refine Gl.back (fun _ k => XS.iconst X0.here hx rfl (hb hby d1_45) k) ?_
  show Gl _ _ _ _ _ _ _ (s₁.setTop (mkF m 46 #[.val (.int (12 : Int32))] [(.int (5 : Int32)), (.int (12 : Int32))]))
  refine Gl.back (fun _ k => XS.icmpYes X0.here hx rfl (pc0 := 46) (pc' := 53) rfl (hb hby d1_46) rfl (feq (by decide : ¬ (12 : Int32) = (5 : Int32))).2 (by decide) (by decide) k) ?_
  show Gl _ _ _ _ _ _ _ (s₁.setTop (mkF m 53 #[.val (.int (12 : Int32))] []))
  refine Gl.back (fun _ k => XS.iloadN X0.here hx rfl (hb hby d1_53) rfl k) ?_
  show Gl _ _ _ _ _ _ _ (s₁.setTop (mkF m 54 #[.val (.int (12 : Int32))] [(.int (12 : Int32))]))
  refine Gl.back (fun _ k => XS.bipush X0.here hx rfl (hb hby d1_54) k) ?_
  show Gl _ _ _ _ _ _ _ (s₁.setTop (mkF m 56 #[.val (.int (12 : Int32))] [(.int (6 : Int32)), (.int (12 : Int32))]))
  refine Gl.back (fun _ k => XS.icmpYes X0.here hx rfl (pc0 := 56) (pc' := 63) rfl (hb hby d1_56) rfl (feq (by decide : ¬ (12 : Int32) = (6 : Int32))).2 (by decide) (by decide) k) ?_
  show Gl _ _ _ _ _ _ _ (s₁.setTop (mkF m 63 #[.val (.int (12 : Int32))] []))
  refine Gl.back (fun _ k => XS.iloadN X0.here hx rfl (hb hby d1_63) rfl k) ?_
  show Gl _ _ _ _ _ _ _ (s₁.setTop (mkF m 64 #[.val (.int (12 : Int32))] [(.int (12 : Int32))]))
  refine Gl.back (fun _ k => XS.bipush X0.here hx rfl (hb hby d1_64) k) ?_
  show Gl _ _ _ _ _ _ _ (s₁.setTop (mkF m 66 #[.val (.int (12 : Int32))] [(.int (7 : Int32)), (.int (12 : Int32))]))
  refine Gl.back (fun _ k => XS.icmpYes X0.here hx rfl (pc0 := 66) (pc' := 73) rfl (hb hby d1_66) rfl (feq (by decide : ¬ (12 : Int32) = (7 : Int32))).2 (by decide) (by decide) k) ?_
  show Gl _ _ _ _ _ _ _ (s₁.setTop (mkF m 73 #[.val (.int (12 : Int32))] []))
  refine Gl.back (fun _ k => XS.iloadN X0.here hx rfl (hb hby d1_73) rfl k) ?_
  show Gl _ _ _ _ _ _ _ (s₁.setTop (mkF m 74 #[.val (.int (12 : Int32))] [(.int (12 : Int32))]))
  refine Gl.back (fun _ k => XS.bipush X0.here hx rfl (hb hby d1_74) k) ?_
  show Gl _ _ _ _ _ _ _ (s₁.setTop (mkF m 76 #[.val (.int (12 : Int32))] [(.int (8 : Int32)), (.int (12 : Int32))]))
  refine Gl.back (fun _ k => XS.icmpYes X0.here hx rfl (pc0 := 76) (pc' := 83) rfl (hb hby d1_76) rfl (feq (by decide : ¬ (12 : Int32) = (8 : Int32))).2 (by decide) (by decide) k) ?_
  show Gl _ _ _ _ _ _ _ (s₁.setTop (mkF m 83 #[.val (.int (12 : Int32))] []))
  refine Gl.back (fun _ k => XS.iloadN X0.here hx rfl (hb hby d1_83) rfl k) ?_
  show Gl _ _ _ _ _ _ _ (s₁.setTop (mkF m 84 #[.val (.int (12 : Int32))] [(.int (12 : Int32))]))
  refine Gl.back (fun _ k => XS.bipush X0.here hx rfl (hb hby d1_84) k) ?_
  show Gl _ _ _ _ _ _ _ (s₁.setTop (mkF m 86 #[.val (.int (12 : Int32))] [(.int (9 : Int32)), (.int (12 : Int32))]))
  refine Gl.back (fun _ k => XS.icmpYes X0.here hx rfl (pc0 := 86) (pc' := 93) rfl (hb hby d1_86) rfl (feq (by decide : ¬ (12 : Int32) = (9 : Int32))).2 (by decide) (by decide) k) ?_
  show Gl _ _ _ _ _ _ _ (s₁.setTop (mkF m 93 #[.val (.int (12 : Int32))] []))
  refine Gl.back (fun _ k => XS.iloadN X0.here hx rfl (hb hby d1_93) rfl k) ?_
  show Gl _ _ _ _ _ _ _ (s₁.setTop (mkF m 94 #[.val (.int (12 : Int32))] [(.int (12 : Int32))]))
  refine Gl.back (fun _ k => XS.bipush X0.here hx rfl (hb hby d1_94) k) ?_
  show Gl _ _ _ _ _ _ _ (s₁.setTop (mkF m 96 #[.val (.int (12 : Int32))] [(.int (10 : Int32)), (.int (12 : Int32))]))
  refine Gl.back (fun _ k => XS.icmpYes X0.here hx rfl (pc0 := 96) (pc' := 103) rfl (hb hby d1_96) rfl (feq (by decide : ¬ (12 : Int32) = (10 : Int32))).2 (by decide) (by decide) k) ?_
  show Gl _ _ _ _ _ _ _ (s₁.setTop (mkF m 103 #[.val (.int (12 : Int32))] []))
  refine Gl.back (fun _ k => XS.iloadN X0.here hx rfl (hb hby d1_103) rfl k) ?_
  show Gl _ _ _ _ _ _ _ (s₁.setTop (mkF m 104 #[.val (.int (12 : Int32))] [(.int (12 : Int32))]))
  refine Gl.back (fun _ k => XS.bipush X0.here hx rfl (hb hby d1_104) k) ?_
  show Gl _ _ _ _ _ _ _ (s₁.setTop (mkF m 106 #[.val (.int (12 : Int32))] [(.int (11 : Int32)), (.int (12 : Int32))]))
  refine Gl.back (fun _ k => XS.icmpYes X0.here hx rfl (pc0 := 106) (pc' := 113) rfl (hb hby d1_106) rfl (feq (by decide : ¬ (12 : Int32) = (11 : Int32))).2 (by decide) (by decide) k) ?_
  show Gl _ _ _ _ _ _ _ (s₁.setTop (mkF m 113 #[.val (.int (12 : Int32))] []))
  refine Gl.back (fun _ k => XS.iloadN X0.here hx rfl (hb hby d1_113) rfl k) ?_
  show Gl _ _ _ _ _ _ _ (s₁.setTop (mkF m 114 #[.val (.int (12 : Int32))] [(.int (12 : Int32))]))
  refine Gl.back (fun _ k => XS.bipush X0.here hx rfl (hb hby d1_114) k) ?_
  show Gl _ _ _ _ _ _ _ (s₁.setTop (mkF m 116 #[.val (.int (12 : Int32))] [(.int (12 : Int32)), (.int (12 : Int32))]))
  refine Gl.back (fun _ k => XS.icmpNo X0.here hx rfl (hb hby d1_116) rfl (teq (by decide : (12 : Int32) = (12 : Int32))).2 k) ?_
  show Gl _ _ _ _ _ _ _ (s₁.setTop (mkF m 119 #[.val (.int (12 : Int32))] []))
  obtain ⟨T13, X13, e13, st13⟩ := getS2 X0 hx hZ hown (host := "") (Or.inl (hw _ (List.mem_of_getElem? (i := 61) rfl))) Via.refl e0 S (g := (mkF m 119 #[.val (.int (12 : Int32))] [])) rfl (hb hby d1_119)
  refine Gl.back (fun _ k => st13 _ k) ?_
  show Gl _ _ _ _ _ _ _ (T13.setTop (mkF m 122 #[.val (.int (12 : Int32))] [(.ref w)]))
  exact Gl.ret X13 e13 (v := (some (.ref w))) (fun h => by rw [Bd.returns] at h; cases h) Bd.notSynchronized (fun fs hr => retOut X13 hx (w := (.ref w)) Bd.returns rfl (Or.inr (Or.inr (Or.inr (Or.inr ⟨rfl, rfl, rfl⟩)))) (hb hby d1_122) hr) ⟨N0, rfl, rfl⟩ (by decide) (by decide)
theorem d1_123 : decode method_2_code 123 = .ok (.iload_n 0, 1) := by decide +kernel
theorem d1_124 : decode method_2_code 124 = .ok (.bipush 13, 2) := by decide +kernel
theorem d1_126 : decode method_2_code 126 = .ok (.if_icmp .ne 7, 3) := by decide +kernel
theorem d1_129 : decode method_2_code 129 = .ok (.getstatic 49, 3) := by decide +kernel
theorem d1_132 : decode method_2_code 132 = .ok (.areturn, 1) := by decide +kernel
theorem ef_1_CONTAINING (m : MethodId)  : entryFrame m #[(.int (13 : Int32))] 1 = mkF m 0 #[.val (.int (13 : Int32))] [] := by first | (simp [entryFrame, mkF, argsToLocals, Value.category]; done) | rfl
def Q1_CONTAINING (Z : State) (w : Addr) (h0 : Heap) (n0 : Nat) (v : Option Value) (h : Heap) (L : List Loc) : Prop := Fr n0 L ∧ (v = some (.ref w) ∧ h = h0)
set_option maxRecDepth 65536 in
set_option maxHeartbeats 40000000 in
theorem rm1_CONTAINING (l : Launch) (Z : State) (a0 : Array Value) (hw : ∀ d ∈ tables_1, d.before a0 Z = true) (ws : List Jvm.Cond) (w : Addr) (h0 : Heap) (n0 : Nat) (Z0 : n0 ≤ h0.size) (S : Sta Z h0 "com/example/demi_orm/demiorm/query/Operator" "CONTAINING" "Lcom/example/demi_orm/demiorm/query/Operator;" (.ref w)) :
    MetFree l (⟨"com/example/demi_orm/demiorm/query/OperatorTakesCollectionPinLaw", "pick", "(I)Lcom/example/demi_orm/demiorm/query/Operator;"⟩ : MethodName) (head1 (Jvm.Cond.code (⟨"com/example/demi_orm/demiorm/query/OperatorTakesCollectionPinLaw", "pick", "(I)Lcom/example/demi_orm/demiorm/query/Operator;"⟩ : MethodName) method_2_code 1 (some (.object "com/example/demi_orm/demiorm/query/Operator")) :: ws) ({ frames := 0, cells := 0, slots := 0, locals := 0 } : Room)) (fun as0 U => as0 = #[(.int (13 : Int32))] ∧ Z.Warmed39 U.vm ∧ U.heap = h0) (fun _ _ _ _ _ => True) (fun _ U o U' => ∃ v L, o = .returned v ∧ Q1_CONTAINING Z w h0 n0 v U'.heap L ∧ FrameEnd U o U' L ({ frames := 0, cells := 0, slots := 0, locals := 0 } : Room).cells ({ frames := 0, cells := 0, slots := 0, locals := 0 } : Room).slots) := by
  refine MetFree.of_bodySF (plainFor_of_name pn_com_example_demi_orm_demiorm_query_OperatorTakesCollectionPinLaw) hisR ?_
  intro p e s m args below meth c s₁ Bd hml0 hP hK
  obtain ⟨rfl, hZ, hh⟩ := hP
  have hx := Bd.exec
  have hby := Bd.bytes
  have hml : c.maxLocals = 1 := hml0
  have hown : s.vm.findClass "com/example/demi_orm/demiorm/query/OperatorTakesCollectionPinLaw" = some m.cls := findClass_of_methodNamed Bd.named
  have hnm := (name_of_methodNamed Bd.named Bd.method).1
  have X0 : Stand p l e ({ frames := 0, cells := 0, slots := 0, locals := 0 } : Room) s m #[(.int (13 : Int32))] below meth c s₁ [] 0 0 := Stand.of_body Bd
  have e0 : s₁.heap = h0 := by rw [← hh, Bd.state]; rfl
  have N0 := Fr.nil n0
  show Gl p e below s (Q1_CONTAINING Z w h0 n0) ({ frames := 0, cells := 0, slots := 0, locals := 0 } : Room).cells ({ frames := 0, cells := 0, slots := 0, locals := 0 } : Room).slots (s₁.setTop (entryFrame m #[(.int (13 : Int32))] 1))
  refine Gl.back (fun _ k => castTop (ef_1_CONTAINING m ) k) ?_
  show Gl _ _ _ _ _ _ _ (s₁.setTop (mkF m 0 #[.val (.int (13 : Int32))] []))
  refine Gl.back (fun _ k => XS.iloadN X0.here hx rfl (hb hby d1_0) rfl k) ?_
  show Gl _ _ _ _ _ _ _ (s₁.setTop (mkF m 1 #[.val (.int (13 : Int32))] [(.int (13 : Int32))]))
  refine Gl.back (fun _ k => XS.ifYes X0.here hx rfl (pc0 := 1) (pc' := 8) rfl (hb hby d1_1) rfl ((if0 _ _).trans (feq (by decide : ¬ (13 : Int32) = (0 : Int32))).2) (by decide) (by decide) k) ?_
  show Gl _ _ _ _ _ _ _ (s₁.setTop (mkF m 8 #[.val (.int (13 : Int32))] []))
  refine Gl.back (fun _ k => XS.iloadN X0.here hx rfl (hb hby d1_8) rfl k) ?_
  show Gl _ _ _ _ _ _ _ (s₁.setTop (mkF m 9 #[.val (.int (13 : Int32))] [(.int (13 : Int32))]))
  refine Gl.back (fun _ k => XS.iconst X0.here hx rfl (hb hby d1_9) k) ?_
  show Gl _ _ _ _ _ _ _ (s₁.setTop (mkF m 10 #[.val (.int (13 : Int32))] [(.int (1 : Int32)), (.int (13 : Int32))]))
  refine Gl.back (fun _ k => XS.icmpYes X0.here hx rfl (pc0 := 10) (pc' := 17) rfl (hb hby d1_10) rfl (feq (by decide : ¬ (13 : Int32) = (1 : Int32))).2 (by decide) (by decide) k) ?_
  show Gl _ _ _ _ _ _ _ (s₁.setTop (mkF m 17 #[.val (.int (13 : Int32))] []))
  refine Gl.back (fun _ k => XS.iloadN X0.here hx rfl (hb hby d1_17) rfl k) ?_
  show Gl _ _ _ _ _ _ _ (s₁.setTop (mkF m 18 #[.val (.int (13 : Int32))] [(.int (13 : Int32))]))
  refine Gl.back (fun _ k => XS.iconst X0.here hx rfl (hb hby d1_18) k) ?_
  show Gl _ _ _ _ _ _ _ (s₁.setTop (mkF m 19 #[.val (.int (13 : Int32))] [(.int (2 : Int32)), (.int (13 : Int32))]))
  refine Gl.back (fun _ k => XS.icmpYes X0.here hx rfl (pc0 := 19) (pc' := 26) rfl (hb hby d1_19) rfl (feq (by decide : ¬ (13 : Int32) = (2 : Int32))).2 (by decide) (by decide) k) ?_
  show Gl _ _ _ _ _ _ _ (s₁.setTop (mkF m 26 #[.val (.int (13 : Int32))] []))
  refine Gl.back (fun _ k => XS.iloadN X0.here hx rfl (hb hby d1_26) rfl k) ?_
  show Gl _ _ _ _ _ _ _ (s₁.setTop (mkF m 27 #[.val (.int (13 : Int32))] [(.int (13 : Int32))]))
  refine Gl.back (fun _ k => XS.iconst X0.here hx rfl (hb hby d1_27) k) ?_
  show Gl _ _ _ _ _ _ _ (s₁.setTop (mkF m 28 #[.val (.int (13 : Int32))] [(.int (3 : Int32)), (.int (13 : Int32))]))
  refine Gl.back (fun _ k => XS.icmpYes X0.here hx rfl (pc0 := 28) (pc' := 35) rfl (hb hby d1_28) rfl (feq (by decide : ¬ (13 : Int32) = (3 : Int32))).2 (by decide) (by decide) k) ?_
  show Gl _ _ _ _ _ _ _ (s₁.setTop (mkF m 35 #[.val (.int (13 : Int32))] []))
  refine Gl.back (fun _ k => XS.iloadN X0.here hx rfl (hb hby d1_35) rfl k) ?_
  show Gl _ _ _ _ _ _ _ (s₁.setTop (mkF m 36 #[.val (.int (13 : Int32))] [(.int (13 : Int32))]))
  refine Gl.back (fun _ k => XS.iconst X0.here hx rfl (hb hby d1_36) k) ?_
  show Gl _ _ _ _ _ _ _ (s₁.setTop (mkF m 37 #[.val (.int (13 : Int32))] [(.int (4 : Int32)), (.int (13 : Int32))]))
  refine Gl.back (fun _ k => XS.icmpYes X0.here hx rfl (pc0 := 37) (pc' := 44) rfl (hb hby d1_37) rfl (feq (by decide : ¬ (13 : Int32) = (4 : Int32))).2 (by decide) (by decide) k) ?_
  show Gl _ _ _ _ _ _ _ (s₁.setTop (mkF m 44 #[.val (.int (13 : Int32))] []))
  refine Gl.back (fun _ k => XS.iloadN X0.here hx rfl (hb hby d1_44) rfl k) ?_
  show Gl _ _ _ _ _ _ _ (s₁.setTop (mkF m 45 #[.val (.int (13 : Int32))] [(.int (13 : Int32))]))
  refine Gl.back (fun _ k => XS.iconst X0.here hx rfl (hb hby d1_45) k) ?_
  show Gl _ _ _ _ _ _ _ (s₁.setTop (mkF m 46 #[.val (.int (13 : Int32))] [(.int (5 : Int32)), (.int (13 : Int32))]))
  refine Gl.back (fun _ k => XS.icmpYes X0.here hx rfl (pc0 := 46) (pc' := 53) rfl (hb hby d1_46) rfl (feq (by decide : ¬ (13 : Int32) = (5 : Int32))).2 (by decide) (by decide) k) ?_
  show Gl _ _ _ _ _ _ _ (s₁.setTop (mkF m 53 #[.val (.int (13 : Int32))] []))
  refine Gl.back (fun _ k => XS.iloadN X0.here hx rfl (hb hby d1_53) rfl k) ?_
  show Gl _ _ _ _ _ _ _ (s₁.setTop (mkF m 54 #[.val (.int (13 : Int32))] [(.int (13 : Int32))]))
  refine Gl.back (fun _ k => XS.bipush X0.here hx rfl (hb hby d1_54) k) ?_
  show Gl _ _ _ _ _ _ _ (s₁.setTop (mkF m 56 #[.val (.int (13 : Int32))] [(.int (6 : Int32)), (.int (13 : Int32))]))
  refine Gl.back (fun _ k => XS.icmpYes X0.here hx rfl (pc0 := 56) (pc' := 63) rfl (hb hby d1_56) rfl (feq (by decide : ¬ (13 : Int32) = (6 : Int32))).2 (by decide) (by decide) k) ?_
  show Gl _ _ _ _ _ _ _ (s₁.setTop (mkF m 63 #[.val (.int (13 : Int32))] []))
  refine Gl.back (fun _ k => XS.iloadN X0.here hx rfl (hb hby d1_63) rfl k) ?_
  show Gl _ _ _ _ _ _ _ (s₁.setTop (mkF m 64 #[.val (.int (13 : Int32))] [(.int (13 : Int32))]))
  refine Gl.back (fun _ k => XS.bipush X0.here hx rfl (hb hby d1_64) k) ?_
  show Gl _ _ _ _ _ _ _ (s₁.setTop (mkF m 66 #[.val (.int (13 : Int32))] [(.int (7 : Int32)), (.int (13 : Int32))]))
  refine Gl.back (fun _ k => XS.icmpYes X0.here hx rfl (pc0 := 66) (pc' := 73) rfl (hb hby d1_66) rfl (feq (by decide : ¬ (13 : Int32) = (7 : Int32))).2 (by decide) (by decide) k) ?_
  show Gl _ _ _ _ _ _ _ (s₁.setTop (mkF m 73 #[.val (.int (13 : Int32))] []))
  refine Gl.back (fun _ k => XS.iloadN X0.here hx rfl (hb hby d1_73) rfl k) ?_
  show Gl _ _ _ _ _ _ _ (s₁.setTop (mkF m 74 #[.val (.int (13 : Int32))] [(.int (13 : Int32))]))
  refine Gl.back (fun _ k => XS.bipush X0.here hx rfl (hb hby d1_74) k) ?_
  show Gl _ _ _ _ _ _ _ (s₁.setTop (mkF m 76 #[.val (.int (13 : Int32))] [(.int (8 : Int32)), (.int (13 : Int32))]))
  refine Gl.back (fun _ k => XS.icmpYes X0.here hx rfl (pc0 := 76) (pc' := 83) rfl (hb hby d1_76) rfl (feq (by decide : ¬ (13 : Int32) = (8 : Int32))).2 (by decide) (by decide) k) ?_
  show Gl _ _ _ _ _ _ _ (s₁.setTop (mkF m 83 #[.val (.int (13 : Int32))] []))
  refine Gl.back (fun _ k => XS.iloadN X0.here hx rfl (hb hby d1_83) rfl k) ?_
  show Gl _ _ _ _ _ _ _ (s₁.setTop (mkF m 84 #[.val (.int (13 : Int32))] [(.int (13 : Int32))]))
  refine Gl.back (fun _ k => XS.bipush X0.here hx rfl (hb hby d1_84) k) ?_
  show Gl _ _ _ _ _ _ _ (s₁.setTop (mkF m 86 #[.val (.int (13 : Int32))] [(.int (9 : Int32)), (.int (13 : Int32))]))
  refine Gl.back (fun _ k => XS.icmpYes X0.here hx rfl (pc0 := 86) (pc' := 93) rfl (hb hby d1_86) rfl (feq (by decide : ¬ (13 : Int32) = (9 : Int32))).2 (by decide) (by decide) k) ?_
  show Gl _ _ _ _ _ _ _ (s₁.setTop (mkF m 93 #[.val (.int (13 : Int32))] []))
  refine Gl.back (fun _ k => XS.iloadN X0.here hx rfl (hb hby d1_93) rfl k) ?_
  show Gl _ _ _ _ _ _ _ (s₁.setTop (mkF m 94 #[.val (.int (13 : Int32))] [(.int (13 : Int32))]))
  refine Gl.back (fun _ k => XS.bipush X0.here hx rfl (hb hby d1_94) k) ?_
  show Gl _ _ _ _ _ _ _ (s₁.setTop (mkF m 96 #[.val (.int (13 : Int32))] [(.int (10 : Int32)), (.int (13 : Int32))]))
  refine Gl.back (fun _ k => XS.icmpYes X0.here hx rfl (pc0 := 96) (pc' := 103) rfl (hb hby d1_96) rfl (feq (by decide : ¬ (13 : Int32) = (10 : Int32))).2 (by decide) (by decide) k) ?_
  show Gl _ _ _ _ _ _ _ (s₁.setTop (mkF m 103 #[.val (.int (13 : Int32))] []))
  refine Gl.back (fun _ k => XS.iloadN X0.here hx rfl (hb hby d1_103) rfl k) ?_
  show Gl _ _ _ _ _ _ _ (s₁.setTop (mkF m 104 #[.val (.int (13 : Int32))] [(.int (13 : Int32))]))
  refine Gl.back (fun _ k => XS.bipush X0.here hx rfl (hb hby d1_104) k) ?_
  show Gl _ _ _ _ _ _ _ (s₁.setTop (mkF m 106 #[.val (.int (13 : Int32))] [(.int (11 : Int32)), (.int (13 : Int32))]))
  refine Gl.back (fun _ k => XS.icmpYes X0.here hx rfl (pc0 := 106) (pc' := 113) rfl (hb hby d1_106) rfl (feq (by decide : ¬ (13 : Int32) = (11 : Int32))).2 (by decide) (by decide) k) ?_
  show Gl _ _ _ _ _ _ _ (s₁.setTop (mkF m 113 #[.val (.int (13 : Int32))] []))
  refine Gl.back (fun _ k => XS.iloadN X0.here hx rfl (hb hby d1_113) rfl k) ?_
  show Gl _ _ _ _ _ _ _ (s₁.setTop (mkF m 114 #[.val (.int (13 : Int32))] [(.int (13 : Int32))]))
  refine Gl.back (fun _ k => XS.bipush X0.here hx rfl (hb hby d1_114) k) ?_
  show Gl _ _ _ _ _ _ _ (s₁.setTop (mkF m 116 #[.val (.int (13 : Int32))] [(.int (12 : Int32)), (.int (13 : Int32))]))
  refine Gl.back (fun _ k => XS.icmpYes X0.here hx rfl (pc0 := 116) (pc' := 123) rfl (hb hby d1_116) rfl (feq (by decide : ¬ (13 : Int32) = (12 : Int32))).2 (by decide) (by decide) k) ?_
  show Gl _ _ _ _ _ _ _ (s₁.setTop (mkF m 123 #[.val (.int (13 : Int32))] []))
  refine Gl.back (fun _ k => XS.iloadN X0.here hx rfl (hb hby d1_123) rfl k) ?_
  show Gl _ _ _ _ _ _ _ (s₁.setTop (mkF m 124 #[.val (.int (13 : Int32))] [(.int (13 : Int32))]))
  refine Gl.back (fun _ k => XS.bipush X0.here hx rfl (hb hby d1_124) k) ?_
  show Gl _ _ _ _ _ _ _ (s₁.setTop (mkF m 126 #[.val (.int (13 : Int32))] [(.int (13 : Int32)), (.int (13 : Int32))]))
  refine Gl.back (fun _ k => XS.icmpNo X0.here hx rfl (hb hby d1_126) rfl (teq (by decide : (13 : Int32) = (13 : Int32))).2 k) ?_
  show Gl _ _ _ _ _ _ _ (s₁.setTop (mkF m 129 #[.val (.int (13 : Int32))] []))
  obtain ⟨T14, X14, e14, st14⟩ := getS2 X0 hx hZ hown (host := "") (Or.inl (hw _ (List.mem_of_getElem? (i := 62) rfl))) Via.refl e0 S (g := (mkF m 129 #[.val (.int (13 : Int32))] [])) rfl (hb hby d1_129)
  refine Gl.back (fun _ k => st14 _ k) ?_
  show Gl _ _ _ _ _ _ _ (T14.setTop (mkF m 132 #[.val (.int (13 : Int32))] [(.ref w)]))
  exact Gl.ret X14 e14 (v := (some (.ref w))) (fun h => by rw [Bd.returns] at h; cases h) Bd.notSynchronized (fun fs hr => retOut X14 hx (w := (.ref w)) Bd.returns rfl (Or.inr (Or.inr (Or.inr (Or.inr ⟨rfl, rfl, rfl⟩)))) (hb hby d1_132) hr) ⟨N0, rfl, rfl⟩ (by decide) (by decide)
theorem d1_133 : decode method_2_code 133 = .ok (.iload_n 0, 1) := by decide +kernel
theorem d1_134 : decode method_2_code 134 = .ok (.bipush 14, 2) := by decide +kernel
theorem d1_136 : decode method_2_code 136 = .ok (.if_icmp .ne 7, 3) := by decide +kernel
theorem d1_139 : decode method_2_code 139 = .ok (.getstatic 52, 3) := by decide +kernel
theorem d1_142 : decode method_2_code 142 = .ok (.areturn, 1) := by decide +kernel
theorem ef_1_IN (m : MethodId)  : entryFrame m #[(.int (14 : Int32))] 1 = mkF m 0 #[.val (.int (14 : Int32))] [] := by first | (simp [entryFrame, mkF, argsToLocals, Value.category]; done) | rfl
def Q1_IN (Z : State) (w : Addr) (h0 : Heap) (n0 : Nat) (v : Option Value) (h : Heap) (L : List Loc) : Prop := Fr n0 L ∧ (v = some (.ref w) ∧ h = h0)
set_option maxRecDepth 65536 in
set_option maxHeartbeats 40000000 in
theorem rm1_IN (l : Launch) (Z : State) (a0 : Array Value) (hw : ∀ d ∈ tables_1, d.before a0 Z = true) (ws : List Jvm.Cond) (w : Addr) (h0 : Heap) (n0 : Nat) (Z0 : n0 ≤ h0.size) (S : Sta Z h0 "com/example/demi_orm/demiorm/query/Operator" "IN" "Lcom/example/demi_orm/demiorm/query/Operator;" (.ref w)) :
    MetFree l (⟨"com/example/demi_orm/demiorm/query/OperatorTakesCollectionPinLaw", "pick", "(I)Lcom/example/demi_orm/demiorm/query/Operator;"⟩ : MethodName) (head1 (Jvm.Cond.code (⟨"com/example/demi_orm/demiorm/query/OperatorTakesCollectionPinLaw", "pick", "(I)Lcom/example/demi_orm/demiorm/query/Operator;"⟩ : MethodName) method_2_code 1 (some (.object "com/example/demi_orm/demiorm/query/Operator")) :: ws) ({ frames := 0, cells := 0, slots := 0, locals := 0 } : Room)) (fun as0 U => as0 = #[(.int (14 : Int32))] ∧ Z.Warmed39 U.vm ∧ U.heap = h0) (fun _ _ _ _ _ => True) (fun _ U o U' => ∃ v L, o = .returned v ∧ Q1_IN Z w h0 n0 v U'.heap L ∧ FrameEnd U o U' L ({ frames := 0, cells := 0, slots := 0, locals := 0 } : Room).cells ({ frames := 0, cells := 0, slots := 0, locals := 0 } : Room).slots) := by
  refine MetFree.of_bodySF (plainFor_of_name pn_com_example_demi_orm_demiorm_query_OperatorTakesCollectionPinLaw) hisR ?_
  intro p e s m args below meth c s₁ Bd hml0 hP hK
  obtain ⟨rfl, hZ, hh⟩ := hP
  have hx := Bd.exec
  have hby := Bd.bytes
  have hml : c.maxLocals = 1 := hml0
  have hown : s.vm.findClass "com/example/demi_orm/demiorm/query/OperatorTakesCollectionPinLaw" = some m.cls := findClass_of_methodNamed Bd.named
  have hnm := (name_of_methodNamed Bd.named Bd.method).1
  have X0 : Stand p l e ({ frames := 0, cells := 0, slots := 0, locals := 0 } : Room) s m #[(.int (14 : Int32))] below meth c s₁ [] 0 0 := Stand.of_body Bd
  have e0 : s₁.heap = h0 := by rw [← hh, Bd.state]; rfl
  have N0 := Fr.nil n0
  show Gl p e below s (Q1_IN Z w h0 n0) ({ frames := 0, cells := 0, slots := 0, locals := 0 } : Room).cells ({ frames := 0, cells := 0, slots := 0, locals := 0 } : Room).slots (s₁.setTop (entryFrame m #[(.int (14 : Int32))] 1))
  refine Gl.back (fun _ k => castTop (ef_1_IN m ) k) ?_
  show Gl _ _ _ _ _ _ _ (s₁.setTop (mkF m 0 #[.val (.int (14 : Int32))] []))
  refine Gl.back (fun _ k => XS.iloadN X0.here hx rfl (hb hby d1_0) rfl k) ?_
  show Gl _ _ _ _ _ _ _ (s₁.setTop (mkF m 1 #[.val (.int (14 : Int32))] [(.int (14 : Int32))]))
  refine Gl.back (fun _ k => XS.ifYes X0.here hx rfl (pc0 := 1) (pc' := 8) rfl (hb hby d1_1) rfl ((if0 _ _).trans (feq (by decide : ¬ (14 : Int32) = (0 : Int32))).2) (by decide) (by decide) k) ?_
  show Gl _ _ _ _ _ _ _ (s₁.setTop (mkF m 8 #[.val (.int (14 : Int32))] []))
  refine Gl.back (fun _ k => XS.iloadN X0.here hx rfl (hb hby d1_8) rfl k) ?_
  show Gl _ _ _ _ _ _ _ (s₁.setTop (mkF m 9 #[.val (.int (14 : Int32))] [(.int (14 : Int32))]))
  refine Gl.back (fun _ k => XS.iconst X0.here hx rfl (hb hby d1_9) k) ?_
  show Gl _ _ _ _ _ _ _ (s₁.setTop (mkF m 10 #[.val (.int (14 : Int32))] [(.int (1 : Int32)), (.int (14 : Int32))]))
  refine Gl.back (fun _ k => XS.icmpYes X0.here hx rfl (pc0 := 10) (pc' := 17) rfl (hb hby d1_10) rfl (feq (by decide : ¬ (14 : Int32) = (1 : Int32))).2 (by decide) (by decide) k) ?_
  show Gl _ _ _ _ _ _ _ (s₁.setTop (mkF m 17 #[.val (.int (14 : Int32))] []))
  refine Gl.back (fun _ k => XS.iloadN X0.here hx rfl (hb hby d1_17) rfl k) ?_
  show Gl _ _ _ _ _ _ _ (s₁.setTop (mkF m 18 #[.val (.int (14 : Int32))] [(.int (14 : Int32))]))
  refine Gl.back (fun _ k => XS.iconst X0.here hx rfl (hb hby d1_18) k) ?_
  show Gl _ _ _ _ _ _ _ (s₁.setTop (mkF m 19 #[.val (.int (14 : Int32))] [(.int (2 : Int32)), (.int (14 : Int32))]))
  refine Gl.back (fun _ k => XS.icmpYes X0.here hx rfl (pc0 := 19) (pc' := 26) rfl (hb hby d1_19) rfl (feq (by decide : ¬ (14 : Int32) = (2 : Int32))).2 (by decide) (by decide) k) ?_
  show Gl _ _ _ _ _ _ _ (s₁.setTop (mkF m 26 #[.val (.int (14 : Int32))] []))
  refine Gl.back (fun _ k => XS.iloadN X0.here hx rfl (hb hby d1_26) rfl k) ?_
  show Gl _ _ _ _ _ _ _ (s₁.setTop (mkF m 27 #[.val (.int (14 : Int32))] [(.int (14 : Int32))]))
  refine Gl.back (fun _ k => XS.iconst X0.here hx rfl (hb hby d1_27) k) ?_
  show Gl _ _ _ _ _ _ _ (s₁.setTop (mkF m 28 #[.val (.int (14 : Int32))] [(.int (3 : Int32)), (.int (14 : Int32))]))
  refine Gl.back (fun _ k => XS.icmpYes X0.here hx rfl (pc0 := 28) (pc' := 35) rfl (hb hby d1_28) rfl (feq (by decide : ¬ (14 : Int32) = (3 : Int32))).2 (by decide) (by decide) k) ?_
  show Gl _ _ _ _ _ _ _ (s₁.setTop (mkF m 35 #[.val (.int (14 : Int32))] []))
  refine Gl.back (fun _ k => XS.iloadN X0.here hx rfl (hb hby d1_35) rfl k) ?_
  show Gl _ _ _ _ _ _ _ (s₁.setTop (mkF m 36 #[.val (.int (14 : Int32))] [(.int (14 : Int32))]))
  refine Gl.back (fun _ k => XS.iconst X0.here hx rfl (hb hby d1_36) k) ?_
  show Gl _ _ _ _ _ _ _ (s₁.setTop (mkF m 37 #[.val (.int (14 : Int32))] [(.int (4 : Int32)), (.int (14 : Int32))]))
  refine Gl.back (fun _ k => XS.icmpYes X0.here hx rfl (pc0 := 37) (pc' := 44) rfl (hb hby d1_37) rfl (feq (by decide : ¬ (14 : Int32) = (4 : Int32))).2 (by decide) (by decide) k) ?_
  show Gl _ _ _ _ _ _ _ (s₁.setTop (mkF m 44 #[.val (.int (14 : Int32))] []))
  refine Gl.back (fun _ k => XS.iloadN X0.here hx rfl (hb hby d1_44) rfl k) ?_
  show Gl _ _ _ _ _ _ _ (s₁.setTop (mkF m 45 #[.val (.int (14 : Int32))] [(.int (14 : Int32))]))
  refine Gl.back (fun _ k => XS.iconst X0.here hx rfl (hb hby d1_45) k) ?_
  show Gl _ _ _ _ _ _ _ (s₁.setTop (mkF m 46 #[.val (.int (14 : Int32))] [(.int (5 : Int32)), (.int (14 : Int32))]))
  refine Gl.back (fun _ k => XS.icmpYes X0.here hx rfl (pc0 := 46) (pc' := 53) rfl (hb hby d1_46) rfl (feq (by decide : ¬ (14 : Int32) = (5 : Int32))).2 (by decide) (by decide) k) ?_
  show Gl _ _ _ _ _ _ _ (s₁.setTop (mkF m 53 #[.val (.int (14 : Int32))] []))
  refine Gl.back (fun _ k => XS.iloadN X0.here hx rfl (hb hby d1_53) rfl k) ?_
  show Gl _ _ _ _ _ _ _ (s₁.setTop (mkF m 54 #[.val (.int (14 : Int32))] [(.int (14 : Int32))]))
  refine Gl.back (fun _ k => XS.bipush X0.here hx rfl (hb hby d1_54) k) ?_
  show Gl _ _ _ _ _ _ _ (s₁.setTop (mkF m 56 #[.val (.int (14 : Int32))] [(.int (6 : Int32)), (.int (14 : Int32))]))
  refine Gl.back (fun _ k => XS.icmpYes X0.here hx rfl (pc0 := 56) (pc' := 63) rfl (hb hby d1_56) rfl (feq (by decide : ¬ (14 : Int32) = (6 : Int32))).2 (by decide) (by decide) k) ?_
  show Gl _ _ _ _ _ _ _ (s₁.setTop (mkF m 63 #[.val (.int (14 : Int32))] []))
  refine Gl.back (fun _ k => XS.iloadN X0.here hx rfl (hb hby d1_63) rfl k) ?_
  show Gl _ _ _ _ _ _ _ (s₁.setTop (mkF m 64 #[.val (.int (14 : Int32))] [(.int (14 : Int32))]))
  refine Gl.back (fun _ k => XS.bipush X0.here hx rfl (hb hby d1_64) k) ?_
  show Gl _ _ _ _ _ _ _ (s₁.setTop (mkF m 66 #[.val (.int (14 : Int32))] [(.int (7 : Int32)), (.int (14 : Int32))]))
  refine Gl.back (fun _ k => XS.icmpYes X0.here hx rfl (pc0 := 66) (pc' := 73) rfl (hb hby d1_66) rfl (feq (by decide : ¬ (14 : Int32) = (7 : Int32))).2 (by decide) (by decide) k) ?_
  show Gl _ _ _ _ _ _ _ (s₁.setTop (mkF m 73 #[.val (.int (14 : Int32))] []))
  refine Gl.back (fun _ k => XS.iloadN X0.here hx rfl (hb hby d1_73) rfl k) ?_
  show Gl _ _ _ _ _ _ _ (s₁.setTop (mkF m 74 #[.val (.int (14 : Int32))] [(.int (14 : Int32))]))
  refine Gl.back (fun _ k => XS.bipush X0.here hx rfl (hb hby d1_74) k) ?_
  show Gl _ _ _ _ _ _ _ (s₁.setTop (mkF m 76 #[.val (.int (14 : Int32))] [(.int (8 : Int32)), (.int (14 : Int32))]))
  refine Gl.back (fun _ k => XS.icmpYes X0.here hx rfl (pc0 := 76) (pc' := 83) rfl (hb hby d1_76) rfl (feq (by decide : ¬ (14 : Int32) = (8 : Int32))).2 (by decide) (by decide) k) ?_
  show Gl _ _ _ _ _ _ _ (s₁.setTop (mkF m 83 #[.val (.int (14 : Int32))] []))
  refine Gl.back (fun _ k => XS.iloadN X0.here hx rfl (hb hby d1_83) rfl k) ?_
  show Gl _ _ _ _ _ _ _ (s₁.setTop (mkF m 84 #[.val (.int (14 : Int32))] [(.int (14 : Int32))]))
  refine Gl.back (fun _ k => XS.bipush X0.here hx rfl (hb hby d1_84) k) ?_
  show Gl _ _ _ _ _ _ _ (s₁.setTop (mkF m 86 #[.val (.int (14 : Int32))] [(.int (9 : Int32)), (.int (14 : Int32))]))
  refine Gl.back (fun _ k => XS.icmpYes X0.here hx rfl (pc0 := 86) (pc' := 93) rfl (hb hby d1_86) rfl (feq (by decide : ¬ (14 : Int32) = (9 : Int32))).2 (by decide) (by decide) k) ?_
  show Gl _ _ _ _ _ _ _ (s₁.setTop (mkF m 93 #[.val (.int (14 : Int32))] []))
  refine Gl.back (fun _ k => XS.iloadN X0.here hx rfl (hb hby d1_93) rfl k) ?_
  show Gl _ _ _ _ _ _ _ (s₁.setTop (mkF m 94 #[.val (.int (14 : Int32))] [(.int (14 : Int32))]))
  refine Gl.back (fun _ k => XS.bipush X0.here hx rfl (hb hby d1_94) k) ?_
  show Gl _ _ _ _ _ _ _ (s₁.setTop (mkF m 96 #[.val (.int (14 : Int32))] [(.int (10 : Int32)), (.int (14 : Int32))]))
  refine Gl.back (fun _ k => XS.icmpYes X0.here hx rfl (pc0 := 96) (pc' := 103) rfl (hb hby d1_96) rfl (feq (by decide : ¬ (14 : Int32) = (10 : Int32))).2 (by decide) (by decide) k) ?_
  show Gl _ _ _ _ _ _ _ (s₁.setTop (mkF m 103 #[.val (.int (14 : Int32))] []))
  refine Gl.back (fun _ k => XS.iloadN X0.here hx rfl (hb hby d1_103) rfl k) ?_
  show Gl _ _ _ _ _ _ _ (s₁.setTop (mkF m 104 #[.val (.int (14 : Int32))] [(.int (14 : Int32))]))
  refine Gl.back (fun _ k => XS.bipush X0.here hx rfl (hb hby d1_104) k) ?_
  show Gl _ _ _ _ _ _ _ (s₁.setTop (mkF m 106 #[.val (.int (14 : Int32))] [(.int (11 : Int32)), (.int (14 : Int32))]))
  refine Gl.back (fun _ k => XS.icmpYes X0.here hx rfl (pc0 := 106) (pc' := 113) rfl (hb hby d1_106) rfl (feq (by decide : ¬ (14 : Int32) = (11 : Int32))).2 (by decide) (by decide) k) ?_
  show Gl _ _ _ _ _ _ _ (s₁.setTop (mkF m 113 #[.val (.int (14 : Int32))] []))
  refine Gl.back (fun _ k => XS.iloadN X0.here hx rfl (hb hby d1_113) rfl k) ?_
  show Gl _ _ _ _ _ _ _ (s₁.setTop (mkF m 114 #[.val (.int (14 : Int32))] [(.int (14 : Int32))]))
  refine Gl.back (fun _ k => XS.bipush X0.here hx rfl (hb hby d1_114) k) ?_
  show Gl _ _ _ _ _ _ _ (s₁.setTop (mkF m 116 #[.val (.int (14 : Int32))] [(.int (12 : Int32)), (.int (14 : Int32))]))
  refine Gl.back (fun _ k => XS.icmpYes X0.here hx rfl (pc0 := 116) (pc' := 123) rfl (hb hby d1_116) rfl (feq (by decide : ¬ (14 : Int32) = (12 : Int32))).2 (by decide) (by decide) k) ?_
  show Gl _ _ _ _ _ _ _ (s₁.setTop (mkF m 123 #[.val (.int (14 : Int32))] []))
  refine Gl.back (fun _ k => XS.iloadN X0.here hx rfl (hb hby d1_123) rfl k) ?_
  show Gl _ _ _ _ _ _ _ (s₁.setTop (mkF m 124 #[.val (.int (14 : Int32))] [(.int (14 : Int32))]))
  refine Gl.back (fun _ k => XS.bipush X0.here hx rfl (hb hby d1_124) k) ?_
  show Gl _ _ _ _ _ _ _ (s₁.setTop (mkF m 126 #[.val (.int (14 : Int32))] [(.int (13 : Int32)), (.int (14 : Int32))]))
  refine Gl.back (fun _ k => XS.icmpYes X0.here hx rfl (pc0 := 126) (pc' := 133) rfl (hb hby d1_126) rfl (feq (by decide : ¬ (14 : Int32) = (13 : Int32))).2 (by decide) (by decide) k) ?_
  show Gl _ _ _ _ _ _ _ (s₁.setTop (mkF m 133 #[.val (.int (14 : Int32))] []))
  refine Gl.back (fun _ k => XS.iloadN X0.here hx rfl (hb hby d1_133) rfl k) ?_
  show Gl _ _ _ _ _ _ _ (s₁.setTop (mkF m 134 #[.val (.int (14 : Int32))] [(.int (14 : Int32))]))
  refine Gl.back (fun _ k => XS.bipush X0.here hx rfl (hb hby d1_134) k) ?_
  show Gl _ _ _ _ _ _ _ (s₁.setTop (mkF m 136 #[.val (.int (14 : Int32))] [(.int (14 : Int32)), (.int (14 : Int32))]))
  refine Gl.back (fun _ k => XS.icmpNo X0.here hx rfl (hb hby d1_136) rfl (teq (by decide : (14 : Int32) = (14 : Int32))).2 k) ?_
  show Gl _ _ _ _ _ _ _ (s₁.setTop (mkF m 139 #[.val (.int (14 : Int32))] []))
  obtain ⟨T15, X15, e15, st15⟩ := getS2 X0 hx hZ hown (host := "") (Or.inl (hw _ (List.mem_of_getElem? (i := 18) rfl))) Via.refl e0 S (g := (mkF m 139 #[.val (.int (14 : Int32))] [])) rfl (hb hby d1_139)
  refine Gl.back (fun _ k => st15 _ k) ?_
  show Gl _ _ _ _ _ _ _ (T15.setTop (mkF m 142 #[.val (.int (14 : Int32))] [(.ref w)]))
  exact Gl.ret X15 e15 (v := (some (.ref w))) (fun h => by rw [Bd.returns] at h; cases h) Bd.notSynchronized (fun fs hr => retOut X15 hx (w := (.ref w)) Bd.returns rfl (Or.inr (Or.inr (Or.inr (Or.inr ⟨rfl, rfl, rfl⟩)))) (hb hby d1_142) hr) ⟨N0, rfl, rfl⟩ (by decide) (by decide)
theorem d1_143 : decode method_2_code 143 = .ok (.getstatic 55, 3) := by decide +kernel
theorem d1_146 : decode method_2_code 146 = .ok (.areturn, 1) := by decide +kernel
theorem ef_1_NOT_IN (m : MethodId)  : entryFrame m #[(.int (15 : Int32))] 1 = mkF m 0 #[.val (.int (15 : Int32))] [] := by first | (simp [entryFrame, mkF, argsToLocals, Value.category]; done) | rfl
def Q1_NOT_IN (Z : State) (w : Addr) (h0 : Heap) (n0 : Nat) (v : Option Value) (h : Heap) (L : List Loc) : Prop := Fr n0 L ∧ (v = some (.ref w) ∧ h = h0)
set_option maxRecDepth 65536 in
set_option maxHeartbeats 40000000 in
theorem rm1_NOT_IN (l : Launch) (Z : State) (a0 : Array Value) (hw : ∀ d ∈ tables_1, d.before a0 Z = true) (ws : List Jvm.Cond) (w : Addr) (h0 : Heap) (n0 : Nat) (Z0 : n0 ≤ h0.size) (S : Sta Z h0 "com/example/demi_orm/demiorm/query/Operator" "NOT_IN" "Lcom/example/demi_orm/demiorm/query/Operator;" (.ref w)) :
    MetFree l (⟨"com/example/demi_orm/demiorm/query/OperatorTakesCollectionPinLaw", "pick", "(I)Lcom/example/demi_orm/demiorm/query/Operator;"⟩ : MethodName) (head1 (Jvm.Cond.code (⟨"com/example/demi_orm/demiorm/query/OperatorTakesCollectionPinLaw", "pick", "(I)Lcom/example/demi_orm/demiorm/query/Operator;"⟩ : MethodName) method_2_code 1 (some (.object "com/example/demi_orm/demiorm/query/Operator")) :: ws) ({ frames := 0, cells := 0, slots := 0, locals := 0 } : Room)) (fun as0 U => as0 = #[(.int (15 : Int32))] ∧ Z.Warmed39 U.vm ∧ U.heap = h0) (fun _ _ _ _ _ => True) (fun _ U o U' => ∃ v L, o = .returned v ∧ Q1_NOT_IN Z w h0 n0 v U'.heap L ∧ FrameEnd U o U' L ({ frames := 0, cells := 0, slots := 0, locals := 0 } : Room).cells ({ frames := 0, cells := 0, slots := 0, locals := 0 } : Room).slots) := by
  refine MetFree.of_bodySF (plainFor_of_name pn_com_example_demi_orm_demiorm_query_OperatorTakesCollectionPinLaw) hisR ?_
  intro p e s m args below meth c s₁ Bd hml0 hP hK
  obtain ⟨rfl, hZ, hh⟩ := hP
  have hx := Bd.exec
  have hby := Bd.bytes
  have hml : c.maxLocals = 1 := hml0
  have hown : s.vm.findClass "com/example/demi_orm/demiorm/query/OperatorTakesCollectionPinLaw" = some m.cls := findClass_of_methodNamed Bd.named
  have hnm := (name_of_methodNamed Bd.named Bd.method).1
  have X0 : Stand p l e ({ frames := 0, cells := 0, slots := 0, locals := 0 } : Room) s m #[(.int (15 : Int32))] below meth c s₁ [] 0 0 := Stand.of_body Bd
  have e0 : s₁.heap = h0 := by rw [← hh, Bd.state]; rfl
  have N0 := Fr.nil n0
  show Gl p e below s (Q1_NOT_IN Z w h0 n0) ({ frames := 0, cells := 0, slots := 0, locals := 0 } : Room).cells ({ frames := 0, cells := 0, slots := 0, locals := 0 } : Room).slots (s₁.setTop (entryFrame m #[(.int (15 : Int32))] 1))
  refine Gl.back (fun _ k => castTop (ef_1_NOT_IN m ) k) ?_
  show Gl _ _ _ _ _ _ _ (s₁.setTop (mkF m 0 #[.val (.int (15 : Int32))] []))
  refine Gl.back (fun _ k => XS.iloadN X0.here hx rfl (hb hby d1_0) rfl k) ?_
  show Gl _ _ _ _ _ _ _ (s₁.setTop (mkF m 1 #[.val (.int (15 : Int32))] [(.int (15 : Int32))]))
  refine Gl.back (fun _ k => XS.ifYes X0.here hx rfl (pc0 := 1) (pc' := 8) rfl (hb hby d1_1) rfl ((if0 _ _).trans (feq (by decide : ¬ (15 : Int32) = (0 : Int32))).2) (by decide) (by decide) k) ?_
  show Gl _ _ _ _ _ _ _ (s₁.setTop (mkF m 8 #[.val (.int (15 : Int32))] []))
  refine Gl.back (fun _ k => XS.iloadN X0.here hx rfl (hb hby d1_8) rfl k) ?_
  show Gl _ _ _ _ _ _ _ (s₁.setTop (mkF m 9 #[.val (.int (15 : Int32))] [(.int (15 : Int32))]))
  refine Gl.back (fun _ k => XS.iconst X0.here hx rfl (hb hby d1_9) k) ?_
  show Gl _ _ _ _ _ _ _ (s₁.setTop (mkF m 10 #[.val (.int (15 : Int32))] [(.int (1 : Int32)), (.int (15 : Int32))]))
  refine Gl.back (fun _ k => XS.icmpYes X0.here hx rfl (pc0 := 10) (pc' := 17) rfl (hb hby d1_10) rfl (feq (by decide : ¬ (15 : Int32) = (1 : Int32))).2 (by decide) (by decide) k) ?_
  show Gl _ _ _ _ _ _ _ (s₁.setTop (mkF m 17 #[.val (.int (15 : Int32))] []))
  refine Gl.back (fun _ k => XS.iloadN X0.here hx rfl (hb hby d1_17) rfl k) ?_
  show Gl _ _ _ _ _ _ _ (s₁.setTop (mkF m 18 #[.val (.int (15 : Int32))] [(.int (15 : Int32))]))
  refine Gl.back (fun _ k => XS.iconst X0.here hx rfl (hb hby d1_18) k) ?_
  show Gl _ _ _ _ _ _ _ (s₁.setTop (mkF m 19 #[.val (.int (15 : Int32))] [(.int (2 : Int32)), (.int (15 : Int32))]))
  refine Gl.back (fun _ k => XS.icmpYes X0.here hx rfl (pc0 := 19) (pc' := 26) rfl (hb hby d1_19) rfl (feq (by decide : ¬ (15 : Int32) = (2 : Int32))).2 (by decide) (by decide) k) ?_
  show Gl _ _ _ _ _ _ _ (s₁.setTop (mkF m 26 #[.val (.int (15 : Int32))] []))
  refine Gl.back (fun _ k => XS.iloadN X0.here hx rfl (hb hby d1_26) rfl k) ?_
  show Gl _ _ _ _ _ _ _ (s₁.setTop (mkF m 27 #[.val (.int (15 : Int32))] [(.int (15 : Int32))]))
  refine Gl.back (fun _ k => XS.iconst X0.here hx rfl (hb hby d1_27) k) ?_
  show Gl _ _ _ _ _ _ _ (s₁.setTop (mkF m 28 #[.val (.int (15 : Int32))] [(.int (3 : Int32)), (.int (15 : Int32))]))
  refine Gl.back (fun _ k => XS.icmpYes X0.here hx rfl (pc0 := 28) (pc' := 35) rfl (hb hby d1_28) rfl (feq (by decide : ¬ (15 : Int32) = (3 : Int32))).2 (by decide) (by decide) k) ?_
  show Gl _ _ _ _ _ _ _ (s₁.setTop (mkF m 35 #[.val (.int (15 : Int32))] []))
  refine Gl.back (fun _ k => XS.iloadN X0.here hx rfl (hb hby d1_35) rfl k) ?_
  show Gl _ _ _ _ _ _ _ (s₁.setTop (mkF m 36 #[.val (.int (15 : Int32))] [(.int (15 : Int32))]))
  refine Gl.back (fun _ k => XS.iconst X0.here hx rfl (hb hby d1_36) k) ?_
  show Gl _ _ _ _ _ _ _ (s₁.setTop (mkF m 37 #[.val (.int (15 : Int32))] [(.int (4 : Int32)), (.int (15 : Int32))]))
  refine Gl.back (fun _ k => XS.icmpYes X0.here hx rfl (pc0 := 37) (pc' := 44) rfl (hb hby d1_37) rfl (feq (by decide : ¬ (15 : Int32) = (4 : Int32))).2 (by decide) (by decide) k) ?_
  show Gl _ _ _ _ _ _ _ (s₁.setTop (mkF m 44 #[.val (.int (15 : Int32))] []))
  refine Gl.back (fun _ k => XS.iloadN X0.here hx rfl (hb hby d1_44) rfl k) ?_
  show Gl _ _ _ _ _ _ _ (s₁.setTop (mkF m 45 #[.val (.int (15 : Int32))] [(.int (15 : Int32))]))
  refine Gl.back (fun _ k => XS.iconst X0.here hx rfl (hb hby d1_45) k) ?_
  show Gl _ _ _ _ _ _ _ (s₁.setTop (mkF m 46 #[.val (.int (15 : Int32))] [(.int (5 : Int32)), (.int (15 : Int32))]))
  refine Gl.back (fun _ k => XS.icmpYes X0.here hx rfl (pc0 := 46) (pc' := 53) rfl (hb hby d1_46) rfl (feq (by decide : ¬ (15 : Int32) = (5 : Int32))).2 (by decide) (by decide) k) ?_
  show Gl _ _ _ _ _ _ _ (s₁.setTop (mkF m 53 #[.val (.int (15 : Int32))] []))
  refine Gl.back (fun _ k => XS.iloadN X0.here hx rfl (hb hby d1_53) rfl k) ?_
  show Gl _ _ _ _ _ _ _ (s₁.setTop (mkF m 54 #[.val (.int (15 : Int32))] [(.int (15 : Int32))]))
  refine Gl.back (fun _ k => XS.bipush X0.here hx rfl (hb hby d1_54) k) ?_
  show Gl _ _ _ _ _ _ _ (s₁.setTop (mkF m 56 #[.val (.int (15 : Int32))] [(.int (6 : Int32)), (.int (15 : Int32))]))
  refine Gl.back (fun _ k => XS.icmpYes X0.here hx rfl (pc0 := 56) (pc' := 63) rfl (hb hby d1_56) rfl (feq (by decide : ¬ (15 : Int32) = (6 : Int32))).2 (by decide) (by decide) k) ?_
  show Gl _ _ _ _ _ _ _ (s₁.setTop (mkF m 63 #[.val (.int (15 : Int32))] []))
  refine Gl.back (fun _ k => XS.iloadN X0.here hx rfl (hb hby d1_63) rfl k) ?_
  show Gl _ _ _ _ _ _ _ (s₁.setTop (mkF m 64 #[.val (.int (15 : Int32))] [(.int (15 : Int32))]))
  refine Gl.back (fun _ k => XS.bipush X0.here hx rfl (hb hby d1_64) k) ?_
  show Gl _ _ _ _ _ _ _ (s₁.setTop (mkF m 66 #[.val (.int (15 : Int32))] [(.int (7 : Int32)), (.int (15 : Int32))]))
  refine Gl.back (fun _ k => XS.icmpYes X0.here hx rfl (pc0 := 66) (pc' := 73) rfl (hb hby d1_66) rfl (feq (by decide : ¬ (15 : Int32) = (7 : Int32))).2 (by decide) (by decide) k) ?_
  show Gl _ _ _ _ _ _ _ (s₁.setTop (mkF m 73 #[.val (.int (15 : Int32))] []))
  refine Gl.back (fun _ k => XS.iloadN X0.here hx rfl (hb hby d1_73) rfl k) ?_
  show Gl _ _ _ _ _ _ _ (s₁.setTop (mkF m 74 #[.val (.int (15 : Int32))] [(.int (15 : Int32))]))
  refine Gl.back (fun _ k => XS.bipush X0.here hx rfl (hb hby d1_74) k) ?_
  show Gl _ _ _ _ _ _ _ (s₁.setTop (mkF m 76 #[.val (.int (15 : Int32))] [(.int (8 : Int32)), (.int (15 : Int32))]))
  refine Gl.back (fun _ k => XS.icmpYes X0.here hx rfl (pc0 := 76) (pc' := 83) rfl (hb hby d1_76) rfl (feq (by decide : ¬ (15 : Int32) = (8 : Int32))).2 (by decide) (by decide) k) ?_
  show Gl _ _ _ _ _ _ _ (s₁.setTop (mkF m 83 #[.val (.int (15 : Int32))] []))
  refine Gl.back (fun _ k => XS.iloadN X0.here hx rfl (hb hby d1_83) rfl k) ?_
  show Gl _ _ _ _ _ _ _ (s₁.setTop (mkF m 84 #[.val (.int (15 : Int32))] [(.int (15 : Int32))]))
  refine Gl.back (fun _ k => XS.bipush X0.here hx rfl (hb hby d1_84) k) ?_
  show Gl _ _ _ _ _ _ _ (s₁.setTop (mkF m 86 #[.val (.int (15 : Int32))] [(.int (9 : Int32)), (.int (15 : Int32))]))
  refine Gl.back (fun _ k => XS.icmpYes X0.here hx rfl (pc0 := 86) (pc' := 93) rfl (hb hby d1_86) rfl (feq (by decide : ¬ (15 : Int32) = (9 : Int32))).2 (by decide) (by decide) k) ?_
  show Gl _ _ _ _ _ _ _ (s₁.setTop (mkF m 93 #[.val (.int (15 : Int32))] []))
  refine Gl.back (fun _ k => XS.iloadN X0.here hx rfl (hb hby d1_93) rfl k) ?_
  show Gl _ _ _ _ _ _ _ (s₁.setTop (mkF m 94 #[.val (.int (15 : Int32))] [(.int (15 : Int32))]))
  refine Gl.back (fun _ k => XS.bipush X0.here hx rfl (hb hby d1_94) k) ?_
  show Gl _ _ _ _ _ _ _ (s₁.setTop (mkF m 96 #[.val (.int (15 : Int32))] [(.int (10 : Int32)), (.int (15 : Int32))]))
  refine Gl.back (fun _ k => XS.icmpYes X0.here hx rfl (pc0 := 96) (pc' := 103) rfl (hb hby d1_96) rfl (feq (by decide : ¬ (15 : Int32) = (10 : Int32))).2 (by decide) (by decide) k) ?_
  show Gl _ _ _ _ _ _ _ (s₁.setTop (mkF m 103 #[.val (.int (15 : Int32))] []))
  refine Gl.back (fun _ k => XS.iloadN X0.here hx rfl (hb hby d1_103) rfl k) ?_
  show Gl _ _ _ _ _ _ _ (s₁.setTop (mkF m 104 #[.val (.int (15 : Int32))] [(.int (15 : Int32))]))
  refine Gl.back (fun _ k => XS.bipush X0.here hx rfl (hb hby d1_104) k) ?_
  show Gl _ _ _ _ _ _ _ (s₁.setTop (mkF m 106 #[.val (.int (15 : Int32))] [(.int (11 : Int32)), (.int (15 : Int32))]))
  refine Gl.back (fun _ k => XS.icmpYes X0.here hx rfl (pc0 := 106) (pc' := 113) rfl (hb hby d1_106) rfl (feq (by decide : ¬ (15 : Int32) = (11 : Int32))).2 (by decide) (by decide) k) ?_
  show Gl _ _ _ _ _ _ _ (s₁.setTop (mkF m 113 #[.val (.int (15 : Int32))] []))
  refine Gl.back (fun _ k => XS.iloadN X0.here hx rfl (hb hby d1_113) rfl k) ?_
  show Gl _ _ _ _ _ _ _ (s₁.setTop (mkF m 114 #[.val (.int (15 : Int32))] [(.int (15 : Int32))]))
  refine Gl.back (fun _ k => XS.bipush X0.here hx rfl (hb hby d1_114) k) ?_
  show Gl _ _ _ _ _ _ _ (s₁.setTop (mkF m 116 #[.val (.int (15 : Int32))] [(.int (12 : Int32)), (.int (15 : Int32))]))
  refine Gl.back (fun _ k => XS.icmpYes X0.here hx rfl (pc0 := 116) (pc' := 123) rfl (hb hby d1_116) rfl (feq (by decide : ¬ (15 : Int32) = (12 : Int32))).2 (by decide) (by decide) k) ?_
  show Gl _ _ _ _ _ _ _ (s₁.setTop (mkF m 123 #[.val (.int (15 : Int32))] []))
  refine Gl.back (fun _ k => XS.iloadN X0.here hx rfl (hb hby d1_123) rfl k) ?_
  show Gl _ _ _ _ _ _ _ (s₁.setTop (mkF m 124 #[.val (.int (15 : Int32))] [(.int (15 : Int32))]))
  refine Gl.back (fun _ k => XS.bipush X0.here hx rfl (hb hby d1_124) k) ?_
  show Gl _ _ _ _ _ _ _ (s₁.setTop (mkF m 126 #[.val (.int (15 : Int32))] [(.int (13 : Int32)), (.int (15 : Int32))]))
  refine Gl.back (fun _ k => XS.icmpYes X0.here hx rfl (pc0 := 126) (pc' := 133) rfl (hb hby d1_126) rfl (feq (by decide : ¬ (15 : Int32) = (13 : Int32))).2 (by decide) (by decide) k) ?_
  show Gl _ _ _ _ _ _ _ (s₁.setTop (mkF m 133 #[.val (.int (15 : Int32))] []))
  refine Gl.back (fun _ k => XS.iloadN X0.here hx rfl (hb hby d1_133) rfl k) ?_
  show Gl _ _ _ _ _ _ _ (s₁.setTop (mkF m 134 #[.val (.int (15 : Int32))] [(.int (15 : Int32))]))
  refine Gl.back (fun _ k => XS.bipush X0.here hx rfl (hb hby d1_134) k) ?_
  show Gl _ _ _ _ _ _ _ (s₁.setTop (mkF m 136 #[.val (.int (15 : Int32))] [(.int (14 : Int32)), (.int (15 : Int32))]))
  refine Gl.back (fun _ k => XS.icmpYes X0.here hx rfl (pc0 := 136) (pc' := 143) rfl (hb hby d1_136) rfl (feq (by decide : ¬ (15 : Int32) = (14 : Int32))).2 (by decide) (by decide) k) ?_
  show Gl _ _ _ _ _ _ _ (s₁.setTop (mkF m 143 #[.val (.int (15 : Int32))] []))
  obtain ⟨T16, X16, e16, st16⟩ := getS2 X0 hx hZ hown (host := "") (Or.inl (hw _ (List.mem_of_getElem? (i := 49) rfl))) Via.refl e0 S (g := (mkF m 143 #[.val (.int (15 : Int32))] [])) rfl (hb hby d1_143)
  refine Gl.back (fun _ k => st16 _ k) ?_
  show Gl _ _ _ _ _ _ _ (T16.setTop (mkF m 146 #[.val (.int (15 : Int32))] [(.ref w)]))
  exact Gl.ret X16 e16 (v := (some (.ref w))) (fun h => by rw [Bd.returns] at h; cases h) Bd.notSynchronized (fun fs hr => retOut X16 hx (w := (.ref w)) Bd.returns rfl (Or.inr (Or.inr (Or.inr (Or.inr ⟨rfl, rfl, rfl⟩)))) (hb hby d1_146) hr) ⟨N0, rfl, rfl⟩ (by decide) (by decide)
theorem d2_0 : decode prog_15_method_7_code 0 = .ok (.aload_n 0, 1) := by decide +kernel
theorem d2_1 : decode prog_15_method_7_code 1 = .ok (.getstatic 46, 3) := by decide +kernel
theorem d2_4 : decode prog_15_method_7_code 4 = .ok (.if_acmp .eq 10, 3) := by decide +kernel
theorem d2_7 : decode prog_15_method_7_code 7 = .ok (.aload_n 0, 1) := by decide +kernel
theorem d2_8 : decode prog_15_method_7_code 8 = .ok (.getstatic 49, 3) := by decide +kernel
theorem d2_11 : decode prog_15_method_7_code 11 = .ok (.if_acmp .ne 7, 3) := by decide +kernel
theorem d2_18 : decode prog_15_method_7_code 18 = .ok (.iconst 0, 1) := by decide +kernel
theorem d2_19 : decode prog_15_method_7_code 19 = .ok (.ireturn, 1) := by decide +kernel
theorem pn_com_example_demi_orm_demiorm_query_Operator : plainName "com/example/demi_orm/demiorm/query/Operator" = true := by first | (simp [plainName, overriddenIn]; done) | decide +kernel
theorem ef_2_no (m : MethodId) (x0 : Addr) : entryFrame m #[(.ref x0)] 1 = mkF m 0 #[.val (.ref x0)] [] := by first | (simp [entryFrame, mkF, argsToLocals, Value.category]; done) | rfl
def Q2_no (Z : State) (a : Addr) (w0 : Addr) (w1 : Addr) (h0 : Heap) (n0 : Nat) (v : Option Value) (h : Heap) (L : List Loc) : Prop := Fr n0 L ∧ (v = some (.int 0) ∧ h = h0)
set_option maxRecDepth 65536 in
set_option maxHeartbeats 40000000 in
theorem rm2_no (l : Launch) (Z : State) (a0 : Array Value) (hw : ∀ d ∈ tables_1, d.before a0 Z = true) (ws : List Jvm.Cond) (a : Addr) (w0 : Addr) (w1 : Addr) (h0 : Heap) (n0 : Nat) (Z0 : n0 ≤ h0.size) (S0 : Sta Z h0 "com/example/demi_orm/demiorm/query/Operator" "IN" "Lcom/example/demi_orm/demiorm/query/Operator;" (.ref w0)) (S1 : Sta Z h0 "com/example/demi_orm/demiorm/query/Operator" "NOT_IN" "Lcom/example/demi_orm/demiorm/query/Operator;" (.ref w1)) (ne0 : ¬ a = w0) (ne1 : ¬ a = w1) :
    MetFree l (⟨"com/example/demi_orm/demiorm/query/Operator", "takesCollection", "()Z"⟩ : MethodName) (head1 (Jvm.Cond.code (⟨"com/example/demi_orm/demiorm/query/Operator", "takesCollection", "()Z"⟩ : MethodName) prog_15_method_7_code 1 (some .boolean) :: ws) ({ frames := 0, cells := 0, slots := 0, locals := 0 } : Room)) (fun as0 U => as0 = #[(.ref a)] ∧ Z.Warmed39 U.vm ∧ U.heap = h0) (fun _ _ _ _ _ => True) (fun _ U o U' => ∃ v L, o = .returned v ∧ Q2_no Z a w0 w1 h0 n0 v U'.heap L ∧ FrameEnd U o U' L ({ frames := 0, cells := 0, slots := 0, locals := 0 } : Room).cells ({ frames := 0, cells := 0, slots := 0, locals := 0 } : Room).slots) := by
  refine MetFree.of_bodySF (plainFor_of_name pn_com_example_demi_orm_demiorm_query_Operator) hisR ?_
  intro p e s m args below meth c s₁ Bd hml0 hP hK
  obtain ⟨rfl, hZ, hh⟩ := hP
  have hx := Bd.exec
  have hby := Bd.bytes
  have hml : c.maxLocals = 1 := hml0
  have hown : s.vm.findClass "com/example/demi_orm/demiorm/query/Operator" = some m.cls := findClass_of_methodNamed Bd.named
  have hnm := (name_of_methodNamed Bd.named Bd.method).1
  have X0 : Stand p l e ({ frames := 0, cells := 0, slots := 0, locals := 0 } : Room) s m #[(.ref a)] below meth c s₁ [] 0 0 := Stand.of_body Bd
  have e0 : s₁.heap = h0 := by rw [← hh, Bd.state]; rfl
  have N0 := Fr.nil n0
  show Gl p e below s (Q2_no Z a w0 w1 h0 n0) ({ frames := 0, cells := 0, slots := 0, locals := 0 } : Room).cells ({ frames := 0, cells := 0, slots := 0, locals := 0 } : Room).slots (s₁.setTop (entryFrame m #[(.ref a)] 1))
  refine Gl.back (fun _ k => castTop (ef_2_no m a) k) ?_
  show Gl _ _ _ _ _ _ _ (s₁.setTop (mkF m 0 #[.val (.ref a)] []))
  refine Gl.back (fun _ k => XS.aloadN X0.here hx rfl (hb hby d2_0) rfl rfl k) ?_
  show Gl _ _ _ _ _ _ _ (s₁.setTop (mkF m 1 #[.val (.ref a)] [(.ref a)]))
  obtain ⟨T17, X17, e17, st17⟩ := getS2 X0 hx hZ hown (host := "") (Or.inl (hw _ (List.mem_of_getElem? (i := 12) rfl))) Via.refl e0 S0 (g := (mkF m 1 #[.val (.ref a)] [(.ref a)])) rfl (hb hby d2_1)
  refine Gl.back (fun _ k => st17 _ k) ?_
  show Gl _ _ _ _ _ _ _ (T17.setTop (mkF m 4 #[.val (.ref a)] [(.ref w0), (.ref a)]))
  refine Gl.back (fun _ k => Jvm.RoadKit.acmp (g := (mkF m 4 #[.val (.ref a)] [(.ref w0), (.ref a)])) X17 hx rfl rfl rfl (pc0 := 4) (pc' := 7) (same := false) rfl (hb hby d2_4) rfl (decide_eq_false fun q => ne0 (Value.ref.inj q)) (by decide) (by decide) k) ?_
  show Gl _ _ _ _ _ _ _ (T17.setTop (mkF m 7 #[.val (.ref a)] []))
  refine Gl.back (fun _ k => XS.aloadN X17.here hx rfl (hb hby d2_7) rfl rfl k) ?_
  show Gl _ _ _ _ _ _ _ (T17.setTop (mkF m 8 #[.val (.ref a)] [(.ref a)]))
  obtain ⟨T18, X18, e18, st18⟩ := getS2 X17 hx hZ hown (host := "") (Or.inl (hw _ (List.mem_of_getElem? (i := 14) rfl))) Via.refl e17 S1 (g := (mkF m 8 #[.val (.ref a)] [(.ref a)])) rfl (hb hby d2_8)
  refine Gl.back (fun _ k => st18 _ k) ?_
  show Gl _ _ _ _ _ _ _ (T18.setTop (mkF m 11 #[.val (.ref a)] [(.ref w1), (.ref a)]))
  refine Gl.back (fun _ k => Jvm.RoadKit.acmp (g := (mkF m 11 #[.val (.ref a)] [(.ref w1), (.ref a)])) X18 hx rfl rfl rfl (pc0 := 11) (pc' := 18) (same := false) rfl (hb hby d2_11) rfl (decide_eq_false fun q => ne1 (Value.ref.inj q)) (by decide) (by decide) k) ?_
  show Gl _ _ _ _ _ _ _ (T18.setTop (mkF m 18 #[.val (.ref a)] []))
  refine Gl.back (fun _ k => XS.iconst X18.here hx rfl (hb hby d2_18) k) ?_
  show Gl _ _ _ _ _ _ _ (T18.setTop (mkF m 19 #[.val (.ref a)] [(.int (0 : Int32))]))
  exact Gl.ret X18 e18 (v := (some (.int (0 : Int32)))) (fun h => by rw [Bd.returns] at h; cases h) Bd.notSynchronized (fun fs hr => retN X18 hx (t := .boolean) (z := (0 : Int32)) Bd.returns (by simp) (hb hby d2_19) hr) ⟨N0, rfl, rfl⟩ (by decide) (by decide)
theorem d2_14 : decode prog_15_method_7_code 14 = .ok (.iconst 1, 1) := by decide +kernel
theorem d2_15 : decode prog_15_method_7_code 15 = .ok (.goto 4, 3) := by decide +kernel
theorem ef_2_IN (m : MethodId) (x0 : Addr) : entryFrame m #[(.ref x0)] 1 = mkF m 0 #[.val (.ref x0)] [] := by first | (simp [entryFrame, mkF, argsToLocals, Value.category]; done) | rfl
def Q2_IN (Z : State) (w0 : Addr) (h0 : Heap) (n0 : Nat) (v : Option Value) (h : Heap) (L : List Loc) : Prop := Fr n0 L ∧ (v = some (.int 1) ∧ h = h0)
set_option maxRecDepth 65536 in
set_option maxHeartbeats 40000000 in
theorem rm2_IN (l : Launch) (Z : State) (a0 : Array Value) (hw : ∀ d ∈ tables_1, d.before a0 Z = true) (ws : List Jvm.Cond) (w0 : Addr) (h0 : Heap) (n0 : Nat) (Z0 : n0 ≤ h0.size) (S0 : Sta Z h0 "com/example/demi_orm/demiorm/query/Operator" "IN" "Lcom/example/demi_orm/demiorm/query/Operator;" (.ref w0)) :
    MetFree l (⟨"com/example/demi_orm/demiorm/query/Operator", "takesCollection", "()Z"⟩ : MethodName) (head1 (Jvm.Cond.code (⟨"com/example/demi_orm/demiorm/query/Operator", "takesCollection", "()Z"⟩ : MethodName) prog_15_method_7_code 1 (some .boolean) :: ws) ({ frames := 0, cells := 0, slots := 0, locals := 0 } : Room)) (fun as0 U => as0 = #[(.ref w0)] ∧ Z.Warmed39 U.vm ∧ U.heap = h0) (fun _ _ _ _ _ => True) (fun _ U o U' => ∃ v L, o = .returned v ∧ Q2_IN Z w0 h0 n0 v U'.heap L ∧ FrameEnd U o U' L ({ frames := 0, cells := 0, slots := 0, locals := 0 } : Room).cells ({ frames := 0, cells := 0, slots := 0, locals := 0 } : Room).slots) := by
  refine MetFree.of_bodySF (plainFor_of_name pn_com_example_demi_orm_demiorm_query_Operator) hisR ?_
  intro p e s m args below meth c s₁ Bd hml0 hP hK
  obtain ⟨rfl, hZ, hh⟩ := hP
  have hx := Bd.exec
  have hby := Bd.bytes
  have hml : c.maxLocals = 1 := hml0
  have hown : s.vm.findClass "com/example/demi_orm/demiorm/query/Operator" = some m.cls := findClass_of_methodNamed Bd.named
  have hnm := (name_of_methodNamed Bd.named Bd.method).1
  have X0 : Stand p l e ({ frames := 0, cells := 0, slots := 0, locals := 0 } : Room) s m #[(.ref w0)] below meth c s₁ [] 0 0 := Stand.of_body Bd
  have e0 : s₁.heap = h0 := by rw [← hh, Bd.state]; rfl
  have N0 := Fr.nil n0
  show Gl p e below s (Q2_IN Z w0 h0 n0) ({ frames := 0, cells := 0, slots := 0, locals := 0 } : Room).cells ({ frames := 0, cells := 0, slots := 0, locals := 0 } : Room).slots (s₁.setTop (entryFrame m #[(.ref w0)] 1))
  refine Gl.back (fun _ k => castTop (ef_2_IN m w0) k) ?_
  show Gl _ _ _ _ _ _ _ (s₁.setTop (mkF m 0 #[.val (.ref w0)] []))
  refine Gl.back (fun _ k => XS.aloadN X0.here hx rfl (hb hby d2_0) rfl rfl k) ?_
  show Gl _ _ _ _ _ _ _ (s₁.setTop (mkF m 1 #[.val (.ref w0)] [(.ref w0)]))
  obtain ⟨T19, X19, e19, st19⟩ := getS2 X0 hx hZ hown (host := "") (Or.inl (hw _ (List.mem_of_getElem? (i := 12) rfl))) Via.refl e0 S0 (g := (mkF m 1 #[.val (.ref w0)] [(.ref w0)])) rfl (hb hby d2_1)
  refine Gl.back (fun _ k => st19 _ k) ?_
  show Gl _ _ _ _ _ _ _ (T19.setTop (mkF m 4 #[.val (.ref w0)] [(.ref w0), (.ref w0)]))
  refine Gl.back (fun _ k => Jvm.RoadKit.acmp (g := (mkF m 4 #[.val (.ref w0)] [(.ref w0), (.ref w0)])) X19 hx rfl rfl rfl (pc0 := 4) (pc' := 14) (same := true) rfl (hb hby d2_4) rfl (decide_eq_true rfl) (by decide) (by decide) k) ?_
  show Gl _ _ _ _ _ _ _ (T19.setTop (mkF m 14 #[.val (.ref w0)] []))
  refine Gl.back (fun _ k => XS.iconst X19.here hx rfl (hb hby d2_14) k) ?_
  show Gl _ _ _ _ _ _ _ (T19.setTop (mkF m 15 #[.val (.ref w0)] [(.int (1 : Int32))]))
  refine Gl.back (fun _ k => XS.goto X19.here hx rfl (pc0 := 15) (pc' := 19) rfl (hb hby d2_15) (by decide) (by decide) k) ?_
  show Gl _ _ _ _ _ _ _ (T19.setTop (mkF m 19 #[.val (.ref w0)] [(.int (1 : Int32))]))
  exact Gl.ret X19 e19 (v := (some (.int (1 : Int32)))) (fun h => by rw [Bd.returns] at h; cases h) Bd.notSynchronized (fun fs hr => retN X19 hx (t := .boolean) (z := (1 : Int32)) Bd.returns (by simp) (hb hby d2_19) hr) ⟨N0, rfl, rfl⟩ (by decide) (by decide)
theorem ef_2_NOT_IN (m : MethodId) (x0 : Addr) : entryFrame m #[(.ref x0)] 1 = mkF m 0 #[.val (.ref x0)] [] := by first | (simp [entryFrame, mkF, argsToLocals, Value.category]; done) | rfl
def Q2_NOT_IN (Z : State) (w1 : Addr) (w0 : Addr) (h0 : Heap) (n0 : Nat) (v : Option Value) (h : Heap) (L : List Loc) : Prop := Fr n0 L ∧ (v = some (.int 1) ∧ h = h0)
set_option maxRecDepth 65536 in
set_option maxHeartbeats 40000000 in
theorem rm2_NOT_IN (l : Launch) (Z : State) (a0 : Array Value) (hw : ∀ d ∈ tables_1, d.before a0 Z = true) (ws : List Jvm.Cond) (w1 : Addr) (w0 : Addr) (h0 : Heap) (n0 : Nat) (Z0 : n0 ≤ h0.size) (S0 : Sta Z h0 "com/example/demi_orm/demiorm/query/Operator" "IN" "Lcom/example/demi_orm/demiorm/query/Operator;" (.ref w0)) (S1 : Sta Z h0 "com/example/demi_orm/demiorm/query/Operator" "NOT_IN" "Lcom/example/demi_orm/demiorm/query/Operator;" (.ref w1)) (ne0 : ¬ w1 = w0) :
    MetFree l (⟨"com/example/demi_orm/demiorm/query/Operator", "takesCollection", "()Z"⟩ : MethodName) (head1 (Jvm.Cond.code (⟨"com/example/demi_orm/demiorm/query/Operator", "takesCollection", "()Z"⟩ : MethodName) prog_15_method_7_code 1 (some .boolean) :: ws) ({ frames := 0, cells := 0, slots := 0, locals := 0 } : Room)) (fun as0 U => as0 = #[(.ref w1)] ∧ Z.Warmed39 U.vm ∧ U.heap = h0) (fun _ _ _ _ _ => True) (fun _ U o U' => ∃ v L, o = .returned v ∧ Q2_NOT_IN Z w1 w0 h0 n0 v U'.heap L ∧ FrameEnd U o U' L ({ frames := 0, cells := 0, slots := 0, locals := 0 } : Room).cells ({ frames := 0, cells := 0, slots := 0, locals := 0 } : Room).slots) := by
  refine MetFree.of_bodySF (plainFor_of_name pn_com_example_demi_orm_demiorm_query_Operator) hisR ?_
  intro p e s m args below meth c s₁ Bd hml0 hP hK
  obtain ⟨rfl, hZ, hh⟩ := hP
  have hx := Bd.exec
  have hby := Bd.bytes
  have hml : c.maxLocals = 1 := hml0
  have hown : s.vm.findClass "com/example/demi_orm/demiorm/query/Operator" = some m.cls := findClass_of_methodNamed Bd.named
  have hnm := (name_of_methodNamed Bd.named Bd.method).1
  have X0 : Stand p l e ({ frames := 0, cells := 0, slots := 0, locals := 0 } : Room) s m #[(.ref w1)] below meth c s₁ [] 0 0 := Stand.of_body Bd
  have e0 : s₁.heap = h0 := by rw [← hh, Bd.state]; rfl
  have N0 := Fr.nil n0
  show Gl p e below s (Q2_NOT_IN Z w1 w0 h0 n0) ({ frames := 0, cells := 0, slots := 0, locals := 0 } : Room).cells ({ frames := 0, cells := 0, slots := 0, locals := 0 } : Room).slots (s₁.setTop (entryFrame m #[(.ref w1)] 1))
  refine Gl.back (fun _ k => castTop (ef_2_NOT_IN m w1) k) ?_
  show Gl _ _ _ _ _ _ _ (s₁.setTop (mkF m 0 #[.val (.ref w1)] []))
  refine Gl.back (fun _ k => XS.aloadN X0.here hx rfl (hb hby d2_0) rfl rfl k) ?_
  show Gl _ _ _ _ _ _ _ (s₁.setTop (mkF m 1 #[.val (.ref w1)] [(.ref w1)]))
  obtain ⟨T20, X20, e20, st20⟩ := getS2 X0 hx hZ hown (host := "") (Or.inl (hw _ (List.mem_of_getElem? (i := 12) rfl))) Via.refl e0 S0 (g := (mkF m 1 #[.val (.ref w1)] [(.ref w1)])) rfl (hb hby d2_1)
  refine Gl.back (fun _ k => st20 _ k) ?_
  show Gl _ _ _ _ _ _ _ (T20.setTop (mkF m 4 #[.val (.ref w1)] [(.ref w0), (.ref w1)]))
  refine Gl.back (fun _ k => Jvm.RoadKit.acmp (g := (mkF m 4 #[.val (.ref w1)] [(.ref w0), (.ref w1)])) X20 hx rfl rfl rfl (pc0 := 4) (pc' := 7) (same := false) rfl (hb hby d2_4) rfl (decide_eq_false fun q => ne0 (Value.ref.inj q)) (by decide) (by decide) k) ?_
  show Gl _ _ _ _ _ _ _ (T20.setTop (mkF m 7 #[.val (.ref w1)] []))
  refine Gl.back (fun _ k => XS.aloadN X20.here hx rfl (hb hby d2_7) rfl rfl k) ?_
  show Gl _ _ _ _ _ _ _ (T20.setTop (mkF m 8 #[.val (.ref w1)] [(.ref w1)]))
  obtain ⟨T21, X21, e21, st21⟩ := getS2 X20 hx hZ hown (host := "") (Or.inl (hw _ (List.mem_of_getElem? (i := 14) rfl))) Via.refl e20 S1 (g := (mkF m 8 #[.val (.ref w1)] [(.ref w1)])) rfl (hb hby d2_8)
  refine Gl.back (fun _ k => st21 _ k) ?_
  show Gl _ _ _ _ _ _ _ (T21.setTop (mkF m 11 #[.val (.ref w1)] [(.ref w1), (.ref w1)]))
  refine Gl.back (fun _ k => Jvm.RoadKit.acmp (g := (mkF m 11 #[.val (.ref w1)] [(.ref w1), (.ref w1)])) X21 hx rfl rfl rfl (pc0 := 11) (pc' := 14) (same := true) rfl (hb hby d2_11) rfl (decide_eq_true rfl) (by decide) (by decide) k) ?_
  show Gl _ _ _ _ _ _ _ (T21.setTop (mkF m 14 #[.val (.ref w1)] []))
  refine Gl.back (fun _ k => XS.iconst X21.here hx rfl (hb hby d2_14) k) ?_
  show Gl _ _ _ _ _ _ _ (T21.setTop (mkF m 15 #[.val (.ref w1)] [(.int (1 : Int32))]))
  refine Gl.back (fun _ k => XS.goto X21.here hx rfl (pc0 := 15) (pc' := 19) rfl (hb hby d2_15) (by decide) (by decide) k) ?_
  show Gl _ _ _ _ _ _ _ (T21.setTop (mkF m 19 #[.val (.ref w1)] [(.int (1 : Int32))]))
  exact Gl.ret X21 e21 (v := (some (.int (1 : Int32)))) (fun h => by rw [Bd.returns] at h; cases h) Bd.notSynchronized (fun fs hr => retN X21 hx (t := .boolean) (z := (1 : Int32)) Bd.returns (by simp) (hb hby d2_19) hr) ⟨N0, rfl, rfl⟩ (by decide) (by decide)
theorem d4_0 : decode prog_15_method_6_code 0 = .ok (.aload_n 0, 1) := by decide +kernel
theorem d4_1 : decode prog_15_method_6_code 1 = .ok (.getstatic 31, 3) := by decide +kernel
theorem d4_4 : decode prog_15_method_6_code 4 = .ok (.if_acmp .eq 31, 3) := by decide +kernel
theorem d4_7 : decode prog_15_method_6_code 7 = .ok (.aload_n 0, 1) := by decide +kernel
theorem d4_8 : decode prog_15_method_6_code 8 = .ok (.getstatic 34, 3) := by decide +kernel
theorem d4_11 : decode prog_15_method_6_code 11 = .ok (.if_acmp .eq 24, 3) := by decide +kernel
theorem d4_14 : decode prog_15_method_6_code 14 = .ok (.aload_n 0, 1) := by decide +kernel
theorem d4_15 : decode prog_15_method_6_code 15 = .ok (.getstatic 37, 3) := by decide +kernel
theorem d4_18 : decode prog_15_method_6_code 18 = .ok (.if_acmp .eq 17, 3) := by decide +kernel
theorem d4_21 : decode prog_15_method_6_code 21 = .ok (.aload_n 0, 1) := by decide +kernel
theorem d4_22 : decode prog_15_method_6_code 22 = .ok (.getstatic 40, 3) := by decide +kernel
theorem d4_25 : decode prog_15_method_6_code 25 = .ok (.if_acmp .eq 10, 3) := by decide +kernel
theorem d4_28 : decode prog_15_method_6_code 28 = .ok (.aload_n 0, 1) := by decide +kernel
theorem d4_29 : decode prog_15_method_6_code 29 = .ok (.getstatic 43, 3) := by decide +kernel
theorem d4_32 : decode prog_15_method_6_code 32 = .ok (.if_acmp .ne 7, 3) := by decide +kernel
theorem d4_39 : decode prog_15_method_6_code 39 = .ok (.iconst 0, 1) := by decide +kernel
theorem d4_40 : decode prog_15_method_6_code 40 = .ok (.ireturn, 1) := by decide +kernel
theorem ef_4_no (m : MethodId) (x0 : Addr) : entryFrame m #[(.ref x0)] 1 = mkF m 0 #[.val (.ref x0)] [] := by first | (simp [entryFrame, mkF, argsToLocals, Value.category]; done) | rfl
def Q4_no (Z : State) (a : Addr) (w0 : Addr) (w1 : Addr) (w2 : Addr) (w3 : Addr) (w4 : Addr) (h0 : Heap) (n0 : Nat) (v : Option Value) (h : Heap) (L : List Loc) : Prop := Fr n0 L ∧ (v = some (.int 0) ∧ h = h0)
set_option maxRecDepth 65536 in
set_option maxHeartbeats 40000000 in
theorem rm4_no (l : Launch) (Z : State) (a0 : Array Value) (hw : ∀ d ∈ tables_1, d.before a0 Z = true) (ws : List Jvm.Cond) (a : Addr) (w0 : Addr) (w1 : Addr) (w2 : Addr) (w3 : Addr) (w4 : Addr) (h0 : Heap) (n0 : Nat) (Z0 : n0 ≤ h0.size) (S0 : Sta Z h0 "com/example/demi_orm/demiorm/query/Operator" "LIKE" "Lcom/example/demi_orm/demiorm/query/Operator;" (.ref w0)) (S1 : Sta Z h0 "com/example/demi_orm/demiorm/query/Operator" "NOT_LIKE" "Lcom/example/demi_orm/demiorm/query/Operator;" (.ref w1)) (S2 : Sta Z h0 "com/example/demi_orm/demiorm/query/Operator" "STARTING_WITH" "Lcom/example/demi_orm/demiorm/query/Operator;" (.ref w2)) (S3 : Sta Z h0 "com/example/demi_orm/demiorm/query/Operator" "ENDING_WITH" "Lcom/example/demi_orm/demiorm/query/Operator;" (.ref w3)) (S4 : Sta Z h0 "com/example/demi_orm/demiorm/query/Operator" "CONTAINING" "Lcom/example/demi_orm/demiorm/query/Operator;" (.ref w4)) (ne0 : ¬ a = w0) (ne1 : ¬ a = w1) (ne2 : ¬ a = w2) (ne3 : ¬ a = w3) (ne4 : ¬ a = w4) :
    MetFree l (⟨"com/example/demi_orm/demiorm/query/Operator", "comparesText", "()Z"⟩ : MethodName) (head1 (Jvm.Cond.code (⟨"com/example/demi_orm/demiorm/query/Operator", "comparesText", "()Z"⟩ : MethodName) prog_15_method_6_code 1 (some .boolean) :: ws) ({ frames := 0, cells := 0, slots := 0, locals := 0 } : Room)) (fun as0 U => as0 = #[(.ref a)] ∧ Z.Warmed39 U.vm ∧ U.heap = h0) (fun _ _ _ _ _ => True) (fun _ U o U' => ∃ v L, o = .returned v ∧ Q4_no Z a w0 w1 w2 w3 w4 h0 n0 v U'.heap L ∧ FrameEnd U o U' L ({ frames := 0, cells := 0, slots := 0, locals := 0 } : Room).cells ({ frames := 0, cells := 0, slots := 0, locals := 0 } : Room).slots) := by
  refine MetFree.of_bodySF (plainFor_of_name pn_com_example_demi_orm_demiorm_query_Operator) hisR ?_
  intro p e s m args below meth c s₁ Bd hml0 hP hK
  obtain ⟨rfl, hZ, hh⟩ := hP
  have hx := Bd.exec
  have hby := Bd.bytes
  have hml : c.maxLocals = 1 := hml0
  have hown : s.vm.findClass "com/example/demi_orm/demiorm/query/Operator" = some m.cls := findClass_of_methodNamed Bd.named
  have hnm := (name_of_methodNamed Bd.named Bd.method).1
  have X0 : Stand p l e ({ frames := 0, cells := 0, slots := 0, locals := 0 } : Room) s m #[(.ref a)] below meth c s₁ [] 0 0 := Stand.of_body Bd
  have e0 : s₁.heap = h0 := by rw [← hh, Bd.state]; rfl
  have N0 := Fr.nil n0
  show Gl p e below s (Q4_no Z a w0 w1 w2 w3 w4 h0 n0) ({ frames := 0, cells := 0, slots := 0, locals := 0 } : Room).cells ({ frames := 0, cells := 0, slots := 0, locals := 0 } : Room).slots (s₁.setTop (entryFrame m #[(.ref a)] 1))
  refine Gl.back (fun _ k => castTop (ef_4_no m a) k) ?_
  show Gl _ _ _ _ _ _ _ (s₁.setTop (mkF m 0 #[.val (.ref a)] []))
  refine Gl.back (fun _ k => XS.aloadN X0.here hx rfl (hb hby d4_0) rfl rfl k) ?_
  show Gl _ _ _ _ _ _ _ (s₁.setTop (mkF m 1 #[.val (.ref a)] [(.ref a)]))
  obtain ⟨T22, X22, e22, st22⟩ := getS2 X0 hx hZ hown (host := "") (Or.inl (hw _ (List.mem_of_getElem? (i := 31) rfl))) Via.refl e0 S0 (g := (mkF m 1 #[.val (.ref a)] [(.ref a)])) rfl (hb hby d4_1)
  refine Gl.back (fun _ k => st22 _ k) ?_
  show Gl _ _ _ _ _ _ _ (T22.setTop (mkF m 4 #[.val (.ref a)] [(.ref w0), (.ref a)]))
  refine Gl.back (fun _ k => Jvm.RoadKit.acmp (g := (mkF m 4 #[.val (.ref a)] [(.ref w0), (.ref a)])) X22 hx rfl rfl rfl (pc0 := 4) (pc' := 7) (same := false) rfl (hb hby d4_4) rfl (decide_eq_false fun q => ne0 (Value.ref.inj q)) (by decide) (by decide) k) ?_
  show Gl _ _ _ _ _ _ _ (T22.setTop (mkF m 7 #[.val (.ref a)] []))
  refine Gl.back (fun _ k => XS.aloadN X22.here hx rfl (hb hby d4_7) rfl rfl k) ?_
  show Gl _ _ _ _ _ _ _ (T22.setTop (mkF m 8 #[.val (.ref a)] [(.ref a)]))
  obtain ⟨T23, X23, e23, st23⟩ := getS2 X22 hx hZ hown (host := "") (Or.inl (hw _ (List.mem_of_getElem? (i := 33) rfl))) Via.refl e22 S1 (g := (mkF m 8 #[.val (.ref a)] [(.ref a)])) rfl (hb hby d4_8)
  refine Gl.back (fun _ k => st23 _ k) ?_
  show Gl _ _ _ _ _ _ _ (T23.setTop (mkF m 11 #[.val (.ref a)] [(.ref w1), (.ref a)]))
  refine Gl.back (fun _ k => Jvm.RoadKit.acmp (g := (mkF m 11 #[.val (.ref a)] [(.ref w1), (.ref a)])) X23 hx rfl rfl rfl (pc0 := 11) (pc' := 14) (same := false) rfl (hb hby d4_11) rfl (decide_eq_false fun q => ne1 (Value.ref.inj q)) (by decide) (by decide) k) ?_
  show Gl _ _ _ _ _ _ _ (T23.setTop (mkF m 14 #[.val (.ref a)] []))
  refine Gl.back (fun _ k => XS.aloadN X23.here hx rfl (hb hby d4_14) rfl rfl k) ?_
  show Gl _ _ _ _ _ _ _ (T23.setTop (mkF m 15 #[.val (.ref a)] [(.ref a)]))
  obtain ⟨T24, X24, e24, st24⟩ := getS2 X23 hx hZ hown (host := "") (Or.inl (hw _ (List.mem_of_getElem? (i := 35) rfl))) Via.refl e23 S2 (g := (mkF m 15 #[.val (.ref a)] [(.ref a)])) rfl (hb hby d4_15)
  refine Gl.back (fun _ k => st24 _ k) ?_
  show Gl _ _ _ _ _ _ _ (T24.setTop (mkF m 18 #[.val (.ref a)] [(.ref w2), (.ref a)]))
  refine Gl.back (fun _ k => Jvm.RoadKit.acmp (g := (mkF m 18 #[.val (.ref a)] [(.ref w2), (.ref a)])) X24 hx rfl rfl rfl (pc0 := 18) (pc' := 21) (same := false) rfl (hb hby d4_18) rfl (decide_eq_false fun q => ne2 (Value.ref.inj q)) (by decide) (by decide) k) ?_
  show Gl _ _ _ _ _ _ _ (T24.setTop (mkF m 21 #[.val (.ref a)] []))
  refine Gl.back (fun _ k => XS.aloadN X24.here hx rfl (hb hby d4_21) rfl rfl k) ?_
  show Gl _ _ _ _ _ _ _ (T24.setTop (mkF m 22 #[.val (.ref a)] [(.ref a)]))
  obtain ⟨T25, X25, e25, st25⟩ := getS2 X24 hx hZ hown (host := "") (Or.inl (hw _ (List.mem_of_getElem? (i := 37) rfl))) Via.refl e24 S3 (g := (mkF m 22 #[.val (.ref a)] [(.ref a)])) rfl (hb hby d4_22)
  refine Gl.back (fun _ k => st25 _ k) ?_
  show Gl _ _ _ _ _ _ _ (T25.setTop (mkF m 25 #[.val (.ref a)] [(.ref w3), (.ref a)]))
  refine Gl.back (fun _ k => Jvm.RoadKit.acmp (g := (mkF m 25 #[.val (.ref a)] [(.ref w3), (.ref a)])) X25 hx rfl rfl rfl (pc0 := 25) (pc' := 28) (same := false) rfl (hb hby d4_25) rfl (decide_eq_false fun q => ne3 (Value.ref.inj q)) (by decide) (by decide) k) ?_
  show Gl _ _ _ _ _ _ _ (T25.setTop (mkF m 28 #[.val (.ref a)] []))
  refine Gl.back (fun _ k => XS.aloadN X25.here hx rfl (hb hby d4_28) rfl rfl k) ?_
  show Gl _ _ _ _ _ _ _ (T25.setTop (mkF m 29 #[.val (.ref a)] [(.ref a)]))
  obtain ⟨T26, X26, e26, st26⟩ := getS2 X25 hx hZ hown (host := "") (Or.inl (hw _ (List.mem_of_getElem? (i := 39) rfl))) Via.refl e25 S4 (g := (mkF m 29 #[.val (.ref a)] [(.ref a)])) rfl (hb hby d4_29)
  refine Gl.back (fun _ k => st26 _ k) ?_
  show Gl _ _ _ _ _ _ _ (T26.setTop (mkF m 32 #[.val (.ref a)] [(.ref w4), (.ref a)]))
  refine Gl.back (fun _ k => Jvm.RoadKit.acmp (g := (mkF m 32 #[.val (.ref a)] [(.ref w4), (.ref a)])) X26 hx rfl rfl rfl (pc0 := 32) (pc' := 39) (same := false) rfl (hb hby d4_32) rfl (decide_eq_false fun q => ne4 (Value.ref.inj q)) (by decide) (by decide) k) ?_
  show Gl _ _ _ _ _ _ _ (T26.setTop (mkF m 39 #[.val (.ref a)] []))
  refine Gl.back (fun _ k => XS.iconst X26.here hx rfl (hb hby d4_39) k) ?_
  show Gl _ _ _ _ _ _ _ (T26.setTop (mkF m 40 #[.val (.ref a)] [(.int (0 : Int32))]))
  exact Gl.ret X26 e26 (v := (some (.int (0 : Int32)))) (fun h => by rw [Bd.returns] at h; cases h) Bd.notSynchronized (fun fs hr => retN X26 hx (t := .boolean) (z := (0 : Int32)) Bd.returns (by simp) (hb hby d4_40) hr) ⟨N0, rfl, rfl⟩ (by decide) (by decide)
theorem d5_0 : decode prog_15_method_8_code 0 = .ok (.aload_n 0, 1) := by decide +kernel
theorem d5_1 : decode prog_15_method_8_code 1 = .ok (.getstatic 3, 3) := by decide +kernel
theorem d5_4 : decode prog_15_method_8_code 4 = .ok (.if_acmp .eq 10, 3) := by decide +kernel
theorem d5_7 : decode prog_15_method_8_code 7 = .ok (.aload_n 0, 1) := by decide +kernel
theorem d5_8 : decode prog_15_method_8_code 8 = .ok (.getstatic 7, 3) := by decide +kernel
theorem d5_11 : decode prog_15_method_8_code 11 = .ok (.if_acmp .ne 7, 3) := by decide +kernel
theorem d5_18 : decode prog_15_method_8_code 18 = .ok (.iconst 0, 1) := by decide +kernel
theorem d5_19 : decode prog_15_method_8_code 19 = .ok (.ireturn, 1) := by decide +kernel
theorem ef_5_no (m : MethodId) (x0 : Addr) : entryFrame m #[(.ref x0)] 1 = mkF m 0 #[.val (.ref x0)] [] := by first | (simp [entryFrame, mkF, argsToLocals, Value.category]; done) | rfl
def Q5_no (Z : State) (a : Addr) (w0 : Addr) (w1 : Addr) (h0 : Heap) (n0 : Nat) (v : Option Value) (h : Heap) (L : List Loc) : Prop := Fr n0 L ∧ (v = some (.int 0) ∧ h = h0)
set_option maxRecDepth 65536 in
set_option maxHeartbeats 40000000 in
theorem rm5_no (l : Launch) (Z : State) (a0 : Array Value) (hw : ∀ d ∈ tables_1, d.before a0 Z = true) (ws : List Jvm.Cond) (a : Addr) (w0 : Addr) (w1 : Addr) (h0 : Heap) (n0 : Nat) (Z0 : n0 ≤ h0.size) (S0 : Sta Z h0 "com/example/demi_orm/demiorm/query/Operator" "EQUALS" "Lcom/example/demi_orm/demiorm/query/Operator;" (.ref w0)) (S1 : Sta Z h0 "com/example/demi_orm/demiorm/query/Operator" "NOT_EQUALS" "Lcom/example/demi_orm/demiorm/query/Operator;" (.ref w1)) (ne0 : ¬ a = w0) (ne1 : ¬ a = w1) :
    MetFree l (⟨"com/example/demi_orm/demiorm/query/Operator", "takesNull", "()Z"⟩ : MethodName) (head1 (Jvm.Cond.code (⟨"com/example/demi_orm/demiorm/query/Operator", "takesNull", "()Z"⟩ : MethodName) prog_15_method_8_code 1 (some .boolean) :: ws) ({ frames := 0, cells := 0, slots := 0, locals := 0 } : Room)) (fun as0 U => as0 = #[(.ref a)] ∧ Z.Warmed39 U.vm ∧ U.heap = h0) (fun _ _ _ _ _ => True) (fun _ U o U' => ∃ v L, o = .returned v ∧ Q5_no Z a w0 w1 h0 n0 v U'.heap L ∧ FrameEnd U o U' L ({ frames := 0, cells := 0, slots := 0, locals := 0 } : Room).cells ({ frames := 0, cells := 0, slots := 0, locals := 0 } : Room).slots) := by
  refine MetFree.of_bodySF (plainFor_of_name pn_com_example_demi_orm_demiorm_query_Operator) hisR ?_
  intro p e s m args below meth c s₁ Bd hml0 hP hK
  obtain ⟨rfl, hZ, hh⟩ := hP
  have hx := Bd.exec
  have hby := Bd.bytes
  have hml : c.maxLocals = 1 := hml0
  have hown : s.vm.findClass "com/example/demi_orm/demiorm/query/Operator" = some m.cls := findClass_of_methodNamed Bd.named
  have hnm := (name_of_methodNamed Bd.named Bd.method).1
  have X0 : Stand p l e ({ frames := 0, cells := 0, slots := 0, locals := 0 } : Room) s m #[(.ref a)] below meth c s₁ [] 0 0 := Stand.of_body Bd
  have e0 : s₁.heap = h0 := by rw [← hh, Bd.state]; rfl
  have N0 := Fr.nil n0
  show Gl p e below s (Q5_no Z a w0 w1 h0 n0) ({ frames := 0, cells := 0, slots := 0, locals := 0 } : Room).cells ({ frames := 0, cells := 0, slots := 0, locals := 0 } : Room).slots (s₁.setTop (entryFrame m #[(.ref a)] 1))
  refine Gl.back (fun _ k => castTop (ef_5_no m a) k) ?_
  show Gl _ _ _ _ _ _ _ (s₁.setTop (mkF m 0 #[.val (.ref a)] []))
  refine Gl.back (fun _ k => XS.aloadN X0.here hx rfl (hb hby d5_0) rfl rfl k) ?_
  show Gl _ _ _ _ _ _ _ (s₁.setTop (mkF m 1 #[.val (.ref a)] [(.ref a)]))
  obtain ⟨T27, X27, e27, st27⟩ := getS2 X0 hx hZ hown (host := "") (Or.inl (hw _ (List.mem_of_getElem? (i := 46) rfl))) Via.refl e0 S0 (g := (mkF m 1 #[.val (.ref a)] [(.ref a)])) rfl (hb hby d5_1)
  refine Gl.back (fun _ k => st27 _ k) ?_
  show Gl _ _ _ _ _ _ _ (T27.setTop (mkF m 4 #[.val (.ref a)] [(.ref w0), (.ref a)]))
  refine Gl.back (fun _ k => Jvm.RoadKit.acmp (g := (mkF m 4 #[.val (.ref a)] [(.ref w0), (.ref a)])) X27 hx rfl rfl rfl (pc0 := 4) (pc' := 7) (same := false) rfl (hb hby d5_4) rfl (decide_eq_false fun q => ne0 (Value.ref.inj q)) (by decide) (by decide) k) ?_
  show Gl _ _ _ _ _ _ _ (T27.setTop (mkF m 7 #[.val (.ref a)] []))
  refine Gl.back (fun _ k => XS.aloadN X27.here hx rfl (hb hby d5_7) rfl rfl k) ?_
  show Gl _ _ _ _ _ _ _ (T27.setTop (mkF m 8 #[.val (.ref a)] [(.ref a)]))
  obtain ⟨T28, X28, e28, st28⟩ := getS2 X27 hx hZ hown (host := "") (Or.inl (hw _ (List.mem_of_getElem? (i := 47) rfl))) Via.refl e27 S1 (g := (mkF m 8 #[.val (.ref a)] [(.ref a)])) rfl (hb hby d5_8)
  refine Gl.back (fun _ k => st28 _ k) ?_
  show Gl _ _ _ _ _ _ _ (T28.setTop (mkF m 11 #[.val (.ref a)] [(.ref w1), (.ref a)]))
  refine Gl.back (fun _ k => Jvm.RoadKit.acmp (g := (mkF m 11 #[.val (.ref a)] [(.ref w1), (.ref a)])) X28 hx rfl rfl rfl (pc0 := 11) (pc' := 18) (same := false) rfl (hb hby d5_11) rfl (decide_eq_false fun q => ne1 (Value.ref.inj q)) (by decide) (by decide) k) ?_
  show Gl _ _ _ _ _ _ _ (T28.setTop (mkF m 18 #[.val (.ref a)] []))
  refine Gl.back (fun _ k => XS.iconst X28.here hx rfl (hb hby d5_18) k) ?_
  show Gl _ _ _ _ _ _ _ (T28.setTop (mkF m 19 #[.val (.ref a)] [(.int (0 : Int32))]))
  exact Gl.ret X28 e28 (v := (some (.int (0 : Int32)))) (fun h => by rw [Bd.returns] at h; cases h) Bd.notSynchronized (fun fs hr => retN X28 hx (t := .boolean) (z := (0 : Int32)) Bd.returns (by simp) (hb hby d5_19) hr) ⟨N0, rfl, rfl⟩ (by decide) (by decide)
theorem d3_0 : decode prog_15_method_4_code 0 = .ok (.aload_n 0, 1) := by decide +kernel
theorem d3_1 : decode prog_15_method_4_code 1 = .ok (.getfield 71, 3) := by decide +kernel
theorem d3_4 : decode prog_15_method_4_code 4 = .ok (.ireturn, 1) := by decide +kernel
theorem ef_3 (m : MethodId) (x0 : Addr) : entryFrame m #[(.ref x0)] 1 = mkF m 0 #[.val (.ref x0)] [] := by first | (simp [entryFrame, mkF, argsToLocals, Value.category]; done) | rfl
def Q3 (Z : State) (a : Addr) (r : Int32) (h0 : Heap) (n0 : Nat) (v : Option Value) (h : Heap) (L : List Loc) : Prop := Fr n0 L ∧ (v = some (.int r) ∧ h = h0)
set_option maxRecDepth 65536 in
set_option maxHeartbeats 40000000 in
theorem rm3 (l : Launch) (Z : State) (a0 : Array Value) (hw : ∀ d ∈ tables_1, d.before a0 Z = true) (ws : List Jvm.Cond) (a : Addr) (r : Int32) (h0 : Heap) (n0 : Nat) (Z0 : n0 ≤ h0.size) (F : Fld Z h0 a "com/example/demi_orm/demiorm/query/Operator" "arity" "I" (.int r)) :
    MetFree l (⟨"com/example/demi_orm/demiorm/query/Operator", "arity", "()I"⟩ : MethodName) (head1 (Jvm.Cond.code (⟨"com/example/demi_orm/demiorm/query/Operator", "arity", "()I"⟩ : MethodName) prog_15_method_4_code 1 (some .int) :: ws) ({ frames := 0, cells := 0, slots := 0, locals := 0 } : Room)) (fun as0 U => as0 = #[(.ref a)] ∧ Z.Warmed39 U.vm ∧ U.heap = h0) (fun _ _ _ _ _ => True) (fun _ U o U' => ∃ v L, o = .returned v ∧ Q3 Z a r h0 n0 v U'.heap L ∧ FrameEnd U o U' L ({ frames := 0, cells := 0, slots := 0, locals := 0 } : Room).cells ({ frames := 0, cells := 0, slots := 0, locals := 0 } : Room).slots) := by
  refine MetFree.of_bodySF (plainFor_of_name pn_com_example_demi_orm_demiorm_query_Operator) hisR ?_
  intro p e s m args below meth c s₁ Bd hml0 hP hK
  obtain ⟨rfl, hZ, hh⟩ := hP
  have hx := Bd.exec
  have hby := Bd.bytes
  have hml : c.maxLocals = 1 := hml0
  have hown : s.vm.findClass "com/example/demi_orm/demiorm/query/Operator" = some m.cls := findClass_of_methodNamed Bd.named
  have hnm := (name_of_methodNamed Bd.named Bd.method).1
  have X0 : Stand p l e ({ frames := 0, cells := 0, slots := 0, locals := 0 } : Room) s m #[(.ref a)] below meth c s₁ [] 0 0 := Stand.of_body Bd
  have e0 : s₁.heap = h0 := by rw [← hh, Bd.state]; rfl
  have N0 := Fr.nil n0
  show Gl p e below s (Q3 Z a r h0 n0) ({ frames := 0, cells := 0, slots := 0, locals := 0 } : Room).cells ({ frames := 0, cells := 0, slots := 0, locals := 0 } : Room).slots (s₁.setTop (entryFrame m #[(.ref a)] 1))
  refine Gl.back (fun _ k => castTop (ef_3 m a) k) ?_
  show Gl _ _ _ _ _ _ _ (s₁.setTop (mkF m 0 #[.val (.ref a)] []))
  refine Gl.back (fun _ k => XS.aloadN X0.here hx rfl (hb hby d3_0) rfl rfl k) ?_
  show Gl _ _ _ _ _ _ _ (s₁.setTop (mkF m 1 #[.val (.ref a)] [(.ref a)]))
  obtain ⟨T29, X29, e29, st29⟩ := getF X0 hx hZ hown (host := "") (Or.inl (hw _ (List.mem_of_getElem? (i := 24) rfl))) Via.refl e0 F (g := (mkF m 1 #[.val (.ref a)] [(.ref a)])) rfl rfl (hb hby d3_1)
  refine Gl.back (fun _ k => st29 _ k) ?_
  show Gl _ _ _ _ _ _ _ (T29.setTop (mkF m 4 #[.val (.ref a)] [(.int r)]))
  exact Gl.ret X29 e29 (v := (some (.int r))) (fun h => by rw [Bd.returns] at h; cases h) Bd.notSynchronized (fun fs hr => retOut X29 hx (w := (.int r)) Bd.returns rfl (Or.inl ⟨rfl, Or.inl rfl, _, rfl⟩) (hb hby d3_4) hr) ⟨N0, rfl, rfl⟩ (by decide) (by decide)
theorem pd__I_Lcom_example_demi_orm_demiorm_query_Operator_ : parseMethodDescriptor "(I)Lcom/example/demi_orm/demiorm/query/Operator;" = some ⟨[.int], some (.object "com/example/demi_orm/demiorm/query/Operator")⟩ := by decide +kernel
theorem pd___Z : parseMethodDescriptor "()Z" = some ⟨[], some .boolean⟩ := by decide +kernel
theorem pd___I : parseMethodDescriptor "()I" = some ⟨[], some .int⟩ := by decide +kernel
theorem ef_0 (m : MethodId) (x0 : Int32) : entryFrame m #[(.int x0)] maxLocals = mkF m 0 #[.val (.int x0), .unset, .unset, .unset, .unset] [] := by first | (simp [entryFrame, mkF, argsToLocals, Value.category, maxLocals]; done) | rfl
def Q0 (Z : State) (i : Int32) (w_EQUALS : Addr) (w_NOT_EQUALS : Addr) (w_LESS_THAN : Addr) (w_LESS_THAN_OR_EQUAL : Addr) (w_GREATER_THAN : Addr) (w_GREATER_THAN_OR_EQUAL : Addr) (w_BETWEEN : Addr) (w_IS_NULL : Addr) (w_IS_NOT_NULL : Addr) (w_LIKE : Addr) (w_NOT_LIKE : Addr) (w_STARTING_WITH : Addr) (w_ENDING_WITH : Addr) (w_CONTAINING : Addr) (w_IN : Addr) (w_NOT_IN : Addr) (h0 : Heap) (n0 : Nat) (v : Option Value) (h : Heap) (L : List Loc) : Prop := Fr n0 L ∧ (v = some (.int 1))
set_option maxRecDepth 65536 in
set_option maxHeartbeats 40000000 in
theorem rm0 (l : Launch) (Z : State) (a0 : Array Value) (hw : ∀ d ∈ tables_1, d.before a0 Z = true) (ws : List Jvm.Cond) (i : Int32) (w_EQUALS : Addr) (w_NOT_EQUALS : Addr) (w_LESS_THAN : Addr) (w_LESS_THAN_OR_EQUAL : Addr) (w_GREATER_THAN : Addr) (w_GREATER_THAN_OR_EQUAL : Addr) (w_BETWEEN : Addr) (w_IS_NULL : Addr) (w_IS_NOT_NULL : Addr) (w_LIKE : Addr) (w_NOT_LIKE : Addr) (w_STARTING_WITH : Addr) (w_ENDING_WITH : Addr) (w_CONTAINING : Addr) (w_IN : Addr) (w_NOT_IN : Addr) (h0 : Heap) (n0 : Nat) (Z0 : n0 ≤ h0.size) (S_EQUALS : Sta Z h0 "com/example/demi_orm/demiorm/query/Operator" "EQUALS" "Lcom/example/demi_orm/demiorm/query/Operator;" (.ref w_EQUALS)) (S_NOT_EQUALS : Sta Z h0 "com/example/demi_orm/demiorm/query/Operator" "NOT_EQUALS" "Lcom/example/demi_orm/demiorm/query/Operator;" (.ref w_NOT_EQUALS)) (S_LESS_THAN : Sta Z h0 "com/example/demi_orm/demiorm/query/Operator" "LESS_THAN" "Lcom/example/demi_orm/demiorm/query/Operator;" (.ref w_LESS_THAN)) (S_LESS_THAN_OR_EQUAL : Sta Z h0 "com/example/demi_orm/demiorm/query/Operator" "LESS_THAN_OR_EQUAL" "Lcom/example/demi_orm/demiorm/query/Operator;" (.ref w_LESS_THAN_OR_EQUAL)) (S_GREATER_THAN : Sta Z h0 "com/example/demi_orm/demiorm/query/Operator" "GREATER_THAN" "Lcom/example/demi_orm/demiorm/query/Operator;" (.ref w_GREATER_THAN)) (S_GREATER_THAN_OR_EQUAL : Sta Z h0 "com/example/demi_orm/demiorm/query/Operator" "GREATER_THAN_OR_EQUAL" "Lcom/example/demi_orm/demiorm/query/Operator;" (.ref w_GREATER_THAN_OR_EQUAL)) (S_BETWEEN : Sta Z h0 "com/example/demi_orm/demiorm/query/Operator" "BETWEEN" "Lcom/example/demi_orm/demiorm/query/Operator;" (.ref w_BETWEEN)) (S_IS_NULL : Sta Z h0 "com/example/demi_orm/demiorm/query/Operator" "IS_NULL" "Lcom/example/demi_orm/demiorm/query/Operator;" (.ref w_IS_NULL)) (S_IS_NOT_NULL : Sta Z h0 "com/example/demi_orm/demiorm/query/Operator" "IS_NOT_NULL" "Lcom/example/demi_orm/demiorm/query/Operator;" (.ref w_IS_NOT_NULL)) (S_LIKE : Sta Z h0 "com/example/demi_orm/demiorm/query/Operator" "LIKE" "Lcom/example/demi_orm/demiorm/query/Operator;" (.ref w_LIKE)) (S_NOT_LIKE : Sta Z h0 "com/example/demi_orm/demiorm/query/Operator" "NOT_LIKE" "Lcom/example/demi_orm/demiorm/query/Operator;" (.ref w_NOT_LIKE)) (S_STARTING_WITH : Sta Z h0 "com/example/demi_orm/demiorm/query/Operator" "STARTING_WITH" "Lcom/example/demi_orm/demiorm/query/Operator;" (.ref w_STARTING_WITH)) (S_ENDING_WITH : Sta Z h0 "com/example/demi_orm/demiorm/query/Operator" "ENDING_WITH" "Lcom/example/demi_orm/demiorm/query/Operator;" (.ref w_ENDING_WITH)) (S_CONTAINING : Sta Z h0 "com/example/demi_orm/demiorm/query/Operator" "CONTAINING" "Lcom/example/demi_orm/demiorm/query/Operator;" (.ref w_CONTAINING)) (S_IN : Sta Z h0 "com/example/demi_orm/demiorm/query/Operator" "IN" "Lcom/example/demi_orm/demiorm/query/Operator;" (.ref w_IN)) (S_NOT_IN : Sta Z h0 "com/example/demi_orm/demiorm/query/Operator" "NOT_IN" "Lcom/example/demi_orm/demiorm/query/Operator;" (.ref w_NOT_IN)) (E_EQUALS : Exa Z h0 w_EQUALS "com/example/demi_orm/demiorm/query/Operator") (E_NOT_EQUALS : Exa Z h0 w_NOT_EQUALS "com/example/demi_orm/demiorm/query/Operator") (E_LESS_THAN : Exa Z h0 w_LESS_THAN "com/example/demi_orm/demiorm/query/Operator") (E_LESS_THAN_OR_EQUAL : Exa Z h0 w_LESS_THAN_OR_EQUAL "com/example/demi_orm/demiorm/query/Operator") (E_GREATER_THAN : Exa Z h0 w_GREATER_THAN "com/example/demi_orm/demiorm/query/Operator") (E_GREATER_THAN_OR_EQUAL : Exa Z h0 w_GREATER_THAN_OR_EQUAL "com/example/demi_orm/demiorm/query/Operator") (E_BETWEEN : Exa Z h0 w_BETWEEN "com/example/demi_orm/demiorm/query/Operator") (E_IS_NULL : Exa Z h0 w_IS_NULL "com/example/demi_orm/demiorm/query/Operator") (E_IS_NOT_NULL : Exa Z h0 w_IS_NOT_NULL "com/example/demi_orm/demiorm/query/Operator") (E_LIKE : Exa Z h0 w_LIKE "com/example/demi_orm/demiorm/query/Operator") (E_NOT_LIKE : Exa Z h0 w_NOT_LIKE "com/example/demi_orm/demiorm/query/Operator") (E_STARTING_WITH : Exa Z h0 w_STARTING_WITH "com/example/demi_orm/demiorm/query/Operator") (E_ENDING_WITH : Exa Z h0 w_ENDING_WITH "com/example/demi_orm/demiorm/query/Operator") (E_CONTAINING : Exa Z h0 w_CONTAINING "com/example/demi_orm/demiorm/query/Operator") (E_IN : Exa Z h0 w_IN "com/example/demi_orm/demiorm/query/Operator") (E_NOT_IN : Exa Z h0 w_NOT_IN "com/example/demi_orm/demiorm/query/Operator") (F_EQUALS_ordinal : Fld Z h0 w_EQUALS "java/lang/Enum" "ordinal" "I" (.int 0)) (F_NOT_EQUALS_ordinal : Fld Z h0 w_NOT_EQUALS "java/lang/Enum" "ordinal" "I" (.int 1)) (F_LESS_THAN_ordinal : Fld Z h0 w_LESS_THAN "java/lang/Enum" "ordinal" "I" (.int 2)) (F_LESS_THAN_OR_EQUAL_ordinal : Fld Z h0 w_LESS_THAN_OR_EQUAL "java/lang/Enum" "ordinal" "I" (.int 3)) (F_GREATER_THAN_ordinal : Fld Z h0 w_GREATER_THAN "java/lang/Enum" "ordinal" "I" (.int 4)) (F_GREATER_THAN_OR_EQUAL_ordinal : Fld Z h0 w_GREATER_THAN_OR_EQUAL "java/lang/Enum" "ordinal" "I" (.int 5)) (F_BETWEEN_ordinal : Fld Z h0 w_BETWEEN "java/lang/Enum" "ordinal" "I" (.int 6)) (F_IS_NULL_ordinal : Fld Z h0 w_IS_NULL "java/lang/Enum" "ordinal" "I" (.int 7)) (F_IS_NOT_NULL_ordinal : Fld Z h0 w_IS_NOT_NULL "java/lang/Enum" "ordinal" "I" (.int 8)) (F_LIKE_ordinal : Fld Z h0 w_LIKE "java/lang/Enum" "ordinal" "I" (.int 9)) (F_NOT_LIKE_ordinal : Fld Z h0 w_NOT_LIKE "java/lang/Enum" "ordinal" "I" (.int 10)) (F_STARTING_WITH_ordinal : Fld Z h0 w_STARTING_WITH "java/lang/Enum" "ordinal" "I" (.int 11)) (F_ENDING_WITH_ordinal : Fld Z h0 w_ENDING_WITH "java/lang/Enum" "ordinal" "I" (.int 12)) (F_CONTAINING_ordinal : Fld Z h0 w_CONTAINING "java/lang/Enum" "ordinal" "I" (.int 13)) (F_IN_ordinal : Fld Z h0 w_IN "java/lang/Enum" "ordinal" "I" (.int 14)) (F_NOT_IN_ordinal : Fld Z h0 w_NOT_IN "java/lang/Enum" "ordinal" "I" (.int 15)) (F_IN_arity : Fld Z h0 w_IN "com/example/demi_orm/demiorm/query/Operator" "arity" "I" (.int 1)) (F_NOT_IN_arity : Fld Z h0 w_NOT_IN "com/example/demi_orm/demiorm/query/Operator" "arity" "I" (.int 1)) :
    MetFree l x (head1 (Jvm.Cond.code x code maxLocals ret :: ws) room_1) (fun as0 U => as0 = #[(.int i)] ∧ Z.Warmed39 U.vm ∧ U.heap = h0) (fun _ _ _ _ _ => True) (fun _ U o U' => ∃ v L, o = .returned v ∧ Q0 Z i w_EQUALS w_NOT_EQUALS w_LESS_THAN w_LESS_THAN_OR_EQUAL w_GREATER_THAN w_GREATER_THAN_OR_EQUAL w_BETWEEN w_IS_NULL w_IS_NOT_NULL w_LIKE w_NOT_LIKE w_STARTING_WITH w_ENDING_WITH w_CONTAINING w_IN w_NOT_IN h0 n0 v U'.heap L ∧ FrameEnd U o U' L room_1.cells room_1.slots) := by
  refine MetFree.of_bodySF (plainFor_of_name pn_com_example_demi_orm_demiorm_query_OperatorTakesCollectionPinLaw) hisR ?_
  intro p e s m args below meth c s₁ Bd hml0 hP hK
  obtain ⟨rfl, hZ, hh⟩ := hP
  have hx := Bd.exec
  have hby := Bd.bytes
  have hml : c.maxLocals = 5 := hml0
  have hown : s.vm.findClass "com/example/demi_orm/demiorm/query/OperatorTakesCollectionPinLaw" = some m.cls := findClass_of_methodNamed Bd.named
  have hnm := (name_of_methodNamed Bd.named Bd.method).1
  have X0 : Stand p l e room_1 s m #[(.int i)] below meth c s₁ [] 0 0 := Stand.of_body Bd
  have e0 : s₁.heap = h0 := by rw [← hh, Bd.state]; rfl
  have N0 := Fr.nil n0
  show Gl p e below s (Q0 Z i w_EQUALS w_NOT_EQUALS w_LESS_THAN w_LESS_THAN_OR_EQUAL w_GREATER_THAN w_GREATER_THAN_OR_EQUAL w_BETWEEN w_IS_NULL w_IS_NOT_NULL w_LIKE w_NOT_LIKE w_STARTING_WITH w_ENDING_WITH w_CONTAINING w_IN w_NOT_IN h0 n0) room_1.cells room_1.slots (s₁.setTop (entryFrame m #[(.int i)] maxLocals))
  refine Gl.back (fun _ k => castTop (ef_0 m i) k) ?_
  show Gl _ _ _ _ _ _ _ (s₁.setTop (mkF m 0 #[.val (.int i), .unset, .unset, .unset, .unset] []))
  refine Gl.back (fun _ k => XS.iloadN X0.here hx rfl (hb hby at_0) rfl k) ?_
  show Gl _ _ _ _ _ _ _ (s₁.setTop (mkF m 1 #[.val (.int i), .unset, .unset, .unset, .unset] [(.int i)]))
  refine Gl.back (fun _ k => XS.bipush X0.here hx rfl (hb hby at_1) k) ?_
  show Gl _ _ _ _ _ _ _ (s₁.setTop (mkF m 3 #[.val (.int i), .unset, .unset, .unset, .unset] [(.int (15 : Int32)), (.int i)]))
  refine Gl.back (fun _ k => XS.iand X0.here hx rfl (hb hby at_3) rfl k) ?_
  show Gl _ _ _ _ _ _ _ (s₁.setTop (mkF m 4 #[.val (.int i), .unset, .unset, .unset, .unset] [(.int (i &&& (15 : Int32)))]))
  rcases own_16 (own_and15 i) with hk124 | hk124 | hk124 | hk124 | hk124 | hk124 | hk124 | hk124 | hk124 | hk124 | hk124 | hk124 | hk124 | hk124 | hk124 | hk124
  · rw [hk124]
    show Gl _ _ _ _ _ _ _ (s₁.setTop (mkF m 4 #[.val (.int i), .unset, .unset, .unset, .unset] [(.int (0 : Int32))]))
    refine Gl.back (fun _ k => XS.istoreN X0.here hx rfl (hb hby at_4) rfl (l' := #[.val (.int i), .val (.int (0 : Int32)), .unset, .unset, .unset]) rfl k) ?_
    show Gl _ _ _ _ _ _ _ (s₁.setTop (mkF m 5 #[.val (.int i), .val (.int (0 : Int32)), .unset, .unset, .unset] []))
    refine Gl.back (fun _ k => XS.iloadN X0.here hx rfl (hb hby at_5) rfl k) ?_
    show Gl _ _ _ _ _ _ _ (s₁.setTop (mkF m 6 #[.val (.int i), .val (.int (0 : Int32)), .unset, .unset, .unset] [(.int (0 : Int32))]))
    obtain ⟨_, _, ⟨T125, L125, k125, n125⟩, -, X125, ⟨Lc125, hQ125, l125, y125, z125⟩, st125⟩ := Jvm.LawKit.callS X0 hx (y := (⟨"com/example/demi_orm/demiorm/query/OperatorTakesCollectionPinLaw", "pick", "(I)Lcom/example/demi_orm/demiorm/query/Operator;"⟩ : MethodName)) hown (mvT hZ (hw _ (List.mem_of_getElem? (i := 0) rfl))) (mvT hZ (hw _ (List.mem_of_getElem? (i := 1) rfl))) (mvT hZ (hw _ (List.mem_of_getElem? (i := 2) rfl))) (mvT hZ (hw _ (List.mem_of_getElem? (i := 3) rfl))) (by decide) (backOf (W := 0) (rm1_EQUALS l Z a0 hw []  w_EQUALS h0 n0 Z0 S_EQUALS) hZ (hw _ (List.mem_of_getElem? (i := 3) rfl)) (hw _ (List.mem_of_getElem? (i := 2) rfl)) (by decide) (by decide)) (g := (mkF m 6 #[.val (.int i), .val (.int (0 : Int32)), .unset, .unset, .unset] [(.int (0 : Int32))])) rfl (by rw [hml]; rfl) (argsL := [(.int (0 : Int32))]) (rest := []) (lenOf pd__I_Lcom_example_demi_orm_demiorm_query_Operator_ rfl) rfl (by show 2 * 0 + _ ≤ _; exact Nat.le_of_eq rfl) (hb hby at_6) (fun _ _ => ⟨rfl, e0, (by decide : 0 + 0 ≤ _), (by decide : 0 + 0 ≤ _)⟩)
    dsimp only [Pt.U, Pt.locs, Pt.cells, Pt.slots] at X125 l125 y125 z125 st125 hQ125
    subst l125 y125 z125
    obtain ⟨Nq125, rfl, eh125⟩ := hQ125
    have N125 := Fr.app N0 Nq125
    refine Gl.back (fun _ k => st125 _ k) ?_
    show Gl _ _ _ _ _ _ _ (T125.setTop (mkF m 9 #[.val (.int i), .val (.int (0 : Int32)), .unset, .unset, .unset] [(.ref w_EQUALS)]))
    refine Gl.back (fun _ k => XS.astoreN X125.here hx rfl (hb hby at_9) rfl rfl (l' := #[.val (.int i), .val (.int (0 : Int32)), .val (.ref w_EQUALS), .unset, .unset]) rfl k) ?_
    show Gl _ _ _ _ _ _ _ (T125.setTop (mkF m 10 #[.val (.int i), .val (.int (0 : Int32)), .val (.ref w_EQUALS), .unset, .unset] []))
    refine Gl.back (fun _ k => XS.iloadN X125.here hx rfl (hb hby at_10) rfl k) ?_
    show Gl _ _ _ _ _ _ _ (T125.setTop (mkF m 11 #[.val (.int i), .val (.int (0 : Int32)), .val (.ref w_EQUALS), .unset, .unset] [(.int (0 : Int32))]))
    refine Gl.back (fun _ k => XS.bipush X125.here hx rfl (hb hby at_11) k) ?_
    show Gl _ _ _ _ _ _ _ (T125.setTop (mkF m 13 #[.val (.int i), .val (.int (0 : Int32)), .val (.ref w_EQUALS), .unset, .unset] [(.int (14 : Int32)), (.int (0 : Int32))]))
    refine Gl.back (fun _ k => XS.icmpNo X125.here hx rfl (hb hby at_13) rfl (feq (by decide : ¬ (0 : Int32) = (14 : Int32))).1 k) ?_
    show Gl _ _ _ _ _ _ _ (T125.setTop (mkF m 16 #[.val (.int i), .val (.int (0 : Int32)), .val (.ref w_EQUALS), .unset, .unset] []))
    refine Gl.back (fun _ k => XS.iloadN X125.here hx rfl (hb hby at_16) rfl k) ?_
    show Gl _ _ _ _ _ _ _ (T125.setTop (mkF m 17 #[.val (.int i), .val (.int (0 : Int32)), .val (.ref w_EQUALS), .unset, .unset] [(.int (0 : Int32))]))
    refine Gl.back (fun _ k => XS.bipush X125.here hx rfl (hb hby at_17) k) ?_
    show Gl _ _ _ _ _ _ _ (T125.setTop (mkF m 19 #[.val (.int i), .val (.int (0 : Int32)), .val (.ref w_EQUALS), .unset, .unset] [(.int (15 : Int32)), (.int (0 : Int32))]))
    refine Gl.back (fun _ k => XS.icmpYes X125.here hx rfl (pc0 := 19) (pc' := 26) rfl (hb hby at_19) rfl (feq (by decide : ¬ (0 : Int32) = (15 : Int32))).2 (by decide) (by decide) k) ?_
    show Gl _ _ _ _ _ _ _ (T125.setTop (mkF m 26 #[.val (.int i), .val (.int (0 : Int32)), .val (.ref w_EQUALS), .unset, .unset] []))
    refine Gl.back (fun _ k => XS.iconst X125.here hx rfl (hb hby at_26) k) ?_
    show Gl _ _ _ _ _ _ _ (T125.setTop (mkF m 27 #[.val (.int i), .val (.int (0 : Int32)), .val (.ref w_EQUALS), .unset, .unset] [(.int (0 : Int32))]))
    refine Gl.back (fun _ k => XS.istoreN X125.here hx rfl (hb hby at_27) rfl (l' := #[.val (.int i), .val (.int (0 : Int32)), .val (.ref w_EQUALS), .val (.int (0 : Int32)), .unset]) rfl k) ?_
    show Gl _ _ _ _ _ _ _ (T125.setTop (mkF m 28 #[.val (.int i), .val (.int (0 : Int32)), .val (.ref w_EQUALS), .val (.int (0 : Int32)), .unset] []))
    refine Gl.back (fun _ k => XS.aloadN X125.here hx rfl (hb hby at_28) rfl rfl k) ?_
    show Gl _ _ _ _ _ _ _ (T125.setTop (mkF m 29 #[.val (.int i), .val (.int (0 : Int32)), .val (.ref w_EQUALS), .val (.int (0 : Int32)), .unset] [(.ref w_EQUALS)]))
    obtain ⟨cq126, kq126, q126a, q126b, q126c⟩ := isOf hZ eh125 E_EQUALS
    obtain ⟨_, _, ⟨T126, L126, k126, n126⟩, -, X126, ⟨Lc126, hQ126, l126, y126, z126⟩, st126⟩ := X125.virtualBack hx (y := (⟨"com/example/demi_orm/demiorm/query/Operator", "takesCollection", "()Z"⟩ : MethodName)) (z := (⟨"com/example/demi_orm/demiorm/query/Operator", "takesCollection", "()Z"⟩ : MethodName)) hown (mvT hZ (hw _ (List.mem_of_getElem? (i := 7) rfl))) (mvT hZ (hw _ (List.mem_of_getElem? (i := 8) rfl))) (notFace_of_selects (args := #[]) (mvT hZ (hw _ (List.mem_of_getElem? (i := 10) rfl)))) (mvT hZ (hw _ (List.mem_of_getElem? (i := 10) rfl))) (mvT hZ (hw _ (List.mem_of_getElem? (i := 9) rfl))) (by decide) (backOf (W := 0) (rm2_no l Z a0 hw [] w_EQUALS w_IN w_NOT_IN h0 n0 Z0 S_IN S_NOT_IN (Fld.ne F_EQUALS_ordinal F_IN_ordinal (by decide)) (Fld.ne F_EQUALS_ordinal F_NOT_IN_ordinal (by decide))) hZ (hw _ (List.mem_of_getElem? (i := 11) rfl)) (hw _ (List.mem_of_getElem? (i := 5) rfl)) (by decide) (by decide)) q126a q126c (g := (mkF m 29 #[.val (.int i), .val (.int (0 : Int32)), .val (.ref w_EQUALS), .val (.int (0 : Int32)), .unset] [(.ref w_EQUALS)])) rfl (by rw [hml]; rfl) (Steps.refl _) (argsL := []) (rest := []) (lenOf pd___Z rfl) rfl (by show 2 * 0 + _ ≤ _; exact Nat.le_of_eq rfl) (hb hby at_29) (fun _ _ => ⟨rfl, eh125, (by decide : 0 + 0 ≤ _), (by decide : 0 + 0 ≤ _)⟩)
    dsimp only [Pt.U, Pt.locs, Pt.cells, Pt.slots] at X126 l126 y126 z126 st126 hQ126
    subst l126 y126 z126
    obtain ⟨Nq126, rfl, eh126⟩ := hQ126
    have N126 := Fr.app N125 Nq126
    refine Gl.back (fun _ k => st126.trans k) ?_
    show Gl _ _ _ _ _ _ _ (T126.setTop (mkF m 32 #[.val (.int i), .val (.int (0 : Int32)), .val (.ref w_EQUALS), .val (.int (0 : Int32)), .unset] [(.int (0 : Int32))]))
    refine Gl.back (fun _ k => XS.istore X126.here hx rfl (hb hby at_32) rfl (l' := #[.val (.int i), .val (.int (0 : Int32)), .val (.ref w_EQUALS), .val (.int (0 : Int32)), .val (.int (0 : Int32))]) rfl k) ?_
    show Gl _ _ _ _ _ _ _ (T126.setTop (mkF m 34 #[.val (.int i), .val (.int (0 : Int32)), .val (.ref w_EQUALS), .val (.int (0 : Int32)), .val (.int (0 : Int32))] []))
    refine Gl.back (fun _ k => XS.iload X126.here hx rfl (hb hby at_34) rfl k) ?_
    show Gl _ _ _ _ _ _ _ (T126.setTop (mkF m 36 #[.val (.int i), .val (.int (0 : Int32)), .val (.ref w_EQUALS), .val (.int (0 : Int32)), .val (.int (0 : Int32))] [(.int (0 : Int32))]))
    refine Gl.back (fun _ k => XS.iloadN X126.here hx rfl (hb hby at_36) rfl k) ?_
    show Gl _ _ _ _ _ _ _ (T126.setTop (mkF m 37 #[.val (.int i), .val (.int (0 : Int32)), .val (.ref w_EQUALS), .val (.int (0 : Int32)), .val (.int (0 : Int32))] [(.int (0 : Int32)), (.int (0 : Int32))]))
    refine Gl.back (fun _ k => XS.icmpYes X126.here hx rfl (pc0 := 37) (pc' := 42) rfl (hb hby at_37) rfl (teq (by decide : (0 : Int32) = (0 : Int32))).1 (by decide) (by decide) k) ?_
    show Gl _ _ _ _ _ _ _ (T126.setTop (mkF m 42 #[.val (.int i), .val (.int (0 : Int32)), .val (.ref w_EQUALS), .val (.int (0 : Int32)), .val (.int (0 : Int32))] []))
    refine Gl.back (fun _ k => XS.iload X126.here hx rfl (hb hby at_42) rfl k) ?_
    show Gl _ _ _ _ _ _ _ (T126.setTop (mkF m 44 #[.val (.int i), .val (.int (0 : Int32)), .val (.ref w_EQUALS), .val (.int (0 : Int32)), .val (.int (0 : Int32))] [(.int (0 : Int32))]))
    refine Gl.back (fun _ k => XS.ifYes X126.here hx rfl (pc0 := 44) (pc' := 75) rfl (hb hby at_44) rfl ((if0 _ _).trans (teq (by decide : (0 : Int32) = (0 : Int32))).1) (by decide) (by decide) k) ?_
    show Gl _ _ _ _ _ _ _ (T126.setTop (mkF m 75 #[.val (.int i), .val (.int (0 : Int32)), .val (.ref w_EQUALS), .val (.int (0 : Int32)), .val (.int (0 : Int32))] []))
    refine Gl.back (fun _ k => XS.iconst X126.here hx rfl (hb hby at_75) k) ?_
    show Gl _ _ _ _ _ _ _ (T126.setTop (mkF m 76 #[.val (.int i), .val (.int (0 : Int32)), .val (.ref w_EQUALS), .val (.int (0 : Int32)), .val (.int (0 : Int32))] [(.int (1 : Int32))]))
    exact Gl.ret X126 eh126 (v := (some (.int (1 : Int32)))) (fun h => by rw [Bd.returns] at h; cases h) Bd.notSynchronized (fun fs hr => retN X126 hx (t := .boolean) (z := (1 : Int32)) Bd.returns (by simp) (hb hby at_76) hr) ⟨N126, rfl⟩ (by decide) (by decide)
  · rw [hk124]
    show Gl _ _ _ _ _ _ _ (s₁.setTop (mkF m 4 #[.val (.int i), .unset, .unset, .unset, .unset] [(.int (1 : Int32))]))
    refine Gl.back (fun _ k => XS.istoreN X0.here hx rfl (hb hby at_4) rfl (l' := #[.val (.int i), .val (.int (1 : Int32)), .unset, .unset, .unset]) rfl k) ?_
    show Gl _ _ _ _ _ _ _ (s₁.setTop (mkF m 5 #[.val (.int i), .val (.int (1 : Int32)), .unset, .unset, .unset] []))
    refine Gl.back (fun _ k => XS.iloadN X0.here hx rfl (hb hby at_5) rfl k) ?_
    show Gl _ _ _ _ _ _ _ (s₁.setTop (mkF m 6 #[.val (.int i), .val (.int (1 : Int32)), .unset, .unset, .unset] [(.int (1 : Int32))]))
    obtain ⟨_, _, ⟨T127, L127, k127, n127⟩, -, X127, ⟨Lc127, hQ127, l127, y127, z127⟩, st127⟩ := Jvm.LawKit.callS X0 hx (y := (⟨"com/example/demi_orm/demiorm/query/OperatorTakesCollectionPinLaw", "pick", "(I)Lcom/example/demi_orm/demiorm/query/Operator;"⟩ : MethodName)) hown (mvT hZ (hw _ (List.mem_of_getElem? (i := 0) rfl))) (mvT hZ (hw _ (List.mem_of_getElem? (i := 1) rfl))) (mvT hZ (hw _ (List.mem_of_getElem? (i := 2) rfl))) (mvT hZ (hw _ (List.mem_of_getElem? (i := 3) rfl))) (by decide) (backOf (W := 0) (rm1_NOT_EQUALS l Z a0 hw []  w_NOT_EQUALS h0 n0 Z0 S_NOT_EQUALS) hZ (hw _ (List.mem_of_getElem? (i := 3) rfl)) (hw _ (List.mem_of_getElem? (i := 2) rfl)) (by decide) (by decide)) (g := (mkF m 6 #[.val (.int i), .val (.int (1 : Int32)), .unset, .unset, .unset] [(.int (1 : Int32))])) rfl (by rw [hml]; rfl) (argsL := [(.int (1 : Int32))]) (rest := []) (lenOf pd__I_Lcom_example_demi_orm_demiorm_query_Operator_ rfl) rfl (by show 2 * 0 + _ ≤ _; exact Nat.le_of_eq rfl) (hb hby at_6) (fun _ _ => ⟨rfl, e0, (by decide : 0 + 0 ≤ _), (by decide : 0 + 0 ≤ _)⟩)
    dsimp only [Pt.U, Pt.locs, Pt.cells, Pt.slots] at X127 l127 y127 z127 st127 hQ127
    subst l127 y127 z127
    obtain ⟨Nq127, rfl, eh127⟩ := hQ127
    have N127 := Fr.app N0 Nq127
    refine Gl.back (fun _ k => st127 _ k) ?_
    show Gl _ _ _ _ _ _ _ (T127.setTop (mkF m 9 #[.val (.int i), .val (.int (1 : Int32)), .unset, .unset, .unset] [(.ref w_NOT_EQUALS)]))
    refine Gl.back (fun _ k => XS.astoreN X127.here hx rfl (hb hby at_9) rfl rfl (l' := #[.val (.int i), .val (.int (1 : Int32)), .val (.ref w_NOT_EQUALS), .unset, .unset]) rfl k) ?_
    show Gl _ _ _ _ _ _ _ (T127.setTop (mkF m 10 #[.val (.int i), .val (.int (1 : Int32)), .val (.ref w_NOT_EQUALS), .unset, .unset] []))
    refine Gl.back (fun _ k => XS.iloadN X127.here hx rfl (hb hby at_10) rfl k) ?_
    show Gl _ _ _ _ _ _ _ (T127.setTop (mkF m 11 #[.val (.int i), .val (.int (1 : Int32)), .val (.ref w_NOT_EQUALS), .unset, .unset] [(.int (1 : Int32))]))
    refine Gl.back (fun _ k => XS.bipush X127.here hx rfl (hb hby at_11) k) ?_
    show Gl _ _ _ _ _ _ _ (T127.setTop (mkF m 13 #[.val (.int i), .val (.int (1 : Int32)), .val (.ref w_NOT_EQUALS), .unset, .unset] [(.int (14 : Int32)), (.int (1 : Int32))]))
    refine Gl.back (fun _ k => XS.icmpNo X127.here hx rfl (hb hby at_13) rfl (feq (by decide : ¬ (1 : Int32) = (14 : Int32))).1 k) ?_
    show Gl _ _ _ _ _ _ _ (T127.setTop (mkF m 16 #[.val (.int i), .val (.int (1 : Int32)), .val (.ref w_NOT_EQUALS), .unset, .unset] []))
    refine Gl.back (fun _ k => XS.iloadN X127.here hx rfl (hb hby at_16) rfl k) ?_
    show Gl _ _ _ _ _ _ _ (T127.setTop (mkF m 17 #[.val (.int i), .val (.int (1 : Int32)), .val (.ref w_NOT_EQUALS), .unset, .unset] [(.int (1 : Int32))]))
    refine Gl.back (fun _ k => XS.bipush X127.here hx rfl (hb hby at_17) k) ?_
    show Gl _ _ _ _ _ _ _ (T127.setTop (mkF m 19 #[.val (.int i), .val (.int (1 : Int32)), .val (.ref w_NOT_EQUALS), .unset, .unset] [(.int (15 : Int32)), (.int (1 : Int32))]))
    refine Gl.back (fun _ k => XS.icmpYes X127.here hx rfl (pc0 := 19) (pc' := 26) rfl (hb hby at_19) rfl (feq (by decide : ¬ (1 : Int32) = (15 : Int32))).2 (by decide) (by decide) k) ?_
    show Gl _ _ _ _ _ _ _ (T127.setTop (mkF m 26 #[.val (.int i), .val (.int (1 : Int32)), .val (.ref w_NOT_EQUALS), .unset, .unset] []))
    refine Gl.back (fun _ k => XS.iconst X127.here hx rfl (hb hby at_26) k) ?_
    show Gl _ _ _ _ _ _ _ (T127.setTop (mkF m 27 #[.val (.int i), .val (.int (1 : Int32)), .val (.ref w_NOT_EQUALS), .unset, .unset] [(.int (0 : Int32))]))
    refine Gl.back (fun _ k => XS.istoreN X127.here hx rfl (hb hby at_27) rfl (l' := #[.val (.int i), .val (.int (1 : Int32)), .val (.ref w_NOT_EQUALS), .val (.int (0 : Int32)), .unset]) rfl k) ?_
    show Gl _ _ _ _ _ _ _ (T127.setTop (mkF m 28 #[.val (.int i), .val (.int (1 : Int32)), .val (.ref w_NOT_EQUALS), .val (.int (0 : Int32)), .unset] []))
    refine Gl.back (fun _ k => XS.aloadN X127.here hx rfl (hb hby at_28) rfl rfl k) ?_
    show Gl _ _ _ _ _ _ _ (T127.setTop (mkF m 29 #[.val (.int i), .val (.int (1 : Int32)), .val (.ref w_NOT_EQUALS), .val (.int (0 : Int32)), .unset] [(.ref w_NOT_EQUALS)]))
    obtain ⟨cq128, kq128, q128a, q128b, q128c⟩ := isOf hZ eh127 E_NOT_EQUALS
    obtain ⟨_, _, ⟨T128, L128, k128, n128⟩, -, X128, ⟨Lc128, hQ128, l128, y128, z128⟩, st128⟩ := X127.virtualBack hx (y := (⟨"com/example/demi_orm/demiorm/query/Operator", "takesCollection", "()Z"⟩ : MethodName)) (z := (⟨"com/example/demi_orm/demiorm/query/Operator", "takesCollection", "()Z"⟩ : MethodName)) hown (mvT hZ (hw _ (List.mem_of_getElem? (i := 7) rfl))) (mvT hZ (hw _ (List.mem_of_getElem? (i := 8) rfl))) (notFace_of_selects (args := #[]) (mvT hZ (hw _ (List.mem_of_getElem? (i := 10) rfl)))) (mvT hZ (hw _ (List.mem_of_getElem? (i := 10) rfl))) (mvT hZ (hw _ (List.mem_of_getElem? (i := 9) rfl))) (by decide) (backOf (W := 0) (rm2_no l Z a0 hw [] w_NOT_EQUALS w_IN w_NOT_IN h0 n0 Z0 S_IN S_NOT_IN (Fld.ne F_NOT_EQUALS_ordinal F_IN_ordinal (by decide)) (Fld.ne F_NOT_EQUALS_ordinal F_NOT_IN_ordinal (by decide))) hZ (hw _ (List.mem_of_getElem? (i := 11) rfl)) (hw _ (List.mem_of_getElem? (i := 5) rfl)) (by decide) (by decide)) q128a q128c (g := (mkF m 29 #[.val (.int i), .val (.int (1 : Int32)), .val (.ref w_NOT_EQUALS), .val (.int (0 : Int32)), .unset] [(.ref w_NOT_EQUALS)])) rfl (by rw [hml]; rfl) (Steps.refl _) (argsL := []) (rest := []) (lenOf pd___Z rfl) rfl (by show 2 * 0 + _ ≤ _; exact Nat.le_of_eq rfl) (hb hby at_29) (fun _ _ => ⟨rfl, eh127, (by decide : 0 + 0 ≤ _), (by decide : 0 + 0 ≤ _)⟩)
    dsimp only [Pt.U, Pt.locs, Pt.cells, Pt.slots] at X128 l128 y128 z128 st128 hQ128
    subst l128 y128 z128
    obtain ⟨Nq128, rfl, eh128⟩ := hQ128
    have N128 := Fr.app N127 Nq128
    refine Gl.back (fun _ k => st128.trans k) ?_
    show Gl _ _ _ _ _ _ _ (T128.setTop (mkF m 32 #[.val (.int i), .val (.int (1 : Int32)), .val (.ref w_NOT_EQUALS), .val (.int (0 : Int32)), .unset] [(.int (0 : Int32))]))
    refine Gl.back (fun _ k => XS.istore X128.here hx rfl (hb hby at_32) rfl (l' := #[.val (.int i), .val (.int (1 : Int32)), .val (.ref w_NOT_EQUALS), .val (.int (0 : Int32)), .val (.int (0 : Int32))]) rfl k) ?_
    show Gl _ _ _ _ _ _ _ (T128.setTop (mkF m 34 #[.val (.int i), .val (.int (1 : Int32)), .val (.ref w_NOT_EQUALS), .val (.int (0 : Int32)), .val (.int (0 : Int32))] []))
    refine Gl.back (fun _ k => XS.iload X128.here hx rfl (hb hby at_34) rfl k) ?_
    show Gl _ _ _ _ _ _ _ (T128.setTop (mkF m 36 #[.val (.int i), .val (.int (1 : Int32)), .val (.ref w_NOT_EQUALS), .val (.int (0 : Int32)), .val (.int (0 : Int32))] [(.int (0 : Int32))]))
    refine Gl.back (fun _ k => XS.iloadN X128.here hx rfl (hb hby at_36) rfl k) ?_
    show Gl _ _ _ _ _ _ _ (T128.setTop (mkF m 37 #[.val (.int i), .val (.int (1 : Int32)), .val (.ref w_NOT_EQUALS), .val (.int (0 : Int32)), .val (.int (0 : Int32))] [(.int (0 : Int32)), (.int (0 : Int32))]))
    refine Gl.back (fun _ k => XS.icmpYes X128.here hx rfl (pc0 := 37) (pc' := 42) rfl (hb hby at_37) rfl (teq (by decide : (0 : Int32) = (0 : Int32))).1 (by decide) (by decide) k) ?_
    show Gl _ _ _ _ _ _ _ (T128.setTop (mkF m 42 #[.val (.int i), .val (.int (1 : Int32)), .val (.ref w_NOT_EQUALS), .val (.int (0 : Int32)), .val (.int (0 : Int32))] []))
    refine Gl.back (fun _ k => XS.iload X128.here hx rfl (hb hby at_42) rfl k) ?_
    show Gl _ _ _ _ _ _ _ (T128.setTop (mkF m 44 #[.val (.int i), .val (.int (1 : Int32)), .val (.ref w_NOT_EQUALS), .val (.int (0 : Int32)), .val (.int (0 : Int32))] [(.int (0 : Int32))]))
    refine Gl.back (fun _ k => XS.ifYes X128.here hx rfl (pc0 := 44) (pc' := 75) rfl (hb hby at_44) rfl ((if0 _ _).trans (teq (by decide : (0 : Int32) = (0 : Int32))).1) (by decide) (by decide) k) ?_
    show Gl _ _ _ _ _ _ _ (T128.setTop (mkF m 75 #[.val (.int i), .val (.int (1 : Int32)), .val (.ref w_NOT_EQUALS), .val (.int (0 : Int32)), .val (.int (0 : Int32))] []))
    refine Gl.back (fun _ k => XS.iconst X128.here hx rfl (hb hby at_75) k) ?_
    show Gl _ _ _ _ _ _ _ (T128.setTop (mkF m 76 #[.val (.int i), .val (.int (1 : Int32)), .val (.ref w_NOT_EQUALS), .val (.int (0 : Int32)), .val (.int (0 : Int32))] [(.int (1 : Int32))]))
    exact Gl.ret X128 eh128 (v := (some (.int (1 : Int32)))) (fun h => by rw [Bd.returns] at h; cases h) Bd.notSynchronized (fun fs hr => retN X128 hx (t := .boolean) (z := (1 : Int32)) Bd.returns (by simp) (hb hby at_76) hr) ⟨N128, rfl⟩ (by decide) (by decide)
  · rw [hk124]
    show Gl _ _ _ _ _ _ _ (s₁.setTop (mkF m 4 #[.val (.int i), .unset, .unset, .unset, .unset] [(.int (2 : Int32))]))
    refine Gl.back (fun _ k => XS.istoreN X0.here hx rfl (hb hby at_4) rfl (l' := #[.val (.int i), .val (.int (2 : Int32)), .unset, .unset, .unset]) rfl k) ?_
    show Gl _ _ _ _ _ _ _ (s₁.setTop (mkF m 5 #[.val (.int i), .val (.int (2 : Int32)), .unset, .unset, .unset] []))
    refine Gl.back (fun _ k => XS.iloadN X0.here hx rfl (hb hby at_5) rfl k) ?_
    show Gl _ _ _ _ _ _ _ (s₁.setTop (mkF m 6 #[.val (.int i), .val (.int (2 : Int32)), .unset, .unset, .unset] [(.int (2 : Int32))]))
    obtain ⟨_, _, ⟨T129, L129, k129, n129⟩, -, X129, ⟨Lc129, hQ129, l129, y129, z129⟩, st129⟩ := Jvm.LawKit.callS X0 hx (y := (⟨"com/example/demi_orm/demiorm/query/OperatorTakesCollectionPinLaw", "pick", "(I)Lcom/example/demi_orm/demiorm/query/Operator;"⟩ : MethodName)) hown (mvT hZ (hw _ (List.mem_of_getElem? (i := 0) rfl))) (mvT hZ (hw _ (List.mem_of_getElem? (i := 1) rfl))) (mvT hZ (hw _ (List.mem_of_getElem? (i := 2) rfl))) (mvT hZ (hw _ (List.mem_of_getElem? (i := 3) rfl))) (by decide) (backOf (W := 0) (rm1_LESS_THAN l Z a0 hw []  w_LESS_THAN h0 n0 Z0 S_LESS_THAN) hZ (hw _ (List.mem_of_getElem? (i := 3) rfl)) (hw _ (List.mem_of_getElem? (i := 2) rfl)) (by decide) (by decide)) (g := (mkF m 6 #[.val (.int i), .val (.int (2 : Int32)), .unset, .unset, .unset] [(.int (2 : Int32))])) rfl (by rw [hml]; rfl) (argsL := [(.int (2 : Int32))]) (rest := []) (lenOf pd__I_Lcom_example_demi_orm_demiorm_query_Operator_ rfl) rfl (by show 2 * 0 + _ ≤ _; exact Nat.le_of_eq rfl) (hb hby at_6) (fun _ _ => ⟨rfl, e0, (by decide : 0 + 0 ≤ _), (by decide : 0 + 0 ≤ _)⟩)
    dsimp only [Pt.U, Pt.locs, Pt.cells, Pt.slots] at X129 l129 y129 z129 st129 hQ129
    subst l129 y129 z129
    obtain ⟨Nq129, rfl, eh129⟩ := hQ129
    have N129 := Fr.app N0 Nq129
    refine Gl.back (fun _ k => st129 _ k) ?_
    show Gl _ _ _ _ _ _ _ (T129.setTop (mkF m 9 #[.val (.int i), .val (.int (2 : Int32)), .unset, .unset, .unset] [(.ref w_LESS_THAN)]))
    refine Gl.back (fun _ k => XS.astoreN X129.here hx rfl (hb hby at_9) rfl rfl (l' := #[.val (.int i), .val (.int (2 : Int32)), .val (.ref w_LESS_THAN), .unset, .unset]) rfl k) ?_
    show Gl _ _ _ _ _ _ _ (T129.setTop (mkF m 10 #[.val (.int i), .val (.int (2 : Int32)), .val (.ref w_LESS_THAN), .unset, .unset] []))
    refine Gl.back (fun _ k => XS.iloadN X129.here hx rfl (hb hby at_10) rfl k) ?_
    show Gl _ _ _ _ _ _ _ (T129.setTop (mkF m 11 #[.val (.int i), .val (.int (2 : Int32)), .val (.ref w_LESS_THAN), .unset, .unset] [(.int (2 : Int32))]))
    refine Gl.back (fun _ k => XS.bipush X129.here hx rfl (hb hby at_11) k) ?_
    show Gl _ _ _ _ _ _ _ (T129.setTop (mkF m 13 #[.val (.int i), .val (.int (2 : Int32)), .val (.ref w_LESS_THAN), .unset, .unset] [(.int (14 : Int32)), (.int (2 : Int32))]))
    refine Gl.back (fun _ k => XS.icmpNo X129.here hx rfl (hb hby at_13) rfl (feq (by decide : ¬ (2 : Int32) = (14 : Int32))).1 k) ?_
    show Gl _ _ _ _ _ _ _ (T129.setTop (mkF m 16 #[.val (.int i), .val (.int (2 : Int32)), .val (.ref w_LESS_THAN), .unset, .unset] []))
    refine Gl.back (fun _ k => XS.iloadN X129.here hx rfl (hb hby at_16) rfl k) ?_
    show Gl _ _ _ _ _ _ _ (T129.setTop (mkF m 17 #[.val (.int i), .val (.int (2 : Int32)), .val (.ref w_LESS_THAN), .unset, .unset] [(.int (2 : Int32))]))
    refine Gl.back (fun _ k => XS.bipush X129.here hx rfl (hb hby at_17) k) ?_
    show Gl _ _ _ _ _ _ _ (T129.setTop (mkF m 19 #[.val (.int i), .val (.int (2 : Int32)), .val (.ref w_LESS_THAN), .unset, .unset] [(.int (15 : Int32)), (.int (2 : Int32))]))
    refine Gl.back (fun _ k => XS.icmpYes X129.here hx rfl (pc0 := 19) (pc' := 26) rfl (hb hby at_19) rfl (feq (by decide : ¬ (2 : Int32) = (15 : Int32))).2 (by decide) (by decide) k) ?_
    show Gl _ _ _ _ _ _ _ (T129.setTop (mkF m 26 #[.val (.int i), .val (.int (2 : Int32)), .val (.ref w_LESS_THAN), .unset, .unset] []))
    refine Gl.back (fun _ k => XS.iconst X129.here hx rfl (hb hby at_26) k) ?_
    show Gl _ _ _ _ _ _ _ (T129.setTop (mkF m 27 #[.val (.int i), .val (.int (2 : Int32)), .val (.ref w_LESS_THAN), .unset, .unset] [(.int (0 : Int32))]))
    refine Gl.back (fun _ k => XS.istoreN X129.here hx rfl (hb hby at_27) rfl (l' := #[.val (.int i), .val (.int (2 : Int32)), .val (.ref w_LESS_THAN), .val (.int (0 : Int32)), .unset]) rfl k) ?_
    show Gl _ _ _ _ _ _ _ (T129.setTop (mkF m 28 #[.val (.int i), .val (.int (2 : Int32)), .val (.ref w_LESS_THAN), .val (.int (0 : Int32)), .unset] []))
    refine Gl.back (fun _ k => XS.aloadN X129.here hx rfl (hb hby at_28) rfl rfl k) ?_
    show Gl _ _ _ _ _ _ _ (T129.setTop (mkF m 29 #[.val (.int i), .val (.int (2 : Int32)), .val (.ref w_LESS_THAN), .val (.int (0 : Int32)), .unset] [(.ref w_LESS_THAN)]))
    obtain ⟨cq130, kq130, q130a, q130b, q130c⟩ := isOf hZ eh129 E_LESS_THAN
    obtain ⟨_, _, ⟨T130, L130, k130, n130⟩, -, X130, ⟨Lc130, hQ130, l130, y130, z130⟩, st130⟩ := X129.virtualBack hx (y := (⟨"com/example/demi_orm/demiorm/query/Operator", "takesCollection", "()Z"⟩ : MethodName)) (z := (⟨"com/example/demi_orm/demiorm/query/Operator", "takesCollection", "()Z"⟩ : MethodName)) hown (mvT hZ (hw _ (List.mem_of_getElem? (i := 7) rfl))) (mvT hZ (hw _ (List.mem_of_getElem? (i := 8) rfl))) (notFace_of_selects (args := #[]) (mvT hZ (hw _ (List.mem_of_getElem? (i := 10) rfl)))) (mvT hZ (hw _ (List.mem_of_getElem? (i := 10) rfl))) (mvT hZ (hw _ (List.mem_of_getElem? (i := 9) rfl))) (by decide) (backOf (W := 0) (rm2_no l Z a0 hw [] w_LESS_THAN w_IN w_NOT_IN h0 n0 Z0 S_IN S_NOT_IN (Fld.ne F_LESS_THAN_ordinal F_IN_ordinal (by decide)) (Fld.ne F_LESS_THAN_ordinal F_NOT_IN_ordinal (by decide))) hZ (hw _ (List.mem_of_getElem? (i := 11) rfl)) (hw _ (List.mem_of_getElem? (i := 5) rfl)) (by decide) (by decide)) q130a q130c (g := (mkF m 29 #[.val (.int i), .val (.int (2 : Int32)), .val (.ref w_LESS_THAN), .val (.int (0 : Int32)), .unset] [(.ref w_LESS_THAN)])) rfl (by rw [hml]; rfl) (Steps.refl _) (argsL := []) (rest := []) (lenOf pd___Z rfl) rfl (by show 2 * 0 + _ ≤ _; exact Nat.le_of_eq rfl) (hb hby at_29) (fun _ _ => ⟨rfl, eh129, (by decide : 0 + 0 ≤ _), (by decide : 0 + 0 ≤ _)⟩)
    dsimp only [Pt.U, Pt.locs, Pt.cells, Pt.slots] at X130 l130 y130 z130 st130 hQ130
    subst l130 y130 z130
    obtain ⟨Nq130, rfl, eh130⟩ := hQ130
    have N130 := Fr.app N129 Nq130
    refine Gl.back (fun _ k => st130.trans k) ?_
    show Gl _ _ _ _ _ _ _ (T130.setTop (mkF m 32 #[.val (.int i), .val (.int (2 : Int32)), .val (.ref w_LESS_THAN), .val (.int (0 : Int32)), .unset] [(.int (0 : Int32))]))
    refine Gl.back (fun _ k => XS.istore X130.here hx rfl (hb hby at_32) rfl (l' := #[.val (.int i), .val (.int (2 : Int32)), .val (.ref w_LESS_THAN), .val (.int (0 : Int32)), .val (.int (0 : Int32))]) rfl k) ?_
    show Gl _ _ _ _ _ _ _ (T130.setTop (mkF m 34 #[.val (.int i), .val (.int (2 : Int32)), .val (.ref w_LESS_THAN), .val (.int (0 : Int32)), .val (.int (0 : Int32))] []))
    refine Gl.back (fun _ k => XS.iload X130.here hx rfl (hb hby at_34) rfl k) ?_
    show Gl _ _ _ _ _ _ _ (T130.setTop (mkF m 36 #[.val (.int i), .val (.int (2 : Int32)), .val (.ref w_LESS_THAN), .val (.int (0 : Int32)), .val (.int (0 : Int32))] [(.int (0 : Int32))]))
    refine Gl.back (fun _ k => XS.iloadN X130.here hx rfl (hb hby at_36) rfl k) ?_
    show Gl _ _ _ _ _ _ _ (T130.setTop (mkF m 37 #[.val (.int i), .val (.int (2 : Int32)), .val (.ref w_LESS_THAN), .val (.int (0 : Int32)), .val (.int (0 : Int32))] [(.int (0 : Int32)), (.int (0 : Int32))]))
    refine Gl.back (fun _ k => XS.icmpYes X130.here hx rfl (pc0 := 37) (pc' := 42) rfl (hb hby at_37) rfl (teq (by decide : (0 : Int32) = (0 : Int32))).1 (by decide) (by decide) k) ?_
    show Gl _ _ _ _ _ _ _ (T130.setTop (mkF m 42 #[.val (.int i), .val (.int (2 : Int32)), .val (.ref w_LESS_THAN), .val (.int (0 : Int32)), .val (.int (0 : Int32))] []))
    refine Gl.back (fun _ k => XS.iload X130.here hx rfl (hb hby at_42) rfl k) ?_
    show Gl _ _ _ _ _ _ _ (T130.setTop (mkF m 44 #[.val (.int i), .val (.int (2 : Int32)), .val (.ref w_LESS_THAN), .val (.int (0 : Int32)), .val (.int (0 : Int32))] [(.int (0 : Int32))]))
    refine Gl.back (fun _ k => XS.ifYes X130.here hx rfl (pc0 := 44) (pc' := 75) rfl (hb hby at_44) rfl ((if0 _ _).trans (teq (by decide : (0 : Int32) = (0 : Int32))).1) (by decide) (by decide) k) ?_
    show Gl _ _ _ _ _ _ _ (T130.setTop (mkF m 75 #[.val (.int i), .val (.int (2 : Int32)), .val (.ref w_LESS_THAN), .val (.int (0 : Int32)), .val (.int (0 : Int32))] []))
    refine Gl.back (fun _ k => XS.iconst X130.here hx rfl (hb hby at_75) k) ?_
    show Gl _ _ _ _ _ _ _ (T130.setTop (mkF m 76 #[.val (.int i), .val (.int (2 : Int32)), .val (.ref w_LESS_THAN), .val (.int (0 : Int32)), .val (.int (0 : Int32))] [(.int (1 : Int32))]))
    exact Gl.ret X130 eh130 (v := (some (.int (1 : Int32)))) (fun h => by rw [Bd.returns] at h; cases h) Bd.notSynchronized (fun fs hr => retN X130 hx (t := .boolean) (z := (1 : Int32)) Bd.returns (by simp) (hb hby at_76) hr) ⟨N130, rfl⟩ (by decide) (by decide)
  · rw [hk124]
    show Gl _ _ _ _ _ _ _ (s₁.setTop (mkF m 4 #[.val (.int i), .unset, .unset, .unset, .unset] [(.int (3 : Int32))]))
    refine Gl.back (fun _ k => XS.istoreN X0.here hx rfl (hb hby at_4) rfl (l' := #[.val (.int i), .val (.int (3 : Int32)), .unset, .unset, .unset]) rfl k) ?_
    show Gl _ _ _ _ _ _ _ (s₁.setTop (mkF m 5 #[.val (.int i), .val (.int (3 : Int32)), .unset, .unset, .unset] []))
    refine Gl.back (fun _ k => XS.iloadN X0.here hx rfl (hb hby at_5) rfl k) ?_
    show Gl _ _ _ _ _ _ _ (s₁.setTop (mkF m 6 #[.val (.int i), .val (.int (3 : Int32)), .unset, .unset, .unset] [(.int (3 : Int32))]))
    obtain ⟨_, _, ⟨T131, L131, k131, n131⟩, -, X131, ⟨Lc131, hQ131, l131, y131, z131⟩, st131⟩ := Jvm.LawKit.callS X0 hx (y := (⟨"com/example/demi_orm/demiorm/query/OperatorTakesCollectionPinLaw", "pick", "(I)Lcom/example/demi_orm/demiorm/query/Operator;"⟩ : MethodName)) hown (mvT hZ (hw _ (List.mem_of_getElem? (i := 0) rfl))) (mvT hZ (hw _ (List.mem_of_getElem? (i := 1) rfl))) (mvT hZ (hw _ (List.mem_of_getElem? (i := 2) rfl))) (mvT hZ (hw _ (List.mem_of_getElem? (i := 3) rfl))) (by decide) (backOf (W := 0) (rm1_LESS_THAN_OR_EQUAL l Z a0 hw []  w_LESS_THAN_OR_EQUAL h0 n0 Z0 S_LESS_THAN_OR_EQUAL) hZ (hw _ (List.mem_of_getElem? (i := 3) rfl)) (hw _ (List.mem_of_getElem? (i := 2) rfl)) (by decide) (by decide)) (g := (mkF m 6 #[.val (.int i), .val (.int (3 : Int32)), .unset, .unset, .unset] [(.int (3 : Int32))])) rfl (by rw [hml]; rfl) (argsL := [(.int (3 : Int32))]) (rest := []) (lenOf pd__I_Lcom_example_demi_orm_demiorm_query_Operator_ rfl) rfl (by show 2 * 0 + _ ≤ _; exact Nat.le_of_eq rfl) (hb hby at_6) (fun _ _ => ⟨rfl, e0, (by decide : 0 + 0 ≤ _), (by decide : 0 + 0 ≤ _)⟩)
    dsimp only [Pt.U, Pt.locs, Pt.cells, Pt.slots] at X131 l131 y131 z131 st131 hQ131
    subst l131 y131 z131
    obtain ⟨Nq131, rfl, eh131⟩ := hQ131
    have N131 := Fr.app N0 Nq131
    refine Gl.back (fun _ k => st131 _ k) ?_
    show Gl _ _ _ _ _ _ _ (T131.setTop (mkF m 9 #[.val (.int i), .val (.int (3 : Int32)), .unset, .unset, .unset] [(.ref w_LESS_THAN_OR_EQUAL)]))
    refine Gl.back (fun _ k => XS.astoreN X131.here hx rfl (hb hby at_9) rfl rfl (l' := #[.val (.int i), .val (.int (3 : Int32)), .val (.ref w_LESS_THAN_OR_EQUAL), .unset, .unset]) rfl k) ?_
    show Gl _ _ _ _ _ _ _ (T131.setTop (mkF m 10 #[.val (.int i), .val (.int (3 : Int32)), .val (.ref w_LESS_THAN_OR_EQUAL), .unset, .unset] []))
    refine Gl.back (fun _ k => XS.iloadN X131.here hx rfl (hb hby at_10) rfl k) ?_
    show Gl _ _ _ _ _ _ _ (T131.setTop (mkF m 11 #[.val (.int i), .val (.int (3 : Int32)), .val (.ref w_LESS_THAN_OR_EQUAL), .unset, .unset] [(.int (3 : Int32))]))
    refine Gl.back (fun _ k => XS.bipush X131.here hx rfl (hb hby at_11) k) ?_
    show Gl _ _ _ _ _ _ _ (T131.setTop (mkF m 13 #[.val (.int i), .val (.int (3 : Int32)), .val (.ref w_LESS_THAN_OR_EQUAL), .unset, .unset] [(.int (14 : Int32)), (.int (3 : Int32))]))
    refine Gl.back (fun _ k => XS.icmpNo X131.here hx rfl (hb hby at_13) rfl (feq (by decide : ¬ (3 : Int32) = (14 : Int32))).1 k) ?_
    show Gl _ _ _ _ _ _ _ (T131.setTop (mkF m 16 #[.val (.int i), .val (.int (3 : Int32)), .val (.ref w_LESS_THAN_OR_EQUAL), .unset, .unset] []))
    refine Gl.back (fun _ k => XS.iloadN X131.here hx rfl (hb hby at_16) rfl k) ?_
    show Gl _ _ _ _ _ _ _ (T131.setTop (mkF m 17 #[.val (.int i), .val (.int (3 : Int32)), .val (.ref w_LESS_THAN_OR_EQUAL), .unset, .unset] [(.int (3 : Int32))]))
    refine Gl.back (fun _ k => XS.bipush X131.here hx rfl (hb hby at_17) k) ?_
    show Gl _ _ _ _ _ _ _ (T131.setTop (mkF m 19 #[.val (.int i), .val (.int (3 : Int32)), .val (.ref w_LESS_THAN_OR_EQUAL), .unset, .unset] [(.int (15 : Int32)), (.int (3 : Int32))]))
    refine Gl.back (fun _ k => XS.icmpYes X131.here hx rfl (pc0 := 19) (pc' := 26) rfl (hb hby at_19) rfl (feq (by decide : ¬ (3 : Int32) = (15 : Int32))).2 (by decide) (by decide) k) ?_
    show Gl _ _ _ _ _ _ _ (T131.setTop (mkF m 26 #[.val (.int i), .val (.int (3 : Int32)), .val (.ref w_LESS_THAN_OR_EQUAL), .unset, .unset] []))
    refine Gl.back (fun _ k => XS.iconst X131.here hx rfl (hb hby at_26) k) ?_
    show Gl _ _ _ _ _ _ _ (T131.setTop (mkF m 27 #[.val (.int i), .val (.int (3 : Int32)), .val (.ref w_LESS_THAN_OR_EQUAL), .unset, .unset] [(.int (0 : Int32))]))
    refine Gl.back (fun _ k => XS.istoreN X131.here hx rfl (hb hby at_27) rfl (l' := #[.val (.int i), .val (.int (3 : Int32)), .val (.ref w_LESS_THAN_OR_EQUAL), .val (.int (0 : Int32)), .unset]) rfl k) ?_
    show Gl _ _ _ _ _ _ _ (T131.setTop (mkF m 28 #[.val (.int i), .val (.int (3 : Int32)), .val (.ref w_LESS_THAN_OR_EQUAL), .val (.int (0 : Int32)), .unset] []))
    refine Gl.back (fun _ k => XS.aloadN X131.here hx rfl (hb hby at_28) rfl rfl k) ?_
    show Gl _ _ _ _ _ _ _ (T131.setTop (mkF m 29 #[.val (.int i), .val (.int (3 : Int32)), .val (.ref w_LESS_THAN_OR_EQUAL), .val (.int (0 : Int32)), .unset] [(.ref w_LESS_THAN_OR_EQUAL)]))
    obtain ⟨cq132, kq132, q132a, q132b, q132c⟩ := isOf hZ eh131 E_LESS_THAN_OR_EQUAL
    obtain ⟨_, _, ⟨T132, L132, k132, n132⟩, -, X132, ⟨Lc132, hQ132, l132, y132, z132⟩, st132⟩ := X131.virtualBack hx (y := (⟨"com/example/demi_orm/demiorm/query/Operator", "takesCollection", "()Z"⟩ : MethodName)) (z := (⟨"com/example/demi_orm/demiorm/query/Operator", "takesCollection", "()Z"⟩ : MethodName)) hown (mvT hZ (hw _ (List.mem_of_getElem? (i := 7) rfl))) (mvT hZ (hw _ (List.mem_of_getElem? (i := 8) rfl))) (notFace_of_selects (args := #[]) (mvT hZ (hw _ (List.mem_of_getElem? (i := 10) rfl)))) (mvT hZ (hw _ (List.mem_of_getElem? (i := 10) rfl))) (mvT hZ (hw _ (List.mem_of_getElem? (i := 9) rfl))) (by decide) (backOf (W := 0) (rm2_no l Z a0 hw [] w_LESS_THAN_OR_EQUAL w_IN w_NOT_IN h0 n0 Z0 S_IN S_NOT_IN (Fld.ne F_LESS_THAN_OR_EQUAL_ordinal F_IN_ordinal (by decide)) (Fld.ne F_LESS_THAN_OR_EQUAL_ordinal F_NOT_IN_ordinal (by decide))) hZ (hw _ (List.mem_of_getElem? (i := 11) rfl)) (hw _ (List.mem_of_getElem? (i := 5) rfl)) (by decide) (by decide)) q132a q132c (g := (mkF m 29 #[.val (.int i), .val (.int (3 : Int32)), .val (.ref w_LESS_THAN_OR_EQUAL), .val (.int (0 : Int32)), .unset] [(.ref w_LESS_THAN_OR_EQUAL)])) rfl (by rw [hml]; rfl) (Steps.refl _) (argsL := []) (rest := []) (lenOf pd___Z rfl) rfl (by show 2 * 0 + _ ≤ _; exact Nat.le_of_eq rfl) (hb hby at_29) (fun _ _ => ⟨rfl, eh131, (by decide : 0 + 0 ≤ _), (by decide : 0 + 0 ≤ _)⟩)
    dsimp only [Pt.U, Pt.locs, Pt.cells, Pt.slots] at X132 l132 y132 z132 st132 hQ132
    subst l132 y132 z132
    obtain ⟨Nq132, rfl, eh132⟩ := hQ132
    have N132 := Fr.app N131 Nq132
    refine Gl.back (fun _ k => st132.trans k) ?_
    show Gl _ _ _ _ _ _ _ (T132.setTop (mkF m 32 #[.val (.int i), .val (.int (3 : Int32)), .val (.ref w_LESS_THAN_OR_EQUAL), .val (.int (0 : Int32)), .unset] [(.int (0 : Int32))]))
    refine Gl.back (fun _ k => XS.istore X132.here hx rfl (hb hby at_32) rfl (l' := #[.val (.int i), .val (.int (3 : Int32)), .val (.ref w_LESS_THAN_OR_EQUAL), .val (.int (0 : Int32)), .val (.int (0 : Int32))]) rfl k) ?_
    show Gl _ _ _ _ _ _ _ (T132.setTop (mkF m 34 #[.val (.int i), .val (.int (3 : Int32)), .val (.ref w_LESS_THAN_OR_EQUAL), .val (.int (0 : Int32)), .val (.int (0 : Int32))] []))
    refine Gl.back (fun _ k => XS.iload X132.here hx rfl (hb hby at_34) rfl k) ?_
    show Gl _ _ _ _ _ _ _ (T132.setTop (mkF m 36 #[.val (.int i), .val (.int (3 : Int32)), .val (.ref w_LESS_THAN_OR_EQUAL), .val (.int (0 : Int32)), .val (.int (0 : Int32))] [(.int (0 : Int32))]))
    refine Gl.back (fun _ k => XS.iloadN X132.here hx rfl (hb hby at_36) rfl k) ?_
    show Gl _ _ _ _ _ _ _ (T132.setTop (mkF m 37 #[.val (.int i), .val (.int (3 : Int32)), .val (.ref w_LESS_THAN_OR_EQUAL), .val (.int (0 : Int32)), .val (.int (0 : Int32))] [(.int (0 : Int32)), (.int (0 : Int32))]))
    refine Gl.back (fun _ k => XS.icmpYes X132.here hx rfl (pc0 := 37) (pc' := 42) rfl (hb hby at_37) rfl (teq (by decide : (0 : Int32) = (0 : Int32))).1 (by decide) (by decide) k) ?_
    show Gl _ _ _ _ _ _ _ (T132.setTop (mkF m 42 #[.val (.int i), .val (.int (3 : Int32)), .val (.ref w_LESS_THAN_OR_EQUAL), .val (.int (0 : Int32)), .val (.int (0 : Int32))] []))
    refine Gl.back (fun _ k => XS.iload X132.here hx rfl (hb hby at_42) rfl k) ?_
    show Gl _ _ _ _ _ _ _ (T132.setTop (mkF m 44 #[.val (.int i), .val (.int (3 : Int32)), .val (.ref w_LESS_THAN_OR_EQUAL), .val (.int (0 : Int32)), .val (.int (0 : Int32))] [(.int (0 : Int32))]))
    refine Gl.back (fun _ k => XS.ifYes X132.here hx rfl (pc0 := 44) (pc' := 75) rfl (hb hby at_44) rfl ((if0 _ _).trans (teq (by decide : (0 : Int32) = (0 : Int32))).1) (by decide) (by decide) k) ?_
    show Gl _ _ _ _ _ _ _ (T132.setTop (mkF m 75 #[.val (.int i), .val (.int (3 : Int32)), .val (.ref w_LESS_THAN_OR_EQUAL), .val (.int (0 : Int32)), .val (.int (0 : Int32))] []))
    refine Gl.back (fun _ k => XS.iconst X132.here hx rfl (hb hby at_75) k) ?_
    show Gl _ _ _ _ _ _ _ (T132.setTop (mkF m 76 #[.val (.int i), .val (.int (3 : Int32)), .val (.ref w_LESS_THAN_OR_EQUAL), .val (.int (0 : Int32)), .val (.int (0 : Int32))] [(.int (1 : Int32))]))
    exact Gl.ret X132 eh132 (v := (some (.int (1 : Int32)))) (fun h => by rw [Bd.returns] at h; cases h) Bd.notSynchronized (fun fs hr => retN X132 hx (t := .boolean) (z := (1 : Int32)) Bd.returns (by simp) (hb hby at_76) hr) ⟨N132, rfl⟩ (by decide) (by decide)
  · rw [hk124]
    show Gl _ _ _ _ _ _ _ (s₁.setTop (mkF m 4 #[.val (.int i), .unset, .unset, .unset, .unset] [(.int (4 : Int32))]))
    refine Gl.back (fun _ k => XS.istoreN X0.here hx rfl (hb hby at_4) rfl (l' := #[.val (.int i), .val (.int (4 : Int32)), .unset, .unset, .unset]) rfl k) ?_
    show Gl _ _ _ _ _ _ _ (s₁.setTop (mkF m 5 #[.val (.int i), .val (.int (4 : Int32)), .unset, .unset, .unset] []))
    refine Gl.back (fun _ k => XS.iloadN X0.here hx rfl (hb hby at_5) rfl k) ?_
    show Gl _ _ _ _ _ _ _ (s₁.setTop (mkF m 6 #[.val (.int i), .val (.int (4 : Int32)), .unset, .unset, .unset] [(.int (4 : Int32))]))
    obtain ⟨_, _, ⟨T133, L133, k133, n133⟩, -, X133, ⟨Lc133, hQ133, l133, y133, z133⟩, st133⟩ := Jvm.LawKit.callS X0 hx (y := (⟨"com/example/demi_orm/demiorm/query/OperatorTakesCollectionPinLaw", "pick", "(I)Lcom/example/demi_orm/demiorm/query/Operator;"⟩ : MethodName)) hown (mvT hZ (hw _ (List.mem_of_getElem? (i := 0) rfl))) (mvT hZ (hw _ (List.mem_of_getElem? (i := 1) rfl))) (mvT hZ (hw _ (List.mem_of_getElem? (i := 2) rfl))) (mvT hZ (hw _ (List.mem_of_getElem? (i := 3) rfl))) (by decide) (backOf (W := 0) (rm1_GREATER_THAN l Z a0 hw []  w_GREATER_THAN h0 n0 Z0 S_GREATER_THAN) hZ (hw _ (List.mem_of_getElem? (i := 3) rfl)) (hw _ (List.mem_of_getElem? (i := 2) rfl)) (by decide) (by decide)) (g := (mkF m 6 #[.val (.int i), .val (.int (4 : Int32)), .unset, .unset, .unset] [(.int (4 : Int32))])) rfl (by rw [hml]; rfl) (argsL := [(.int (4 : Int32))]) (rest := []) (lenOf pd__I_Lcom_example_demi_orm_demiorm_query_Operator_ rfl) rfl (by show 2 * 0 + _ ≤ _; exact Nat.le_of_eq rfl) (hb hby at_6) (fun _ _ => ⟨rfl, e0, (by decide : 0 + 0 ≤ _), (by decide : 0 + 0 ≤ _)⟩)
    dsimp only [Pt.U, Pt.locs, Pt.cells, Pt.slots] at X133 l133 y133 z133 st133 hQ133
    subst l133 y133 z133
    obtain ⟨Nq133, rfl, eh133⟩ := hQ133
    have N133 := Fr.app N0 Nq133
    refine Gl.back (fun _ k => st133 _ k) ?_
    show Gl _ _ _ _ _ _ _ (T133.setTop (mkF m 9 #[.val (.int i), .val (.int (4 : Int32)), .unset, .unset, .unset] [(.ref w_GREATER_THAN)]))
    refine Gl.back (fun _ k => XS.astoreN X133.here hx rfl (hb hby at_9) rfl rfl (l' := #[.val (.int i), .val (.int (4 : Int32)), .val (.ref w_GREATER_THAN), .unset, .unset]) rfl k) ?_
    show Gl _ _ _ _ _ _ _ (T133.setTop (mkF m 10 #[.val (.int i), .val (.int (4 : Int32)), .val (.ref w_GREATER_THAN), .unset, .unset] []))
    refine Gl.back (fun _ k => XS.iloadN X133.here hx rfl (hb hby at_10) rfl k) ?_
    show Gl _ _ _ _ _ _ _ (T133.setTop (mkF m 11 #[.val (.int i), .val (.int (4 : Int32)), .val (.ref w_GREATER_THAN), .unset, .unset] [(.int (4 : Int32))]))
    refine Gl.back (fun _ k => XS.bipush X133.here hx rfl (hb hby at_11) k) ?_
    show Gl _ _ _ _ _ _ _ (T133.setTop (mkF m 13 #[.val (.int i), .val (.int (4 : Int32)), .val (.ref w_GREATER_THAN), .unset, .unset] [(.int (14 : Int32)), (.int (4 : Int32))]))
    refine Gl.back (fun _ k => XS.icmpNo X133.here hx rfl (hb hby at_13) rfl (feq (by decide : ¬ (4 : Int32) = (14 : Int32))).1 k) ?_
    show Gl _ _ _ _ _ _ _ (T133.setTop (mkF m 16 #[.val (.int i), .val (.int (4 : Int32)), .val (.ref w_GREATER_THAN), .unset, .unset] []))
    refine Gl.back (fun _ k => XS.iloadN X133.here hx rfl (hb hby at_16) rfl k) ?_
    show Gl _ _ _ _ _ _ _ (T133.setTop (mkF m 17 #[.val (.int i), .val (.int (4 : Int32)), .val (.ref w_GREATER_THAN), .unset, .unset] [(.int (4 : Int32))]))
    refine Gl.back (fun _ k => XS.bipush X133.here hx rfl (hb hby at_17) k) ?_
    show Gl _ _ _ _ _ _ _ (T133.setTop (mkF m 19 #[.val (.int i), .val (.int (4 : Int32)), .val (.ref w_GREATER_THAN), .unset, .unset] [(.int (15 : Int32)), (.int (4 : Int32))]))
    refine Gl.back (fun _ k => XS.icmpYes X133.here hx rfl (pc0 := 19) (pc' := 26) rfl (hb hby at_19) rfl (feq (by decide : ¬ (4 : Int32) = (15 : Int32))).2 (by decide) (by decide) k) ?_
    show Gl _ _ _ _ _ _ _ (T133.setTop (mkF m 26 #[.val (.int i), .val (.int (4 : Int32)), .val (.ref w_GREATER_THAN), .unset, .unset] []))
    refine Gl.back (fun _ k => XS.iconst X133.here hx rfl (hb hby at_26) k) ?_
    show Gl _ _ _ _ _ _ _ (T133.setTop (mkF m 27 #[.val (.int i), .val (.int (4 : Int32)), .val (.ref w_GREATER_THAN), .unset, .unset] [(.int (0 : Int32))]))
    refine Gl.back (fun _ k => XS.istoreN X133.here hx rfl (hb hby at_27) rfl (l' := #[.val (.int i), .val (.int (4 : Int32)), .val (.ref w_GREATER_THAN), .val (.int (0 : Int32)), .unset]) rfl k) ?_
    show Gl _ _ _ _ _ _ _ (T133.setTop (mkF m 28 #[.val (.int i), .val (.int (4 : Int32)), .val (.ref w_GREATER_THAN), .val (.int (0 : Int32)), .unset] []))
    refine Gl.back (fun _ k => XS.aloadN X133.here hx rfl (hb hby at_28) rfl rfl k) ?_
    show Gl _ _ _ _ _ _ _ (T133.setTop (mkF m 29 #[.val (.int i), .val (.int (4 : Int32)), .val (.ref w_GREATER_THAN), .val (.int (0 : Int32)), .unset] [(.ref w_GREATER_THAN)]))
    obtain ⟨cq134, kq134, q134a, q134b, q134c⟩ := isOf hZ eh133 E_GREATER_THAN
    obtain ⟨_, _, ⟨T134, L134, k134, n134⟩, -, X134, ⟨Lc134, hQ134, l134, y134, z134⟩, st134⟩ := X133.virtualBack hx (y := (⟨"com/example/demi_orm/demiorm/query/Operator", "takesCollection", "()Z"⟩ : MethodName)) (z := (⟨"com/example/demi_orm/demiorm/query/Operator", "takesCollection", "()Z"⟩ : MethodName)) hown (mvT hZ (hw _ (List.mem_of_getElem? (i := 7) rfl))) (mvT hZ (hw _ (List.mem_of_getElem? (i := 8) rfl))) (notFace_of_selects (args := #[]) (mvT hZ (hw _ (List.mem_of_getElem? (i := 10) rfl)))) (mvT hZ (hw _ (List.mem_of_getElem? (i := 10) rfl))) (mvT hZ (hw _ (List.mem_of_getElem? (i := 9) rfl))) (by decide) (backOf (W := 0) (rm2_no l Z a0 hw [] w_GREATER_THAN w_IN w_NOT_IN h0 n0 Z0 S_IN S_NOT_IN (Fld.ne F_GREATER_THAN_ordinal F_IN_ordinal (by decide)) (Fld.ne F_GREATER_THAN_ordinal F_NOT_IN_ordinal (by decide))) hZ (hw _ (List.mem_of_getElem? (i := 11) rfl)) (hw _ (List.mem_of_getElem? (i := 5) rfl)) (by decide) (by decide)) q134a q134c (g := (mkF m 29 #[.val (.int i), .val (.int (4 : Int32)), .val (.ref w_GREATER_THAN), .val (.int (0 : Int32)), .unset] [(.ref w_GREATER_THAN)])) rfl (by rw [hml]; rfl) (Steps.refl _) (argsL := []) (rest := []) (lenOf pd___Z rfl) rfl (by show 2 * 0 + _ ≤ _; exact Nat.le_of_eq rfl) (hb hby at_29) (fun _ _ => ⟨rfl, eh133, (by decide : 0 + 0 ≤ _), (by decide : 0 + 0 ≤ _)⟩)
    dsimp only [Pt.U, Pt.locs, Pt.cells, Pt.slots] at X134 l134 y134 z134 st134 hQ134
    subst l134 y134 z134
    obtain ⟨Nq134, rfl, eh134⟩ := hQ134
    have N134 := Fr.app N133 Nq134
    refine Gl.back (fun _ k => st134.trans k) ?_
    show Gl _ _ _ _ _ _ _ (T134.setTop (mkF m 32 #[.val (.int i), .val (.int (4 : Int32)), .val (.ref w_GREATER_THAN), .val (.int (0 : Int32)), .unset] [(.int (0 : Int32))]))
    refine Gl.back (fun _ k => XS.istore X134.here hx rfl (hb hby at_32) rfl (l' := #[.val (.int i), .val (.int (4 : Int32)), .val (.ref w_GREATER_THAN), .val (.int (0 : Int32)), .val (.int (0 : Int32))]) rfl k) ?_
    show Gl _ _ _ _ _ _ _ (T134.setTop (mkF m 34 #[.val (.int i), .val (.int (4 : Int32)), .val (.ref w_GREATER_THAN), .val (.int (0 : Int32)), .val (.int (0 : Int32))] []))
    refine Gl.back (fun _ k => XS.iload X134.here hx rfl (hb hby at_34) rfl k) ?_
    show Gl _ _ _ _ _ _ _ (T134.setTop (mkF m 36 #[.val (.int i), .val (.int (4 : Int32)), .val (.ref w_GREATER_THAN), .val (.int (0 : Int32)), .val (.int (0 : Int32))] [(.int (0 : Int32))]))
    refine Gl.back (fun _ k => XS.iloadN X134.here hx rfl (hb hby at_36) rfl k) ?_
    show Gl _ _ _ _ _ _ _ (T134.setTop (mkF m 37 #[.val (.int i), .val (.int (4 : Int32)), .val (.ref w_GREATER_THAN), .val (.int (0 : Int32)), .val (.int (0 : Int32))] [(.int (0 : Int32)), (.int (0 : Int32))]))
    refine Gl.back (fun _ k => XS.icmpYes X134.here hx rfl (pc0 := 37) (pc' := 42) rfl (hb hby at_37) rfl (teq (by decide : (0 : Int32) = (0 : Int32))).1 (by decide) (by decide) k) ?_
    show Gl _ _ _ _ _ _ _ (T134.setTop (mkF m 42 #[.val (.int i), .val (.int (4 : Int32)), .val (.ref w_GREATER_THAN), .val (.int (0 : Int32)), .val (.int (0 : Int32))] []))
    refine Gl.back (fun _ k => XS.iload X134.here hx rfl (hb hby at_42) rfl k) ?_
    show Gl _ _ _ _ _ _ _ (T134.setTop (mkF m 44 #[.val (.int i), .val (.int (4 : Int32)), .val (.ref w_GREATER_THAN), .val (.int (0 : Int32)), .val (.int (0 : Int32))] [(.int (0 : Int32))]))
    refine Gl.back (fun _ k => XS.ifYes X134.here hx rfl (pc0 := 44) (pc' := 75) rfl (hb hby at_44) rfl ((if0 _ _).trans (teq (by decide : (0 : Int32) = (0 : Int32))).1) (by decide) (by decide) k) ?_
    show Gl _ _ _ _ _ _ _ (T134.setTop (mkF m 75 #[.val (.int i), .val (.int (4 : Int32)), .val (.ref w_GREATER_THAN), .val (.int (0 : Int32)), .val (.int (0 : Int32))] []))
    refine Gl.back (fun _ k => XS.iconst X134.here hx rfl (hb hby at_75) k) ?_
    show Gl _ _ _ _ _ _ _ (T134.setTop (mkF m 76 #[.val (.int i), .val (.int (4 : Int32)), .val (.ref w_GREATER_THAN), .val (.int (0 : Int32)), .val (.int (0 : Int32))] [(.int (1 : Int32))]))
    exact Gl.ret X134 eh134 (v := (some (.int (1 : Int32)))) (fun h => by rw [Bd.returns] at h; cases h) Bd.notSynchronized (fun fs hr => retN X134 hx (t := .boolean) (z := (1 : Int32)) Bd.returns (by simp) (hb hby at_76) hr) ⟨N134, rfl⟩ (by decide) (by decide)
  · rw [hk124]
    show Gl _ _ _ _ _ _ _ (s₁.setTop (mkF m 4 #[.val (.int i), .unset, .unset, .unset, .unset] [(.int (5 : Int32))]))
    refine Gl.back (fun _ k => XS.istoreN X0.here hx rfl (hb hby at_4) rfl (l' := #[.val (.int i), .val (.int (5 : Int32)), .unset, .unset, .unset]) rfl k) ?_
    show Gl _ _ _ _ _ _ _ (s₁.setTop (mkF m 5 #[.val (.int i), .val (.int (5 : Int32)), .unset, .unset, .unset] []))
    refine Gl.back (fun _ k => XS.iloadN X0.here hx rfl (hb hby at_5) rfl k) ?_
    show Gl _ _ _ _ _ _ _ (s₁.setTop (mkF m 6 #[.val (.int i), .val (.int (5 : Int32)), .unset, .unset, .unset] [(.int (5 : Int32))]))
    obtain ⟨_, _, ⟨T135, L135, k135, n135⟩, -, X135, ⟨Lc135, hQ135, l135, y135, z135⟩, st135⟩ := Jvm.LawKit.callS X0 hx (y := (⟨"com/example/demi_orm/demiorm/query/OperatorTakesCollectionPinLaw", "pick", "(I)Lcom/example/demi_orm/demiorm/query/Operator;"⟩ : MethodName)) hown (mvT hZ (hw _ (List.mem_of_getElem? (i := 0) rfl))) (mvT hZ (hw _ (List.mem_of_getElem? (i := 1) rfl))) (mvT hZ (hw _ (List.mem_of_getElem? (i := 2) rfl))) (mvT hZ (hw _ (List.mem_of_getElem? (i := 3) rfl))) (by decide) (backOf (W := 0) (rm1_GREATER_THAN_OR_EQUAL l Z a0 hw []  w_GREATER_THAN_OR_EQUAL h0 n0 Z0 S_GREATER_THAN_OR_EQUAL) hZ (hw _ (List.mem_of_getElem? (i := 3) rfl)) (hw _ (List.mem_of_getElem? (i := 2) rfl)) (by decide) (by decide)) (g := (mkF m 6 #[.val (.int i), .val (.int (5 : Int32)), .unset, .unset, .unset] [(.int (5 : Int32))])) rfl (by rw [hml]; rfl) (argsL := [(.int (5 : Int32))]) (rest := []) (lenOf pd__I_Lcom_example_demi_orm_demiorm_query_Operator_ rfl) rfl (by show 2 * 0 + _ ≤ _; exact Nat.le_of_eq rfl) (hb hby at_6) (fun _ _ => ⟨rfl, e0, (by decide : 0 + 0 ≤ _), (by decide : 0 + 0 ≤ _)⟩)
    dsimp only [Pt.U, Pt.locs, Pt.cells, Pt.slots] at X135 l135 y135 z135 st135 hQ135
    subst l135 y135 z135
    obtain ⟨Nq135, rfl, eh135⟩ := hQ135
    have N135 := Fr.app N0 Nq135
    refine Gl.back (fun _ k => st135 _ k) ?_
    show Gl _ _ _ _ _ _ _ (T135.setTop (mkF m 9 #[.val (.int i), .val (.int (5 : Int32)), .unset, .unset, .unset] [(.ref w_GREATER_THAN_OR_EQUAL)]))
    refine Gl.back (fun _ k => XS.astoreN X135.here hx rfl (hb hby at_9) rfl rfl (l' := #[.val (.int i), .val (.int (5 : Int32)), .val (.ref w_GREATER_THAN_OR_EQUAL), .unset, .unset]) rfl k) ?_
    show Gl _ _ _ _ _ _ _ (T135.setTop (mkF m 10 #[.val (.int i), .val (.int (5 : Int32)), .val (.ref w_GREATER_THAN_OR_EQUAL), .unset, .unset] []))
    refine Gl.back (fun _ k => XS.iloadN X135.here hx rfl (hb hby at_10) rfl k) ?_
    show Gl _ _ _ _ _ _ _ (T135.setTop (mkF m 11 #[.val (.int i), .val (.int (5 : Int32)), .val (.ref w_GREATER_THAN_OR_EQUAL), .unset, .unset] [(.int (5 : Int32))]))
    refine Gl.back (fun _ k => XS.bipush X135.here hx rfl (hb hby at_11) k) ?_
    show Gl _ _ _ _ _ _ _ (T135.setTop (mkF m 13 #[.val (.int i), .val (.int (5 : Int32)), .val (.ref w_GREATER_THAN_OR_EQUAL), .unset, .unset] [(.int (14 : Int32)), (.int (5 : Int32))]))
    refine Gl.back (fun _ k => XS.icmpNo X135.here hx rfl (hb hby at_13) rfl (feq (by decide : ¬ (5 : Int32) = (14 : Int32))).1 k) ?_
    show Gl _ _ _ _ _ _ _ (T135.setTop (mkF m 16 #[.val (.int i), .val (.int (5 : Int32)), .val (.ref w_GREATER_THAN_OR_EQUAL), .unset, .unset] []))
    refine Gl.back (fun _ k => XS.iloadN X135.here hx rfl (hb hby at_16) rfl k) ?_
    show Gl _ _ _ _ _ _ _ (T135.setTop (mkF m 17 #[.val (.int i), .val (.int (5 : Int32)), .val (.ref w_GREATER_THAN_OR_EQUAL), .unset, .unset] [(.int (5 : Int32))]))
    refine Gl.back (fun _ k => XS.bipush X135.here hx rfl (hb hby at_17) k) ?_
    show Gl _ _ _ _ _ _ _ (T135.setTop (mkF m 19 #[.val (.int i), .val (.int (5 : Int32)), .val (.ref w_GREATER_THAN_OR_EQUAL), .unset, .unset] [(.int (15 : Int32)), (.int (5 : Int32))]))
    refine Gl.back (fun _ k => XS.icmpYes X135.here hx rfl (pc0 := 19) (pc' := 26) rfl (hb hby at_19) rfl (feq (by decide : ¬ (5 : Int32) = (15 : Int32))).2 (by decide) (by decide) k) ?_
    show Gl _ _ _ _ _ _ _ (T135.setTop (mkF m 26 #[.val (.int i), .val (.int (5 : Int32)), .val (.ref w_GREATER_THAN_OR_EQUAL), .unset, .unset] []))
    refine Gl.back (fun _ k => XS.iconst X135.here hx rfl (hb hby at_26) k) ?_
    show Gl _ _ _ _ _ _ _ (T135.setTop (mkF m 27 #[.val (.int i), .val (.int (5 : Int32)), .val (.ref w_GREATER_THAN_OR_EQUAL), .unset, .unset] [(.int (0 : Int32))]))
    refine Gl.back (fun _ k => XS.istoreN X135.here hx rfl (hb hby at_27) rfl (l' := #[.val (.int i), .val (.int (5 : Int32)), .val (.ref w_GREATER_THAN_OR_EQUAL), .val (.int (0 : Int32)), .unset]) rfl k) ?_
    show Gl _ _ _ _ _ _ _ (T135.setTop (mkF m 28 #[.val (.int i), .val (.int (5 : Int32)), .val (.ref w_GREATER_THAN_OR_EQUAL), .val (.int (0 : Int32)), .unset] []))
    refine Gl.back (fun _ k => XS.aloadN X135.here hx rfl (hb hby at_28) rfl rfl k) ?_
    show Gl _ _ _ _ _ _ _ (T135.setTop (mkF m 29 #[.val (.int i), .val (.int (5 : Int32)), .val (.ref w_GREATER_THAN_OR_EQUAL), .val (.int (0 : Int32)), .unset] [(.ref w_GREATER_THAN_OR_EQUAL)]))
    obtain ⟨cq136, kq136, q136a, q136b, q136c⟩ := isOf hZ eh135 E_GREATER_THAN_OR_EQUAL
    obtain ⟨_, _, ⟨T136, L136, k136, n136⟩, -, X136, ⟨Lc136, hQ136, l136, y136, z136⟩, st136⟩ := X135.virtualBack hx (y := (⟨"com/example/demi_orm/demiorm/query/Operator", "takesCollection", "()Z"⟩ : MethodName)) (z := (⟨"com/example/demi_orm/demiorm/query/Operator", "takesCollection", "()Z"⟩ : MethodName)) hown (mvT hZ (hw _ (List.mem_of_getElem? (i := 7) rfl))) (mvT hZ (hw _ (List.mem_of_getElem? (i := 8) rfl))) (notFace_of_selects (args := #[]) (mvT hZ (hw _ (List.mem_of_getElem? (i := 10) rfl)))) (mvT hZ (hw _ (List.mem_of_getElem? (i := 10) rfl))) (mvT hZ (hw _ (List.mem_of_getElem? (i := 9) rfl))) (by decide) (backOf (W := 0) (rm2_no l Z a0 hw [] w_GREATER_THAN_OR_EQUAL w_IN w_NOT_IN h0 n0 Z0 S_IN S_NOT_IN (Fld.ne F_GREATER_THAN_OR_EQUAL_ordinal F_IN_ordinal (by decide)) (Fld.ne F_GREATER_THAN_OR_EQUAL_ordinal F_NOT_IN_ordinal (by decide))) hZ (hw _ (List.mem_of_getElem? (i := 11) rfl)) (hw _ (List.mem_of_getElem? (i := 5) rfl)) (by decide) (by decide)) q136a q136c (g := (mkF m 29 #[.val (.int i), .val (.int (5 : Int32)), .val (.ref w_GREATER_THAN_OR_EQUAL), .val (.int (0 : Int32)), .unset] [(.ref w_GREATER_THAN_OR_EQUAL)])) rfl (by rw [hml]; rfl) (Steps.refl _) (argsL := []) (rest := []) (lenOf pd___Z rfl) rfl (by show 2 * 0 + _ ≤ _; exact Nat.le_of_eq rfl) (hb hby at_29) (fun _ _ => ⟨rfl, eh135, (by decide : 0 + 0 ≤ _), (by decide : 0 + 0 ≤ _)⟩)
    dsimp only [Pt.U, Pt.locs, Pt.cells, Pt.slots] at X136 l136 y136 z136 st136 hQ136
    subst l136 y136 z136
    obtain ⟨Nq136, rfl, eh136⟩ := hQ136
    have N136 := Fr.app N135 Nq136
    refine Gl.back (fun _ k => st136.trans k) ?_
    show Gl _ _ _ _ _ _ _ (T136.setTop (mkF m 32 #[.val (.int i), .val (.int (5 : Int32)), .val (.ref w_GREATER_THAN_OR_EQUAL), .val (.int (0 : Int32)), .unset] [(.int (0 : Int32))]))
    refine Gl.back (fun _ k => XS.istore X136.here hx rfl (hb hby at_32) rfl (l' := #[.val (.int i), .val (.int (5 : Int32)), .val (.ref w_GREATER_THAN_OR_EQUAL), .val (.int (0 : Int32)), .val (.int (0 : Int32))]) rfl k) ?_
    show Gl _ _ _ _ _ _ _ (T136.setTop (mkF m 34 #[.val (.int i), .val (.int (5 : Int32)), .val (.ref w_GREATER_THAN_OR_EQUAL), .val (.int (0 : Int32)), .val (.int (0 : Int32))] []))
    refine Gl.back (fun _ k => XS.iload X136.here hx rfl (hb hby at_34) rfl k) ?_
    show Gl _ _ _ _ _ _ _ (T136.setTop (mkF m 36 #[.val (.int i), .val (.int (5 : Int32)), .val (.ref w_GREATER_THAN_OR_EQUAL), .val (.int (0 : Int32)), .val (.int (0 : Int32))] [(.int (0 : Int32))]))
    refine Gl.back (fun _ k => XS.iloadN X136.here hx rfl (hb hby at_36) rfl k) ?_
    show Gl _ _ _ _ _ _ _ (T136.setTop (mkF m 37 #[.val (.int i), .val (.int (5 : Int32)), .val (.ref w_GREATER_THAN_OR_EQUAL), .val (.int (0 : Int32)), .val (.int (0 : Int32))] [(.int (0 : Int32)), (.int (0 : Int32))]))
    refine Gl.back (fun _ k => XS.icmpYes X136.here hx rfl (pc0 := 37) (pc' := 42) rfl (hb hby at_37) rfl (teq (by decide : (0 : Int32) = (0 : Int32))).1 (by decide) (by decide) k) ?_
    show Gl _ _ _ _ _ _ _ (T136.setTop (mkF m 42 #[.val (.int i), .val (.int (5 : Int32)), .val (.ref w_GREATER_THAN_OR_EQUAL), .val (.int (0 : Int32)), .val (.int (0 : Int32))] []))
    refine Gl.back (fun _ k => XS.iload X136.here hx rfl (hb hby at_42) rfl k) ?_
    show Gl _ _ _ _ _ _ _ (T136.setTop (mkF m 44 #[.val (.int i), .val (.int (5 : Int32)), .val (.ref w_GREATER_THAN_OR_EQUAL), .val (.int (0 : Int32)), .val (.int (0 : Int32))] [(.int (0 : Int32))]))
    refine Gl.back (fun _ k => XS.ifYes X136.here hx rfl (pc0 := 44) (pc' := 75) rfl (hb hby at_44) rfl ((if0 _ _).trans (teq (by decide : (0 : Int32) = (0 : Int32))).1) (by decide) (by decide) k) ?_
    show Gl _ _ _ _ _ _ _ (T136.setTop (mkF m 75 #[.val (.int i), .val (.int (5 : Int32)), .val (.ref w_GREATER_THAN_OR_EQUAL), .val (.int (0 : Int32)), .val (.int (0 : Int32))] []))
    refine Gl.back (fun _ k => XS.iconst X136.here hx rfl (hb hby at_75) k) ?_
    show Gl _ _ _ _ _ _ _ (T136.setTop (mkF m 76 #[.val (.int i), .val (.int (5 : Int32)), .val (.ref w_GREATER_THAN_OR_EQUAL), .val (.int (0 : Int32)), .val (.int (0 : Int32))] [(.int (1 : Int32))]))
    exact Gl.ret X136 eh136 (v := (some (.int (1 : Int32)))) (fun h => by rw [Bd.returns] at h; cases h) Bd.notSynchronized (fun fs hr => retN X136 hx (t := .boolean) (z := (1 : Int32)) Bd.returns (by simp) (hb hby at_76) hr) ⟨N136, rfl⟩ (by decide) (by decide)
  · rw [hk124]
    show Gl _ _ _ _ _ _ _ (s₁.setTop (mkF m 4 #[.val (.int i), .unset, .unset, .unset, .unset] [(.int (6 : Int32))]))
    refine Gl.back (fun _ k => XS.istoreN X0.here hx rfl (hb hby at_4) rfl (l' := #[.val (.int i), .val (.int (6 : Int32)), .unset, .unset, .unset]) rfl k) ?_
    show Gl _ _ _ _ _ _ _ (s₁.setTop (mkF m 5 #[.val (.int i), .val (.int (6 : Int32)), .unset, .unset, .unset] []))
    refine Gl.back (fun _ k => XS.iloadN X0.here hx rfl (hb hby at_5) rfl k) ?_
    show Gl _ _ _ _ _ _ _ (s₁.setTop (mkF m 6 #[.val (.int i), .val (.int (6 : Int32)), .unset, .unset, .unset] [(.int (6 : Int32))]))
    obtain ⟨_, _, ⟨T137, L137, k137, n137⟩, -, X137, ⟨Lc137, hQ137, l137, y137, z137⟩, st137⟩ := Jvm.LawKit.callS X0 hx (y := (⟨"com/example/demi_orm/demiorm/query/OperatorTakesCollectionPinLaw", "pick", "(I)Lcom/example/demi_orm/demiorm/query/Operator;"⟩ : MethodName)) hown (mvT hZ (hw _ (List.mem_of_getElem? (i := 0) rfl))) (mvT hZ (hw _ (List.mem_of_getElem? (i := 1) rfl))) (mvT hZ (hw _ (List.mem_of_getElem? (i := 2) rfl))) (mvT hZ (hw _ (List.mem_of_getElem? (i := 3) rfl))) (by decide) (backOf (W := 0) (rm1_BETWEEN l Z a0 hw []  w_BETWEEN h0 n0 Z0 S_BETWEEN) hZ (hw _ (List.mem_of_getElem? (i := 3) rfl)) (hw _ (List.mem_of_getElem? (i := 2) rfl)) (by decide) (by decide)) (g := (mkF m 6 #[.val (.int i), .val (.int (6 : Int32)), .unset, .unset, .unset] [(.int (6 : Int32))])) rfl (by rw [hml]; rfl) (argsL := [(.int (6 : Int32))]) (rest := []) (lenOf pd__I_Lcom_example_demi_orm_demiorm_query_Operator_ rfl) rfl (by show 2 * 0 + _ ≤ _; exact Nat.le_of_eq rfl) (hb hby at_6) (fun _ _ => ⟨rfl, e0, (by decide : 0 + 0 ≤ _), (by decide : 0 + 0 ≤ _)⟩)
    dsimp only [Pt.U, Pt.locs, Pt.cells, Pt.slots] at X137 l137 y137 z137 st137 hQ137
    subst l137 y137 z137
    obtain ⟨Nq137, rfl, eh137⟩ := hQ137
    have N137 := Fr.app N0 Nq137
    refine Gl.back (fun _ k => st137 _ k) ?_
    show Gl _ _ _ _ _ _ _ (T137.setTop (mkF m 9 #[.val (.int i), .val (.int (6 : Int32)), .unset, .unset, .unset] [(.ref w_BETWEEN)]))
    refine Gl.back (fun _ k => XS.astoreN X137.here hx rfl (hb hby at_9) rfl rfl (l' := #[.val (.int i), .val (.int (6 : Int32)), .val (.ref w_BETWEEN), .unset, .unset]) rfl k) ?_
    show Gl _ _ _ _ _ _ _ (T137.setTop (mkF m 10 #[.val (.int i), .val (.int (6 : Int32)), .val (.ref w_BETWEEN), .unset, .unset] []))
    refine Gl.back (fun _ k => XS.iloadN X137.here hx rfl (hb hby at_10) rfl k) ?_
    show Gl _ _ _ _ _ _ _ (T137.setTop (mkF m 11 #[.val (.int i), .val (.int (6 : Int32)), .val (.ref w_BETWEEN), .unset, .unset] [(.int (6 : Int32))]))
    refine Gl.back (fun _ k => XS.bipush X137.here hx rfl (hb hby at_11) k) ?_
    show Gl _ _ _ _ _ _ _ (T137.setTop (mkF m 13 #[.val (.int i), .val (.int (6 : Int32)), .val (.ref w_BETWEEN), .unset, .unset] [(.int (14 : Int32)), (.int (6 : Int32))]))
    refine Gl.back (fun _ k => XS.icmpNo X137.here hx rfl (hb hby at_13) rfl (feq (by decide : ¬ (6 : Int32) = (14 : Int32))).1 k) ?_
    show Gl _ _ _ _ _ _ _ (T137.setTop (mkF m 16 #[.val (.int i), .val (.int (6 : Int32)), .val (.ref w_BETWEEN), .unset, .unset] []))
    refine Gl.back (fun _ k => XS.iloadN X137.here hx rfl (hb hby at_16) rfl k) ?_
    show Gl _ _ _ _ _ _ _ (T137.setTop (mkF m 17 #[.val (.int i), .val (.int (6 : Int32)), .val (.ref w_BETWEEN), .unset, .unset] [(.int (6 : Int32))]))
    refine Gl.back (fun _ k => XS.bipush X137.here hx rfl (hb hby at_17) k) ?_
    show Gl _ _ _ _ _ _ _ (T137.setTop (mkF m 19 #[.val (.int i), .val (.int (6 : Int32)), .val (.ref w_BETWEEN), .unset, .unset] [(.int (15 : Int32)), (.int (6 : Int32))]))
    refine Gl.back (fun _ k => XS.icmpYes X137.here hx rfl (pc0 := 19) (pc' := 26) rfl (hb hby at_19) rfl (feq (by decide : ¬ (6 : Int32) = (15 : Int32))).2 (by decide) (by decide) k) ?_
    show Gl _ _ _ _ _ _ _ (T137.setTop (mkF m 26 #[.val (.int i), .val (.int (6 : Int32)), .val (.ref w_BETWEEN), .unset, .unset] []))
    refine Gl.back (fun _ k => XS.iconst X137.here hx rfl (hb hby at_26) k) ?_
    show Gl _ _ _ _ _ _ _ (T137.setTop (mkF m 27 #[.val (.int i), .val (.int (6 : Int32)), .val (.ref w_BETWEEN), .unset, .unset] [(.int (0 : Int32))]))
    refine Gl.back (fun _ k => XS.istoreN X137.here hx rfl (hb hby at_27) rfl (l' := #[.val (.int i), .val (.int (6 : Int32)), .val (.ref w_BETWEEN), .val (.int (0 : Int32)), .unset]) rfl k) ?_
    show Gl _ _ _ _ _ _ _ (T137.setTop (mkF m 28 #[.val (.int i), .val (.int (6 : Int32)), .val (.ref w_BETWEEN), .val (.int (0 : Int32)), .unset] []))
    refine Gl.back (fun _ k => XS.aloadN X137.here hx rfl (hb hby at_28) rfl rfl k) ?_
    show Gl _ _ _ _ _ _ _ (T137.setTop (mkF m 29 #[.val (.int i), .val (.int (6 : Int32)), .val (.ref w_BETWEEN), .val (.int (0 : Int32)), .unset] [(.ref w_BETWEEN)]))
    obtain ⟨cq138, kq138, q138a, q138b, q138c⟩ := isOf hZ eh137 E_BETWEEN
    obtain ⟨_, _, ⟨T138, L138, k138, n138⟩, -, X138, ⟨Lc138, hQ138, l138, y138, z138⟩, st138⟩ := X137.virtualBack hx (y := (⟨"com/example/demi_orm/demiorm/query/Operator", "takesCollection", "()Z"⟩ : MethodName)) (z := (⟨"com/example/demi_orm/demiorm/query/Operator", "takesCollection", "()Z"⟩ : MethodName)) hown (mvT hZ (hw _ (List.mem_of_getElem? (i := 7) rfl))) (mvT hZ (hw _ (List.mem_of_getElem? (i := 8) rfl))) (notFace_of_selects (args := #[]) (mvT hZ (hw _ (List.mem_of_getElem? (i := 10) rfl)))) (mvT hZ (hw _ (List.mem_of_getElem? (i := 10) rfl))) (mvT hZ (hw _ (List.mem_of_getElem? (i := 9) rfl))) (by decide) (backOf (W := 0) (rm2_no l Z a0 hw [] w_BETWEEN w_IN w_NOT_IN h0 n0 Z0 S_IN S_NOT_IN (Fld.ne F_BETWEEN_ordinal F_IN_ordinal (by decide)) (Fld.ne F_BETWEEN_ordinal F_NOT_IN_ordinal (by decide))) hZ (hw _ (List.mem_of_getElem? (i := 11) rfl)) (hw _ (List.mem_of_getElem? (i := 5) rfl)) (by decide) (by decide)) q138a q138c (g := (mkF m 29 #[.val (.int i), .val (.int (6 : Int32)), .val (.ref w_BETWEEN), .val (.int (0 : Int32)), .unset] [(.ref w_BETWEEN)])) rfl (by rw [hml]; rfl) (Steps.refl _) (argsL := []) (rest := []) (lenOf pd___Z rfl) rfl (by show 2 * 0 + _ ≤ _; exact Nat.le_of_eq rfl) (hb hby at_29) (fun _ _ => ⟨rfl, eh137, (by decide : 0 + 0 ≤ _), (by decide : 0 + 0 ≤ _)⟩)
    dsimp only [Pt.U, Pt.locs, Pt.cells, Pt.slots] at X138 l138 y138 z138 st138 hQ138
    subst l138 y138 z138
    obtain ⟨Nq138, rfl, eh138⟩ := hQ138
    have N138 := Fr.app N137 Nq138
    refine Gl.back (fun _ k => st138.trans k) ?_
    show Gl _ _ _ _ _ _ _ (T138.setTop (mkF m 32 #[.val (.int i), .val (.int (6 : Int32)), .val (.ref w_BETWEEN), .val (.int (0 : Int32)), .unset] [(.int (0 : Int32))]))
    refine Gl.back (fun _ k => XS.istore X138.here hx rfl (hb hby at_32) rfl (l' := #[.val (.int i), .val (.int (6 : Int32)), .val (.ref w_BETWEEN), .val (.int (0 : Int32)), .val (.int (0 : Int32))]) rfl k) ?_
    show Gl _ _ _ _ _ _ _ (T138.setTop (mkF m 34 #[.val (.int i), .val (.int (6 : Int32)), .val (.ref w_BETWEEN), .val (.int (0 : Int32)), .val (.int (0 : Int32))] []))
    refine Gl.back (fun _ k => XS.iload X138.here hx rfl (hb hby at_34) rfl k) ?_
    show Gl _ _ _ _ _ _ _ (T138.setTop (mkF m 36 #[.val (.int i), .val (.int (6 : Int32)), .val (.ref w_BETWEEN), .val (.int (0 : Int32)), .val (.int (0 : Int32))] [(.int (0 : Int32))]))
    refine Gl.back (fun _ k => XS.iloadN X138.here hx rfl (hb hby at_36) rfl k) ?_
    show Gl _ _ _ _ _ _ _ (T138.setTop (mkF m 37 #[.val (.int i), .val (.int (6 : Int32)), .val (.ref w_BETWEEN), .val (.int (0 : Int32)), .val (.int (0 : Int32))] [(.int (0 : Int32)), (.int (0 : Int32))]))
    refine Gl.back (fun _ k => XS.icmpYes X138.here hx rfl (pc0 := 37) (pc' := 42) rfl (hb hby at_37) rfl (teq (by decide : (0 : Int32) = (0 : Int32))).1 (by decide) (by decide) k) ?_
    show Gl _ _ _ _ _ _ _ (T138.setTop (mkF m 42 #[.val (.int i), .val (.int (6 : Int32)), .val (.ref w_BETWEEN), .val (.int (0 : Int32)), .val (.int (0 : Int32))] []))
    refine Gl.back (fun _ k => XS.iload X138.here hx rfl (hb hby at_42) rfl k) ?_
    show Gl _ _ _ _ _ _ _ (T138.setTop (mkF m 44 #[.val (.int i), .val (.int (6 : Int32)), .val (.ref w_BETWEEN), .val (.int (0 : Int32)), .val (.int (0 : Int32))] [(.int (0 : Int32))]))
    refine Gl.back (fun _ k => XS.ifYes X138.here hx rfl (pc0 := 44) (pc' := 75) rfl (hb hby at_44) rfl ((if0 _ _).trans (teq (by decide : (0 : Int32) = (0 : Int32))).1) (by decide) (by decide) k) ?_
    show Gl _ _ _ _ _ _ _ (T138.setTop (mkF m 75 #[.val (.int i), .val (.int (6 : Int32)), .val (.ref w_BETWEEN), .val (.int (0 : Int32)), .val (.int (0 : Int32))] []))
    refine Gl.back (fun _ k => XS.iconst X138.here hx rfl (hb hby at_75) k) ?_
    show Gl _ _ _ _ _ _ _ (T138.setTop (mkF m 76 #[.val (.int i), .val (.int (6 : Int32)), .val (.ref w_BETWEEN), .val (.int (0 : Int32)), .val (.int (0 : Int32))] [(.int (1 : Int32))]))
    exact Gl.ret X138 eh138 (v := (some (.int (1 : Int32)))) (fun h => by rw [Bd.returns] at h; cases h) Bd.notSynchronized (fun fs hr => retN X138 hx (t := .boolean) (z := (1 : Int32)) Bd.returns (by simp) (hb hby at_76) hr) ⟨N138, rfl⟩ (by decide) (by decide)
  · rw [hk124]
    show Gl _ _ _ _ _ _ _ (s₁.setTop (mkF m 4 #[.val (.int i), .unset, .unset, .unset, .unset] [(.int (7 : Int32))]))
    refine Gl.back (fun _ k => XS.istoreN X0.here hx rfl (hb hby at_4) rfl (l' := #[.val (.int i), .val (.int (7 : Int32)), .unset, .unset, .unset]) rfl k) ?_
    show Gl _ _ _ _ _ _ _ (s₁.setTop (mkF m 5 #[.val (.int i), .val (.int (7 : Int32)), .unset, .unset, .unset] []))
    refine Gl.back (fun _ k => XS.iloadN X0.here hx rfl (hb hby at_5) rfl k) ?_
    show Gl _ _ _ _ _ _ _ (s₁.setTop (mkF m 6 #[.val (.int i), .val (.int (7 : Int32)), .unset, .unset, .unset] [(.int (7 : Int32))]))
    obtain ⟨_, _, ⟨T139, L139, k139, n139⟩, -, X139, ⟨Lc139, hQ139, l139, y139, z139⟩, st139⟩ := Jvm.LawKit.callS X0 hx (y := (⟨"com/example/demi_orm/demiorm/query/OperatorTakesCollectionPinLaw", "pick", "(I)Lcom/example/demi_orm/demiorm/query/Operator;"⟩ : MethodName)) hown (mvT hZ (hw _ (List.mem_of_getElem? (i := 0) rfl))) (mvT hZ (hw _ (List.mem_of_getElem? (i := 1) rfl))) (mvT hZ (hw _ (List.mem_of_getElem? (i := 2) rfl))) (mvT hZ (hw _ (List.mem_of_getElem? (i := 3) rfl))) (by decide) (backOf (W := 0) (rm1_IS_NULL l Z a0 hw []  w_IS_NULL h0 n0 Z0 S_IS_NULL) hZ (hw _ (List.mem_of_getElem? (i := 3) rfl)) (hw _ (List.mem_of_getElem? (i := 2) rfl)) (by decide) (by decide)) (g := (mkF m 6 #[.val (.int i), .val (.int (7 : Int32)), .unset, .unset, .unset] [(.int (7 : Int32))])) rfl (by rw [hml]; rfl) (argsL := [(.int (7 : Int32))]) (rest := []) (lenOf pd__I_Lcom_example_demi_orm_demiorm_query_Operator_ rfl) rfl (by show 2 * 0 + _ ≤ _; exact Nat.le_of_eq rfl) (hb hby at_6) (fun _ _ => ⟨rfl, e0, (by decide : 0 + 0 ≤ _), (by decide : 0 + 0 ≤ _)⟩)
    dsimp only [Pt.U, Pt.locs, Pt.cells, Pt.slots] at X139 l139 y139 z139 st139 hQ139
    subst l139 y139 z139
    obtain ⟨Nq139, rfl, eh139⟩ := hQ139
    have N139 := Fr.app N0 Nq139
    refine Gl.back (fun _ k => st139 _ k) ?_
    show Gl _ _ _ _ _ _ _ (T139.setTop (mkF m 9 #[.val (.int i), .val (.int (7 : Int32)), .unset, .unset, .unset] [(.ref w_IS_NULL)]))
    refine Gl.back (fun _ k => XS.astoreN X139.here hx rfl (hb hby at_9) rfl rfl (l' := #[.val (.int i), .val (.int (7 : Int32)), .val (.ref w_IS_NULL), .unset, .unset]) rfl k) ?_
    show Gl _ _ _ _ _ _ _ (T139.setTop (mkF m 10 #[.val (.int i), .val (.int (7 : Int32)), .val (.ref w_IS_NULL), .unset, .unset] []))
    refine Gl.back (fun _ k => XS.iloadN X139.here hx rfl (hb hby at_10) rfl k) ?_
    show Gl _ _ _ _ _ _ _ (T139.setTop (mkF m 11 #[.val (.int i), .val (.int (7 : Int32)), .val (.ref w_IS_NULL), .unset, .unset] [(.int (7 : Int32))]))
    refine Gl.back (fun _ k => XS.bipush X139.here hx rfl (hb hby at_11) k) ?_
    show Gl _ _ _ _ _ _ _ (T139.setTop (mkF m 13 #[.val (.int i), .val (.int (7 : Int32)), .val (.ref w_IS_NULL), .unset, .unset] [(.int (14 : Int32)), (.int (7 : Int32))]))
    refine Gl.back (fun _ k => XS.icmpNo X139.here hx rfl (hb hby at_13) rfl (feq (by decide : ¬ (7 : Int32) = (14 : Int32))).1 k) ?_
    show Gl _ _ _ _ _ _ _ (T139.setTop (mkF m 16 #[.val (.int i), .val (.int (7 : Int32)), .val (.ref w_IS_NULL), .unset, .unset] []))
    refine Gl.back (fun _ k => XS.iloadN X139.here hx rfl (hb hby at_16) rfl k) ?_
    show Gl _ _ _ _ _ _ _ (T139.setTop (mkF m 17 #[.val (.int i), .val (.int (7 : Int32)), .val (.ref w_IS_NULL), .unset, .unset] [(.int (7 : Int32))]))
    refine Gl.back (fun _ k => XS.bipush X139.here hx rfl (hb hby at_17) k) ?_
    show Gl _ _ _ _ _ _ _ (T139.setTop (mkF m 19 #[.val (.int i), .val (.int (7 : Int32)), .val (.ref w_IS_NULL), .unset, .unset] [(.int (15 : Int32)), (.int (7 : Int32))]))
    refine Gl.back (fun _ k => XS.icmpYes X139.here hx rfl (pc0 := 19) (pc' := 26) rfl (hb hby at_19) rfl (feq (by decide : ¬ (7 : Int32) = (15 : Int32))).2 (by decide) (by decide) k) ?_
    show Gl _ _ _ _ _ _ _ (T139.setTop (mkF m 26 #[.val (.int i), .val (.int (7 : Int32)), .val (.ref w_IS_NULL), .unset, .unset] []))
    refine Gl.back (fun _ k => XS.iconst X139.here hx rfl (hb hby at_26) k) ?_
    show Gl _ _ _ _ _ _ _ (T139.setTop (mkF m 27 #[.val (.int i), .val (.int (7 : Int32)), .val (.ref w_IS_NULL), .unset, .unset] [(.int (0 : Int32))]))
    refine Gl.back (fun _ k => XS.istoreN X139.here hx rfl (hb hby at_27) rfl (l' := #[.val (.int i), .val (.int (7 : Int32)), .val (.ref w_IS_NULL), .val (.int (0 : Int32)), .unset]) rfl k) ?_
    show Gl _ _ _ _ _ _ _ (T139.setTop (mkF m 28 #[.val (.int i), .val (.int (7 : Int32)), .val (.ref w_IS_NULL), .val (.int (0 : Int32)), .unset] []))
    refine Gl.back (fun _ k => XS.aloadN X139.here hx rfl (hb hby at_28) rfl rfl k) ?_
    show Gl _ _ _ _ _ _ _ (T139.setTop (mkF m 29 #[.val (.int i), .val (.int (7 : Int32)), .val (.ref w_IS_NULL), .val (.int (0 : Int32)), .unset] [(.ref w_IS_NULL)]))
    obtain ⟨cq140, kq140, q140a, q140b, q140c⟩ := isOf hZ eh139 E_IS_NULL
    obtain ⟨_, _, ⟨T140, L140, k140, n140⟩, -, X140, ⟨Lc140, hQ140, l140, y140, z140⟩, st140⟩ := X139.virtualBack hx (y := (⟨"com/example/demi_orm/demiorm/query/Operator", "takesCollection", "()Z"⟩ : MethodName)) (z := (⟨"com/example/demi_orm/demiorm/query/Operator", "takesCollection", "()Z"⟩ : MethodName)) hown (mvT hZ (hw _ (List.mem_of_getElem? (i := 7) rfl))) (mvT hZ (hw _ (List.mem_of_getElem? (i := 8) rfl))) (notFace_of_selects (args := #[]) (mvT hZ (hw _ (List.mem_of_getElem? (i := 10) rfl)))) (mvT hZ (hw _ (List.mem_of_getElem? (i := 10) rfl))) (mvT hZ (hw _ (List.mem_of_getElem? (i := 9) rfl))) (by decide) (backOf (W := 0) (rm2_no l Z a0 hw [] w_IS_NULL w_IN w_NOT_IN h0 n0 Z0 S_IN S_NOT_IN (Fld.ne F_IS_NULL_ordinal F_IN_ordinal (by decide)) (Fld.ne F_IS_NULL_ordinal F_NOT_IN_ordinal (by decide))) hZ (hw _ (List.mem_of_getElem? (i := 11) rfl)) (hw _ (List.mem_of_getElem? (i := 5) rfl)) (by decide) (by decide)) q140a q140c (g := (mkF m 29 #[.val (.int i), .val (.int (7 : Int32)), .val (.ref w_IS_NULL), .val (.int (0 : Int32)), .unset] [(.ref w_IS_NULL)])) rfl (by rw [hml]; rfl) (Steps.refl _) (argsL := []) (rest := []) (lenOf pd___Z rfl) rfl (by show 2 * 0 + _ ≤ _; exact Nat.le_of_eq rfl) (hb hby at_29) (fun _ _ => ⟨rfl, eh139, (by decide : 0 + 0 ≤ _), (by decide : 0 + 0 ≤ _)⟩)
    dsimp only [Pt.U, Pt.locs, Pt.cells, Pt.slots] at X140 l140 y140 z140 st140 hQ140
    subst l140 y140 z140
    obtain ⟨Nq140, rfl, eh140⟩ := hQ140
    have N140 := Fr.app N139 Nq140
    refine Gl.back (fun _ k => st140.trans k) ?_
    show Gl _ _ _ _ _ _ _ (T140.setTop (mkF m 32 #[.val (.int i), .val (.int (7 : Int32)), .val (.ref w_IS_NULL), .val (.int (0 : Int32)), .unset] [(.int (0 : Int32))]))
    refine Gl.back (fun _ k => XS.istore X140.here hx rfl (hb hby at_32) rfl (l' := #[.val (.int i), .val (.int (7 : Int32)), .val (.ref w_IS_NULL), .val (.int (0 : Int32)), .val (.int (0 : Int32))]) rfl k) ?_
    show Gl _ _ _ _ _ _ _ (T140.setTop (mkF m 34 #[.val (.int i), .val (.int (7 : Int32)), .val (.ref w_IS_NULL), .val (.int (0 : Int32)), .val (.int (0 : Int32))] []))
    refine Gl.back (fun _ k => XS.iload X140.here hx rfl (hb hby at_34) rfl k) ?_
    show Gl _ _ _ _ _ _ _ (T140.setTop (mkF m 36 #[.val (.int i), .val (.int (7 : Int32)), .val (.ref w_IS_NULL), .val (.int (0 : Int32)), .val (.int (0 : Int32))] [(.int (0 : Int32))]))
    refine Gl.back (fun _ k => XS.iloadN X140.here hx rfl (hb hby at_36) rfl k) ?_
    show Gl _ _ _ _ _ _ _ (T140.setTop (mkF m 37 #[.val (.int i), .val (.int (7 : Int32)), .val (.ref w_IS_NULL), .val (.int (0 : Int32)), .val (.int (0 : Int32))] [(.int (0 : Int32)), (.int (0 : Int32))]))
    refine Gl.back (fun _ k => XS.icmpYes X140.here hx rfl (pc0 := 37) (pc' := 42) rfl (hb hby at_37) rfl (teq (by decide : (0 : Int32) = (0 : Int32))).1 (by decide) (by decide) k) ?_
    show Gl _ _ _ _ _ _ _ (T140.setTop (mkF m 42 #[.val (.int i), .val (.int (7 : Int32)), .val (.ref w_IS_NULL), .val (.int (0 : Int32)), .val (.int (0 : Int32))] []))
    refine Gl.back (fun _ k => XS.iload X140.here hx rfl (hb hby at_42) rfl k) ?_
    show Gl _ _ _ _ _ _ _ (T140.setTop (mkF m 44 #[.val (.int i), .val (.int (7 : Int32)), .val (.ref w_IS_NULL), .val (.int (0 : Int32)), .val (.int (0 : Int32))] [(.int (0 : Int32))]))
    refine Gl.back (fun _ k => XS.ifYes X140.here hx rfl (pc0 := 44) (pc' := 75) rfl (hb hby at_44) rfl ((if0 _ _).trans (teq (by decide : (0 : Int32) = (0 : Int32))).1) (by decide) (by decide) k) ?_
    show Gl _ _ _ _ _ _ _ (T140.setTop (mkF m 75 #[.val (.int i), .val (.int (7 : Int32)), .val (.ref w_IS_NULL), .val (.int (0 : Int32)), .val (.int (0 : Int32))] []))
    refine Gl.back (fun _ k => XS.iconst X140.here hx rfl (hb hby at_75) k) ?_
    show Gl _ _ _ _ _ _ _ (T140.setTop (mkF m 76 #[.val (.int i), .val (.int (7 : Int32)), .val (.ref w_IS_NULL), .val (.int (0 : Int32)), .val (.int (0 : Int32))] [(.int (1 : Int32))]))
    exact Gl.ret X140 eh140 (v := (some (.int (1 : Int32)))) (fun h => by rw [Bd.returns] at h; cases h) Bd.notSynchronized (fun fs hr => retN X140 hx (t := .boolean) (z := (1 : Int32)) Bd.returns (by simp) (hb hby at_76) hr) ⟨N140, rfl⟩ (by decide) (by decide)
  · rw [hk124]
    show Gl _ _ _ _ _ _ _ (s₁.setTop (mkF m 4 #[.val (.int i), .unset, .unset, .unset, .unset] [(.int (8 : Int32))]))
    refine Gl.back (fun _ k => XS.istoreN X0.here hx rfl (hb hby at_4) rfl (l' := #[.val (.int i), .val (.int (8 : Int32)), .unset, .unset, .unset]) rfl k) ?_
    show Gl _ _ _ _ _ _ _ (s₁.setTop (mkF m 5 #[.val (.int i), .val (.int (8 : Int32)), .unset, .unset, .unset] []))
    refine Gl.back (fun _ k => XS.iloadN X0.here hx rfl (hb hby at_5) rfl k) ?_
    show Gl _ _ _ _ _ _ _ (s₁.setTop (mkF m 6 #[.val (.int i), .val (.int (8 : Int32)), .unset, .unset, .unset] [(.int (8 : Int32))]))
    obtain ⟨_, _, ⟨T141, L141, k141, n141⟩, -, X141, ⟨Lc141, hQ141, l141, y141, z141⟩, st141⟩ := Jvm.LawKit.callS X0 hx (y := (⟨"com/example/demi_orm/demiorm/query/OperatorTakesCollectionPinLaw", "pick", "(I)Lcom/example/demi_orm/demiorm/query/Operator;"⟩ : MethodName)) hown (mvT hZ (hw _ (List.mem_of_getElem? (i := 0) rfl))) (mvT hZ (hw _ (List.mem_of_getElem? (i := 1) rfl))) (mvT hZ (hw _ (List.mem_of_getElem? (i := 2) rfl))) (mvT hZ (hw _ (List.mem_of_getElem? (i := 3) rfl))) (by decide) (backOf (W := 0) (rm1_IS_NOT_NULL l Z a0 hw []  w_IS_NOT_NULL h0 n0 Z0 S_IS_NOT_NULL) hZ (hw _ (List.mem_of_getElem? (i := 3) rfl)) (hw _ (List.mem_of_getElem? (i := 2) rfl)) (by decide) (by decide)) (g := (mkF m 6 #[.val (.int i), .val (.int (8 : Int32)), .unset, .unset, .unset] [(.int (8 : Int32))])) rfl (by rw [hml]; rfl) (argsL := [(.int (8 : Int32))]) (rest := []) (lenOf pd__I_Lcom_example_demi_orm_demiorm_query_Operator_ rfl) rfl (by show 2 * 0 + _ ≤ _; exact Nat.le_of_eq rfl) (hb hby at_6) (fun _ _ => ⟨rfl, e0, (by decide : 0 + 0 ≤ _), (by decide : 0 + 0 ≤ _)⟩)
    dsimp only [Pt.U, Pt.locs, Pt.cells, Pt.slots] at X141 l141 y141 z141 st141 hQ141
    subst l141 y141 z141
    obtain ⟨Nq141, rfl, eh141⟩ := hQ141
    have N141 := Fr.app N0 Nq141
    refine Gl.back (fun _ k => st141 _ k) ?_
    show Gl _ _ _ _ _ _ _ (T141.setTop (mkF m 9 #[.val (.int i), .val (.int (8 : Int32)), .unset, .unset, .unset] [(.ref w_IS_NOT_NULL)]))
    refine Gl.back (fun _ k => XS.astoreN X141.here hx rfl (hb hby at_9) rfl rfl (l' := #[.val (.int i), .val (.int (8 : Int32)), .val (.ref w_IS_NOT_NULL), .unset, .unset]) rfl k) ?_
    show Gl _ _ _ _ _ _ _ (T141.setTop (mkF m 10 #[.val (.int i), .val (.int (8 : Int32)), .val (.ref w_IS_NOT_NULL), .unset, .unset] []))
    refine Gl.back (fun _ k => XS.iloadN X141.here hx rfl (hb hby at_10) rfl k) ?_
    show Gl _ _ _ _ _ _ _ (T141.setTop (mkF m 11 #[.val (.int i), .val (.int (8 : Int32)), .val (.ref w_IS_NOT_NULL), .unset, .unset] [(.int (8 : Int32))]))
    refine Gl.back (fun _ k => XS.bipush X141.here hx rfl (hb hby at_11) k) ?_
    show Gl _ _ _ _ _ _ _ (T141.setTop (mkF m 13 #[.val (.int i), .val (.int (8 : Int32)), .val (.ref w_IS_NOT_NULL), .unset, .unset] [(.int (14 : Int32)), (.int (8 : Int32))]))
    refine Gl.back (fun _ k => XS.icmpNo X141.here hx rfl (hb hby at_13) rfl (feq (by decide : ¬ (8 : Int32) = (14 : Int32))).1 k) ?_
    show Gl _ _ _ _ _ _ _ (T141.setTop (mkF m 16 #[.val (.int i), .val (.int (8 : Int32)), .val (.ref w_IS_NOT_NULL), .unset, .unset] []))
    refine Gl.back (fun _ k => XS.iloadN X141.here hx rfl (hb hby at_16) rfl k) ?_
    show Gl _ _ _ _ _ _ _ (T141.setTop (mkF m 17 #[.val (.int i), .val (.int (8 : Int32)), .val (.ref w_IS_NOT_NULL), .unset, .unset] [(.int (8 : Int32))]))
    refine Gl.back (fun _ k => XS.bipush X141.here hx rfl (hb hby at_17) k) ?_
    show Gl _ _ _ _ _ _ _ (T141.setTop (mkF m 19 #[.val (.int i), .val (.int (8 : Int32)), .val (.ref w_IS_NOT_NULL), .unset, .unset] [(.int (15 : Int32)), (.int (8 : Int32))]))
    refine Gl.back (fun _ k => XS.icmpYes X141.here hx rfl (pc0 := 19) (pc' := 26) rfl (hb hby at_19) rfl (feq (by decide : ¬ (8 : Int32) = (15 : Int32))).2 (by decide) (by decide) k) ?_
    show Gl _ _ _ _ _ _ _ (T141.setTop (mkF m 26 #[.val (.int i), .val (.int (8 : Int32)), .val (.ref w_IS_NOT_NULL), .unset, .unset] []))
    refine Gl.back (fun _ k => XS.iconst X141.here hx rfl (hb hby at_26) k) ?_
    show Gl _ _ _ _ _ _ _ (T141.setTop (mkF m 27 #[.val (.int i), .val (.int (8 : Int32)), .val (.ref w_IS_NOT_NULL), .unset, .unset] [(.int (0 : Int32))]))
    refine Gl.back (fun _ k => XS.istoreN X141.here hx rfl (hb hby at_27) rfl (l' := #[.val (.int i), .val (.int (8 : Int32)), .val (.ref w_IS_NOT_NULL), .val (.int (0 : Int32)), .unset]) rfl k) ?_
    show Gl _ _ _ _ _ _ _ (T141.setTop (mkF m 28 #[.val (.int i), .val (.int (8 : Int32)), .val (.ref w_IS_NOT_NULL), .val (.int (0 : Int32)), .unset] []))
    refine Gl.back (fun _ k => XS.aloadN X141.here hx rfl (hb hby at_28) rfl rfl k) ?_
    show Gl _ _ _ _ _ _ _ (T141.setTop (mkF m 29 #[.val (.int i), .val (.int (8 : Int32)), .val (.ref w_IS_NOT_NULL), .val (.int (0 : Int32)), .unset] [(.ref w_IS_NOT_NULL)]))
    obtain ⟨cq142, kq142, q142a, q142b, q142c⟩ := isOf hZ eh141 E_IS_NOT_NULL
    obtain ⟨_, _, ⟨T142, L142, k142, n142⟩, -, X142, ⟨Lc142, hQ142, l142, y142, z142⟩, st142⟩ := X141.virtualBack hx (y := (⟨"com/example/demi_orm/demiorm/query/Operator", "takesCollection", "()Z"⟩ : MethodName)) (z := (⟨"com/example/demi_orm/demiorm/query/Operator", "takesCollection", "()Z"⟩ : MethodName)) hown (mvT hZ (hw _ (List.mem_of_getElem? (i := 7) rfl))) (mvT hZ (hw _ (List.mem_of_getElem? (i := 8) rfl))) (notFace_of_selects (args := #[]) (mvT hZ (hw _ (List.mem_of_getElem? (i := 10) rfl)))) (mvT hZ (hw _ (List.mem_of_getElem? (i := 10) rfl))) (mvT hZ (hw _ (List.mem_of_getElem? (i := 9) rfl))) (by decide) (backOf (W := 0) (rm2_no l Z a0 hw [] w_IS_NOT_NULL w_IN w_NOT_IN h0 n0 Z0 S_IN S_NOT_IN (Fld.ne F_IS_NOT_NULL_ordinal F_IN_ordinal (by decide)) (Fld.ne F_IS_NOT_NULL_ordinal F_NOT_IN_ordinal (by decide))) hZ (hw _ (List.mem_of_getElem? (i := 11) rfl)) (hw _ (List.mem_of_getElem? (i := 5) rfl)) (by decide) (by decide)) q142a q142c (g := (mkF m 29 #[.val (.int i), .val (.int (8 : Int32)), .val (.ref w_IS_NOT_NULL), .val (.int (0 : Int32)), .unset] [(.ref w_IS_NOT_NULL)])) rfl (by rw [hml]; rfl) (Steps.refl _) (argsL := []) (rest := []) (lenOf pd___Z rfl) rfl (by show 2 * 0 + _ ≤ _; exact Nat.le_of_eq rfl) (hb hby at_29) (fun _ _ => ⟨rfl, eh141, (by decide : 0 + 0 ≤ _), (by decide : 0 + 0 ≤ _)⟩)
    dsimp only [Pt.U, Pt.locs, Pt.cells, Pt.slots] at X142 l142 y142 z142 st142 hQ142
    subst l142 y142 z142
    obtain ⟨Nq142, rfl, eh142⟩ := hQ142
    have N142 := Fr.app N141 Nq142
    refine Gl.back (fun _ k => st142.trans k) ?_
    show Gl _ _ _ _ _ _ _ (T142.setTop (mkF m 32 #[.val (.int i), .val (.int (8 : Int32)), .val (.ref w_IS_NOT_NULL), .val (.int (0 : Int32)), .unset] [(.int (0 : Int32))]))
    refine Gl.back (fun _ k => XS.istore X142.here hx rfl (hb hby at_32) rfl (l' := #[.val (.int i), .val (.int (8 : Int32)), .val (.ref w_IS_NOT_NULL), .val (.int (0 : Int32)), .val (.int (0 : Int32))]) rfl k) ?_
    show Gl _ _ _ _ _ _ _ (T142.setTop (mkF m 34 #[.val (.int i), .val (.int (8 : Int32)), .val (.ref w_IS_NOT_NULL), .val (.int (0 : Int32)), .val (.int (0 : Int32))] []))
    refine Gl.back (fun _ k => XS.iload X142.here hx rfl (hb hby at_34) rfl k) ?_
    show Gl _ _ _ _ _ _ _ (T142.setTop (mkF m 36 #[.val (.int i), .val (.int (8 : Int32)), .val (.ref w_IS_NOT_NULL), .val (.int (0 : Int32)), .val (.int (0 : Int32))] [(.int (0 : Int32))]))
    refine Gl.back (fun _ k => XS.iloadN X142.here hx rfl (hb hby at_36) rfl k) ?_
    show Gl _ _ _ _ _ _ _ (T142.setTop (mkF m 37 #[.val (.int i), .val (.int (8 : Int32)), .val (.ref w_IS_NOT_NULL), .val (.int (0 : Int32)), .val (.int (0 : Int32))] [(.int (0 : Int32)), (.int (0 : Int32))]))
    refine Gl.back (fun _ k => XS.icmpYes X142.here hx rfl (pc0 := 37) (pc' := 42) rfl (hb hby at_37) rfl (teq (by decide : (0 : Int32) = (0 : Int32))).1 (by decide) (by decide) k) ?_
    show Gl _ _ _ _ _ _ _ (T142.setTop (mkF m 42 #[.val (.int i), .val (.int (8 : Int32)), .val (.ref w_IS_NOT_NULL), .val (.int (0 : Int32)), .val (.int (0 : Int32))] []))
    refine Gl.back (fun _ k => XS.iload X142.here hx rfl (hb hby at_42) rfl k) ?_
    show Gl _ _ _ _ _ _ _ (T142.setTop (mkF m 44 #[.val (.int i), .val (.int (8 : Int32)), .val (.ref w_IS_NOT_NULL), .val (.int (0 : Int32)), .val (.int (0 : Int32))] [(.int (0 : Int32))]))
    refine Gl.back (fun _ k => XS.ifYes X142.here hx rfl (pc0 := 44) (pc' := 75) rfl (hb hby at_44) rfl ((if0 _ _).trans (teq (by decide : (0 : Int32) = (0 : Int32))).1) (by decide) (by decide) k) ?_
    show Gl _ _ _ _ _ _ _ (T142.setTop (mkF m 75 #[.val (.int i), .val (.int (8 : Int32)), .val (.ref w_IS_NOT_NULL), .val (.int (0 : Int32)), .val (.int (0 : Int32))] []))
    refine Gl.back (fun _ k => XS.iconst X142.here hx rfl (hb hby at_75) k) ?_
    show Gl _ _ _ _ _ _ _ (T142.setTop (mkF m 76 #[.val (.int i), .val (.int (8 : Int32)), .val (.ref w_IS_NOT_NULL), .val (.int (0 : Int32)), .val (.int (0 : Int32))] [(.int (1 : Int32))]))
    exact Gl.ret X142 eh142 (v := (some (.int (1 : Int32)))) (fun h => by rw [Bd.returns] at h; cases h) Bd.notSynchronized (fun fs hr => retN X142 hx (t := .boolean) (z := (1 : Int32)) Bd.returns (by simp) (hb hby at_76) hr) ⟨N142, rfl⟩ (by decide) (by decide)
  · rw [hk124]
    show Gl _ _ _ _ _ _ _ (s₁.setTop (mkF m 4 #[.val (.int i), .unset, .unset, .unset, .unset] [(.int (9 : Int32))]))
    refine Gl.back (fun _ k => XS.istoreN X0.here hx rfl (hb hby at_4) rfl (l' := #[.val (.int i), .val (.int (9 : Int32)), .unset, .unset, .unset]) rfl k) ?_
    show Gl _ _ _ _ _ _ _ (s₁.setTop (mkF m 5 #[.val (.int i), .val (.int (9 : Int32)), .unset, .unset, .unset] []))
    refine Gl.back (fun _ k => XS.iloadN X0.here hx rfl (hb hby at_5) rfl k) ?_
    show Gl _ _ _ _ _ _ _ (s₁.setTop (mkF m 6 #[.val (.int i), .val (.int (9 : Int32)), .unset, .unset, .unset] [(.int (9 : Int32))]))
    obtain ⟨_, _, ⟨T143, L143, k143, n143⟩, -, X143, ⟨Lc143, hQ143, l143, y143, z143⟩, st143⟩ := Jvm.LawKit.callS X0 hx (y := (⟨"com/example/demi_orm/demiorm/query/OperatorTakesCollectionPinLaw", "pick", "(I)Lcom/example/demi_orm/demiorm/query/Operator;"⟩ : MethodName)) hown (mvT hZ (hw _ (List.mem_of_getElem? (i := 0) rfl))) (mvT hZ (hw _ (List.mem_of_getElem? (i := 1) rfl))) (mvT hZ (hw _ (List.mem_of_getElem? (i := 2) rfl))) (mvT hZ (hw _ (List.mem_of_getElem? (i := 3) rfl))) (by decide) (backOf (W := 0) (rm1_LIKE l Z a0 hw []  w_LIKE h0 n0 Z0 S_LIKE) hZ (hw _ (List.mem_of_getElem? (i := 3) rfl)) (hw _ (List.mem_of_getElem? (i := 2) rfl)) (by decide) (by decide)) (g := (mkF m 6 #[.val (.int i), .val (.int (9 : Int32)), .unset, .unset, .unset] [(.int (9 : Int32))])) rfl (by rw [hml]; rfl) (argsL := [(.int (9 : Int32))]) (rest := []) (lenOf pd__I_Lcom_example_demi_orm_demiorm_query_Operator_ rfl) rfl (by show 2 * 0 + _ ≤ _; exact Nat.le_of_eq rfl) (hb hby at_6) (fun _ _ => ⟨rfl, e0, (by decide : 0 + 0 ≤ _), (by decide : 0 + 0 ≤ _)⟩)
    dsimp only [Pt.U, Pt.locs, Pt.cells, Pt.slots] at X143 l143 y143 z143 st143 hQ143
    subst l143 y143 z143
    obtain ⟨Nq143, rfl, eh143⟩ := hQ143
    have N143 := Fr.app N0 Nq143
    refine Gl.back (fun _ k => st143 _ k) ?_
    show Gl _ _ _ _ _ _ _ (T143.setTop (mkF m 9 #[.val (.int i), .val (.int (9 : Int32)), .unset, .unset, .unset] [(.ref w_LIKE)]))
    refine Gl.back (fun _ k => XS.astoreN X143.here hx rfl (hb hby at_9) rfl rfl (l' := #[.val (.int i), .val (.int (9 : Int32)), .val (.ref w_LIKE), .unset, .unset]) rfl k) ?_
    show Gl _ _ _ _ _ _ _ (T143.setTop (mkF m 10 #[.val (.int i), .val (.int (9 : Int32)), .val (.ref w_LIKE), .unset, .unset] []))
    refine Gl.back (fun _ k => XS.iloadN X143.here hx rfl (hb hby at_10) rfl k) ?_
    show Gl _ _ _ _ _ _ _ (T143.setTop (mkF m 11 #[.val (.int i), .val (.int (9 : Int32)), .val (.ref w_LIKE), .unset, .unset] [(.int (9 : Int32))]))
    refine Gl.back (fun _ k => XS.bipush X143.here hx rfl (hb hby at_11) k) ?_
    show Gl _ _ _ _ _ _ _ (T143.setTop (mkF m 13 #[.val (.int i), .val (.int (9 : Int32)), .val (.ref w_LIKE), .unset, .unset] [(.int (14 : Int32)), (.int (9 : Int32))]))
    refine Gl.back (fun _ k => XS.icmpNo X143.here hx rfl (hb hby at_13) rfl (feq (by decide : ¬ (9 : Int32) = (14 : Int32))).1 k) ?_
    show Gl _ _ _ _ _ _ _ (T143.setTop (mkF m 16 #[.val (.int i), .val (.int (9 : Int32)), .val (.ref w_LIKE), .unset, .unset] []))
    refine Gl.back (fun _ k => XS.iloadN X143.here hx rfl (hb hby at_16) rfl k) ?_
    show Gl _ _ _ _ _ _ _ (T143.setTop (mkF m 17 #[.val (.int i), .val (.int (9 : Int32)), .val (.ref w_LIKE), .unset, .unset] [(.int (9 : Int32))]))
    refine Gl.back (fun _ k => XS.bipush X143.here hx rfl (hb hby at_17) k) ?_
    show Gl _ _ _ _ _ _ _ (T143.setTop (mkF m 19 #[.val (.int i), .val (.int (9 : Int32)), .val (.ref w_LIKE), .unset, .unset] [(.int (15 : Int32)), (.int (9 : Int32))]))
    refine Gl.back (fun _ k => XS.icmpYes X143.here hx rfl (pc0 := 19) (pc' := 26) rfl (hb hby at_19) rfl (feq (by decide : ¬ (9 : Int32) = (15 : Int32))).2 (by decide) (by decide) k) ?_
    show Gl _ _ _ _ _ _ _ (T143.setTop (mkF m 26 #[.val (.int i), .val (.int (9 : Int32)), .val (.ref w_LIKE), .unset, .unset] []))
    refine Gl.back (fun _ k => XS.iconst X143.here hx rfl (hb hby at_26) k) ?_
    show Gl _ _ _ _ _ _ _ (T143.setTop (mkF m 27 #[.val (.int i), .val (.int (9 : Int32)), .val (.ref w_LIKE), .unset, .unset] [(.int (0 : Int32))]))
    refine Gl.back (fun _ k => XS.istoreN X143.here hx rfl (hb hby at_27) rfl (l' := #[.val (.int i), .val (.int (9 : Int32)), .val (.ref w_LIKE), .val (.int (0 : Int32)), .unset]) rfl k) ?_
    show Gl _ _ _ _ _ _ _ (T143.setTop (mkF m 28 #[.val (.int i), .val (.int (9 : Int32)), .val (.ref w_LIKE), .val (.int (0 : Int32)), .unset] []))
    refine Gl.back (fun _ k => XS.aloadN X143.here hx rfl (hb hby at_28) rfl rfl k) ?_
    show Gl _ _ _ _ _ _ _ (T143.setTop (mkF m 29 #[.val (.int i), .val (.int (9 : Int32)), .val (.ref w_LIKE), .val (.int (0 : Int32)), .unset] [(.ref w_LIKE)]))
    obtain ⟨cq144, kq144, q144a, q144b, q144c⟩ := isOf hZ eh143 E_LIKE
    obtain ⟨_, _, ⟨T144, L144, k144, n144⟩, -, X144, ⟨Lc144, hQ144, l144, y144, z144⟩, st144⟩ := X143.virtualBack hx (y := (⟨"com/example/demi_orm/demiorm/query/Operator", "takesCollection", "()Z"⟩ : MethodName)) (z := (⟨"com/example/demi_orm/demiorm/query/Operator", "takesCollection", "()Z"⟩ : MethodName)) hown (mvT hZ (hw _ (List.mem_of_getElem? (i := 7) rfl))) (mvT hZ (hw _ (List.mem_of_getElem? (i := 8) rfl))) (notFace_of_selects (args := #[]) (mvT hZ (hw _ (List.mem_of_getElem? (i := 10) rfl)))) (mvT hZ (hw _ (List.mem_of_getElem? (i := 10) rfl))) (mvT hZ (hw _ (List.mem_of_getElem? (i := 9) rfl))) (by decide) (backOf (W := 0) (rm2_no l Z a0 hw [] w_LIKE w_IN w_NOT_IN h0 n0 Z0 S_IN S_NOT_IN (Fld.ne F_LIKE_ordinal F_IN_ordinal (by decide)) (Fld.ne F_LIKE_ordinal F_NOT_IN_ordinal (by decide))) hZ (hw _ (List.mem_of_getElem? (i := 11) rfl)) (hw _ (List.mem_of_getElem? (i := 5) rfl)) (by decide) (by decide)) q144a q144c (g := (mkF m 29 #[.val (.int i), .val (.int (9 : Int32)), .val (.ref w_LIKE), .val (.int (0 : Int32)), .unset] [(.ref w_LIKE)])) rfl (by rw [hml]; rfl) (Steps.refl _) (argsL := []) (rest := []) (lenOf pd___Z rfl) rfl (by show 2 * 0 + _ ≤ _; exact Nat.le_of_eq rfl) (hb hby at_29) (fun _ _ => ⟨rfl, eh143, (by decide : 0 + 0 ≤ _), (by decide : 0 + 0 ≤ _)⟩)
    dsimp only [Pt.U, Pt.locs, Pt.cells, Pt.slots] at X144 l144 y144 z144 st144 hQ144
    subst l144 y144 z144
    obtain ⟨Nq144, rfl, eh144⟩ := hQ144
    have N144 := Fr.app N143 Nq144
    refine Gl.back (fun _ k => st144.trans k) ?_
    show Gl _ _ _ _ _ _ _ (T144.setTop (mkF m 32 #[.val (.int i), .val (.int (9 : Int32)), .val (.ref w_LIKE), .val (.int (0 : Int32)), .unset] [(.int (0 : Int32))]))
    refine Gl.back (fun _ k => XS.istore X144.here hx rfl (hb hby at_32) rfl (l' := #[.val (.int i), .val (.int (9 : Int32)), .val (.ref w_LIKE), .val (.int (0 : Int32)), .val (.int (0 : Int32))]) rfl k) ?_
    show Gl _ _ _ _ _ _ _ (T144.setTop (mkF m 34 #[.val (.int i), .val (.int (9 : Int32)), .val (.ref w_LIKE), .val (.int (0 : Int32)), .val (.int (0 : Int32))] []))
    refine Gl.back (fun _ k => XS.iload X144.here hx rfl (hb hby at_34) rfl k) ?_
    show Gl _ _ _ _ _ _ _ (T144.setTop (mkF m 36 #[.val (.int i), .val (.int (9 : Int32)), .val (.ref w_LIKE), .val (.int (0 : Int32)), .val (.int (0 : Int32))] [(.int (0 : Int32))]))
    refine Gl.back (fun _ k => XS.iloadN X144.here hx rfl (hb hby at_36) rfl k) ?_
    show Gl _ _ _ _ _ _ _ (T144.setTop (mkF m 37 #[.val (.int i), .val (.int (9 : Int32)), .val (.ref w_LIKE), .val (.int (0 : Int32)), .val (.int (0 : Int32))] [(.int (0 : Int32)), (.int (0 : Int32))]))
    refine Gl.back (fun _ k => XS.icmpYes X144.here hx rfl (pc0 := 37) (pc' := 42) rfl (hb hby at_37) rfl (teq (by decide : (0 : Int32) = (0 : Int32))).1 (by decide) (by decide) k) ?_
    show Gl _ _ _ _ _ _ _ (T144.setTop (mkF m 42 #[.val (.int i), .val (.int (9 : Int32)), .val (.ref w_LIKE), .val (.int (0 : Int32)), .val (.int (0 : Int32))] []))
    refine Gl.back (fun _ k => XS.iload X144.here hx rfl (hb hby at_42) rfl k) ?_
    show Gl _ _ _ _ _ _ _ (T144.setTop (mkF m 44 #[.val (.int i), .val (.int (9 : Int32)), .val (.ref w_LIKE), .val (.int (0 : Int32)), .val (.int (0 : Int32))] [(.int (0 : Int32))]))
    refine Gl.back (fun _ k => XS.ifYes X144.here hx rfl (pc0 := 44) (pc' := 75) rfl (hb hby at_44) rfl ((if0 _ _).trans (teq (by decide : (0 : Int32) = (0 : Int32))).1) (by decide) (by decide) k) ?_
    show Gl _ _ _ _ _ _ _ (T144.setTop (mkF m 75 #[.val (.int i), .val (.int (9 : Int32)), .val (.ref w_LIKE), .val (.int (0 : Int32)), .val (.int (0 : Int32))] []))
    refine Gl.back (fun _ k => XS.iconst X144.here hx rfl (hb hby at_75) k) ?_
    show Gl _ _ _ _ _ _ _ (T144.setTop (mkF m 76 #[.val (.int i), .val (.int (9 : Int32)), .val (.ref w_LIKE), .val (.int (0 : Int32)), .val (.int (0 : Int32))] [(.int (1 : Int32))]))
    exact Gl.ret X144 eh144 (v := (some (.int (1 : Int32)))) (fun h => by rw [Bd.returns] at h; cases h) Bd.notSynchronized (fun fs hr => retN X144 hx (t := .boolean) (z := (1 : Int32)) Bd.returns (by simp) (hb hby at_76) hr) ⟨N144, rfl⟩ (by decide) (by decide)
  · rw [hk124]
    show Gl _ _ _ _ _ _ _ (s₁.setTop (mkF m 4 #[.val (.int i), .unset, .unset, .unset, .unset] [(.int (10 : Int32))]))
    refine Gl.back (fun _ k => XS.istoreN X0.here hx rfl (hb hby at_4) rfl (l' := #[.val (.int i), .val (.int (10 : Int32)), .unset, .unset, .unset]) rfl k) ?_
    show Gl _ _ _ _ _ _ _ (s₁.setTop (mkF m 5 #[.val (.int i), .val (.int (10 : Int32)), .unset, .unset, .unset] []))
    refine Gl.back (fun _ k => XS.iloadN X0.here hx rfl (hb hby at_5) rfl k) ?_
    show Gl _ _ _ _ _ _ _ (s₁.setTop (mkF m 6 #[.val (.int i), .val (.int (10 : Int32)), .unset, .unset, .unset] [(.int (10 : Int32))]))
    obtain ⟨_, _, ⟨T145, L145, k145, n145⟩, -, X145, ⟨Lc145, hQ145, l145, y145, z145⟩, st145⟩ := Jvm.LawKit.callS X0 hx (y := (⟨"com/example/demi_orm/demiorm/query/OperatorTakesCollectionPinLaw", "pick", "(I)Lcom/example/demi_orm/demiorm/query/Operator;"⟩ : MethodName)) hown (mvT hZ (hw _ (List.mem_of_getElem? (i := 0) rfl))) (mvT hZ (hw _ (List.mem_of_getElem? (i := 1) rfl))) (mvT hZ (hw _ (List.mem_of_getElem? (i := 2) rfl))) (mvT hZ (hw _ (List.mem_of_getElem? (i := 3) rfl))) (by decide) (backOf (W := 0) (rm1_NOT_LIKE l Z a0 hw []  w_NOT_LIKE h0 n0 Z0 S_NOT_LIKE) hZ (hw _ (List.mem_of_getElem? (i := 3) rfl)) (hw _ (List.mem_of_getElem? (i := 2) rfl)) (by decide) (by decide)) (g := (mkF m 6 #[.val (.int i), .val (.int (10 : Int32)), .unset, .unset, .unset] [(.int (10 : Int32))])) rfl (by rw [hml]; rfl) (argsL := [(.int (10 : Int32))]) (rest := []) (lenOf pd__I_Lcom_example_demi_orm_demiorm_query_Operator_ rfl) rfl (by show 2 * 0 + _ ≤ _; exact Nat.le_of_eq rfl) (hb hby at_6) (fun _ _ => ⟨rfl, e0, (by decide : 0 + 0 ≤ _), (by decide : 0 + 0 ≤ _)⟩)
    dsimp only [Pt.U, Pt.locs, Pt.cells, Pt.slots] at X145 l145 y145 z145 st145 hQ145
    subst l145 y145 z145
    obtain ⟨Nq145, rfl, eh145⟩ := hQ145
    have N145 := Fr.app N0 Nq145
    refine Gl.back (fun _ k => st145 _ k) ?_
    show Gl _ _ _ _ _ _ _ (T145.setTop (mkF m 9 #[.val (.int i), .val (.int (10 : Int32)), .unset, .unset, .unset] [(.ref w_NOT_LIKE)]))
    refine Gl.back (fun _ k => XS.astoreN X145.here hx rfl (hb hby at_9) rfl rfl (l' := #[.val (.int i), .val (.int (10 : Int32)), .val (.ref w_NOT_LIKE), .unset, .unset]) rfl k) ?_
    show Gl _ _ _ _ _ _ _ (T145.setTop (mkF m 10 #[.val (.int i), .val (.int (10 : Int32)), .val (.ref w_NOT_LIKE), .unset, .unset] []))
    refine Gl.back (fun _ k => XS.iloadN X145.here hx rfl (hb hby at_10) rfl k) ?_
    show Gl _ _ _ _ _ _ _ (T145.setTop (mkF m 11 #[.val (.int i), .val (.int (10 : Int32)), .val (.ref w_NOT_LIKE), .unset, .unset] [(.int (10 : Int32))]))
    refine Gl.back (fun _ k => XS.bipush X145.here hx rfl (hb hby at_11) k) ?_
    show Gl _ _ _ _ _ _ _ (T145.setTop (mkF m 13 #[.val (.int i), .val (.int (10 : Int32)), .val (.ref w_NOT_LIKE), .unset, .unset] [(.int (14 : Int32)), (.int (10 : Int32))]))
    refine Gl.back (fun _ k => XS.icmpNo X145.here hx rfl (hb hby at_13) rfl (feq (by decide : ¬ (10 : Int32) = (14 : Int32))).1 k) ?_
    show Gl _ _ _ _ _ _ _ (T145.setTop (mkF m 16 #[.val (.int i), .val (.int (10 : Int32)), .val (.ref w_NOT_LIKE), .unset, .unset] []))
    refine Gl.back (fun _ k => XS.iloadN X145.here hx rfl (hb hby at_16) rfl k) ?_
    show Gl _ _ _ _ _ _ _ (T145.setTop (mkF m 17 #[.val (.int i), .val (.int (10 : Int32)), .val (.ref w_NOT_LIKE), .unset, .unset] [(.int (10 : Int32))]))
    refine Gl.back (fun _ k => XS.bipush X145.here hx rfl (hb hby at_17) k) ?_
    show Gl _ _ _ _ _ _ _ (T145.setTop (mkF m 19 #[.val (.int i), .val (.int (10 : Int32)), .val (.ref w_NOT_LIKE), .unset, .unset] [(.int (15 : Int32)), (.int (10 : Int32))]))
    refine Gl.back (fun _ k => XS.icmpYes X145.here hx rfl (pc0 := 19) (pc' := 26) rfl (hb hby at_19) rfl (feq (by decide : ¬ (10 : Int32) = (15 : Int32))).2 (by decide) (by decide) k) ?_
    show Gl _ _ _ _ _ _ _ (T145.setTop (mkF m 26 #[.val (.int i), .val (.int (10 : Int32)), .val (.ref w_NOT_LIKE), .unset, .unset] []))
    refine Gl.back (fun _ k => XS.iconst X145.here hx rfl (hb hby at_26) k) ?_
    show Gl _ _ _ _ _ _ _ (T145.setTop (mkF m 27 #[.val (.int i), .val (.int (10 : Int32)), .val (.ref w_NOT_LIKE), .unset, .unset] [(.int (0 : Int32))]))
    refine Gl.back (fun _ k => XS.istoreN X145.here hx rfl (hb hby at_27) rfl (l' := #[.val (.int i), .val (.int (10 : Int32)), .val (.ref w_NOT_LIKE), .val (.int (0 : Int32)), .unset]) rfl k) ?_
    show Gl _ _ _ _ _ _ _ (T145.setTop (mkF m 28 #[.val (.int i), .val (.int (10 : Int32)), .val (.ref w_NOT_LIKE), .val (.int (0 : Int32)), .unset] []))
    refine Gl.back (fun _ k => XS.aloadN X145.here hx rfl (hb hby at_28) rfl rfl k) ?_
    show Gl _ _ _ _ _ _ _ (T145.setTop (mkF m 29 #[.val (.int i), .val (.int (10 : Int32)), .val (.ref w_NOT_LIKE), .val (.int (0 : Int32)), .unset] [(.ref w_NOT_LIKE)]))
    obtain ⟨cq146, kq146, q146a, q146b, q146c⟩ := isOf hZ eh145 E_NOT_LIKE
    obtain ⟨_, _, ⟨T146, L146, k146, n146⟩, -, X146, ⟨Lc146, hQ146, l146, y146, z146⟩, st146⟩ := X145.virtualBack hx (y := (⟨"com/example/demi_orm/demiorm/query/Operator", "takesCollection", "()Z"⟩ : MethodName)) (z := (⟨"com/example/demi_orm/demiorm/query/Operator", "takesCollection", "()Z"⟩ : MethodName)) hown (mvT hZ (hw _ (List.mem_of_getElem? (i := 7) rfl))) (mvT hZ (hw _ (List.mem_of_getElem? (i := 8) rfl))) (notFace_of_selects (args := #[]) (mvT hZ (hw _ (List.mem_of_getElem? (i := 10) rfl)))) (mvT hZ (hw _ (List.mem_of_getElem? (i := 10) rfl))) (mvT hZ (hw _ (List.mem_of_getElem? (i := 9) rfl))) (by decide) (backOf (W := 0) (rm2_no l Z a0 hw [] w_NOT_LIKE w_IN w_NOT_IN h0 n0 Z0 S_IN S_NOT_IN (Fld.ne F_NOT_LIKE_ordinal F_IN_ordinal (by decide)) (Fld.ne F_NOT_LIKE_ordinal F_NOT_IN_ordinal (by decide))) hZ (hw _ (List.mem_of_getElem? (i := 11) rfl)) (hw _ (List.mem_of_getElem? (i := 5) rfl)) (by decide) (by decide)) q146a q146c (g := (mkF m 29 #[.val (.int i), .val (.int (10 : Int32)), .val (.ref w_NOT_LIKE), .val (.int (0 : Int32)), .unset] [(.ref w_NOT_LIKE)])) rfl (by rw [hml]; rfl) (Steps.refl _) (argsL := []) (rest := []) (lenOf pd___Z rfl) rfl (by show 2 * 0 + _ ≤ _; exact Nat.le_of_eq rfl) (hb hby at_29) (fun _ _ => ⟨rfl, eh145, (by decide : 0 + 0 ≤ _), (by decide : 0 + 0 ≤ _)⟩)
    dsimp only [Pt.U, Pt.locs, Pt.cells, Pt.slots] at X146 l146 y146 z146 st146 hQ146
    subst l146 y146 z146
    obtain ⟨Nq146, rfl, eh146⟩ := hQ146
    have N146 := Fr.app N145 Nq146
    refine Gl.back (fun _ k => st146.trans k) ?_
    show Gl _ _ _ _ _ _ _ (T146.setTop (mkF m 32 #[.val (.int i), .val (.int (10 : Int32)), .val (.ref w_NOT_LIKE), .val (.int (0 : Int32)), .unset] [(.int (0 : Int32))]))
    refine Gl.back (fun _ k => XS.istore X146.here hx rfl (hb hby at_32) rfl (l' := #[.val (.int i), .val (.int (10 : Int32)), .val (.ref w_NOT_LIKE), .val (.int (0 : Int32)), .val (.int (0 : Int32))]) rfl k) ?_
    show Gl _ _ _ _ _ _ _ (T146.setTop (mkF m 34 #[.val (.int i), .val (.int (10 : Int32)), .val (.ref w_NOT_LIKE), .val (.int (0 : Int32)), .val (.int (0 : Int32))] []))
    refine Gl.back (fun _ k => XS.iload X146.here hx rfl (hb hby at_34) rfl k) ?_
    show Gl _ _ _ _ _ _ _ (T146.setTop (mkF m 36 #[.val (.int i), .val (.int (10 : Int32)), .val (.ref w_NOT_LIKE), .val (.int (0 : Int32)), .val (.int (0 : Int32))] [(.int (0 : Int32))]))
    refine Gl.back (fun _ k => XS.iloadN X146.here hx rfl (hb hby at_36) rfl k) ?_
    show Gl _ _ _ _ _ _ _ (T146.setTop (mkF m 37 #[.val (.int i), .val (.int (10 : Int32)), .val (.ref w_NOT_LIKE), .val (.int (0 : Int32)), .val (.int (0 : Int32))] [(.int (0 : Int32)), (.int (0 : Int32))]))
    refine Gl.back (fun _ k => XS.icmpYes X146.here hx rfl (pc0 := 37) (pc' := 42) rfl (hb hby at_37) rfl (teq (by decide : (0 : Int32) = (0 : Int32))).1 (by decide) (by decide) k) ?_
    show Gl _ _ _ _ _ _ _ (T146.setTop (mkF m 42 #[.val (.int i), .val (.int (10 : Int32)), .val (.ref w_NOT_LIKE), .val (.int (0 : Int32)), .val (.int (0 : Int32))] []))
    refine Gl.back (fun _ k => XS.iload X146.here hx rfl (hb hby at_42) rfl k) ?_
    show Gl _ _ _ _ _ _ _ (T146.setTop (mkF m 44 #[.val (.int i), .val (.int (10 : Int32)), .val (.ref w_NOT_LIKE), .val (.int (0 : Int32)), .val (.int (0 : Int32))] [(.int (0 : Int32))]))
    refine Gl.back (fun _ k => XS.ifYes X146.here hx rfl (pc0 := 44) (pc' := 75) rfl (hb hby at_44) rfl ((if0 _ _).trans (teq (by decide : (0 : Int32) = (0 : Int32))).1) (by decide) (by decide) k) ?_
    show Gl _ _ _ _ _ _ _ (T146.setTop (mkF m 75 #[.val (.int i), .val (.int (10 : Int32)), .val (.ref w_NOT_LIKE), .val (.int (0 : Int32)), .val (.int (0 : Int32))] []))
    refine Gl.back (fun _ k => XS.iconst X146.here hx rfl (hb hby at_75) k) ?_
    show Gl _ _ _ _ _ _ _ (T146.setTop (mkF m 76 #[.val (.int i), .val (.int (10 : Int32)), .val (.ref w_NOT_LIKE), .val (.int (0 : Int32)), .val (.int (0 : Int32))] [(.int (1 : Int32))]))
    exact Gl.ret X146 eh146 (v := (some (.int (1 : Int32)))) (fun h => by rw [Bd.returns] at h; cases h) Bd.notSynchronized (fun fs hr => retN X146 hx (t := .boolean) (z := (1 : Int32)) Bd.returns (by simp) (hb hby at_76) hr) ⟨N146, rfl⟩ (by decide) (by decide)
  · rw [hk124]
    show Gl _ _ _ _ _ _ _ (s₁.setTop (mkF m 4 #[.val (.int i), .unset, .unset, .unset, .unset] [(.int (11 : Int32))]))
    refine Gl.back (fun _ k => XS.istoreN X0.here hx rfl (hb hby at_4) rfl (l' := #[.val (.int i), .val (.int (11 : Int32)), .unset, .unset, .unset]) rfl k) ?_
    show Gl _ _ _ _ _ _ _ (s₁.setTop (mkF m 5 #[.val (.int i), .val (.int (11 : Int32)), .unset, .unset, .unset] []))
    refine Gl.back (fun _ k => XS.iloadN X0.here hx rfl (hb hby at_5) rfl k) ?_
    show Gl _ _ _ _ _ _ _ (s₁.setTop (mkF m 6 #[.val (.int i), .val (.int (11 : Int32)), .unset, .unset, .unset] [(.int (11 : Int32))]))
    obtain ⟨_, _, ⟨T147, L147, k147, n147⟩, -, X147, ⟨Lc147, hQ147, l147, y147, z147⟩, st147⟩ := Jvm.LawKit.callS X0 hx (y := (⟨"com/example/demi_orm/demiorm/query/OperatorTakesCollectionPinLaw", "pick", "(I)Lcom/example/demi_orm/demiorm/query/Operator;"⟩ : MethodName)) hown (mvT hZ (hw _ (List.mem_of_getElem? (i := 0) rfl))) (mvT hZ (hw _ (List.mem_of_getElem? (i := 1) rfl))) (mvT hZ (hw _ (List.mem_of_getElem? (i := 2) rfl))) (mvT hZ (hw _ (List.mem_of_getElem? (i := 3) rfl))) (by decide) (backOf (W := 0) (rm1_STARTING_WITH l Z a0 hw []  w_STARTING_WITH h0 n0 Z0 S_STARTING_WITH) hZ (hw _ (List.mem_of_getElem? (i := 3) rfl)) (hw _ (List.mem_of_getElem? (i := 2) rfl)) (by decide) (by decide)) (g := (mkF m 6 #[.val (.int i), .val (.int (11 : Int32)), .unset, .unset, .unset] [(.int (11 : Int32))])) rfl (by rw [hml]; rfl) (argsL := [(.int (11 : Int32))]) (rest := []) (lenOf pd__I_Lcom_example_demi_orm_demiorm_query_Operator_ rfl) rfl (by show 2 * 0 + _ ≤ _; exact Nat.le_of_eq rfl) (hb hby at_6) (fun _ _ => ⟨rfl, e0, (by decide : 0 + 0 ≤ _), (by decide : 0 + 0 ≤ _)⟩)
    dsimp only [Pt.U, Pt.locs, Pt.cells, Pt.slots] at X147 l147 y147 z147 st147 hQ147
    subst l147 y147 z147
    obtain ⟨Nq147, rfl, eh147⟩ := hQ147
    have N147 := Fr.app N0 Nq147
    refine Gl.back (fun _ k => st147 _ k) ?_
    show Gl _ _ _ _ _ _ _ (T147.setTop (mkF m 9 #[.val (.int i), .val (.int (11 : Int32)), .unset, .unset, .unset] [(.ref w_STARTING_WITH)]))
    refine Gl.back (fun _ k => XS.astoreN X147.here hx rfl (hb hby at_9) rfl rfl (l' := #[.val (.int i), .val (.int (11 : Int32)), .val (.ref w_STARTING_WITH), .unset, .unset]) rfl k) ?_
    show Gl _ _ _ _ _ _ _ (T147.setTop (mkF m 10 #[.val (.int i), .val (.int (11 : Int32)), .val (.ref w_STARTING_WITH), .unset, .unset] []))
    refine Gl.back (fun _ k => XS.iloadN X147.here hx rfl (hb hby at_10) rfl k) ?_
    show Gl _ _ _ _ _ _ _ (T147.setTop (mkF m 11 #[.val (.int i), .val (.int (11 : Int32)), .val (.ref w_STARTING_WITH), .unset, .unset] [(.int (11 : Int32))]))
    refine Gl.back (fun _ k => XS.bipush X147.here hx rfl (hb hby at_11) k) ?_
    show Gl _ _ _ _ _ _ _ (T147.setTop (mkF m 13 #[.val (.int i), .val (.int (11 : Int32)), .val (.ref w_STARTING_WITH), .unset, .unset] [(.int (14 : Int32)), (.int (11 : Int32))]))
    refine Gl.back (fun _ k => XS.icmpNo X147.here hx rfl (hb hby at_13) rfl (feq (by decide : ¬ (11 : Int32) = (14 : Int32))).1 k) ?_
    show Gl _ _ _ _ _ _ _ (T147.setTop (mkF m 16 #[.val (.int i), .val (.int (11 : Int32)), .val (.ref w_STARTING_WITH), .unset, .unset] []))
    refine Gl.back (fun _ k => XS.iloadN X147.here hx rfl (hb hby at_16) rfl k) ?_
    show Gl _ _ _ _ _ _ _ (T147.setTop (mkF m 17 #[.val (.int i), .val (.int (11 : Int32)), .val (.ref w_STARTING_WITH), .unset, .unset] [(.int (11 : Int32))]))
    refine Gl.back (fun _ k => XS.bipush X147.here hx rfl (hb hby at_17) k) ?_
    show Gl _ _ _ _ _ _ _ (T147.setTop (mkF m 19 #[.val (.int i), .val (.int (11 : Int32)), .val (.ref w_STARTING_WITH), .unset, .unset] [(.int (15 : Int32)), (.int (11 : Int32))]))
    refine Gl.back (fun _ k => XS.icmpYes X147.here hx rfl (pc0 := 19) (pc' := 26) rfl (hb hby at_19) rfl (feq (by decide : ¬ (11 : Int32) = (15 : Int32))).2 (by decide) (by decide) k) ?_
    show Gl _ _ _ _ _ _ _ (T147.setTop (mkF m 26 #[.val (.int i), .val (.int (11 : Int32)), .val (.ref w_STARTING_WITH), .unset, .unset] []))
    refine Gl.back (fun _ k => XS.iconst X147.here hx rfl (hb hby at_26) k) ?_
    show Gl _ _ _ _ _ _ _ (T147.setTop (mkF m 27 #[.val (.int i), .val (.int (11 : Int32)), .val (.ref w_STARTING_WITH), .unset, .unset] [(.int (0 : Int32))]))
    refine Gl.back (fun _ k => XS.istoreN X147.here hx rfl (hb hby at_27) rfl (l' := #[.val (.int i), .val (.int (11 : Int32)), .val (.ref w_STARTING_WITH), .val (.int (0 : Int32)), .unset]) rfl k) ?_
    show Gl _ _ _ _ _ _ _ (T147.setTop (mkF m 28 #[.val (.int i), .val (.int (11 : Int32)), .val (.ref w_STARTING_WITH), .val (.int (0 : Int32)), .unset] []))
    refine Gl.back (fun _ k => XS.aloadN X147.here hx rfl (hb hby at_28) rfl rfl k) ?_
    show Gl _ _ _ _ _ _ _ (T147.setTop (mkF m 29 #[.val (.int i), .val (.int (11 : Int32)), .val (.ref w_STARTING_WITH), .val (.int (0 : Int32)), .unset] [(.ref w_STARTING_WITH)]))
    obtain ⟨cq148, kq148, q148a, q148b, q148c⟩ := isOf hZ eh147 E_STARTING_WITH
    obtain ⟨_, _, ⟨T148, L148, k148, n148⟩, -, X148, ⟨Lc148, hQ148, l148, y148, z148⟩, st148⟩ := X147.virtualBack hx (y := (⟨"com/example/demi_orm/demiorm/query/Operator", "takesCollection", "()Z"⟩ : MethodName)) (z := (⟨"com/example/demi_orm/demiorm/query/Operator", "takesCollection", "()Z"⟩ : MethodName)) hown (mvT hZ (hw _ (List.mem_of_getElem? (i := 7) rfl))) (mvT hZ (hw _ (List.mem_of_getElem? (i := 8) rfl))) (notFace_of_selects (args := #[]) (mvT hZ (hw _ (List.mem_of_getElem? (i := 10) rfl)))) (mvT hZ (hw _ (List.mem_of_getElem? (i := 10) rfl))) (mvT hZ (hw _ (List.mem_of_getElem? (i := 9) rfl))) (by decide) (backOf (W := 0) (rm2_no l Z a0 hw [] w_STARTING_WITH w_IN w_NOT_IN h0 n0 Z0 S_IN S_NOT_IN (Fld.ne F_STARTING_WITH_ordinal F_IN_ordinal (by decide)) (Fld.ne F_STARTING_WITH_ordinal F_NOT_IN_ordinal (by decide))) hZ (hw _ (List.mem_of_getElem? (i := 11) rfl)) (hw _ (List.mem_of_getElem? (i := 5) rfl)) (by decide) (by decide)) q148a q148c (g := (mkF m 29 #[.val (.int i), .val (.int (11 : Int32)), .val (.ref w_STARTING_WITH), .val (.int (0 : Int32)), .unset] [(.ref w_STARTING_WITH)])) rfl (by rw [hml]; rfl) (Steps.refl _) (argsL := []) (rest := []) (lenOf pd___Z rfl) rfl (by show 2 * 0 + _ ≤ _; exact Nat.le_of_eq rfl) (hb hby at_29) (fun _ _ => ⟨rfl, eh147, (by decide : 0 + 0 ≤ _), (by decide : 0 + 0 ≤ _)⟩)
    dsimp only [Pt.U, Pt.locs, Pt.cells, Pt.slots] at X148 l148 y148 z148 st148 hQ148
    subst l148 y148 z148
    obtain ⟨Nq148, rfl, eh148⟩ := hQ148
    have N148 := Fr.app N147 Nq148
    refine Gl.back (fun _ k => st148.trans k) ?_
    show Gl _ _ _ _ _ _ _ (T148.setTop (mkF m 32 #[.val (.int i), .val (.int (11 : Int32)), .val (.ref w_STARTING_WITH), .val (.int (0 : Int32)), .unset] [(.int (0 : Int32))]))
    refine Gl.back (fun _ k => XS.istore X148.here hx rfl (hb hby at_32) rfl (l' := #[.val (.int i), .val (.int (11 : Int32)), .val (.ref w_STARTING_WITH), .val (.int (0 : Int32)), .val (.int (0 : Int32))]) rfl k) ?_
    show Gl _ _ _ _ _ _ _ (T148.setTop (mkF m 34 #[.val (.int i), .val (.int (11 : Int32)), .val (.ref w_STARTING_WITH), .val (.int (0 : Int32)), .val (.int (0 : Int32))] []))
    refine Gl.back (fun _ k => XS.iload X148.here hx rfl (hb hby at_34) rfl k) ?_
    show Gl _ _ _ _ _ _ _ (T148.setTop (mkF m 36 #[.val (.int i), .val (.int (11 : Int32)), .val (.ref w_STARTING_WITH), .val (.int (0 : Int32)), .val (.int (0 : Int32))] [(.int (0 : Int32))]))
    refine Gl.back (fun _ k => XS.iloadN X148.here hx rfl (hb hby at_36) rfl k) ?_
    show Gl _ _ _ _ _ _ _ (T148.setTop (mkF m 37 #[.val (.int i), .val (.int (11 : Int32)), .val (.ref w_STARTING_WITH), .val (.int (0 : Int32)), .val (.int (0 : Int32))] [(.int (0 : Int32)), (.int (0 : Int32))]))
    refine Gl.back (fun _ k => XS.icmpYes X148.here hx rfl (pc0 := 37) (pc' := 42) rfl (hb hby at_37) rfl (teq (by decide : (0 : Int32) = (0 : Int32))).1 (by decide) (by decide) k) ?_
    show Gl _ _ _ _ _ _ _ (T148.setTop (mkF m 42 #[.val (.int i), .val (.int (11 : Int32)), .val (.ref w_STARTING_WITH), .val (.int (0 : Int32)), .val (.int (0 : Int32))] []))
    refine Gl.back (fun _ k => XS.iload X148.here hx rfl (hb hby at_42) rfl k) ?_
    show Gl _ _ _ _ _ _ _ (T148.setTop (mkF m 44 #[.val (.int i), .val (.int (11 : Int32)), .val (.ref w_STARTING_WITH), .val (.int (0 : Int32)), .val (.int (0 : Int32))] [(.int (0 : Int32))]))
    refine Gl.back (fun _ k => XS.ifYes X148.here hx rfl (pc0 := 44) (pc' := 75) rfl (hb hby at_44) rfl ((if0 _ _).trans (teq (by decide : (0 : Int32) = (0 : Int32))).1) (by decide) (by decide) k) ?_
    show Gl _ _ _ _ _ _ _ (T148.setTop (mkF m 75 #[.val (.int i), .val (.int (11 : Int32)), .val (.ref w_STARTING_WITH), .val (.int (0 : Int32)), .val (.int (0 : Int32))] []))
    refine Gl.back (fun _ k => XS.iconst X148.here hx rfl (hb hby at_75) k) ?_
    show Gl _ _ _ _ _ _ _ (T148.setTop (mkF m 76 #[.val (.int i), .val (.int (11 : Int32)), .val (.ref w_STARTING_WITH), .val (.int (0 : Int32)), .val (.int (0 : Int32))] [(.int (1 : Int32))]))
    exact Gl.ret X148 eh148 (v := (some (.int (1 : Int32)))) (fun h => by rw [Bd.returns] at h; cases h) Bd.notSynchronized (fun fs hr => retN X148 hx (t := .boolean) (z := (1 : Int32)) Bd.returns (by simp) (hb hby at_76) hr) ⟨N148, rfl⟩ (by decide) (by decide)
  · rw [hk124]
    show Gl _ _ _ _ _ _ _ (s₁.setTop (mkF m 4 #[.val (.int i), .unset, .unset, .unset, .unset] [(.int (12 : Int32))]))
    refine Gl.back (fun _ k => XS.istoreN X0.here hx rfl (hb hby at_4) rfl (l' := #[.val (.int i), .val (.int (12 : Int32)), .unset, .unset, .unset]) rfl k) ?_
    show Gl _ _ _ _ _ _ _ (s₁.setTop (mkF m 5 #[.val (.int i), .val (.int (12 : Int32)), .unset, .unset, .unset] []))
    refine Gl.back (fun _ k => XS.iloadN X0.here hx rfl (hb hby at_5) rfl k) ?_
    show Gl _ _ _ _ _ _ _ (s₁.setTop (mkF m 6 #[.val (.int i), .val (.int (12 : Int32)), .unset, .unset, .unset] [(.int (12 : Int32))]))
    obtain ⟨_, _, ⟨T149, L149, k149, n149⟩, -, X149, ⟨Lc149, hQ149, l149, y149, z149⟩, st149⟩ := Jvm.LawKit.callS X0 hx (y := (⟨"com/example/demi_orm/demiorm/query/OperatorTakesCollectionPinLaw", "pick", "(I)Lcom/example/demi_orm/demiorm/query/Operator;"⟩ : MethodName)) hown (mvT hZ (hw _ (List.mem_of_getElem? (i := 0) rfl))) (mvT hZ (hw _ (List.mem_of_getElem? (i := 1) rfl))) (mvT hZ (hw _ (List.mem_of_getElem? (i := 2) rfl))) (mvT hZ (hw _ (List.mem_of_getElem? (i := 3) rfl))) (by decide) (backOf (W := 0) (rm1_ENDING_WITH l Z a0 hw []  w_ENDING_WITH h0 n0 Z0 S_ENDING_WITH) hZ (hw _ (List.mem_of_getElem? (i := 3) rfl)) (hw _ (List.mem_of_getElem? (i := 2) rfl)) (by decide) (by decide)) (g := (mkF m 6 #[.val (.int i), .val (.int (12 : Int32)), .unset, .unset, .unset] [(.int (12 : Int32))])) rfl (by rw [hml]; rfl) (argsL := [(.int (12 : Int32))]) (rest := []) (lenOf pd__I_Lcom_example_demi_orm_demiorm_query_Operator_ rfl) rfl (by show 2 * 0 + _ ≤ _; exact Nat.le_of_eq rfl) (hb hby at_6) (fun _ _ => ⟨rfl, e0, (by decide : 0 + 0 ≤ _), (by decide : 0 + 0 ≤ _)⟩)
    dsimp only [Pt.U, Pt.locs, Pt.cells, Pt.slots] at X149 l149 y149 z149 st149 hQ149
    subst l149 y149 z149
    obtain ⟨Nq149, rfl, eh149⟩ := hQ149
    have N149 := Fr.app N0 Nq149
    refine Gl.back (fun _ k => st149 _ k) ?_
    show Gl _ _ _ _ _ _ _ (T149.setTop (mkF m 9 #[.val (.int i), .val (.int (12 : Int32)), .unset, .unset, .unset] [(.ref w_ENDING_WITH)]))
    refine Gl.back (fun _ k => XS.astoreN X149.here hx rfl (hb hby at_9) rfl rfl (l' := #[.val (.int i), .val (.int (12 : Int32)), .val (.ref w_ENDING_WITH), .unset, .unset]) rfl k) ?_
    show Gl _ _ _ _ _ _ _ (T149.setTop (mkF m 10 #[.val (.int i), .val (.int (12 : Int32)), .val (.ref w_ENDING_WITH), .unset, .unset] []))
    refine Gl.back (fun _ k => XS.iloadN X149.here hx rfl (hb hby at_10) rfl k) ?_
    show Gl _ _ _ _ _ _ _ (T149.setTop (mkF m 11 #[.val (.int i), .val (.int (12 : Int32)), .val (.ref w_ENDING_WITH), .unset, .unset] [(.int (12 : Int32))]))
    refine Gl.back (fun _ k => XS.bipush X149.here hx rfl (hb hby at_11) k) ?_
    show Gl _ _ _ _ _ _ _ (T149.setTop (mkF m 13 #[.val (.int i), .val (.int (12 : Int32)), .val (.ref w_ENDING_WITH), .unset, .unset] [(.int (14 : Int32)), (.int (12 : Int32))]))
    refine Gl.back (fun _ k => XS.icmpNo X149.here hx rfl (hb hby at_13) rfl (feq (by decide : ¬ (12 : Int32) = (14 : Int32))).1 k) ?_
    show Gl _ _ _ _ _ _ _ (T149.setTop (mkF m 16 #[.val (.int i), .val (.int (12 : Int32)), .val (.ref w_ENDING_WITH), .unset, .unset] []))
    refine Gl.back (fun _ k => XS.iloadN X149.here hx rfl (hb hby at_16) rfl k) ?_
    show Gl _ _ _ _ _ _ _ (T149.setTop (mkF m 17 #[.val (.int i), .val (.int (12 : Int32)), .val (.ref w_ENDING_WITH), .unset, .unset] [(.int (12 : Int32))]))
    refine Gl.back (fun _ k => XS.bipush X149.here hx rfl (hb hby at_17) k) ?_
    show Gl _ _ _ _ _ _ _ (T149.setTop (mkF m 19 #[.val (.int i), .val (.int (12 : Int32)), .val (.ref w_ENDING_WITH), .unset, .unset] [(.int (15 : Int32)), (.int (12 : Int32))]))
    refine Gl.back (fun _ k => XS.icmpYes X149.here hx rfl (pc0 := 19) (pc' := 26) rfl (hb hby at_19) rfl (feq (by decide : ¬ (12 : Int32) = (15 : Int32))).2 (by decide) (by decide) k) ?_
    show Gl _ _ _ _ _ _ _ (T149.setTop (mkF m 26 #[.val (.int i), .val (.int (12 : Int32)), .val (.ref w_ENDING_WITH), .unset, .unset] []))
    refine Gl.back (fun _ k => XS.iconst X149.here hx rfl (hb hby at_26) k) ?_
    show Gl _ _ _ _ _ _ _ (T149.setTop (mkF m 27 #[.val (.int i), .val (.int (12 : Int32)), .val (.ref w_ENDING_WITH), .unset, .unset] [(.int (0 : Int32))]))
    refine Gl.back (fun _ k => XS.istoreN X149.here hx rfl (hb hby at_27) rfl (l' := #[.val (.int i), .val (.int (12 : Int32)), .val (.ref w_ENDING_WITH), .val (.int (0 : Int32)), .unset]) rfl k) ?_
    show Gl _ _ _ _ _ _ _ (T149.setTop (mkF m 28 #[.val (.int i), .val (.int (12 : Int32)), .val (.ref w_ENDING_WITH), .val (.int (0 : Int32)), .unset] []))
    refine Gl.back (fun _ k => XS.aloadN X149.here hx rfl (hb hby at_28) rfl rfl k) ?_
    show Gl _ _ _ _ _ _ _ (T149.setTop (mkF m 29 #[.val (.int i), .val (.int (12 : Int32)), .val (.ref w_ENDING_WITH), .val (.int (0 : Int32)), .unset] [(.ref w_ENDING_WITH)]))
    obtain ⟨cq150, kq150, q150a, q150b, q150c⟩ := isOf hZ eh149 E_ENDING_WITH
    obtain ⟨_, _, ⟨T150, L150, k150, n150⟩, -, X150, ⟨Lc150, hQ150, l150, y150, z150⟩, st150⟩ := X149.virtualBack hx (y := (⟨"com/example/demi_orm/demiorm/query/Operator", "takesCollection", "()Z"⟩ : MethodName)) (z := (⟨"com/example/demi_orm/demiorm/query/Operator", "takesCollection", "()Z"⟩ : MethodName)) hown (mvT hZ (hw _ (List.mem_of_getElem? (i := 7) rfl))) (mvT hZ (hw _ (List.mem_of_getElem? (i := 8) rfl))) (notFace_of_selects (args := #[]) (mvT hZ (hw _ (List.mem_of_getElem? (i := 10) rfl)))) (mvT hZ (hw _ (List.mem_of_getElem? (i := 10) rfl))) (mvT hZ (hw _ (List.mem_of_getElem? (i := 9) rfl))) (by decide) (backOf (W := 0) (rm2_no l Z a0 hw [] w_ENDING_WITH w_IN w_NOT_IN h0 n0 Z0 S_IN S_NOT_IN (Fld.ne F_ENDING_WITH_ordinal F_IN_ordinal (by decide)) (Fld.ne F_ENDING_WITH_ordinal F_NOT_IN_ordinal (by decide))) hZ (hw _ (List.mem_of_getElem? (i := 11) rfl)) (hw _ (List.mem_of_getElem? (i := 5) rfl)) (by decide) (by decide)) q150a q150c (g := (mkF m 29 #[.val (.int i), .val (.int (12 : Int32)), .val (.ref w_ENDING_WITH), .val (.int (0 : Int32)), .unset] [(.ref w_ENDING_WITH)])) rfl (by rw [hml]; rfl) (Steps.refl _) (argsL := []) (rest := []) (lenOf pd___Z rfl) rfl (by show 2 * 0 + _ ≤ _; exact Nat.le_of_eq rfl) (hb hby at_29) (fun _ _ => ⟨rfl, eh149, (by decide : 0 + 0 ≤ _), (by decide : 0 + 0 ≤ _)⟩)
    dsimp only [Pt.U, Pt.locs, Pt.cells, Pt.slots] at X150 l150 y150 z150 st150 hQ150
    subst l150 y150 z150
    obtain ⟨Nq150, rfl, eh150⟩ := hQ150
    have N150 := Fr.app N149 Nq150
    refine Gl.back (fun _ k => st150.trans k) ?_
    show Gl _ _ _ _ _ _ _ (T150.setTop (mkF m 32 #[.val (.int i), .val (.int (12 : Int32)), .val (.ref w_ENDING_WITH), .val (.int (0 : Int32)), .unset] [(.int (0 : Int32))]))
    refine Gl.back (fun _ k => XS.istore X150.here hx rfl (hb hby at_32) rfl (l' := #[.val (.int i), .val (.int (12 : Int32)), .val (.ref w_ENDING_WITH), .val (.int (0 : Int32)), .val (.int (0 : Int32))]) rfl k) ?_
    show Gl _ _ _ _ _ _ _ (T150.setTop (mkF m 34 #[.val (.int i), .val (.int (12 : Int32)), .val (.ref w_ENDING_WITH), .val (.int (0 : Int32)), .val (.int (0 : Int32))] []))
    refine Gl.back (fun _ k => XS.iload X150.here hx rfl (hb hby at_34) rfl k) ?_
    show Gl _ _ _ _ _ _ _ (T150.setTop (mkF m 36 #[.val (.int i), .val (.int (12 : Int32)), .val (.ref w_ENDING_WITH), .val (.int (0 : Int32)), .val (.int (0 : Int32))] [(.int (0 : Int32))]))
    refine Gl.back (fun _ k => XS.iloadN X150.here hx rfl (hb hby at_36) rfl k) ?_
    show Gl _ _ _ _ _ _ _ (T150.setTop (mkF m 37 #[.val (.int i), .val (.int (12 : Int32)), .val (.ref w_ENDING_WITH), .val (.int (0 : Int32)), .val (.int (0 : Int32))] [(.int (0 : Int32)), (.int (0 : Int32))]))
    refine Gl.back (fun _ k => XS.icmpYes X150.here hx rfl (pc0 := 37) (pc' := 42) rfl (hb hby at_37) rfl (teq (by decide : (0 : Int32) = (0 : Int32))).1 (by decide) (by decide) k) ?_
    show Gl _ _ _ _ _ _ _ (T150.setTop (mkF m 42 #[.val (.int i), .val (.int (12 : Int32)), .val (.ref w_ENDING_WITH), .val (.int (0 : Int32)), .val (.int (0 : Int32))] []))
    refine Gl.back (fun _ k => XS.iload X150.here hx rfl (hb hby at_42) rfl k) ?_
    show Gl _ _ _ _ _ _ _ (T150.setTop (mkF m 44 #[.val (.int i), .val (.int (12 : Int32)), .val (.ref w_ENDING_WITH), .val (.int (0 : Int32)), .val (.int (0 : Int32))] [(.int (0 : Int32))]))
    refine Gl.back (fun _ k => XS.ifYes X150.here hx rfl (pc0 := 44) (pc' := 75) rfl (hb hby at_44) rfl ((if0 _ _).trans (teq (by decide : (0 : Int32) = (0 : Int32))).1) (by decide) (by decide) k) ?_
    show Gl _ _ _ _ _ _ _ (T150.setTop (mkF m 75 #[.val (.int i), .val (.int (12 : Int32)), .val (.ref w_ENDING_WITH), .val (.int (0 : Int32)), .val (.int (0 : Int32))] []))
    refine Gl.back (fun _ k => XS.iconst X150.here hx rfl (hb hby at_75) k) ?_
    show Gl _ _ _ _ _ _ _ (T150.setTop (mkF m 76 #[.val (.int i), .val (.int (12 : Int32)), .val (.ref w_ENDING_WITH), .val (.int (0 : Int32)), .val (.int (0 : Int32))] [(.int (1 : Int32))]))
    exact Gl.ret X150 eh150 (v := (some (.int (1 : Int32)))) (fun h => by rw [Bd.returns] at h; cases h) Bd.notSynchronized (fun fs hr => retN X150 hx (t := .boolean) (z := (1 : Int32)) Bd.returns (by simp) (hb hby at_76) hr) ⟨N150, rfl⟩ (by decide) (by decide)
  · rw [hk124]
    show Gl _ _ _ _ _ _ _ (s₁.setTop (mkF m 4 #[.val (.int i), .unset, .unset, .unset, .unset] [(.int (13 : Int32))]))
    refine Gl.back (fun _ k => XS.istoreN X0.here hx rfl (hb hby at_4) rfl (l' := #[.val (.int i), .val (.int (13 : Int32)), .unset, .unset, .unset]) rfl k) ?_
    show Gl _ _ _ _ _ _ _ (s₁.setTop (mkF m 5 #[.val (.int i), .val (.int (13 : Int32)), .unset, .unset, .unset] []))
    refine Gl.back (fun _ k => XS.iloadN X0.here hx rfl (hb hby at_5) rfl k) ?_
    show Gl _ _ _ _ _ _ _ (s₁.setTop (mkF m 6 #[.val (.int i), .val (.int (13 : Int32)), .unset, .unset, .unset] [(.int (13 : Int32))]))
    obtain ⟨_, _, ⟨T151, L151, k151, n151⟩, -, X151, ⟨Lc151, hQ151, l151, y151, z151⟩, st151⟩ := Jvm.LawKit.callS X0 hx (y := (⟨"com/example/demi_orm/demiorm/query/OperatorTakesCollectionPinLaw", "pick", "(I)Lcom/example/demi_orm/demiorm/query/Operator;"⟩ : MethodName)) hown (mvT hZ (hw _ (List.mem_of_getElem? (i := 0) rfl))) (mvT hZ (hw _ (List.mem_of_getElem? (i := 1) rfl))) (mvT hZ (hw _ (List.mem_of_getElem? (i := 2) rfl))) (mvT hZ (hw _ (List.mem_of_getElem? (i := 3) rfl))) (by decide) (backOf (W := 0) (rm1_CONTAINING l Z a0 hw []  w_CONTAINING h0 n0 Z0 S_CONTAINING) hZ (hw _ (List.mem_of_getElem? (i := 3) rfl)) (hw _ (List.mem_of_getElem? (i := 2) rfl)) (by decide) (by decide)) (g := (mkF m 6 #[.val (.int i), .val (.int (13 : Int32)), .unset, .unset, .unset] [(.int (13 : Int32))])) rfl (by rw [hml]; rfl) (argsL := [(.int (13 : Int32))]) (rest := []) (lenOf pd__I_Lcom_example_demi_orm_demiorm_query_Operator_ rfl) rfl (by show 2 * 0 + _ ≤ _; exact Nat.le_of_eq rfl) (hb hby at_6) (fun _ _ => ⟨rfl, e0, (by decide : 0 + 0 ≤ _), (by decide : 0 + 0 ≤ _)⟩)
    dsimp only [Pt.U, Pt.locs, Pt.cells, Pt.slots] at X151 l151 y151 z151 st151 hQ151
    subst l151 y151 z151
    obtain ⟨Nq151, rfl, eh151⟩ := hQ151
    have N151 := Fr.app N0 Nq151
    refine Gl.back (fun _ k => st151 _ k) ?_
    show Gl _ _ _ _ _ _ _ (T151.setTop (mkF m 9 #[.val (.int i), .val (.int (13 : Int32)), .unset, .unset, .unset] [(.ref w_CONTAINING)]))
    refine Gl.back (fun _ k => XS.astoreN X151.here hx rfl (hb hby at_9) rfl rfl (l' := #[.val (.int i), .val (.int (13 : Int32)), .val (.ref w_CONTAINING), .unset, .unset]) rfl k) ?_
    show Gl _ _ _ _ _ _ _ (T151.setTop (mkF m 10 #[.val (.int i), .val (.int (13 : Int32)), .val (.ref w_CONTAINING), .unset, .unset] []))
    refine Gl.back (fun _ k => XS.iloadN X151.here hx rfl (hb hby at_10) rfl k) ?_
    show Gl _ _ _ _ _ _ _ (T151.setTop (mkF m 11 #[.val (.int i), .val (.int (13 : Int32)), .val (.ref w_CONTAINING), .unset, .unset] [(.int (13 : Int32))]))
    refine Gl.back (fun _ k => XS.bipush X151.here hx rfl (hb hby at_11) k) ?_
    show Gl _ _ _ _ _ _ _ (T151.setTop (mkF m 13 #[.val (.int i), .val (.int (13 : Int32)), .val (.ref w_CONTAINING), .unset, .unset] [(.int (14 : Int32)), (.int (13 : Int32))]))
    refine Gl.back (fun _ k => XS.icmpNo X151.here hx rfl (hb hby at_13) rfl (feq (by decide : ¬ (13 : Int32) = (14 : Int32))).1 k) ?_
    show Gl _ _ _ _ _ _ _ (T151.setTop (mkF m 16 #[.val (.int i), .val (.int (13 : Int32)), .val (.ref w_CONTAINING), .unset, .unset] []))
    refine Gl.back (fun _ k => XS.iloadN X151.here hx rfl (hb hby at_16) rfl k) ?_
    show Gl _ _ _ _ _ _ _ (T151.setTop (mkF m 17 #[.val (.int i), .val (.int (13 : Int32)), .val (.ref w_CONTAINING), .unset, .unset] [(.int (13 : Int32))]))
    refine Gl.back (fun _ k => XS.bipush X151.here hx rfl (hb hby at_17) k) ?_
    show Gl _ _ _ _ _ _ _ (T151.setTop (mkF m 19 #[.val (.int i), .val (.int (13 : Int32)), .val (.ref w_CONTAINING), .unset, .unset] [(.int (15 : Int32)), (.int (13 : Int32))]))
    refine Gl.back (fun _ k => XS.icmpYes X151.here hx rfl (pc0 := 19) (pc' := 26) rfl (hb hby at_19) rfl (feq (by decide : ¬ (13 : Int32) = (15 : Int32))).2 (by decide) (by decide) k) ?_
    show Gl _ _ _ _ _ _ _ (T151.setTop (mkF m 26 #[.val (.int i), .val (.int (13 : Int32)), .val (.ref w_CONTAINING), .unset, .unset] []))
    refine Gl.back (fun _ k => XS.iconst X151.here hx rfl (hb hby at_26) k) ?_
    show Gl _ _ _ _ _ _ _ (T151.setTop (mkF m 27 #[.val (.int i), .val (.int (13 : Int32)), .val (.ref w_CONTAINING), .unset, .unset] [(.int (0 : Int32))]))
    refine Gl.back (fun _ k => XS.istoreN X151.here hx rfl (hb hby at_27) rfl (l' := #[.val (.int i), .val (.int (13 : Int32)), .val (.ref w_CONTAINING), .val (.int (0 : Int32)), .unset]) rfl k) ?_
    show Gl _ _ _ _ _ _ _ (T151.setTop (mkF m 28 #[.val (.int i), .val (.int (13 : Int32)), .val (.ref w_CONTAINING), .val (.int (0 : Int32)), .unset] []))
    refine Gl.back (fun _ k => XS.aloadN X151.here hx rfl (hb hby at_28) rfl rfl k) ?_
    show Gl _ _ _ _ _ _ _ (T151.setTop (mkF m 29 #[.val (.int i), .val (.int (13 : Int32)), .val (.ref w_CONTAINING), .val (.int (0 : Int32)), .unset] [(.ref w_CONTAINING)]))
    obtain ⟨cq152, kq152, q152a, q152b, q152c⟩ := isOf hZ eh151 E_CONTAINING
    obtain ⟨_, _, ⟨T152, L152, k152, n152⟩, -, X152, ⟨Lc152, hQ152, l152, y152, z152⟩, st152⟩ := X151.virtualBack hx (y := (⟨"com/example/demi_orm/demiorm/query/Operator", "takesCollection", "()Z"⟩ : MethodName)) (z := (⟨"com/example/demi_orm/demiorm/query/Operator", "takesCollection", "()Z"⟩ : MethodName)) hown (mvT hZ (hw _ (List.mem_of_getElem? (i := 7) rfl))) (mvT hZ (hw _ (List.mem_of_getElem? (i := 8) rfl))) (notFace_of_selects (args := #[]) (mvT hZ (hw _ (List.mem_of_getElem? (i := 10) rfl)))) (mvT hZ (hw _ (List.mem_of_getElem? (i := 10) rfl))) (mvT hZ (hw _ (List.mem_of_getElem? (i := 9) rfl))) (by decide) (backOf (W := 0) (rm2_no l Z a0 hw [] w_CONTAINING w_IN w_NOT_IN h0 n0 Z0 S_IN S_NOT_IN (Fld.ne F_CONTAINING_ordinal F_IN_ordinal (by decide)) (Fld.ne F_CONTAINING_ordinal F_NOT_IN_ordinal (by decide))) hZ (hw _ (List.mem_of_getElem? (i := 11) rfl)) (hw _ (List.mem_of_getElem? (i := 5) rfl)) (by decide) (by decide)) q152a q152c (g := (mkF m 29 #[.val (.int i), .val (.int (13 : Int32)), .val (.ref w_CONTAINING), .val (.int (0 : Int32)), .unset] [(.ref w_CONTAINING)])) rfl (by rw [hml]; rfl) (Steps.refl _) (argsL := []) (rest := []) (lenOf pd___Z rfl) rfl (by show 2 * 0 + _ ≤ _; exact Nat.le_of_eq rfl) (hb hby at_29) (fun _ _ => ⟨rfl, eh151, (by decide : 0 + 0 ≤ _), (by decide : 0 + 0 ≤ _)⟩)
    dsimp only [Pt.U, Pt.locs, Pt.cells, Pt.slots] at X152 l152 y152 z152 st152 hQ152
    subst l152 y152 z152
    obtain ⟨Nq152, rfl, eh152⟩ := hQ152
    have N152 := Fr.app N151 Nq152
    refine Gl.back (fun _ k => st152.trans k) ?_
    show Gl _ _ _ _ _ _ _ (T152.setTop (mkF m 32 #[.val (.int i), .val (.int (13 : Int32)), .val (.ref w_CONTAINING), .val (.int (0 : Int32)), .unset] [(.int (0 : Int32))]))
    refine Gl.back (fun _ k => XS.istore X152.here hx rfl (hb hby at_32) rfl (l' := #[.val (.int i), .val (.int (13 : Int32)), .val (.ref w_CONTAINING), .val (.int (0 : Int32)), .val (.int (0 : Int32))]) rfl k) ?_
    show Gl _ _ _ _ _ _ _ (T152.setTop (mkF m 34 #[.val (.int i), .val (.int (13 : Int32)), .val (.ref w_CONTAINING), .val (.int (0 : Int32)), .val (.int (0 : Int32))] []))
    refine Gl.back (fun _ k => XS.iload X152.here hx rfl (hb hby at_34) rfl k) ?_
    show Gl _ _ _ _ _ _ _ (T152.setTop (mkF m 36 #[.val (.int i), .val (.int (13 : Int32)), .val (.ref w_CONTAINING), .val (.int (0 : Int32)), .val (.int (0 : Int32))] [(.int (0 : Int32))]))
    refine Gl.back (fun _ k => XS.iloadN X152.here hx rfl (hb hby at_36) rfl k) ?_
    show Gl _ _ _ _ _ _ _ (T152.setTop (mkF m 37 #[.val (.int i), .val (.int (13 : Int32)), .val (.ref w_CONTAINING), .val (.int (0 : Int32)), .val (.int (0 : Int32))] [(.int (0 : Int32)), (.int (0 : Int32))]))
    refine Gl.back (fun _ k => XS.icmpYes X152.here hx rfl (pc0 := 37) (pc' := 42) rfl (hb hby at_37) rfl (teq (by decide : (0 : Int32) = (0 : Int32))).1 (by decide) (by decide) k) ?_
    show Gl _ _ _ _ _ _ _ (T152.setTop (mkF m 42 #[.val (.int i), .val (.int (13 : Int32)), .val (.ref w_CONTAINING), .val (.int (0 : Int32)), .val (.int (0 : Int32))] []))
    refine Gl.back (fun _ k => XS.iload X152.here hx rfl (hb hby at_42) rfl k) ?_
    show Gl _ _ _ _ _ _ _ (T152.setTop (mkF m 44 #[.val (.int i), .val (.int (13 : Int32)), .val (.ref w_CONTAINING), .val (.int (0 : Int32)), .val (.int (0 : Int32))] [(.int (0 : Int32))]))
    refine Gl.back (fun _ k => XS.ifYes X152.here hx rfl (pc0 := 44) (pc' := 75) rfl (hb hby at_44) rfl ((if0 _ _).trans (teq (by decide : (0 : Int32) = (0 : Int32))).1) (by decide) (by decide) k) ?_
    show Gl _ _ _ _ _ _ _ (T152.setTop (mkF m 75 #[.val (.int i), .val (.int (13 : Int32)), .val (.ref w_CONTAINING), .val (.int (0 : Int32)), .val (.int (0 : Int32))] []))
    refine Gl.back (fun _ k => XS.iconst X152.here hx rfl (hb hby at_75) k) ?_
    show Gl _ _ _ _ _ _ _ (T152.setTop (mkF m 76 #[.val (.int i), .val (.int (13 : Int32)), .val (.ref w_CONTAINING), .val (.int (0 : Int32)), .val (.int (0 : Int32))] [(.int (1 : Int32))]))
    exact Gl.ret X152 eh152 (v := (some (.int (1 : Int32)))) (fun h => by rw [Bd.returns] at h; cases h) Bd.notSynchronized (fun fs hr => retN X152 hx (t := .boolean) (z := (1 : Int32)) Bd.returns (by simp) (hb hby at_76) hr) ⟨N152, rfl⟩ (by decide) (by decide)
  · rw [hk124]
    show Gl _ _ _ _ _ _ _ (s₁.setTop (mkF m 4 #[.val (.int i), .unset, .unset, .unset, .unset] [(.int (14 : Int32))]))
    refine Gl.back (fun _ k => XS.istoreN X0.here hx rfl (hb hby at_4) rfl (l' := #[.val (.int i), .val (.int (14 : Int32)), .unset, .unset, .unset]) rfl k) ?_
    show Gl _ _ _ _ _ _ _ (s₁.setTop (mkF m 5 #[.val (.int i), .val (.int (14 : Int32)), .unset, .unset, .unset] []))
    refine Gl.back (fun _ k => XS.iloadN X0.here hx rfl (hb hby at_5) rfl k) ?_
    show Gl _ _ _ _ _ _ _ (s₁.setTop (mkF m 6 #[.val (.int i), .val (.int (14 : Int32)), .unset, .unset, .unset] [(.int (14 : Int32))]))
    obtain ⟨_, _, ⟨T153, L153, k153, n153⟩, -, X153, ⟨Lc153, hQ153, l153, y153, z153⟩, st153⟩ := Jvm.LawKit.callS X0 hx (y := (⟨"com/example/demi_orm/demiorm/query/OperatorTakesCollectionPinLaw", "pick", "(I)Lcom/example/demi_orm/demiorm/query/Operator;"⟩ : MethodName)) hown (mvT hZ (hw _ (List.mem_of_getElem? (i := 0) rfl))) (mvT hZ (hw _ (List.mem_of_getElem? (i := 1) rfl))) (mvT hZ (hw _ (List.mem_of_getElem? (i := 2) rfl))) (mvT hZ (hw _ (List.mem_of_getElem? (i := 3) rfl))) (by decide) (backOf (W := 0) (rm1_IN l Z a0 hw []  w_IN h0 n0 Z0 S_IN) hZ (hw _ (List.mem_of_getElem? (i := 3) rfl)) (hw _ (List.mem_of_getElem? (i := 2) rfl)) (by decide) (by decide)) (g := (mkF m 6 #[.val (.int i), .val (.int (14 : Int32)), .unset, .unset, .unset] [(.int (14 : Int32))])) rfl (by rw [hml]; rfl) (argsL := [(.int (14 : Int32))]) (rest := []) (lenOf pd__I_Lcom_example_demi_orm_demiorm_query_Operator_ rfl) rfl (by show 2 * 0 + _ ≤ _; exact Nat.le_of_eq rfl) (hb hby at_6) (fun _ _ => ⟨rfl, e0, (by decide : 0 + 0 ≤ _), (by decide : 0 + 0 ≤ _)⟩)
    dsimp only [Pt.U, Pt.locs, Pt.cells, Pt.slots] at X153 l153 y153 z153 st153 hQ153
    subst l153 y153 z153
    obtain ⟨Nq153, rfl, eh153⟩ := hQ153
    have N153 := Fr.app N0 Nq153
    refine Gl.back (fun _ k => st153 _ k) ?_
    show Gl _ _ _ _ _ _ _ (T153.setTop (mkF m 9 #[.val (.int i), .val (.int (14 : Int32)), .unset, .unset, .unset] [(.ref w_IN)]))
    refine Gl.back (fun _ k => XS.astoreN X153.here hx rfl (hb hby at_9) rfl rfl (l' := #[.val (.int i), .val (.int (14 : Int32)), .val (.ref w_IN), .unset, .unset]) rfl k) ?_
    show Gl _ _ _ _ _ _ _ (T153.setTop (mkF m 10 #[.val (.int i), .val (.int (14 : Int32)), .val (.ref w_IN), .unset, .unset] []))
    refine Gl.back (fun _ k => XS.iloadN X153.here hx rfl (hb hby at_10) rfl k) ?_
    show Gl _ _ _ _ _ _ _ (T153.setTop (mkF m 11 #[.val (.int i), .val (.int (14 : Int32)), .val (.ref w_IN), .unset, .unset] [(.int (14 : Int32))]))
    refine Gl.back (fun _ k => XS.bipush X153.here hx rfl (hb hby at_11) k) ?_
    show Gl _ _ _ _ _ _ _ (T153.setTop (mkF m 13 #[.val (.int i), .val (.int (14 : Int32)), .val (.ref w_IN), .unset, .unset] [(.int (14 : Int32)), (.int (14 : Int32))]))
    refine Gl.back (fun _ k => XS.icmpYes X153.here hx rfl (pc0 := 13) (pc' := 22) rfl (hb hby at_13) rfl (teq (by decide : (14 : Int32) = (14 : Int32))).1 (by decide) (by decide) k) ?_
    show Gl _ _ _ _ _ _ _ (T153.setTop (mkF m 22 #[.val (.int i), .val (.int (14 : Int32)), .val (.ref w_IN), .unset, .unset] []))
    refine Gl.back (fun _ k => XS.iconst X153.here hx rfl (hb hby at_22) k) ?_
    show Gl _ _ _ _ _ _ _ (T153.setTop (mkF m 23 #[.val (.int i), .val (.int (14 : Int32)), .val (.ref w_IN), .unset, .unset] [(.int (1 : Int32))]))
    refine Gl.back (fun _ k => XS.goto X153.here hx rfl (pc0 := 23) (pc' := 27) rfl (hb hby at_23) (by decide) (by decide) k) ?_
    show Gl _ _ _ _ _ _ _ (T153.setTop (mkF m 27 #[.val (.int i), .val (.int (14 : Int32)), .val (.ref w_IN), .unset, .unset] [(.int (1 : Int32))]))
    refine Gl.back (fun _ k => XS.istoreN X153.here hx rfl (hb hby at_27) rfl (l' := #[.val (.int i), .val (.int (14 : Int32)), .val (.ref w_IN), .val (.int (1 : Int32)), .unset]) rfl k) ?_
    show Gl _ _ _ _ _ _ _ (T153.setTop (mkF m 28 #[.val (.int i), .val (.int (14 : Int32)), .val (.ref w_IN), .val (.int (1 : Int32)), .unset] []))
    refine Gl.back (fun _ k => XS.aloadN X153.here hx rfl (hb hby at_28) rfl rfl k) ?_
    show Gl _ _ _ _ _ _ _ (T153.setTop (mkF m 29 #[.val (.int i), .val (.int (14 : Int32)), .val (.ref w_IN), .val (.int (1 : Int32)), .unset] [(.ref w_IN)]))
    obtain ⟨cq154, kq154, q154a, q154b, q154c⟩ := isOf hZ eh153 E_IN
    obtain ⟨_, _, ⟨T154, L154, k154, n154⟩, -, X154, ⟨Lc154, hQ154, l154, y154, z154⟩, st154⟩ := X153.virtualBack hx (y := (⟨"com/example/demi_orm/demiorm/query/Operator", "takesCollection", "()Z"⟩ : MethodName)) (z := (⟨"com/example/demi_orm/demiorm/query/Operator", "takesCollection", "()Z"⟩ : MethodName)) hown (mvT hZ (hw _ (List.mem_of_getElem? (i := 7) rfl))) (mvT hZ (hw _ (List.mem_of_getElem? (i := 8) rfl))) (notFace_of_selects (args := #[]) (mvT hZ (hw _ (List.mem_of_getElem? (i := 10) rfl)))) (mvT hZ (hw _ (List.mem_of_getElem? (i := 10) rfl))) (mvT hZ (hw _ (List.mem_of_getElem? (i := 9) rfl))) (by decide) (backOf (W := 0) (rm2_IN l Z a0 hw [] w_IN  h0 n0 Z0 S_IN) hZ (hw _ (List.mem_of_getElem? (i := 11) rfl)) (hw _ (List.mem_of_getElem? (i := 5) rfl)) (by decide) (by decide)) q154a q154c (g := (mkF m 29 #[.val (.int i), .val (.int (14 : Int32)), .val (.ref w_IN), .val (.int (1 : Int32)), .unset] [(.ref w_IN)])) rfl (by rw [hml]; rfl) (Steps.refl _) (argsL := []) (rest := []) (lenOf pd___Z rfl) rfl (by show 2 * 0 + _ ≤ _; exact Nat.le_of_eq rfl) (hb hby at_29) (fun _ _ => ⟨rfl, eh153, (by decide : 0 + 0 ≤ _), (by decide : 0 + 0 ≤ _)⟩)
    dsimp only [Pt.U, Pt.locs, Pt.cells, Pt.slots] at X154 l154 y154 z154 st154 hQ154
    subst l154 y154 z154
    obtain ⟨Nq154, rfl, eh154⟩ := hQ154
    have N154 := Fr.app N153 Nq154
    refine Gl.back (fun _ k => st154.trans k) ?_
    show Gl _ _ _ _ _ _ _ (T154.setTop (mkF m 32 #[.val (.int i), .val (.int (14 : Int32)), .val (.ref w_IN), .val (.int (1 : Int32)), .unset] [(.int (1 : Int32))]))
    refine Gl.back (fun _ k => XS.istore X154.here hx rfl (hb hby at_32) rfl (l' := #[.val (.int i), .val (.int (14 : Int32)), .val (.ref w_IN), .val (.int (1 : Int32)), .val (.int (1 : Int32))]) rfl k) ?_
    show Gl _ _ _ _ _ _ _ (T154.setTop (mkF m 34 #[.val (.int i), .val (.int (14 : Int32)), .val (.ref w_IN), .val (.int (1 : Int32)), .val (.int (1 : Int32))] []))
    refine Gl.back (fun _ k => XS.iload X154.here hx rfl (hb hby at_34) rfl k) ?_
    show Gl _ _ _ _ _ _ _ (T154.setTop (mkF m 36 #[.val (.int i), .val (.int (14 : Int32)), .val (.ref w_IN), .val (.int (1 : Int32)), .val (.int (1 : Int32))] [(.int (1 : Int32))]))
    refine Gl.back (fun _ k => XS.iloadN X154.here hx rfl (hb hby at_36) rfl k) ?_
    show Gl _ _ _ _ _ _ _ (T154.setTop (mkF m 37 #[.val (.int i), .val (.int (14 : Int32)), .val (.ref w_IN), .val (.int (1 : Int32)), .val (.int (1 : Int32))] [(.int (1 : Int32)), (.int (1 : Int32))]))
    refine Gl.back (fun _ k => XS.icmpYes X154.here hx rfl (pc0 := 37) (pc' := 42) rfl (hb hby at_37) rfl (teq (by decide : (1 : Int32) = (1 : Int32))).1 (by decide) (by decide) k) ?_
    show Gl _ _ _ _ _ _ _ (T154.setTop (mkF m 42 #[.val (.int i), .val (.int (14 : Int32)), .val (.ref w_IN), .val (.int (1 : Int32)), .val (.int (1 : Int32))] []))
    refine Gl.back (fun _ k => XS.iload X154.here hx rfl (hb hby at_42) rfl k) ?_
    show Gl _ _ _ _ _ _ _ (T154.setTop (mkF m 44 #[.val (.int i), .val (.int (14 : Int32)), .val (.ref w_IN), .val (.int (1 : Int32)), .val (.int (1 : Int32))] [(.int (1 : Int32))]))
    refine Gl.back (fun _ k => XS.ifNo X154.here hx rfl (hb hby at_44) rfl ((if0 _ _).trans (feq (by decide : ¬ (1 : Int32) = (0 : Int32))).1) k) ?_
    show Gl _ _ _ _ _ _ _ (T154.setTop (mkF m 47 #[.val (.int i), .val (.int (14 : Int32)), .val (.ref w_IN), .val (.int (1 : Int32)), .val (.int (1 : Int32))] []))
    refine Gl.back (fun _ k => XS.aloadN X154.here hx rfl (hb hby at_47) rfl rfl k) ?_
    show Gl _ _ _ _ _ _ _ (T154.setTop (mkF m 48 #[.val (.int i), .val (.int (14 : Int32)), .val (.ref w_IN), .val (.int (1 : Int32)), .val (.int (1 : Int32))] [(.ref w_IN)]))
    obtain ⟨cq155, kq155, q155a, q155b, q155c⟩ := isOf hZ eh154 E_IN
    obtain ⟨_, _, ⟨T155, L155, k155, n155⟩, -, X155, ⟨Lc155, hQ155, l155, y155, z155⟩, st155⟩ := X154.virtualBack hx (y := (⟨"com/example/demi_orm/demiorm/query/Operator", "arity", "()I"⟩ : MethodName)) (z := (⟨"com/example/demi_orm/demiorm/query/Operator", "arity", "()I"⟩ : MethodName)) hown (mvT hZ (hw _ (List.mem_of_getElem? (i := 19) rfl))) (mvT hZ (hw _ (List.mem_of_getElem? (i := 20) rfl))) (notFace_of_selects (args := #[]) (mvT hZ (hw _ (List.mem_of_getElem? (i := 22) rfl)))) (mvT hZ (hw _ (List.mem_of_getElem? (i := 22) rfl))) (mvT hZ (hw _ (List.mem_of_getElem? (i := 21) rfl))) (by decide) (backOf (W := 0) (rm3 l Z a0 hw [] w_IN (1 : Int32) h0 n0 Z0 F_IN_arity) hZ (hw _ (List.mem_of_getElem? (i := 23) rfl)) (hw _ (List.mem_of_getElem? (i := 5) rfl)) (by decide) (by decide)) q155a q155c (g := (mkF m 48 #[.val (.int i), .val (.int (14 : Int32)), .val (.ref w_IN), .val (.int (1 : Int32)), .val (.int (1 : Int32))] [(.ref w_IN)])) rfl (by rw [hml]; rfl) (Steps.refl _) (argsL := []) (rest := []) (lenOf pd___I rfl) rfl (by show 2 * 0 + _ ≤ _; exact Nat.le_of_eq rfl) (hb hby at_48) (fun _ _ => ⟨rfl, eh154, (by decide : 0 + 0 ≤ _), (by decide : 0 + 0 ≤ _)⟩)
    dsimp only [Pt.U, Pt.locs, Pt.cells, Pt.slots] at X155 l155 y155 z155 st155 hQ155
    subst l155 y155 z155
    obtain ⟨Nq155, rfl, eh155⟩ := hQ155
    have N155 := Fr.app N154 Nq155
    refine Gl.back (fun _ k => st155.trans k) ?_
    show Gl _ _ _ _ _ _ _ (T155.setTop (mkF m 51 #[.val (.int i), .val (.int (14 : Int32)), .val (.ref w_IN), .val (.int (1 : Int32)), .val (.int (1 : Int32))] [(.int (1 : Int32))]))
    refine Gl.back (fun _ k => XS.iconst X155.here hx rfl (hb hby at_51) k) ?_
    show Gl _ _ _ _ _ _ _ (T155.setTop (mkF m 52 #[.val (.int i), .val (.int (14 : Int32)), .val (.ref w_IN), .val (.int (1 : Int32)), .val (.int (1 : Int32))] [(.int (1 : Int32)), (.int (1 : Int32))]))
    refine Gl.back (fun _ k => XS.icmpNo X155.here hx rfl (hb hby at_52) rfl (teq (by decide : (1 : Int32) = (1 : Int32))).2 k) ?_
    show Gl _ _ _ _ _ _ _ (T155.setTop (mkF m 55 #[.val (.int i), .val (.int (14 : Int32)), .val (.ref w_IN), .val (.int (1 : Int32)), .val (.int (1 : Int32))] []))
    refine Gl.back (fun _ k => XS.aloadN X155.here hx rfl (hb hby at_55) rfl rfl k) ?_
    show Gl _ _ _ _ _ _ _ (T155.setTop (mkF m 56 #[.val (.int i), .val (.int (14 : Int32)), .val (.ref w_IN), .val (.int (1 : Int32)), .val (.int (1 : Int32))] [(.ref w_IN)]))
    obtain ⟨cq156, kq156, q156a, q156b, q156c⟩ := isOf hZ eh155 E_IN
    obtain ⟨_, _, ⟨T156, L156, k156, n156⟩, -, X156, ⟨Lc156, hQ156, l156, y156, z156⟩, st156⟩ := X155.virtualBack hx (y := (⟨"com/example/demi_orm/demiorm/query/Operator", "comparesText", "()Z"⟩ : MethodName)) (z := (⟨"com/example/demi_orm/demiorm/query/Operator", "comparesText", "()Z"⟩ : MethodName)) hown (mvT hZ (hw _ (List.mem_of_getElem? (i := 26) rfl))) (mvT hZ (hw _ (List.mem_of_getElem? (i := 27) rfl))) (notFace_of_selects (args := #[]) (mvT hZ (hw _ (List.mem_of_getElem? (i := 29) rfl)))) (mvT hZ (hw _ (List.mem_of_getElem? (i := 29) rfl))) (mvT hZ (hw _ (List.mem_of_getElem? (i := 28) rfl))) (by decide) (backOf (W := 0) (rm4_no l Z a0 hw [] w_IN w_LIKE w_NOT_LIKE w_STARTING_WITH w_ENDING_WITH w_CONTAINING h0 n0 Z0 S_LIKE S_NOT_LIKE S_STARTING_WITH S_ENDING_WITH S_CONTAINING (Fld.ne F_IN_ordinal F_LIKE_ordinal (by decide)) (Fld.ne F_IN_ordinal F_NOT_LIKE_ordinal (by decide)) (Fld.ne F_IN_ordinal F_STARTING_WITH_ordinal (by decide)) (Fld.ne F_IN_ordinal F_ENDING_WITH_ordinal (by decide)) (Fld.ne F_IN_ordinal F_CONTAINING_ordinal (by decide))) hZ (hw _ (List.mem_of_getElem? (i := 30) rfl)) (hw _ (List.mem_of_getElem? (i := 5) rfl)) (by decide) (by decide)) q156a q156c (g := (mkF m 56 #[.val (.int i), .val (.int (14 : Int32)), .val (.ref w_IN), .val (.int (1 : Int32)), .val (.int (1 : Int32))] [(.ref w_IN)])) rfl (by rw [hml]; rfl) (Steps.refl _) (argsL := []) (rest := []) (lenOf pd___Z rfl) rfl (by show 2 * 0 + _ ≤ _; exact Nat.le_of_eq rfl) (hb hby at_56) (fun _ _ => ⟨rfl, eh155, (by decide : 0 + 0 ≤ _), (by decide : 0 + 0 ≤ _)⟩)
    dsimp only [Pt.U, Pt.locs, Pt.cells, Pt.slots] at X156 l156 y156 z156 st156 hQ156
    subst l156 y156 z156
    obtain ⟨Nq156, rfl, eh156⟩ := hQ156
    have N156 := Fr.app N155 Nq156
    refine Gl.back (fun _ k => st156.trans k) ?_
    show Gl _ _ _ _ _ _ _ (T156.setTop (mkF m 59 #[.val (.int i), .val (.int (14 : Int32)), .val (.ref w_IN), .val (.int (1 : Int32)), .val (.int (1 : Int32))] [(.int (0 : Int32))]))
    refine Gl.back (fun _ k => XS.ifNo X156.here hx rfl (hb hby at_59) rfl ((if0 _ _).trans (teq (by decide : (0 : Int32) = (0 : Int32))).2) k) ?_
    show Gl _ _ _ _ _ _ _ (T156.setTop (mkF m 62 #[.val (.int i), .val (.int (14 : Int32)), .val (.ref w_IN), .val (.int (1 : Int32)), .val (.int (1 : Int32))] []))
    refine Gl.back (fun _ k => XS.aloadN X156.here hx rfl (hb hby at_62) rfl rfl k) ?_
    show Gl _ _ _ _ _ _ _ (T156.setTop (mkF m 63 #[.val (.int i), .val (.int (14 : Int32)), .val (.ref w_IN), .val (.int (1 : Int32)), .val (.int (1 : Int32))] [(.ref w_IN)]))
    obtain ⟨cq157, kq157, q157a, q157b, q157c⟩ := isOf hZ eh156 E_IN
    obtain ⟨_, _, ⟨T157, L157, k157, n157⟩, -, X157, ⟨Lc157, hQ157, l157, y157, z157⟩, st157⟩ := X156.virtualBack hx (y := (⟨"com/example/demi_orm/demiorm/query/Operator", "takesNull", "()Z"⟩ : MethodName)) (z := (⟨"com/example/demi_orm/demiorm/query/Operator", "takesNull", "()Z"⟩ : MethodName)) hown (mvT hZ (hw _ (List.mem_of_getElem? (i := 41) rfl))) (mvT hZ (hw _ (List.mem_of_getElem? (i := 42) rfl))) (notFace_of_selects (args := #[]) (mvT hZ (hw _ (List.mem_of_getElem? (i := 44) rfl)))) (mvT hZ (hw _ (List.mem_of_getElem? (i := 44) rfl))) (mvT hZ (hw _ (List.mem_of_getElem? (i := 43) rfl))) (by decide) (backOf (W := 0) (rm5_no l Z a0 hw [] w_IN w_EQUALS w_NOT_EQUALS h0 n0 Z0 S_EQUALS S_NOT_EQUALS (Fld.ne F_IN_ordinal F_EQUALS_ordinal (by decide)) (Fld.ne F_IN_ordinal F_NOT_EQUALS_ordinal (by decide))) hZ (hw _ (List.mem_of_getElem? (i := 45) rfl)) (hw _ (List.mem_of_getElem? (i := 5) rfl)) (by decide) (by decide)) q157a q157c (g := (mkF m 63 #[.val (.int i), .val (.int (14 : Int32)), .val (.ref w_IN), .val (.int (1 : Int32)), .val (.int (1 : Int32))] [(.ref w_IN)])) rfl (by rw [hml]; rfl) (Steps.refl _) (argsL := []) (rest := []) (lenOf pd___Z rfl) rfl (by show 2 * 0 + _ ≤ _; exact Nat.le_of_eq rfl) (hb hby at_63) (fun _ _ => ⟨rfl, eh156, (by decide : 0 + 0 ≤ _), (by decide : 0 + 0 ≤ _)⟩)
    dsimp only [Pt.U, Pt.locs, Pt.cells, Pt.slots] at X157 l157 y157 z157 st157 hQ157
    subst l157 y157 z157
    obtain ⟨Nq157, rfl, eh157⟩ := hQ157
    have N157 := Fr.app N156 Nq157
    refine Gl.back (fun _ k => st157.trans k) ?_
    show Gl _ _ _ _ _ _ _ (T157.setTop (mkF m 66 #[.val (.int i), .val (.int (14 : Int32)), .val (.ref w_IN), .val (.int (1 : Int32)), .val (.int (1 : Int32))] [(.int (0 : Int32))]))
    refine Gl.back (fun _ k => XS.ifNo X157.here hx rfl (hb hby at_66) rfl ((if0 _ _).trans (teq (by decide : (0 : Int32) = (0 : Int32))).2) k) ?_
    show Gl _ _ _ _ _ _ _ (T157.setTop (mkF m 69 #[.val (.int i), .val (.int (14 : Int32)), .val (.ref w_IN), .val (.int (1 : Int32)), .val (.int (1 : Int32))] []))
    refine Gl.back (fun _ k => XS.iconst X157.here hx rfl (hb hby at_69) k) ?_
    show Gl _ _ _ _ _ _ _ (T157.setTop (mkF m 70 #[.val (.int i), .val (.int (14 : Int32)), .val (.ref w_IN), .val (.int (1 : Int32)), .val (.int (1 : Int32))] [(.int (1 : Int32))]))
    refine Gl.back (fun _ k => XS.goto X157.here hx rfl (pc0 := 70) (pc' := 74) rfl (hb hby at_70) (by decide) (by decide) k) ?_
    show Gl _ _ _ _ _ _ _ (T157.setTop (mkF m 74 #[.val (.int i), .val (.int (14 : Int32)), .val (.ref w_IN), .val (.int (1 : Int32)), .val (.int (1 : Int32))] [(.int (1 : Int32))]))
    exact Gl.ret X157 eh157 (v := (some (.int (1 : Int32)))) (fun h => by rw [Bd.returns] at h; cases h) Bd.notSynchronized (fun fs hr => retN X157 hx (t := .boolean) (z := (1 : Int32)) Bd.returns (by simp) (hb hby at_74) hr) ⟨N157, rfl⟩ (by decide) (by decide)
  · rw [hk124]
    show Gl _ _ _ _ _ _ _ (s₁.setTop (mkF m 4 #[.val (.int i), .unset, .unset, .unset, .unset] [(.int (15 : Int32))]))
    refine Gl.back (fun _ k => XS.istoreN X0.here hx rfl (hb hby at_4) rfl (l' := #[.val (.int i), .val (.int (15 : Int32)), .unset, .unset, .unset]) rfl k) ?_
    show Gl _ _ _ _ _ _ _ (s₁.setTop (mkF m 5 #[.val (.int i), .val (.int (15 : Int32)), .unset, .unset, .unset] []))
    refine Gl.back (fun _ k => XS.iloadN X0.here hx rfl (hb hby at_5) rfl k) ?_
    show Gl _ _ _ _ _ _ _ (s₁.setTop (mkF m 6 #[.val (.int i), .val (.int (15 : Int32)), .unset, .unset, .unset] [(.int (15 : Int32))]))
    obtain ⟨_, _, ⟨T158, L158, k158, n158⟩, -, X158, ⟨Lc158, hQ158, l158, y158, z158⟩, st158⟩ := Jvm.LawKit.callS X0 hx (y := (⟨"com/example/demi_orm/demiorm/query/OperatorTakesCollectionPinLaw", "pick", "(I)Lcom/example/demi_orm/demiorm/query/Operator;"⟩ : MethodName)) hown (mvT hZ (hw _ (List.mem_of_getElem? (i := 0) rfl))) (mvT hZ (hw _ (List.mem_of_getElem? (i := 1) rfl))) (mvT hZ (hw _ (List.mem_of_getElem? (i := 2) rfl))) (mvT hZ (hw _ (List.mem_of_getElem? (i := 3) rfl))) (by decide) (backOf (W := 0) (rm1_NOT_IN l Z a0 hw []  w_NOT_IN h0 n0 Z0 S_NOT_IN) hZ (hw _ (List.mem_of_getElem? (i := 3) rfl)) (hw _ (List.mem_of_getElem? (i := 2) rfl)) (by decide) (by decide)) (g := (mkF m 6 #[.val (.int i), .val (.int (15 : Int32)), .unset, .unset, .unset] [(.int (15 : Int32))])) rfl (by rw [hml]; rfl) (argsL := [(.int (15 : Int32))]) (rest := []) (lenOf pd__I_Lcom_example_demi_orm_demiorm_query_Operator_ rfl) rfl (by show 2 * 0 + _ ≤ _; exact Nat.le_of_eq rfl) (hb hby at_6) (fun _ _ => ⟨rfl, e0, (by decide : 0 + 0 ≤ _), (by decide : 0 + 0 ≤ _)⟩)
    dsimp only [Pt.U, Pt.locs, Pt.cells, Pt.slots] at X158 l158 y158 z158 st158 hQ158
    subst l158 y158 z158
    obtain ⟨Nq158, rfl, eh158⟩ := hQ158
    have N158 := Fr.app N0 Nq158
    refine Gl.back (fun _ k => st158 _ k) ?_
    show Gl _ _ _ _ _ _ _ (T158.setTop (mkF m 9 #[.val (.int i), .val (.int (15 : Int32)), .unset, .unset, .unset] [(.ref w_NOT_IN)]))
    refine Gl.back (fun _ k => XS.astoreN X158.here hx rfl (hb hby at_9) rfl rfl (l' := #[.val (.int i), .val (.int (15 : Int32)), .val (.ref w_NOT_IN), .unset, .unset]) rfl k) ?_
    show Gl _ _ _ _ _ _ _ (T158.setTop (mkF m 10 #[.val (.int i), .val (.int (15 : Int32)), .val (.ref w_NOT_IN), .unset, .unset] []))
    refine Gl.back (fun _ k => XS.iloadN X158.here hx rfl (hb hby at_10) rfl k) ?_
    show Gl _ _ _ _ _ _ _ (T158.setTop (mkF m 11 #[.val (.int i), .val (.int (15 : Int32)), .val (.ref w_NOT_IN), .unset, .unset] [(.int (15 : Int32))]))
    refine Gl.back (fun _ k => XS.bipush X158.here hx rfl (hb hby at_11) k) ?_
    show Gl _ _ _ _ _ _ _ (T158.setTop (mkF m 13 #[.val (.int i), .val (.int (15 : Int32)), .val (.ref w_NOT_IN), .unset, .unset] [(.int (14 : Int32)), (.int (15 : Int32))]))
    refine Gl.back (fun _ k => XS.icmpNo X158.here hx rfl (hb hby at_13) rfl (feq (by decide : ¬ (15 : Int32) = (14 : Int32))).1 k) ?_
    show Gl _ _ _ _ _ _ _ (T158.setTop (mkF m 16 #[.val (.int i), .val (.int (15 : Int32)), .val (.ref w_NOT_IN), .unset, .unset] []))
    refine Gl.back (fun _ k => XS.iloadN X158.here hx rfl (hb hby at_16) rfl k) ?_
    show Gl _ _ _ _ _ _ _ (T158.setTop (mkF m 17 #[.val (.int i), .val (.int (15 : Int32)), .val (.ref w_NOT_IN), .unset, .unset] [(.int (15 : Int32))]))
    refine Gl.back (fun _ k => XS.bipush X158.here hx rfl (hb hby at_17) k) ?_
    show Gl _ _ _ _ _ _ _ (T158.setTop (mkF m 19 #[.val (.int i), .val (.int (15 : Int32)), .val (.ref w_NOT_IN), .unset, .unset] [(.int (15 : Int32)), (.int (15 : Int32))]))
    refine Gl.back (fun _ k => XS.icmpNo X158.here hx rfl (hb hby at_19) rfl (teq (by decide : (15 : Int32) = (15 : Int32))).2 k) ?_
    show Gl _ _ _ _ _ _ _ (T158.setTop (mkF m 22 #[.val (.int i), .val (.int (15 : Int32)), .val (.ref w_NOT_IN), .unset, .unset] []))
    refine Gl.back (fun _ k => XS.iconst X158.here hx rfl (hb hby at_22) k) ?_
    show Gl _ _ _ _ _ _ _ (T158.setTop (mkF m 23 #[.val (.int i), .val (.int (15 : Int32)), .val (.ref w_NOT_IN), .unset, .unset] [(.int (1 : Int32))]))
    refine Gl.back (fun _ k => XS.goto X158.here hx rfl (pc0 := 23) (pc' := 27) rfl (hb hby at_23) (by decide) (by decide) k) ?_
    show Gl _ _ _ _ _ _ _ (T158.setTop (mkF m 27 #[.val (.int i), .val (.int (15 : Int32)), .val (.ref w_NOT_IN), .unset, .unset] [(.int (1 : Int32))]))
    refine Gl.back (fun _ k => XS.istoreN X158.here hx rfl (hb hby at_27) rfl (l' := #[.val (.int i), .val (.int (15 : Int32)), .val (.ref w_NOT_IN), .val (.int (1 : Int32)), .unset]) rfl k) ?_
    show Gl _ _ _ _ _ _ _ (T158.setTop (mkF m 28 #[.val (.int i), .val (.int (15 : Int32)), .val (.ref w_NOT_IN), .val (.int (1 : Int32)), .unset] []))
    refine Gl.back (fun _ k => XS.aloadN X158.here hx rfl (hb hby at_28) rfl rfl k) ?_
    show Gl _ _ _ _ _ _ _ (T158.setTop (mkF m 29 #[.val (.int i), .val (.int (15 : Int32)), .val (.ref w_NOT_IN), .val (.int (1 : Int32)), .unset] [(.ref w_NOT_IN)]))
    obtain ⟨cq159, kq159, q159a, q159b, q159c⟩ := isOf hZ eh158 E_NOT_IN
    obtain ⟨_, _, ⟨T159, L159, k159, n159⟩, -, X159, ⟨Lc159, hQ159, l159, y159, z159⟩, st159⟩ := X158.virtualBack hx (y := (⟨"com/example/demi_orm/demiorm/query/Operator", "takesCollection", "()Z"⟩ : MethodName)) (z := (⟨"com/example/demi_orm/demiorm/query/Operator", "takesCollection", "()Z"⟩ : MethodName)) hown (mvT hZ (hw _ (List.mem_of_getElem? (i := 7) rfl))) (mvT hZ (hw _ (List.mem_of_getElem? (i := 8) rfl))) (notFace_of_selects (args := #[]) (mvT hZ (hw _ (List.mem_of_getElem? (i := 10) rfl)))) (mvT hZ (hw _ (List.mem_of_getElem? (i := 10) rfl))) (mvT hZ (hw _ (List.mem_of_getElem? (i := 9) rfl))) (by decide) (backOf (W := 0) (rm2_NOT_IN l Z a0 hw [] w_NOT_IN w_IN h0 n0 Z0 S_IN S_NOT_IN (Fld.ne F_NOT_IN_ordinal F_IN_ordinal (by decide))) hZ (hw _ (List.mem_of_getElem? (i := 11) rfl)) (hw _ (List.mem_of_getElem? (i := 5) rfl)) (by decide) (by decide)) q159a q159c (g := (mkF m 29 #[.val (.int i), .val (.int (15 : Int32)), .val (.ref w_NOT_IN), .val (.int (1 : Int32)), .unset] [(.ref w_NOT_IN)])) rfl (by rw [hml]; rfl) (Steps.refl _) (argsL := []) (rest := []) (lenOf pd___Z rfl) rfl (by show 2 * 0 + _ ≤ _; exact Nat.le_of_eq rfl) (hb hby at_29) (fun _ _ => ⟨rfl, eh158, (by decide : 0 + 0 ≤ _), (by decide : 0 + 0 ≤ _)⟩)
    dsimp only [Pt.U, Pt.locs, Pt.cells, Pt.slots] at X159 l159 y159 z159 st159 hQ159
    subst l159 y159 z159
    obtain ⟨Nq159, rfl, eh159⟩ := hQ159
    have N159 := Fr.app N158 Nq159
    refine Gl.back (fun _ k => st159.trans k) ?_
    show Gl _ _ _ _ _ _ _ (T159.setTop (mkF m 32 #[.val (.int i), .val (.int (15 : Int32)), .val (.ref w_NOT_IN), .val (.int (1 : Int32)), .unset] [(.int (1 : Int32))]))
    refine Gl.back (fun _ k => XS.istore X159.here hx rfl (hb hby at_32) rfl (l' := #[.val (.int i), .val (.int (15 : Int32)), .val (.ref w_NOT_IN), .val (.int (1 : Int32)), .val (.int (1 : Int32))]) rfl k) ?_
    show Gl _ _ _ _ _ _ _ (T159.setTop (mkF m 34 #[.val (.int i), .val (.int (15 : Int32)), .val (.ref w_NOT_IN), .val (.int (1 : Int32)), .val (.int (1 : Int32))] []))
    refine Gl.back (fun _ k => XS.iload X159.here hx rfl (hb hby at_34) rfl k) ?_
    show Gl _ _ _ _ _ _ _ (T159.setTop (mkF m 36 #[.val (.int i), .val (.int (15 : Int32)), .val (.ref w_NOT_IN), .val (.int (1 : Int32)), .val (.int (1 : Int32))] [(.int (1 : Int32))]))
    refine Gl.back (fun _ k => XS.iloadN X159.here hx rfl (hb hby at_36) rfl k) ?_
    show Gl _ _ _ _ _ _ _ (T159.setTop (mkF m 37 #[.val (.int i), .val (.int (15 : Int32)), .val (.ref w_NOT_IN), .val (.int (1 : Int32)), .val (.int (1 : Int32))] [(.int (1 : Int32)), (.int (1 : Int32))]))
    refine Gl.back (fun _ k => XS.icmpYes X159.here hx rfl (pc0 := 37) (pc' := 42) rfl (hb hby at_37) rfl (teq (by decide : (1 : Int32) = (1 : Int32))).1 (by decide) (by decide) k) ?_
    show Gl _ _ _ _ _ _ _ (T159.setTop (mkF m 42 #[.val (.int i), .val (.int (15 : Int32)), .val (.ref w_NOT_IN), .val (.int (1 : Int32)), .val (.int (1 : Int32))] []))
    refine Gl.back (fun _ k => XS.iload X159.here hx rfl (hb hby at_42) rfl k) ?_
    show Gl _ _ _ _ _ _ _ (T159.setTop (mkF m 44 #[.val (.int i), .val (.int (15 : Int32)), .val (.ref w_NOT_IN), .val (.int (1 : Int32)), .val (.int (1 : Int32))] [(.int (1 : Int32))]))
    refine Gl.back (fun _ k => XS.ifNo X159.here hx rfl (hb hby at_44) rfl ((if0 _ _).trans (feq (by decide : ¬ (1 : Int32) = (0 : Int32))).1) k) ?_
    show Gl _ _ _ _ _ _ _ (T159.setTop (mkF m 47 #[.val (.int i), .val (.int (15 : Int32)), .val (.ref w_NOT_IN), .val (.int (1 : Int32)), .val (.int (1 : Int32))] []))
    refine Gl.back (fun _ k => XS.aloadN X159.here hx rfl (hb hby at_47) rfl rfl k) ?_
    show Gl _ _ _ _ _ _ _ (T159.setTop (mkF m 48 #[.val (.int i), .val (.int (15 : Int32)), .val (.ref w_NOT_IN), .val (.int (1 : Int32)), .val (.int (1 : Int32))] [(.ref w_NOT_IN)]))
    obtain ⟨cq160, kq160, q160a, q160b, q160c⟩ := isOf hZ eh159 E_NOT_IN
    obtain ⟨_, _, ⟨T160, L160, k160, n160⟩, -, X160, ⟨Lc160, hQ160, l160, y160, z160⟩, st160⟩ := X159.virtualBack hx (y := (⟨"com/example/demi_orm/demiorm/query/Operator", "arity", "()I"⟩ : MethodName)) (z := (⟨"com/example/demi_orm/demiorm/query/Operator", "arity", "()I"⟩ : MethodName)) hown (mvT hZ (hw _ (List.mem_of_getElem? (i := 19) rfl))) (mvT hZ (hw _ (List.mem_of_getElem? (i := 20) rfl))) (notFace_of_selects (args := #[]) (mvT hZ (hw _ (List.mem_of_getElem? (i := 22) rfl)))) (mvT hZ (hw _ (List.mem_of_getElem? (i := 22) rfl))) (mvT hZ (hw _ (List.mem_of_getElem? (i := 21) rfl))) (by decide) (backOf (W := 0) (rm3 l Z a0 hw [] w_NOT_IN (1 : Int32) h0 n0 Z0 F_NOT_IN_arity) hZ (hw _ (List.mem_of_getElem? (i := 23) rfl)) (hw _ (List.mem_of_getElem? (i := 5) rfl)) (by decide) (by decide)) q160a q160c (g := (mkF m 48 #[.val (.int i), .val (.int (15 : Int32)), .val (.ref w_NOT_IN), .val (.int (1 : Int32)), .val (.int (1 : Int32))] [(.ref w_NOT_IN)])) rfl (by rw [hml]; rfl) (Steps.refl _) (argsL := []) (rest := []) (lenOf pd___I rfl) rfl (by show 2 * 0 + _ ≤ _; exact Nat.le_of_eq rfl) (hb hby at_48) (fun _ _ => ⟨rfl, eh159, (by decide : 0 + 0 ≤ _), (by decide : 0 + 0 ≤ _)⟩)
    dsimp only [Pt.U, Pt.locs, Pt.cells, Pt.slots] at X160 l160 y160 z160 st160 hQ160
    subst l160 y160 z160
    obtain ⟨Nq160, rfl, eh160⟩ := hQ160
    have N160 := Fr.app N159 Nq160
    refine Gl.back (fun _ k => st160.trans k) ?_
    show Gl _ _ _ _ _ _ _ (T160.setTop (mkF m 51 #[.val (.int i), .val (.int (15 : Int32)), .val (.ref w_NOT_IN), .val (.int (1 : Int32)), .val (.int (1 : Int32))] [(.int (1 : Int32))]))
    refine Gl.back (fun _ k => XS.iconst X160.here hx rfl (hb hby at_51) k) ?_
    show Gl _ _ _ _ _ _ _ (T160.setTop (mkF m 52 #[.val (.int i), .val (.int (15 : Int32)), .val (.ref w_NOT_IN), .val (.int (1 : Int32)), .val (.int (1 : Int32))] [(.int (1 : Int32)), (.int (1 : Int32))]))
    refine Gl.back (fun _ k => XS.icmpNo X160.here hx rfl (hb hby at_52) rfl (teq (by decide : (1 : Int32) = (1 : Int32))).2 k) ?_
    show Gl _ _ _ _ _ _ _ (T160.setTop (mkF m 55 #[.val (.int i), .val (.int (15 : Int32)), .val (.ref w_NOT_IN), .val (.int (1 : Int32)), .val (.int (1 : Int32))] []))
    refine Gl.back (fun _ k => XS.aloadN X160.here hx rfl (hb hby at_55) rfl rfl k) ?_
    show Gl _ _ _ _ _ _ _ (T160.setTop (mkF m 56 #[.val (.int i), .val (.int (15 : Int32)), .val (.ref w_NOT_IN), .val (.int (1 : Int32)), .val (.int (1 : Int32))] [(.ref w_NOT_IN)]))
    obtain ⟨cq161, kq161, q161a, q161b, q161c⟩ := isOf hZ eh160 E_NOT_IN
    obtain ⟨_, _, ⟨T161, L161, k161, n161⟩, -, X161, ⟨Lc161, hQ161, l161, y161, z161⟩, st161⟩ := X160.virtualBack hx (y := (⟨"com/example/demi_orm/demiorm/query/Operator", "comparesText", "()Z"⟩ : MethodName)) (z := (⟨"com/example/demi_orm/demiorm/query/Operator", "comparesText", "()Z"⟩ : MethodName)) hown (mvT hZ (hw _ (List.mem_of_getElem? (i := 26) rfl))) (mvT hZ (hw _ (List.mem_of_getElem? (i := 27) rfl))) (notFace_of_selects (args := #[]) (mvT hZ (hw _ (List.mem_of_getElem? (i := 29) rfl)))) (mvT hZ (hw _ (List.mem_of_getElem? (i := 29) rfl))) (mvT hZ (hw _ (List.mem_of_getElem? (i := 28) rfl))) (by decide) (backOf (W := 0) (rm4_no l Z a0 hw [] w_NOT_IN w_LIKE w_NOT_LIKE w_STARTING_WITH w_ENDING_WITH w_CONTAINING h0 n0 Z0 S_LIKE S_NOT_LIKE S_STARTING_WITH S_ENDING_WITH S_CONTAINING (Fld.ne F_NOT_IN_ordinal F_LIKE_ordinal (by decide)) (Fld.ne F_NOT_IN_ordinal F_NOT_LIKE_ordinal (by decide)) (Fld.ne F_NOT_IN_ordinal F_STARTING_WITH_ordinal (by decide)) (Fld.ne F_NOT_IN_ordinal F_ENDING_WITH_ordinal (by decide)) (Fld.ne F_NOT_IN_ordinal F_CONTAINING_ordinal (by decide))) hZ (hw _ (List.mem_of_getElem? (i := 30) rfl)) (hw _ (List.mem_of_getElem? (i := 5) rfl)) (by decide) (by decide)) q161a q161c (g := (mkF m 56 #[.val (.int i), .val (.int (15 : Int32)), .val (.ref w_NOT_IN), .val (.int (1 : Int32)), .val (.int (1 : Int32))] [(.ref w_NOT_IN)])) rfl (by rw [hml]; rfl) (Steps.refl _) (argsL := []) (rest := []) (lenOf pd___Z rfl) rfl (by show 2 * 0 + _ ≤ _; exact Nat.le_of_eq rfl) (hb hby at_56) (fun _ _ => ⟨rfl, eh160, (by decide : 0 + 0 ≤ _), (by decide : 0 + 0 ≤ _)⟩)
    dsimp only [Pt.U, Pt.locs, Pt.cells, Pt.slots] at X161 l161 y161 z161 st161 hQ161
    subst l161 y161 z161
    obtain ⟨Nq161, rfl, eh161⟩ := hQ161
    have N161 := Fr.app N160 Nq161
    refine Gl.back (fun _ k => st161.trans k) ?_
    show Gl _ _ _ _ _ _ _ (T161.setTop (mkF m 59 #[.val (.int i), .val (.int (15 : Int32)), .val (.ref w_NOT_IN), .val (.int (1 : Int32)), .val (.int (1 : Int32))] [(.int (0 : Int32))]))
    refine Gl.back (fun _ k => XS.ifNo X161.here hx rfl (hb hby at_59) rfl ((if0 _ _).trans (teq (by decide : (0 : Int32) = (0 : Int32))).2) k) ?_
    show Gl _ _ _ _ _ _ _ (T161.setTop (mkF m 62 #[.val (.int i), .val (.int (15 : Int32)), .val (.ref w_NOT_IN), .val (.int (1 : Int32)), .val (.int (1 : Int32))] []))
    refine Gl.back (fun _ k => XS.aloadN X161.here hx rfl (hb hby at_62) rfl rfl k) ?_
    show Gl _ _ _ _ _ _ _ (T161.setTop (mkF m 63 #[.val (.int i), .val (.int (15 : Int32)), .val (.ref w_NOT_IN), .val (.int (1 : Int32)), .val (.int (1 : Int32))] [(.ref w_NOT_IN)]))
    obtain ⟨cq162, kq162, q162a, q162b, q162c⟩ := isOf hZ eh161 E_NOT_IN
    obtain ⟨_, _, ⟨T162, L162, k162, n162⟩, -, X162, ⟨Lc162, hQ162, l162, y162, z162⟩, st162⟩ := X161.virtualBack hx (y := (⟨"com/example/demi_orm/demiorm/query/Operator", "takesNull", "()Z"⟩ : MethodName)) (z := (⟨"com/example/demi_orm/demiorm/query/Operator", "takesNull", "()Z"⟩ : MethodName)) hown (mvT hZ (hw _ (List.mem_of_getElem? (i := 41) rfl))) (mvT hZ (hw _ (List.mem_of_getElem? (i := 42) rfl))) (notFace_of_selects (args := #[]) (mvT hZ (hw _ (List.mem_of_getElem? (i := 44) rfl)))) (mvT hZ (hw _ (List.mem_of_getElem? (i := 44) rfl))) (mvT hZ (hw _ (List.mem_of_getElem? (i := 43) rfl))) (by decide) (backOf (W := 0) (rm5_no l Z a0 hw [] w_NOT_IN w_EQUALS w_NOT_EQUALS h0 n0 Z0 S_EQUALS S_NOT_EQUALS (Fld.ne F_NOT_IN_ordinal F_EQUALS_ordinal (by decide)) (Fld.ne F_NOT_IN_ordinal F_NOT_EQUALS_ordinal (by decide))) hZ (hw _ (List.mem_of_getElem? (i := 45) rfl)) (hw _ (List.mem_of_getElem? (i := 5) rfl)) (by decide) (by decide)) q162a q162c (g := (mkF m 63 #[.val (.int i), .val (.int (15 : Int32)), .val (.ref w_NOT_IN), .val (.int (1 : Int32)), .val (.int (1 : Int32))] [(.ref w_NOT_IN)])) rfl (by rw [hml]; rfl) (Steps.refl _) (argsL := []) (rest := []) (lenOf pd___Z rfl) rfl (by show 2 * 0 + _ ≤ _; exact Nat.le_of_eq rfl) (hb hby at_63) (fun _ _ => ⟨rfl, eh161, (by decide : 0 + 0 ≤ _), (by decide : 0 + 0 ≤ _)⟩)
    dsimp only [Pt.U, Pt.locs, Pt.cells, Pt.slots] at X162 l162 y162 z162 st162 hQ162
    subst l162 y162 z162
    obtain ⟨Nq162, rfl, eh162⟩ := hQ162
    have N162 := Fr.app N161 Nq162
    refine Gl.back (fun _ k => st162.trans k) ?_
    show Gl _ _ _ _ _ _ _ (T162.setTop (mkF m 66 #[.val (.int i), .val (.int (15 : Int32)), .val (.ref w_NOT_IN), .val (.int (1 : Int32)), .val (.int (1 : Int32))] [(.int (0 : Int32))]))
    refine Gl.back (fun _ k => XS.ifNo X162.here hx rfl (hb hby at_66) rfl ((if0 _ _).trans (teq (by decide : (0 : Int32) = (0 : Int32))).2) k) ?_
    show Gl _ _ _ _ _ _ _ (T162.setTop (mkF m 69 #[.val (.int i), .val (.int (15 : Int32)), .val (.ref w_NOT_IN), .val (.int (1 : Int32)), .val (.int (1 : Int32))] []))
    refine Gl.back (fun _ k => XS.iconst X162.here hx rfl (hb hby at_69) k) ?_
    show Gl _ _ _ _ _ _ _ (T162.setTop (mkF m 70 #[.val (.int i), .val (.int (15 : Int32)), .val (.ref w_NOT_IN), .val (.int (1 : Int32)), .val (.int (1 : Int32))] [(.int (1 : Int32))]))
    refine Gl.back (fun _ k => XS.goto X162.here hx rfl (pc0 := 70) (pc' := 74) rfl (hb hby at_70) (by decide) (by decide) k) ?_
    show Gl _ _ _ _ _ _ _ (T162.setTop (mkF m 74 #[.val (.int i), .val (.int (15 : Int32)), .val (.ref w_NOT_IN), .val (.int (1 : Int32)), .val (.int (1 : Int32))] [(.int (1 : Int32))]))
    exact Gl.ret X162 eh162 (v := (some (.int (1 : Int32)))) (fun h => by rw [Bd.returns] at h; cases h) Bd.notSynchronized (fun fs hr => retN X162 hx (t := .boolean) (z := (1 : Int32)) Bd.returns (by simp) (hb hby at_74) hr) ⟨N162, rfl⟩ (by decide) (by decide)
set_option maxRecDepth 65536 in
set_option maxHeartbeats 40000000 in
theorem comes_1 {Post : Tables → Env → Array Value → State → Outcome → State → Prop} (hpost : ∀ tb e args s v u, (limb_1_1.after args s (.returned v) u = true ∧ limb_1_2.after args s (.returned v) u = true ∧ True) → FrameEnd s (.returned v) u (Jvm.fieldLocs frame_1_writes args s ++ Jvm.arrayLocs frame_1_arrays args s ++ Jvm.staticLocs frame_1_statics s) 0 0 → Post tb e args s (.returned v) u) :
    ArmFor flags0 classFile x code maxLocals ret World_1 tables_1 room_1 Calls_1 rest_1 Pre_1 Post := by
  intro l hfl _ _ p e ha hc hk s m args below hf hA hF happ hP
  obtain ⟨hcalls, hrest, hpre⟩ := hP
  obtain ⟨-, -, -, hnamed, -, -, -, hat⟩ := (Spec.applies_iff hf).mp happ
  obtain ⟨hg, hn⟩ := and_e (Cond.before_iff.mp (show (Jvm.Cond.and given_1 narrow_1).before args s = true from hpre))
  obtain ⟨gv163, gv164⟩ := and_e hg
  obtain ⟨w0, rfl⟩ : ∃ w0 : Value, args = #[w0] := by
    have hs : args.size = 1 := by simpa [Cond.value, given_1] using gv163
    obtain ⟨L⟩ := args
    match L, hs with
    | [w0], _ => exact ⟨w0, rfl⟩
  have hw := fun d (hd : d ∈ tables_1) => atoms_spec (ws := Jvm.Cond.code x code maxLocals ret :: tables_1) hat d (List.mem_cons_of_mem _ hd)
  have hfit : Fit s := fun {y c} hc i hi => by
    obtain ⟨ha, rfl⟩ := Array.getElem?_eq_some_iff.mp hc
    have q := List.all_eq_true.mp ((Array.all_eq_true_iff_forall_mem.mp hF) _ (Array.getElem_mem ha)) i (List.mem_range.mpr hi)
    simpa [Array.getElem?_eq_getElem hi] using q
  obtain ⟨i0, ei0⟩ := is_v gv164
  obtain rfl : w0 = (.int i0) := Option.some.inj ei0
  obtain ⟨gn30, gn31⟩ := and_e hn
  obtain ⟨w_EQUALS, ev_EQUALS⟩ := exa_v gn30
  have S_EQUALS := Sta.start ev_EQUALS (Or.inr ⟨(hw _ (List.mem_of_getElem? (i := 5) rfl)), (hw _ (List.mem_of_getElem? (i := 6) rfl))⟩)
  have E_EQUALS := Exa.start ev_EQUALS gn30
  obtain ⟨gn32, gn33⟩ := and_e gn31
  obtain ⟨w_IN, ev_IN⟩ := exa_v gn32
  have S_IN := Sta.start ev_IN (Or.inr ⟨(hw _ (List.mem_of_getElem? (i := 5) rfl)), (hw _ (List.mem_of_getElem? (i := 13) rfl))⟩)
  have E_IN := Exa.start ev_IN gn32
  obtain ⟨gn34, gn35⟩ := and_e gn33
  obtain ⟨gn36, gn37⟩ := and_e gn35
  obtain ⟨gn38, gn39⟩ := and_e gn37
  obtain ⟨w_NOT_IN, ev_NOT_IN⟩ := exa_v gn38
  have S_NOT_IN := Sta.start ev_NOT_IN (Or.inr ⟨(hw _ (List.mem_of_getElem? (i := 5) rfl)), (hw _ (List.mem_of_getElem? (i := 15) rfl))⟩)
  have E_NOT_IN := Exa.start ev_NOT_IN gn38
  obtain ⟨gn40, gn41⟩ := and_e gn39
  obtain ⟨gn42, gn43⟩ := and_e gn41
  obtain ⟨w_LESS_THAN_OR_EQUAL, ev_LESS_THAN_OR_EQUAL⟩ := exa_v gn42
  have S_LESS_THAN_OR_EQUAL := Sta.start ev_LESS_THAN_OR_EQUAL (Or.inr ⟨(hw _ (List.mem_of_getElem? (i := 5) rfl)), (hw _ (List.mem_of_getElem? (i := 17) rfl))⟩)
  have E_LESS_THAN_OR_EQUAL := Exa.start ev_LESS_THAN_OR_EQUAL gn42
  obtain ⟨gn44, gn45⟩ := and_e gn43
  obtain ⟨gn46, gn47⟩ := and_e gn45
  obtain ⟨gn48, gn49⟩ := and_e gn47
  obtain ⟨w_LIKE, ev_LIKE⟩ := exa_v gn48
  have S_LIKE := Sta.start ev_LIKE (Or.inr ⟨(hw _ (List.mem_of_getElem? (i := 5) rfl)), (hw _ (List.mem_of_getElem? (i := 32) rfl))⟩)
  have E_LIKE := Exa.start ev_LIKE gn48
  obtain ⟨gn50, gn51⟩ := and_e gn49
  obtain ⟨gn52, gn53⟩ := and_e gn51
  obtain ⟨w_NOT_LIKE, ev_NOT_LIKE⟩ := exa_v gn52
  have S_NOT_LIKE := Sta.start ev_NOT_LIKE (Or.inr ⟨(hw _ (List.mem_of_getElem? (i := 5) rfl)), (hw _ (List.mem_of_getElem? (i := 34) rfl))⟩)
  have E_NOT_LIKE := Exa.start ev_NOT_LIKE gn52
  obtain ⟨gn54, gn55⟩ := and_e gn53
  obtain ⟨gn56, gn57⟩ := and_e gn55
  obtain ⟨w_STARTING_WITH, ev_STARTING_WITH⟩ := exa_v gn56
  have S_STARTING_WITH := Sta.start ev_STARTING_WITH (Or.inr ⟨(hw _ (List.mem_of_getElem? (i := 5) rfl)), (hw _ (List.mem_of_getElem? (i := 36) rfl))⟩)
  have E_STARTING_WITH := Exa.start ev_STARTING_WITH gn56
  obtain ⟨gn58, gn59⟩ := and_e gn57
  obtain ⟨gn60, gn61⟩ := and_e gn59
  obtain ⟨w_ENDING_WITH, ev_ENDING_WITH⟩ := exa_v gn60
  have S_ENDING_WITH := Sta.start ev_ENDING_WITH (Or.inr ⟨(hw _ (List.mem_of_getElem? (i := 5) rfl)), (hw _ (List.mem_of_getElem? (i := 38) rfl))⟩)
  have E_ENDING_WITH := Exa.start ev_ENDING_WITH gn60
  obtain ⟨gn62, gn63⟩ := and_e gn61
  obtain ⟨gn64, gn65⟩ := and_e gn63
  obtain ⟨w_CONTAINING, ev_CONTAINING⟩ := exa_v gn64
  have S_CONTAINING := Sta.start ev_CONTAINING (Or.inr ⟨(hw _ (List.mem_of_getElem? (i := 5) rfl)), (hw _ (List.mem_of_getElem? (i := 40) rfl))⟩)
  have E_CONTAINING := Exa.start ev_CONTAINING gn64
  obtain ⟨gn66, gn67⟩ := and_e gn65
  obtain ⟨gn68, gn69⟩ := and_e gn67
  obtain ⟨w_NOT_EQUALS, ev_NOT_EQUALS⟩ := exa_v gn68
  have S_NOT_EQUALS := Sta.start ev_NOT_EQUALS (Or.inr ⟨(hw _ (List.mem_of_getElem? (i := 5) rfl)), (hw _ (List.mem_of_getElem? (i := 48) rfl))⟩)
  have E_NOT_EQUALS := Exa.start ev_NOT_EQUALS gn68
  obtain ⟨gn70, gn71⟩ := and_e gn69
  obtain ⟨gn72, gn73⟩ := and_e gn71
  obtain ⟨gn74, gn75⟩ := and_e gn73
  obtain ⟨w_IS_NULL, ev_IS_NULL⟩ := exa_v gn74
  have S_IS_NULL := Sta.start ev_IS_NULL (Or.inr ⟨(hw _ (List.mem_of_getElem? (i := 5) rfl)), (hw _ (List.mem_of_getElem? (i := 52) rfl))⟩)
  have E_IS_NULL := Exa.start ev_IS_NULL gn74
  obtain ⟨gn76, gn77⟩ := and_e gn75
  obtain ⟨gn78, gn79⟩ := and_e gn77
  obtain ⟨w_LESS_THAN, ev_LESS_THAN⟩ := exa_v gn78
  have S_LESS_THAN := Sta.start ev_LESS_THAN (Or.inr ⟨(hw _ (List.mem_of_getElem? (i := 5) rfl)), (hw _ (List.mem_of_getElem? (i := 54) rfl))⟩)
  have E_LESS_THAN := Exa.start ev_LESS_THAN gn78
  obtain ⟨gn80, gn81⟩ := and_e gn79
  obtain ⟨gn82, gn83⟩ := and_e gn81
  obtain ⟨w_IS_NOT_NULL, ev_IS_NOT_NULL⟩ := exa_v gn82
  have S_IS_NOT_NULL := Sta.start ev_IS_NOT_NULL (Or.inr ⟨(hw _ (List.mem_of_getElem? (i := 5) rfl)), (hw _ (List.mem_of_getElem? (i := 57) rfl))⟩)
  have E_IS_NOT_NULL := Exa.start ev_IS_NOT_NULL gn82
  obtain ⟨gn84, gn85⟩ := and_e gn83
  obtain ⟨gn86, gn87⟩ := and_e gn85
  obtain ⟨w_GREATER_THAN, ev_GREATER_THAN⟩ := exa_v gn86
  have S_GREATER_THAN := Sta.start ev_GREATER_THAN (Or.inr ⟨(hw _ (List.mem_of_getElem? (i := 5) rfl)), (hw _ (List.mem_of_getElem? (i := 60) rfl))⟩)
  have E_GREATER_THAN := Exa.start ev_GREATER_THAN gn86
  obtain ⟨gn88, gn89⟩ := and_e gn87
  obtain ⟨gn90, gn91⟩ := and_e gn89
  obtain ⟨w_BETWEEN, ev_BETWEEN⟩ := exa_v gn90
  have S_BETWEEN := Sta.start ev_BETWEEN (Or.inr ⟨(hw _ (List.mem_of_getElem? (i := 5) rfl)), (hw _ (List.mem_of_getElem? (i := 64) rfl))⟩)
  have E_BETWEEN := Exa.start ev_BETWEEN gn90
  obtain ⟨gn92, gn93⟩ := and_e gn91
  obtain ⟨gn94, gn95⟩ := and_e gn93
  obtain ⟨w_GREATER_THAN_OR_EQUAL, ev_GREATER_THAN_OR_EQUAL⟩ := exa_v gn94
  have S_GREATER_THAN_OR_EQUAL := Sta.start ev_GREATER_THAN_OR_EQUAL (Or.inr ⟨(hw _ (List.mem_of_getElem? (i := 5) rfl)), (hw _ (List.mem_of_getElem? (i := 67) rfl))⟩)
  have E_GREATER_THAN_OR_EQUAL := Exa.start ev_GREATER_THAN_OR_EQUAL gn94
  obtain ⟨gn96, gn97⟩ := and_e gn95
  obtain ⟨gn98, gn99⟩ := and_e gn97
  obtain ⟨gn100, gn101⟩ := and_e gn99
  obtain ⟨gn102, gn103⟩ := and_e gn101
  obtain ⟨gn104, gn105⟩ := and_e gn103
  obtain ⟨gn106, gn107⟩ := and_e gn105
  obtain ⟨gn108, gn109⟩ := and_e gn107
  obtain ⟨gn110, gn111⟩ := and_e gn109
  obtain ⟨gn112, gn113⟩ := and_e gn111
  obtain ⟨gn114, gn115⟩ := and_e gn113
  obtain ⟨gn116, gn117⟩ := and_e gn115
  obtain ⟨gn118, gn119⟩ := and_e gn117
  obtain ⟨gn120, gn121⟩ := and_e gn119
  obtain ⟨gn122, gn123⟩ := and_e gn121
  have F_EQUALS_ordinal := own_fldI ev_EQUALS gn34
  have F_IN_ordinal := own_fldI ev_IN gn36
  have F_NOT_IN_ordinal := own_fldI ev_NOT_IN gn40
  have F_LESS_THAN_OR_EQUAL_ordinal := own_fldI ev_LESS_THAN_OR_EQUAL gn44
  have F_IN_arity := own_fldI ev_IN gn46
  have F_LIKE_ordinal := own_fldI ev_LIKE gn50
  have F_NOT_LIKE_ordinal := own_fldI ev_NOT_LIKE gn54
  have F_STARTING_WITH_ordinal := own_fldI ev_STARTING_WITH gn58
  have F_ENDING_WITH_ordinal := own_fldI ev_ENDING_WITH gn62
  have F_CONTAINING_ordinal := own_fldI ev_CONTAINING gn66
  have F_NOT_EQUALS_ordinal := own_fldI ev_NOT_EQUALS gn70
  have F_NOT_IN_arity := own_fldI ev_NOT_IN gn72
  have F_IS_NULL_ordinal := own_fldI ev_IS_NULL gn76
  have F_LESS_THAN_ordinal := own_fldI ev_LESS_THAN gn80
  have F_IS_NOT_NULL_ordinal := own_fldI ev_IS_NOT_NULL gn84
  have F_GREATER_THAN_ordinal := own_fldI ev_GREATER_THAN gn88
  have F_BETWEEN_ordinal := own_fldI ev_BETWEEN gn92
  have F_GREATER_THAN_OR_EQUAL_ordinal := own_fldI ev_GREATER_THAN_OR_EQUAL gn96
  have F_EQUALS_arity := own_fldI ev_EQUALS gn98
  have F_LESS_THAN_OR_EQUAL_arity := own_fldI ev_LESS_THAN_OR_EQUAL gn100
  have F_LIKE_arity := own_fldI ev_LIKE gn102
  have F_NOT_LIKE_arity := own_fldI ev_NOT_LIKE gn104
  have F_STARTING_WITH_arity := own_fldI ev_STARTING_WITH gn106
  have F_ENDING_WITH_arity := own_fldI ev_ENDING_WITH gn108
  have F_CONTAINING_arity := own_fldI ev_CONTAINING gn110
  have F_NOT_EQUALS_arity := own_fldI ev_NOT_EQUALS gn112
  have F_IS_NULL_arity := own_fldI ev_IS_NULL gn114
  have F_LESS_THAN_arity := own_fldI ev_LESS_THAN gn116
  have F_IS_NOT_NULL_arity := own_fldI ev_IS_NOT_NULL gn118
  have F_GREATER_THAN_arity := own_fldI ev_GREATER_THAN gn120
  have F_BETWEEN_arity := own_fldI ev_BETWEEN gn122
  have F_GREATER_THAN_OR_EQUAL_arity := own_fldI ev_GREATER_THAN_OR_EQUAL gn123
  obtain ⟨n, o, h1, h2, h3, _, L, rfl, ⟨N, rfl⟩, hq⟩ := rm0 l s _ hw tables_1 i0 w_EQUALS w_NOT_EQUALS w_LESS_THAN w_LESS_THAN_OR_EQUAL w_GREATER_THAN w_GREATER_THAN_OR_EQUAL w_BETWEEN w_IS_NULL w_IS_NOT_NULL w_LIKE w_NOT_LIKE w_STARTING_WITH w_ENDING_WITH w_CONTAINING w_IN w_NOT_IN s.heap s.heap.size (Nat.le_refl _) S_EQUALS S_NOT_EQUALS S_LESS_THAN S_LESS_THAN_OR_EQUAL S_GREATER_THAN S_GREATER_THAN_OR_EQUAL S_BETWEEN S_IS_NULL S_IS_NOT_NULL S_LIKE S_NOT_LIKE S_STARTING_WITH S_ENDING_WITH S_CONTAINING S_IN S_NOT_IN E_EQUALS E_NOT_EQUALS E_LESS_THAN E_LESS_THAN_OR_EQUAL E_GREATER_THAN E_GREATER_THAN_OR_EQUAL E_BETWEEN E_IS_NULL E_IS_NOT_NULL E_LIKE E_NOT_LIKE E_STARTING_WITH E_ENDING_WITH E_CONTAINING E_IN E_NOT_IN F_EQUALS_ordinal F_NOT_EQUALS_ordinal F_LESS_THAN_ordinal F_LESS_THAN_OR_EQUAL_ordinal F_GREATER_THAN_ordinal F_GREATER_THAN_OR_EQUAL_ordinal F_BETWEEN_ordinal F_IS_NULL_ordinal F_IS_NOT_NULL_ordinal F_LIKE_ordinal F_NOT_LIKE_ordinal F_STARTING_WITH_ordinal F_ENDING_WITH_ordinal F_CONTAINING_ordinal F_IN_ordinal F_NOT_IN_ordinal F_IN_arity F_NOT_IN_arity p e ha hc hk s m _ below hf ((Spec.applies_iff_loose hf).mp happ).1 ⟨rfl, State.Warmed39.refl s, rfl⟩ trivial
  refine ⟨n, _, h1, h2, h3, hpost _ _ _ _ _ _ ⟨Cond.after_iff.mpr rfl, Cond.after_iff.mpr (eq_i res_at (Term.int_eval (1)) rfl), trivial⟩ ⟨hq.1, hq.2.1, (hq.2.2.sift fun y hy => Or.inr (N y hy)).mono (by decide) (by decide)⟩⟩
theorem main_1_1 : Claimed_1_1 := comes_1 fun _ _ _ _ _ _ h hF => ⟨h.1, hF⟩
theorem main_1_2 : Claimed_1_2 := comes_1 fun _ _ _ _ _ _ h hF => ⟨h.2.1, hF⟩
end Jvm.Pilot.@@N@@
namespace Jvm.Pilot.@@N@@
open Jvm Jvm.ClassFile Sem Op Lib Jvm.Free Jvm.Stand Jvm.Pilot.@@N@@.Jvm.D
/-! MADE BY PROGRAM (witnessworld.py) out of the Statement's table words and the real class files: 12 classes; the members and pool entries that the words name. The judged class is class 1, her method 2. -/
namespace start1
open Jvm.ClassFile
def u (s : String) : CpInfo := .utf8 (stringToUtf16 s)
/-- a pool by its gaps: so many unusable entries, then the entry; so many at the end -/
def gap : Nat → List CpInfo → List CpInfo
  | 0, r => r
  | n + 1, r => .unusable :: gap n r
def poolList (es : List (Nat × CpInfo)) (last : Nat) : List CpInfo := es.foldr (fun e r => gap e.1 (e.2 :: r)) (gap last [])
def pool (es : List (Nat × CpInfo)) (last : Nat) : Array CpInfo := ⟨poolList es last⟩
def fileOf (pool : Array CpInfo) (this : Nat) (attrs : Array Attribute := #[]) (ms : Array MethodInfo := #[]) (fl : Nat := 33) (sup : Nat := 0) (ifs : Array Nat := #[]) (fds : Array FieldInfo := #[]) : ClassFile where
  minorVersion := 0
  majorVersion := 65
  constantPool := pool
  accessFlags := fl
  thisClass := this
  superClass := sup
  interfaces := ifs
  fields := fds
  methods := ms
  attributes := attrs
def plain (name : String) (sup : Option ClassId) : Class where
  name := name
  kind := .ordinary
  loader := none
  accessFlags := 33
  super := sup
  interfaces := #[]
  cf := none
  fields := #[]
  methods := #[]
  instanceTypes := #[]
  staticTypes := #[]
  resolved := #[]
  callSites := []
  init := .initialized
  statics := none
  mirror := none

def pool0 : Array CpInfo := pool [(5, u "<init>"), (0, u "()V"), (1, .class_ 10), (1, u "java/lang/Object")] 113

def k0m0 : Method := { name := "<init>", desc := "()V", sig := { parameters := [], returnType := none }, accessFlags := 1, code := none }
/-- java/lang/Object -/
def k0 : Class := { plain "java/lang/Object" none with
  accessFlags := 33
  interfaces := #[]
  cf := some (fileOf pool0 8 #[] #[{ accessFlags := 1, nameIndex := 5, descriptorIndex := 6, attributes := #[] }] 33 0 #[] #[])
  fields := #[]
  methods := #[k0m0]
  instanceTypes := #[]
  staticTypes := #[]
  resolved := Array.replicate 124 none
  statics := none }

def pool1 : Array CpInfo := pool [(2, .class_ 4), (1, u "java/lang/Object"), (0, u "<init>"), (0, u "()V"), (0, .fieldref 8 9), (0, .class_ 10), (0, .nameAndType 11 12), (0, u "com/example/demi_orm/demiorm/query/Operator"), (0, u "EQUALS"), (0, u "Lcom/example/demi_orm/demiorm/query/Operator;"), (0, .fieldref 8 14), (0, .nameAndType 15 12), (0, u "NOT_EQUALS"), (0, .fieldref 8 17), (0, .nameAndType 18 12), (0, u "LESS_THAN"), (0, .fieldref 8 20), (0, .nameAndType 21 12), (0, u "LESS_THAN_OR_EQUAL"), (0, .fieldref 8 23), (0, .nameAndType 24 12), (0, u "GREATER_THAN"), (0, .fieldref 8 26), (0, .nameAndType 27 12), (0, u "GREATER_THAN_OR_EQUAL"), (0, .fieldref 8 29), (0, .nameAndType 30 12), (0, u "BETWEEN"), (0, .fieldref 8 32), (0, .nameAndType 33 12), (0, u "IS_NULL"), (0, .fieldref 8 35), (0, .nameAndType 36 12), (0, u "IS_NOT_NULL"), (0, .fieldref 8 38), (0, .nameAndType 39 12), (0, u "LIKE"), (0, .fieldref 8 41), (0, .nameAndType 42 12), (0, u "NOT_LIKE"), (0, .fieldref 8 44), (0, .nameAndType 45 12), (0, u "STARTING_WITH"), (0, .fieldref 8 47), (0, .nameAndType 48 12), (0, u "ENDING_WITH"), (0, .fieldref 8 50), (0, .nameAndType 51 12), (0, u "CONTAINING"), (0, .fieldref 8 53), (0, .nameAndType 54 12), (0, u "IN"), (0, .fieldref 8 56), (0, .nameAndType 57 12), (0, u "NOT_IN"), (0, .methodref 59 60), (0, .class_ 61), (0, .nameAndType 62 63), (0, u "com/example/demi_orm/demiorm/query/OperatorTakesCollectionPinLaw"), (0, u "pick"), (0, u "(I)Lcom/example/demi_orm/demiorm/query/Operator;"), (0, .methodref 8 65), (0, .nameAndType 66 67), (0, u "takesCollection"), (0, u "()Z"), (0, .methodref 8 69), (0, .nameAndType 70 71), (0, u "arity"), (0, u "()I"), (0, .methodref 8 73), (0, .nameAndType 74 67), (0, u "comparesText"), (0, .methodref 8 76), (0, .nameAndType 77 67), (0, u "takesNull"), (3, u "law"), (0, u "(I)Z")] 2

def k1m0 : Method := { name := "<init>", desc := "()V", sig := { parameters := [], returnType := none }, accessFlags := 1, code := none }
def k1c1 : Code := { maxStack := 2, maxLocals := 1, code := method_2_code, exceptionTable := #[], attributes := #[] }
def k1m1 : Method := { name := "pick", desc := "(I)Lcom/example/demi_orm/demiorm/query/Operator;", sig := { parameters := [.int], returnType := some (.object "com/example/demi_orm/demiorm/query/Operator") }, accessFlags := 10, code := some k1c1 }
def k1c2 : Code := { maxStack := 2, maxLocals := 5, code := code, exceptionTable := #[], attributes := #[] }
def k1m2 : Method := { name := "law", desc := "(I)Z", sig := { parameters := [.int], returnType := some .boolean }, accessFlags := 9, code := some k1c2 }
/-- com/example/demi_orm/demiorm/query/OperatorTakesCollectionPinLaw -/
def k1 : Class := { plain "com/example/demi_orm/demiorm/query/OperatorTakesCollectionPinLaw" (some 0) with
  accessFlags := 49
  interfaces := #[]
  cf := some (fileOf pool1 59 #[] #[{ accessFlags := 1, nameIndex := 5, descriptorIndex := 6, attributes := #[] }, { accessFlags := 10, nameIndex := 62, descriptorIndex := 63, attributes := #[] }, { accessFlags := 9, nameIndex := 81, descriptorIndex := 82, attributes := #[] }] 49 2 #[] #[])
  fields := #[]
  methods := #[k1m0, k1m1, k1m2]
  instanceTypes := #[]
  staticTypes := #[]
  resolved := Array.replicate 85 none
  statics := none }

def pool2 : Array CpInfo := pool [(1, .class_ 2), (0, u "java/lang/constant/Constable"), (0, .class_ 4), (0, u "java/lang/Object")] 6

/-- java/lang/constant/Constable -/
def k2 : Class := { plain "java/lang/constant/Constable" (some 0) with
  accessFlags := 1537
  interfaces := #[]
  cf := some (fileOf pool2 1 #[] #[] 1537 3 #[] #[])
  fields := #[]
  methods := #[]
  instanceTypes := #[]
  staticTypes := #[]
  resolved := Array.replicate 11 none
  statics := none }

def pool3 : Array CpInfo := pool [(1, .class_ 2), (0, u "java/lang/Comparable"), (0, .class_ 4), (0, u "java/lang/Object")] 7

/-- java/lang/Comparable -/
def k3 : Class := { plain "java/lang/Comparable" (some 0) with
  accessFlags := 1537
  interfaces := #[]
  cf := some (fileOf pool3 1 #[] #[] 1537 3 #[] #[])
  fields := #[]
  methods := #[]
  instanceTypes := #[]
  staticTypes := #[]
  resolved := Array.replicate 12 none
  statics := none }

def pool4 : Array CpInfo := pool [(1, .class_ 2), (0, u "java/io/Serializable"), (0, .class_ 4), (0, u "java/lang/Object")] 2

/-- java/io/Serializable -/
def k4 : Class := { plain "java/io/Serializable" (some 0) with
  accessFlags := 1537
  interfaces := #[]
  cf := some (fileOf pool4 1 #[] #[] 1537 3 #[] #[])
  fields := #[]
  methods := #[]
  instanceTypes := #[]
  staticTypes := #[]
  resolved := Array.replicate 7 none
  statics := none }

def pool5 : Array CpInfo := pool [(2, .class_ 4), (1, u "java/lang/Enum"), (0, u "name"), (0, u "Ljava/lang/String;"), (2, u "ordinal"), (0, u "I"), (1, .class_ 14), (1, u "java/lang/Object"), (4, u "hash"), (86, .class_ 108), (1, u "java/lang/Enum$EnumDesc"), (2, .class_ 112), (0, u "java/lang/constant/Constable"), (0, .class_ 114), (0, u "java/lang/Comparable"), (0, .class_ 116), (0, u "java/io/Serializable")] 87

/-- java/lang/Enum -/
def k5 : Class := { plain "java/lang/Enum" (some 0) with
  accessFlags := 1057
  interfaces := #[2, 3, 4]
  cf := some (fileOf pool5 2 #[.nestMembers #[106]] #[] 1057 12 #[111, 113, 115] #[{ accessFlags := 18, nameIndex := 5, descriptorIndex := 6, attributes := #[] }, { accessFlags := 18, nameIndex := 9, descriptorIndex := 10, attributes := #[] }, { accessFlags := 2, nameIndex := 19, descriptorIndex := 10, attributes := #[] }])
  fields := #[{ name := "name", type := (.object "java/lang/String"), accessFlags := 18, slot := 0, constantValue := 0 }, { name := "ordinal", type := .int, accessFlags := 18, slot := 1, constantValue := 0 }, { name := "hash", type := .int, accessFlags := 2, slot := 2, constantValue := 0 }]
  methods := #[]
  instanceTypes := #[(.object "java/lang/String"), .int, .int]
  staticTypes := #[]
  resolved := Array.replicate 204 none
  statics := none }

def pool6 : Array CpInfo := pool [(1, .class_ 2), (0, u "com/example/demi_orm/demiorm/query/Operator"), (0, .fieldref 1 4), (0, .nameAndType 5 6), (0, u "EQUALS"), (0, u "Lcom/example/demi_orm/demiorm/query/Operator;"), (0, .fieldref 1 8), (0, .nameAndType 9 6), (0, u "NOT_EQUALS"), (2, u "LESS_THAN"), (2, u "LESS_THAN_OR_EQUAL"), (2, u "GREATER_THAN"), (2, u "GREATER_THAN_OR_EQUAL"), (2, u "BETWEEN"), (2, u "IS_NULL"), (2, u "IS_NOT_NULL"), (0, .fieldref 1 32), (0, .nameAndType 33 6), (0, u "LIKE"), (0, .fieldref 1 35), (0, .nameAndType 36 6), (0, u "NOT_LIKE"), (0, .fieldref 1 38), (0, .nameAndType 39 6), (0, u "STARTING_WITH"), (0, .fieldref 1 41), (0, .nameAndType 42 6), (0, u "ENDING_WITH"), (0, .fieldref 1 44), (0, .nameAndType 45 6), (0, u "CONTAINING"), (0, .fieldref 1 47), (0, .nameAndType 48 6), (0, u "IN"), (0, .fieldref 1 50), (0, .nameAndType 51 6), (0, u "NOT_IN"), (2, u "$VALUES"), (0, u "[Lcom/example/demi_orm/demiorm/query/Operator;"), (6, .class_ 64), (1, u "java/lang/Enum"), (6, .fieldref 1 72), (0, .nameAndType 73 74), (0, u "arity"), (0, u "I"), (8, u "keywords"), (0, u "Ljava/util/List;"), (71, u "()I"), (2, u "comparesText"), (0, u "()Z"), (1, u "takesCollection"), (0, u "takesNull")] 5

def k6c0 : Code := { maxStack := 1, maxLocals := 1, code := prog_15_method_4_code, exceptionTable := #[], attributes := #[] }
def k6m0 : Method := { name := "arity", desc := "()I", sig := { parameters := [], returnType := some .int }, accessFlags := 1, code := some k6c0 }
def k6c1 : Code := { maxStack := 2, maxLocals := 1, code := prog_15_method_6_code, exceptionTable := #[], attributes := #[] }
def k6m1 : Method := { name := "comparesText", desc := "()Z", sig := { parameters := [], returnType := some .boolean }, accessFlags := 1, code := some k6c1 }
def k6c2 : Code := { maxStack := 2, maxLocals := 1, code := prog_15_method_7_code, exceptionTable := #[], attributes := #[] }
def k6m2 : Method := { name := "takesCollection", desc := "()Z", sig := { parameters := [], returnType := some .boolean }, accessFlags := 1, code := some k6c2 }
def k6c3 : Code := { maxStack := 2, maxLocals := 1, code := prog_15_method_8_code, exceptionTable := #[], attributes := #[] }
def k6m3 : Method := { name := "takesNull", desc := "()Z", sig := { parameters := [], returnType := some .boolean }, accessFlags := 1, code := some k6c3 }
/-- com/example/demi_orm/demiorm/query/Operator -/
def k6 : Class := { plain "com/example/demi_orm/demiorm/query/Operator" (some 5) with
  accessFlags := 16433
  interfaces := #[]
  cf := some (fileOf pool6 1 #[] #[{ accessFlags := 1, nameIndex := 73, descriptorIndex := 156, attributes := #[] }, { accessFlags := 1, nameIndex := 159, descriptorIndex := 160, attributes := #[] }, { accessFlags := 1, nameIndex := 162, descriptorIndex := 160, attributes := #[] }, { accessFlags := 1, nameIndex := 163, descriptorIndex := 160, attributes := #[] }] 16433 62 #[] #[{ accessFlags := 16409, nameIndex := 5, descriptorIndex := 6, attributes := #[] }, { accessFlags := 16409, nameIndex := 9, descriptorIndex := 6, attributes := #[] }, { accessFlags := 16409, nameIndex := 12, descriptorIndex := 6, attributes := #[] }, { accessFlags := 16409, nameIndex := 15, descriptorIndex := 6, attributes := #[] }, { accessFlags := 16409, nameIndex := 18, descriptorIndex := 6, attributes := #[] }, { accessFlags := 16409, nameIndex := 21, descriptorIndex := 6, attributes := #[] }, { accessFlags := 16409, nameIndex := 24, descriptorIndex := 6, attributes := #[] }, { accessFlags := 16409, nameIndex := 27, descriptorIndex := 6, attributes := #[] }, { accessFlags := 16409, nameIndex := 30, descriptorIndex := 6, attributes := #[] }, { accessFlags := 16409, nameIndex := 33, descriptorIndex := 6, attributes := #[] }, { accessFlags := 16409, nameIndex := 36, descriptorIndex := 6, attributes := #[] }, { accessFlags := 16409, nameIndex := 39, descriptorIndex := 6, attributes := #[] }, { accessFlags := 16409, nameIndex := 42, descriptorIndex := 6, attributes := #[] }, { accessFlags := 16409, nameIndex := 45, descriptorIndex := 6, attributes := #[] }, { accessFlags := 16409, nameIndex := 48, descriptorIndex := 6, attributes := #[] }, { accessFlags := 16409, nameIndex := 51, descriptorIndex := 6, attributes := #[] }, { accessFlags := 18, nameIndex := 73, descriptorIndex := 74, attributes := #[] }, { accessFlags := 18, nameIndex := 83, descriptorIndex := 84, attributes := #[] }, { accessFlags := 4122, nameIndex := 54, descriptorIndex := 55, attributes := #[] }])
  fields := #[{ name := "EQUALS", type := (.object "com/example/demi_orm/demiorm/query/Operator"), accessFlags := 16409, slot := 0, constantValue := 0 }, { name := "NOT_EQUALS", type := (.object "com/example/demi_orm/demiorm/query/Operator"), accessFlags := 16409, slot := 1, constantValue := 0 }, { name := "LESS_THAN", type := (.object "com/example/demi_orm/demiorm/query/Operator"), accessFlags := 16409, slot := 2, constantValue := 0 }, { name := "LESS_THAN_OR_EQUAL", type := (.object "com/example/demi_orm/demiorm/query/Operator"), accessFlags := 16409, slot := 3, constantValue := 0 }, { name := "GREATER_THAN", type := (.object "com/example/demi_orm/demiorm/query/Operator"), accessFlags := 16409, slot := 4, constantValue := 0 }, { name := "GREATER_THAN_OR_EQUAL", type := (.object "com/example/demi_orm/demiorm/query/Operator"), accessFlags := 16409, slot := 5, constantValue := 0 }, { name := "BETWEEN", type := (.object "com/example/demi_orm/demiorm/query/Operator"), accessFlags := 16409, slot := 6, constantValue := 0 }, { name := "IS_NULL", type := (.object "com/example/demi_orm/demiorm/query/Operator"), accessFlags := 16409, slot := 7, constantValue := 0 }, { name := "IS_NOT_NULL", type := (.object "com/example/demi_orm/demiorm/query/Operator"), accessFlags := 16409, slot := 8, constantValue := 0 }, { name := "LIKE", type := (.object "com/example/demi_orm/demiorm/query/Operator"), accessFlags := 16409, slot := 9, constantValue := 0 }, { name := "NOT_LIKE", type := (.object "com/example/demi_orm/demiorm/query/Operator"), accessFlags := 16409, slot := 10, constantValue := 0 }, { name := "STARTING_WITH", type := (.object "com/example/demi_orm/demiorm/query/Operator"), accessFlags := 16409, slot := 11, constantValue := 0 }, { name := "ENDING_WITH", type := (.object "com/example/demi_orm/demiorm/query/Operator"), accessFlags := 16409, slot := 12, constantValue := 0 }, { name := "CONTAINING", type := (.object "com/example/demi_orm/demiorm/query/Operator"), accessFlags := 16409, slot := 13, constantValue := 0 }, { name := "IN", type := (.object "com/example/demi_orm/demiorm/query/Operator"), accessFlags := 16409, slot := 14, constantValue := 0 }, { name := "NOT_IN", type := (.object "com/example/demi_orm/demiorm/query/Operator"), accessFlags := 16409, slot := 15, constantValue := 0 }, { name := "arity", type := .int, accessFlags := 18, slot := 3, constantValue := 0 }, { name := "keywords", type := (.object "java/util/List"), accessFlags := 18, slot := 4, constantValue := 0 }, { name := "$VALUES", type := (.array (.object "com/example/demi_orm/demiorm/query/Operator")), accessFlags := 4122, slot := 16, constantValue := 0 }]
  methods := #[k6m0, k6m1, k6m2, k6m3]
  instanceTypes := #[(.object "java/lang/String"), .int, .int, .int, (.object "java/util/List")]
  staticTypes := #[(.object "com/example/demi_orm/demiorm/query/Operator"), (.object "com/example/demi_orm/demiorm/query/Operator"), (.object "com/example/demi_orm/demiorm/query/Operator"), (.object "com/example/demi_orm/demiorm/query/Operator"), (.object "com/example/demi_orm/demiorm/query/Operator"), (.object "com/example/demi_orm/demiorm/query/Operator"), (.object "com/example/demi_orm/demiorm/query/Operator"), (.object "com/example/demi_orm/demiorm/query/Operator"), (.object "com/example/demi_orm/demiorm/query/Operator"), (.object "com/example/demi_orm/demiorm/query/Operator"), (.object "com/example/demi_orm/demiorm/query/Operator"), (.object "com/example/demi_orm/demiorm/query/Operator"), (.object "com/example/demi_orm/demiorm/query/Operator"), (.object "com/example/demi_orm/demiorm/query/Operator"), (.object "com/example/demi_orm/demiorm/query/Operator"), (.object "com/example/demi_orm/demiorm/query/Operator"), (.array (.object "com/example/demi_orm/demiorm/query/Operator"))]
  resolved := Array.replicate 169 none
  statics := some 0 }

def pool7 : Array CpInfo := pool [(1, u "java/lang/Cloneable"), (0, .class_ 1), (0, u "java/lang/Object"), (0, .class_ 3)] 3

/-- java/lang/Cloneable -/
def k7 : Class := { plain "java/lang/Cloneable" (some 0) with
  accessFlags := 1537
  interfaces := #[]
  cf := some (fileOf pool7 2 #[] #[] 1537 4 #[] #[])
  fields := #[]
  methods := #[]
  instanceTypes := #[]
  staticTypes := #[]
  resolved := Array.replicate 8 none
  statics := none }

/-- the primitive byte -/
def k8 : Class := { plain "byte" none with kind := .primitive 'B', accessFlags := 0x411 }
/-- [B -/
def k9 : Class := { plain "[B" (some 0) with kind := .array 8 .byte, interfaces := #[7, 4], accessFlags := 1041 }

/-- the primitive int -/
def k10 : Class := { plain "int" none with kind := .primitive 'I', accessFlags := 0x411 }
/-- [I -/
def k11 : Class := { plain "[I" (some 0) with kind := .array 10 .int, interfaces := #[7, 4], accessFlags := 1041 }

def heap : Heap := #[{ cls := 6, slots := #[.ref 1, .ref 2, .ref 3, .ref 4, .ref 5, .ref 6, .ref 7, .ref 8, .ref 9, .ref 10, .ref 11, .ref 12, .ref 13, .ref 14, .ref 15, .ref 16, .null], vm := .statics 6 },
  { cls := 6, slots := #[.null, .int 0, .int 0, .int 1, .null], vm := .none },
  { cls := 6, slots := #[.null, .int 1, .int 0, .int 1, .null], vm := .none },
  { cls := 6, slots := #[.null, .int 2, .int 0, .int 1, .null], vm := .none },
  { cls := 6, slots := #[.null, .int 3, .int 0, .int 1, .null], vm := .none },
  { cls := 6, slots := #[.null, .int 4, .int 0, .int 1, .null], vm := .none },
  { cls := 6, slots := #[.null, .int 5, .int 0, .int 1, .null], vm := .none },
  { cls := 6, slots := #[.null, .int 6, .int 0, .int 2, .null], vm := .none },
  { cls := 6, slots := #[.null, .int 7, .int 0, .int 0, .null], vm := .none },
  { cls := 6, slots := #[.null, .int 8, .int 0, .int 0, .null], vm := .none },
  { cls := 6, slots := #[.null, .int 9, .int 0, .int 1, .null], vm := .none },
  { cls := 6, slots := #[.null, .int 10, .int 0, .int 1, .null], vm := .none },
  { cls := 6, slots := #[.null, .int 11, .int 0, .int 1, .null], vm := .none },
  { cls := 6, slots := #[.null, .int 12, .int 0, .int 1, .null], vm := .none },
  { cls := 6, slots := #[.null, .int 13, .int 0, .int 1, .null], vm := .none },
  { cls := 6, slots := #[.null, .int 14, .int 0, .int 1, .null], vm := .none },
  { cls := 6, slots := #[.null, .int 15, .int 0, .int 1, .null], vm := .none }]
def classes : Array Class := #[k0, k1, k2, k3, k4, k5, k6, k7, k8, k9, k10, k11]
def interned : List (Array UInt16 × Addr) := []
def slotsUsed : Nat := 97
def theMethod : MethodId := ⟨1, 2⟩
def args0 : Array Value := #[.int 5]
def aboutOver (below : List Frame) : State where
  vm := { classes := classes, interned := interned.toArray }
  heap := heap
  slotsUsed := slotsUsed
  threads := #[{ frames := .invoking theMethod args0 :: below }]
def below0 : List Frame := [.native { method := ⟨0, 0⟩, args := #[] }]
def about1 : State := aboutOver below0
def p0 : Program := .bare "" "" ""
def e0 : Env := launch0.env 0 0 0
theorem w_frames : about1.frames = Frame.invoking theMethod args0 :: below0 := rfl
set_option maxRecDepth 65536 in
theorem w_args : argsFit about1.vm theMethod args0 = true := by decide +kernel
set_option maxRecDepth 65536 in
theorem w_heap : heapFits about1 = true := by decide +kernel
set_option maxRecDepth 65536 in
theorem w_runnable : about1.curStatus? = some .runnable := by decide +kernel
set_option maxRecDepth 65536 in
theorem w_alone : about1.alone = true := by decide +kernel
set_option maxRecDepth 65536 in
theorem w_named : about1.methodNamed? x = some theMethod := by decide +kernel
set_option maxRecDepth 65536 in
theorem w_hears : about1.hears theMethod below0 = true := by decide +kernel
set_option maxRecDepth 65536 in
theorem w_ripe : about1.ripe theMethod args0 below0 = true := by decide +kernel
theorem w_running : about1.status = .running := rfl
set_option maxRecDepth 65536 in
theorem w_room : about1.hasRoom e0.platform room_1 = true :=
  launch0.hasRoom_least _ room_1 (by decide +kernel) (by decide +kernel) (by decide +kernel) (by decide +kernel) (by decide +kernel) (by decide +kernel)
theorem allAtoms_all (ts : List Jvm.Cond) (a : Array Jvm.Value) (st : Jvm.State) : (allAtoms ts).before a st = ts.all (fun c => c.before a st) := by
  induction ts with
  | nil => rfl
  | cons c t ih =>
    show (Jvm.Cond.and c (allAtoms t)).before a st = _
    rw [Jvm.Cond.before_and, ih, List.all_cons]
def words1 : List Jvm.Cond := Jvm.Cond.code x code maxLocals ret :: tables_1
/-- a 'code' word, met by the world's own term for the bytes: nothing is compared byte by byte -/
theorem code_word {y : MethodName} {bytes : ByteArray} {mx : Nat} {rt : Option FieldType} {a : Array Value} {s : State} {m : MethodId} {meth : Method} {c : Code} (h1 : s.methodNamed? y = some m) (h2 : s.vm.method? m = some meth) (h3 : meth.code = some c) (h4 : c.code = bytes)
    (h5 : (c.maxLocals == mx && c.exceptionTable.isEmpty && decide (c.maxStack ≤ mostOperands) && decide (meth.sig.returnType = rt) && !meth.locks && decide (parseMethodDescriptor y.desc = some meth.sig)) = true) : (Jvm.Cond.code y bytes mx rt).before a s = true := by
  simp only [Bool.and_eq_true, beq_iff_eq, Bool.not_eq_true', decide_eq_true_eq] at h5
  obtain ⟨⟨⟨⟨⟨g1, g2⟩, g3⟩, g4⟩, g5⟩, g6⟩ := h5
  simp [Cond.before, Cond.holds, Cond.value, h1, h2, h3, h4, g1, g2, g3, g4, g5, g6]
def isCode : Jvm.Cond → Bool
  | .code _ _ _ _ => true
  | _ => false
theorem all_split {L : List Jvm.Cond} {P : Jvm.Cond → Bool} (h1 : L.all (fun c => isCode c || P c) = true) (h2 : ∀ c ∈ L.filter isCode, P c = true) : L.all P = true := by
  refine List.all_eq_true.mpr fun c hc => ?_
  have h := List.all_eq_true.mp h1 c hc
  rcases Bool.eq_false_or_eq_true (isCode c) with hi | hi
  · exact h2 c (List.mem_filter.mpr ⟨hc, hi⟩)
  · simpa [hi] using h
set_option maxRecDepth 65536 in
theorem w_c0 : (Jvm.Cond.code x code maxLocals ret).before args0 about1 = true := code_word (m := ⟨1, 2⟩) (meth := k1m2) (c := k1c2) (by decide +kernel) rfl rfl rfl (by decide +kernel)
set_option maxRecDepth 65536 in
theorem w_c1 : (Jvm.Cond.code ({ cls := "com/example/demi_orm/demiorm/query/OperatorTakesCollectionPinLaw", name := "pick", desc := "(I)Lcom/example/demi_orm/demiorm/query/Operator;" } : Jvm.MethodName) method_2_code (1 : Nat) (Option.some (Jvm.ClassFile.FieldType.object "com/example/demi_orm/demiorm/query/Operator"))).before args0 about1 = true := code_word (m := ⟨1, 1⟩) (meth := k1m1) (c := k1c1) (by decide +kernel) rfl rfl rfl (by decide +kernel)
set_option maxRecDepth 65536 in
theorem w_c2 : (Jvm.Cond.code ({ cls := "com/example/demi_orm/demiorm/query/Operator", name := "takesCollection", desc := "()Z" } : Jvm.MethodName) prog_15_method_7_code (1 : Nat) (Option.some Jvm.ClassFile.FieldType.boolean)).before args0 about1 = true := code_word (m := ⟨6, 2⟩) (meth := k6m2) (c := k6c2) (by decide +kernel) rfl rfl rfl (by decide +kernel)
set_option maxRecDepth 65536 in
theorem w_c3 : (Jvm.Cond.code ({ cls := "com/example/demi_orm/demiorm/query/Operator", name := "arity", desc := "()I" } : Jvm.MethodName) prog_15_method_4_code (1 : Nat) (Option.some Jvm.ClassFile.FieldType.int)).before args0 about1 = true := code_word (m := ⟨6, 0⟩) (meth := k6m0) (c := k6c0) (by decide +kernel) rfl rfl rfl (by decide +kernel)
set_option maxRecDepth 65536 in
theorem w_c4 : (Jvm.Cond.code ({ cls := "com/example/demi_orm/demiorm/query/Operator", name := "comparesText", desc := "()Z" } : Jvm.MethodName) prog_15_method_6_code (1 : Nat) (Option.some Jvm.ClassFile.FieldType.boolean)).before args0 about1 = true := code_word (m := ⟨6, 1⟩) (meth := k6m1) (c := k6c1) (by decide +kernel) rfl rfl rfl (by decide +kernel)
set_option maxRecDepth 65536 in
theorem w_c5 : (Jvm.Cond.code ({ cls := "com/example/demi_orm/demiorm/query/Operator", name := "takesNull", desc := "()Z" } : Jvm.MethodName) prog_15_method_8_code (1 : Nat) (Option.some Jvm.ClassFile.FieldType.boolean)).before args0 about1 = true := code_word (m := ⟨6, 3⟩) (meth := k6m3) (c := k6c3) (by decide +kernel) rfl rfl rfl (by decide +kernel)
def codes1 : List Jvm.Cond := [Jvm.Cond.code x code maxLocals ret, Jvm.Cond.code ({ cls := "com/example/demi_orm/demiorm/query/OperatorTakesCollectionPinLaw", name := "pick", desc := "(I)Lcom/example/demi_orm/demiorm/query/Operator;" } : Jvm.MethodName) method_2_code (1 : Nat) (Option.some (Jvm.ClassFile.FieldType.object "com/example/demi_orm/demiorm/query/Operator")), Jvm.Cond.code ({ cls := "com/example/demi_orm/demiorm/query/Operator", name := "takesCollection", desc := "()Z" } : Jvm.MethodName) prog_15_method_7_code (1 : Nat) (Option.some Jvm.ClassFile.FieldType.boolean), Jvm.Cond.code ({ cls := "com/example/demi_orm/demiorm/query/Operator", name := "arity", desc := "()I" } : Jvm.MethodName) prog_15_method_4_code (1 : Nat) (Option.some Jvm.ClassFile.FieldType.int), Jvm.Cond.code ({ cls := "com/example/demi_orm/demiorm/query/Operator", name := "comparesText", desc := "()Z" } : Jvm.MethodName) prog_15_method_6_code (1 : Nat) (Option.some Jvm.ClassFile.FieldType.boolean), Jvm.Cond.code ({ cls := "com/example/demi_orm/demiorm/query/Operator", name := "takesNull", desc := "()Z" } : Jvm.MethodName) prog_15_method_8_code (1 : Nat) (Option.some Jvm.ClassFile.FieldType.boolean)]
set_option maxRecDepth 65536 in
theorem codes_eq : words1.filter isCode = codes1 := rfl
theorem w_codes : ∀ c ∈ words1.filter isCode, c.before args0 about1 = true := by
  rw [codes_eq]
  intro c hc
  simp only [codes1, List.mem_cons, List.not_mem_nil, or_false] at hc
  rcases hc with rfl | rfl | rfl | rfl | rfl | rfl
  · exact w_c0
  · exact w_c1
  · exact w_c2
  · exact w_c3
  · exact w_c4
  · exact w_c5
set_option maxRecDepth 65536 in
theorem w_t1 : (words1.take 24).all (fun c => isCode c || c.before args0 about1) = true := by decide +kernel
set_option maxRecDepth 65536 in
theorem w_t2 : ((words1.drop 24).take 24).all (fun c => isCode c || c.before args0 about1) = true := by decide +kernel
set_option maxRecDepth 65536 in
theorem w_t3 : ((words1.drop 24).drop 24).all (fun c => isCode c || c.before args0 about1) = true := by decide +kernel
theorem w_tables : (allAtoms (Jvm.Cond.code x code maxLocals ret :: tables_1)).before args0 about1 = true := by
  rw [allAtoms_all]
  show words1.all (fun c => c.before args0 about1) = true
  refine all_split ?_ w_codes
  rw [← List.take_append_drop 24 words1, List.all_append, w_t1, ← List.take_append_drop 24 (words1.drop 24), List.all_append, w_t2, w_t3]
  rfl
set_option maxRecDepth 65536 in
theorem w_case : (Jvm.Cond.and given_1 narrow_1).before args0 about1 = true := by decide +kernel
theorem w_applies : (headSpec (Jvm.Cond.code x code maxLocals ret :: tables_1) room_1).applies x e0.platform about1 = true :=
  (Spec.applies_iff w_frames).mpr ⟨w_running, w_runnable, w_alone, w_named, w_hears, w_ripe, w_room, w_tables⟩
theorem atStart : AtStart classFile x code maxLocals ret World_1 tables_1 room_1 Calls_1 rest_1 Pre_1 launch0 p0 e0 about1 theMethod args0 below0 :=
  ⟨lists_1, trivial, launch0.admits_env _ _ _, launch0.least_env, fairChoices_fair.cas, fairChoices_fair.clock, w_frames, w_args, w_heap, w_applies, trivial, trivial, w_case⟩
end start1
theorem witness_1 : WitnessClaimed_1 := ⟨start1.p0, start1.e0, start1.about1, start1.theMethod, start1.args0, start1.below0, start1.atStart⟩
end Jvm.Pilot.@@N@@
