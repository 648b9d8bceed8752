import JvmDerived
import JvmDerived.Pilot.@@N@@Statement
import JvmDerived.Pilot.@@N@@Code
set_option linter.unusedVariables false
set_option linter.unusedSimpArgs false
@@BLOCK:NumsL.lean.txt@@
namespace Jvm.Pilot.@@N@@
open Jvm Jvm.ClassFile Sem Op Lib Jvm.Free Jvm.Stand Jvm.LawKit Jvm.RoadKit Bundle Jvm.Pilot.@@N@@.Jvm.D
/-! the goal of a body's walk, closed under steps that lead to where it holds -/
def Gl (p : Program) (e : Env) (below : List Frame) (s : State) (Q : Option Value → Heap → List Loc → Prop) (k n : Nat) (S0 : State) : Prop :=
  ∃ s₂ o, Steps p.tables e below S0 s₂ ∧ s₂.status = .running ∧ Ended s₂ below o ∧ ∃ v L, o = .returned v ∧ Q v s₂.heap L ∧ FrameEnd s o s₂ L k n
theorem Gl.back {p : Program} {e : Env} {below : List Frame} {s : State} {Q : Option Value → Heap → List Loc → Prop} {k n : Nat} {S0 S1 : State} (h : ∀ t, Steps p.tables e below S1 t → Steps p.tables e below S0 t) (g : Gl p e below s Q k n S1) : Gl p e below s Q k n S0 := by
  obtain ⟨s₂, o, h1, r⟩ := g; exact ⟨s₂, o, h _ h1, r⟩
theorem Gl.ret {p : Program} {l : Launch} {e : Env} {R : Room} {s : State} {m : MethodId} {args : Array Value} {below : List Frame} {meth : Method} {c : Code} {T : State} {locs : List Loc} {cells slots : Nat} (X : Stand p l e R s m args below meth c T locs cells slots) {h : Heap} (eT : T.heap = h)
    {v : Option Value} (hv : meth.sig.returnType = none → v = none) (hlocks : meth.locks = false) {S0 : State} (st : ∀ fs, (∀ (f : JFrame) (acts : List Action), f.method = m → f.locked = none → f.entered = [] → (doReturn e (T.setTop f) acts v).1 = T.setFrames fs) → Steps p.tables e below S0 (T.setFrames fs))
    {Q : Option Value → Heap → List Loc → Prop} {k n : Nat} (hQ : Q v h locs) (hk : cells ≤ k) (hn : slots ≤ n) : Gl p e below s Q k n S0 := by
  obtain ⟨fs, hr, hrun, hended, hW, hsame⟩ := X.leave (v := v) hv hlocks
  exact ⟨_, _, st fs hr, hrun, hended, v, locs, rfl, eT ▸ hQ, ⟨_, rfl⟩, hW, hsame.mono hk hn⟩
def GlW (p : Program) (e : Env) (below : List Frame) (s : State) (Q : Option Value → Heap → List Loc → Prop) (k n : Nat) (S0 : State) : Prop :=
  ∃ s₂ o, Steps p.tables e below S0 s₂ ∧ s₂.status = .running ∧ Ended s₂ below o ∧ ∃ v L, o = .returned v ∧ Q v s₂.heap L ∧ ReturnedEndW s o s₂ L k n
theorem GlW.back {p : Program} {e : Env} {below : List Frame} {s : State} {Q : Option Value → Heap → List Loc → Prop} {k n : Nat} {S0 S1 : State} (h : ∀ t, Steps p.tables e below S1 t → Steps p.tables e below S0 t) (g : GlW p e below s Q k n S1) : GlW p e below s Q k n S0 := by
  obtain ⟨s₂, o, h1, r⟩ := g; exact ⟨s₂, o, h _ h1, r⟩
theorem GlW.ret {p : Program} {l : Launch} {e : Env} {R : Room} {s : State} {vm0 : Vm} {m : MethodId} {args : Array Value} {below : List Frame} {meth : Method} {c : Code} {T : State} {locs : List Loc} {cells slots : Nat} (X : Stand p l e R (s.setVm vm0) m args below meth c T locs cells slots) {h : Heap} (eT : T.heap = h)
    {k0 : Nat} (hS : s.Since vm0 k0) (hk0 : k0 ≤ h.size) {v : Option Value} (hv : meth.sig.returnType = none → v = none) (hlocks : meth.locks = false) {S0 : State} (st : ∀ fs, (∀ (f : JFrame) (acts : List Action), f.method = m → f.locked = none → f.entered = [] → (doReturn e (T.setTop f) acts v).1 = T.setFrames fs) → Steps p.tables e below S0 (T.setFrames fs))
    {Q : Option Value → Heap → List Loc → Prop} {k n : Nat} (hQ : Q v h locs) (hk : cells ≤ k) (hn : slots ≤ n) : GlW p e below s Q k n S0 := by
  obtain ⟨fs, hr, hrun, hended, hE⟩ := X.leaveW hS (by rw [eT]; exact hk0) (v := v) hv hlocks
  exact ⟨_, _, st fs hr, hrun, hended, v, locs, rfl, eT ▸ hQ, hE.1, hE.2.1, hE.2.2.1, hE.2.2.2.mono hk hn⟩
theorem own_lcL {x y : Int64} (h : x < y) : lcmpW x y < 0 := by rw [lcW]; exact (lc_lt x y).mpr h
theorem own_lcLn {x y : Int64} (h : ¬ x < y) : ¬ lcmpW x y < 0 := by rw [lcW]; exact fun q => h ((lc_lt x y).mp q)
theorem own_lcG {x y : Int64} (h : y < x) : 0 < lcmpW x y := by rw [lcW]; exact (lc_gt x y).mpr h
theorem own_lcGn {x y : Int64} (h : ¬ y < x) : ¬ 0 < lcmpW x y := by rw [lcW]; exact fun q => h ((lc_gt x y).mp q)
theorem own_lcE {x y : Int64} (h : x = y) : lcmpW x y = 0 := by rw [lcW]; exact (lc_eq x y).mpr h
theorem own_lcEn {x y : Int64} (h : ¬ x = y) : ¬ lcmpW x y = 0 := by rw [lcW]; exact fun q => h ((lc_eq x y).mp q)
theorem own_fldI {args : Array Value} {s : State} {t : Term} {C n d : String} {k : Int32} {a : Addr} (ev : t.eval args s none [] s = some (.ref a)) (h : (Jvm.Cond.eq (Term.field t C n d) (Term.int k)).value args s none s [] = some true) : Fld s s.heap a C n d (.int k) := by
  have e := fld_at (C := C) (n := n) (dd := d) ev
  obtain ⟨x, y, h1, h2, k1, k2⟩ := cmp_v (Or.inl h)
  obtain rfl : Value.int k = y := Option.some.inj h2
  obtain ⟨z, rfl⟩ := k2
  have q := Jvm.Cond.eq_ints h1 h2
  obtain rfl : z = k := gotT q h
  exact Fld.start (e ▸ h1)
theorem own_16 {x : Int32} (h : 0 ≤ x.toInt ∧ x.toInt < 16) : x = 0 ∨ x = 1 ∨ x = 2 ∨ x = 3 ∨ x = 4 ∨ x = 5 ∨ x = 6 ∨ x = 7 ∨ x = 8 ∨ x = 9 ∨ x = 10 ∨ x = 11 ∨ x = 12 ∨ x = 13 ∨ x = 14 ∨ x = 15 := by
  have e : ∀ y : Int32, x.toInt = y.toInt → x = y := fun y => Int32.toInt_inj.mp
  obtain ⟨h1, h2⟩ := h
  have hx : x.toInt = 0 ∨ x.toInt = 1 ∨ x.toInt = 2 ∨ x.toInt = 3 ∨ x.toInt = 4 ∨ x.toInt = 5 ∨ x.toInt = 6 ∨ x.toInt = 7 ∨ x.toInt = 8 ∨ x.toInt = 9 ∨ x.toInt = 10 ∨ x.toInt = 11 ∨ x.toInt = 12 ∨ x.toInt = 13 ∨ x.toInt = 14 ∨ x.toInt = 15 := by omega
  rcases hx with q | q | q | q | q | q | q | q | q | q | q | q | q | q | q | q
  · exact Or.inl (e 0 q)
  · exact Or.inr (Or.inl (e 1 q))
  · exact Or.inr (Or.inr (Or.inl (e 2 q)))
  · exact Or.inr (Or.inr (Or.inr (Or.inl (e 3 q))))
  · exact Or.inr (Or.inr (Or.inr (Or.inr (Or.inl (e 4 q)))))
  · exact Or.inr (Or.inr (Or.inr (Or.inr (Or.inr (Or.inl (e 5 q))))))
  · exact Or.inr (Or.inr (Or.inr (Or.inr (Or.inr (Or.inr (Or.inl (e 6 q)))))))
  · exact Or.inr (Or.inr (Or.inr (Or.inr (Or.inr (Or.inr (Or.inr (Or.inl (e 7 q))))))))
  · exact Or.inr (Or.inr (Or.inr (Or.inr (Or.inr (Or.inr (Or.inr (Or.inr (Or.inl (e 8 q)))))))))
  · exact Or.inr (Or.inr (Or.inr (Or.inr (Or.inr (Or.inr (Or.inr (Or.inr (Or.inr (Or.inl (e 9 q))))))))))
  · exact Or.inr (Or.inr (Or.inr (Or.inr (Or.inr (Or.inr (Or.inr (Or.inr (Or.inr (Or.inr (Or.inl (e 10 q)))))))))))
  · exact Or.inr (Or.inr (Or.inr (Or.inr (Or.inr (Or.inr (Or.inr (Or.inr (Or.inr (Or.inr (Or.inr (Or.inl (e 11 q))))))))))))
  · exact Or.inr (Or.inr (Or.inr (Or.inr (Or.inr (Or.inr (Or.inr (Or.inr (Or.inr (Or.inr (Or.inr (Or.inr (Or.inl (e 12 q)))))))))))))
  · exact Or.inr (Or.inr (Or.inr (Or.inr (Or.inr (Or.inr (Or.inr (Or.inr (Or.inr (Or.inr (Or.inr (Or.inr (Or.inr (Or.inl (e 13 q))))))))))))))
  · exact Or.inr (Or.inr (Or.inr (Or.inr (Or.inr (Or.inr (Or.inr (Or.inr (Or.inr (Or.inr (Or.inr (Or.inr (Or.inr (Or.inr (Or.inl (e 14 q)))))))))))))))
  · exact Or.inr (Or.inr (Or.inr (Or.inr (Or.inr (Or.inr (Or.inr (Or.inr (Or.inr (Or.inr (Or.inr (Or.inr (Or.inr (Or.inr (Or.inr (e 15 q)))))))))))))))
theorem own_and15 (x : Int32) : 0 ≤ (x &&& (15 : Int32)).toInt ∧ (x &&& (15 : Int32)).toInt < 16 := by
  have h := Jvm.Kit.i32_mask x 15 (k := 4) (by decide) (by decide)
  omega
theorem own_rem16 (x : Int32) : 0 ≤ ((x &&& (2147483647 : Int32)) % (16 : Int32)).toInt ∧ ((x &&& (2147483647 : Int32)) % (16 : Int32)).toInt < 16 := by
  have h := Jvm.Kit.i32_mask x 2147483647 (k := 31) (by decide) (by decide)
  have h0 : 0 ≤ (x &&& (2147483647 : Int32)).toInt := by omega
  have h2 := Jvm.Kit.i32_rem_nonneg (y := (16 : Int32)) h0
  have h3 : (16 : Int32).toInt = 16 := by decide
  rw [h3] at h2
  omega
theorem d1_0 : decode prog_15_method_6_code 0 = .ok (.aload_n 0, 1) := by decide +kernel
theorem d1_1 : decode prog_15_method_6_code 1 = .ok (.getstatic 31, 3) := by decide +kernel
theorem d1_4 : decode prog_15_method_6_code 4 = .ok (.if_acmp .eq 31, 3) := by decide +kernel
theorem d1_7 : decode prog_15_method_6_code 7 = .ok (.aload_n 0, 1) := by decide +kernel
theorem d1_8 : decode prog_15_method_6_code 8 = .ok (.getstatic 34, 3) := by decide +kernel
theorem d1_11 : decode prog_15_method_6_code 11 = .ok (.if_acmp .eq 24, 3) := by decide +kernel
theorem d1_14 : decode prog_15_method_6_code 14 = .ok (.aload_n 0, 1) := by decide +kernel
theorem d1_15 : decode prog_15_method_6_code 15 = .ok (.getstatic 37, 3) := by decide +kernel
theorem d1_18 : decode prog_15_method_6_code 18 = .ok (.if_acmp .eq 17, 3) := by decide +kernel
theorem d1_21 : decode prog_15_method_6_code 21 = .ok (.aload_n 0, 1) := by decide +kernel
theorem d1_22 : decode prog_15_method_6_code 22 = .ok (.getstatic 40, 3) := by decide +kernel
theorem d1_25 : decode prog_15_method_6_code 25 = .ok (.if_acmp .eq 10, 3) := by decide +kernel
theorem d1_28 : decode prog_15_method_6_code 28 = .ok (.aload_n 0, 1) := by decide +kernel
theorem d1_29 : decode prog_15_method_6_code 29 = .ok (.getstatic 43, 3) := by decide +kernel
theorem d1_32 : decode prog_15_method_6_code 32 = .ok (.if_acmp .ne 7, 3) := by decide +kernel
theorem d1_39 : decode prog_15_method_6_code 39 = .ok (.iconst 0, 1) := by decide +kernel
theorem d1_40 : decode prog_15_method_6_code 40 = .ok (.ireturn, 1) := by decide +kernel
theorem pn_com_example_demi_orm_demiorm_query_Operator : plainName "com/example/demi_orm/demiorm/query/Operator" = true := by first | (simp [plainName, overriddenIn]; done) | decide +kernel
theorem ef_1_no (m : MethodId) (x0 : Addr) : entryFrame m #[(.ref x0)] 1 = mkF m 0 #[.val (.ref x0)] [] := by first | (simp [entryFrame, mkF, argsToLocals, Value.category]; done) | rfl
def Q1_no (Z : State) (a : Addr) (w0 : Addr) (w1 : Addr) (w2 : Addr) (w3 : Addr) (w4 : Addr) (h0 : Heap) (n0 : Nat) (v : Option Value) (h : Heap) (L : List Loc) : Prop := Fr n0 L ∧ (v = some (.int 0) ∧ h = h0)
set_option maxRecDepth 65536 in
set_option maxHeartbeats 40000000 in
theorem rm1_no (l : Launch) (Z : State) (a0 : Array Value) (hw : ∀ d ∈ tables_1, d.before a0 Z = true) (ws : List Jvm.Cond) (a : Addr) (w0 : Addr) (w1 : Addr) (w2 : Addr) (w3 : Addr) (w4 : Addr) (h0 : Heap) (n0 : Nat) (Z0 : n0 ≤ h0.size) (S0 : Sta Z h0 "com/example/demi_orm/demiorm/query/Operator" "LIKE" "Lcom/example/demi_orm/demiorm/query/Operator;" (.ref w0)) (S1 : Sta Z h0 "com/example/demi_orm/demiorm/query/Operator" "NOT_LIKE" "Lcom/example/demi_orm/demiorm/query/Operator;" (.ref w1)) (S2 : Sta Z h0 "com/example/demi_orm/demiorm/query/Operator" "STARTING_WITH" "Lcom/example/demi_orm/demiorm/query/Operator;" (.ref w2)) (S3 : Sta Z h0 "com/example/demi_orm/demiorm/query/Operator" "ENDING_WITH" "Lcom/example/demi_orm/demiorm/query/Operator;" (.ref w3)) (S4 : Sta Z h0 "com/example/demi_orm/demiorm/query/Operator" "CONTAINING" "Lcom/example/demi_orm/demiorm/query/Operator;" (.ref w4)) (ne0 : ¬ a = w0) (ne1 : ¬ a = w1) (ne2 : ¬ a = w2) (ne3 : ¬ a = w3) (ne4 : ¬ a = w4) :
    MetFree l (⟨"com/example/demi_orm/demiorm/query/Operator", "comparesText", "()Z"⟩ : MethodName) (head1 (Jvm.Cond.code (⟨"com/example/demi_orm/demiorm/query/Operator", "comparesText", "()Z"⟩ : MethodName) prog_15_method_6_code 1 (some .boolean) :: ws) ({ frames := 0, cells := 0, slots := 0, locals := 0 } : Room)) (fun as0 U => as0 = #[(.ref a)] ∧ Z.Warmed39 U.vm ∧ U.heap = h0) (fun _ _ _ _ _ => True) (fun _ U oc0 U' => ∃ v L, oc0 = .returned v ∧ Q1_no Z a w0 w1 w2 w3 w4 h0 n0 v U'.heap L ∧ FrameEnd U oc0 U' L ({ frames := 0, cells := 0, slots := 0, locals := 0 } : Room).cells ({ frames := 0, cells := 0, slots := 0, locals := 0 } : Room).slots) := by
  refine MetFree.of_bodySF (plainFor_of_name pn_com_example_demi_orm_demiorm_query_Operator) hisR ?_
  intro p e s m args below meth c s₁ Bd hml0 hP hK
  obtain ⟨rfl, hZ, hh⟩ := hP
  have hx := Bd.exec
  have hby := Bd.bytes
  have hml : c.maxLocals = 1 := hml0
  have hown : s.vm.findClass "com/example/demi_orm/demiorm/query/Operator" = some m.cls := findClass_of_methodNamed Bd.named
  have hnm := (name_of_methodNamed Bd.named Bd.method).1
  have X0 : Stand p l e ({ frames := 0, cells := 0, slots := 0, locals := 0 } : Room) s m #[(.ref a)] below meth c s₁ [] 0 0 := Stand.of_body Bd
  have e0 : s₁.heap = h0 := by rw [← hh, Bd.state]; rfl
  have N0 := Fr.nil n0
  show Gl p e below s (Q1_no Z a w0 w1 w2 w3 w4 h0 n0) ({ frames := 0, cells := 0, slots := 0, locals := 0 } : Room).cells ({ frames := 0, cells := 0, slots := 0, locals := 0 } : Room).slots (s₁.setTop (entryFrame m #[(.ref a)] 1))
  refine Gl.back (fun _ k => castTop (ef_1_no m a) k) ?_
  show Gl _ _ _ _ _ _ _ (s₁.setTop (mkF m 0 #[.val (.ref a)] []))
  refine Gl.back (fun _ k => XS.aloadN X0.here hx rfl (hb hby d1_0) rfl rfl k) ?_
  show Gl _ _ _ _ _ _ _ (s₁.setTop (mkF m 1 #[.val (.ref a)] [(.ref a)]))
  obtain ⟨T1, X1, e1, st1⟩ := getS2 X0 hx hZ hown (host := "") (Or.inl (hw _ (List.mem_of_getElem? (i := 43) rfl))) Via.refl e0 S0 (g := (mkF m 1 #[.val (.ref a)] [(.ref a)])) rfl (hb hby d1_1)
  refine Gl.back (fun _ k => st1 _ k) ?_
  show Gl _ _ _ _ _ _ _ (T1.setTop (mkF m 4 #[.val (.ref a)] [(.ref w0), (.ref a)]))
  refine Gl.back (fun _ k => Jvm.RoadKit.acmp (g := (mkF m 4 #[.val (.ref a)] [(.ref w0), (.ref a)])) X1 hx rfl rfl rfl (pc0 := 4) (pc' := 7) (same := false) rfl (hb hby d1_4) rfl (decide_eq_false fun q => ne0 (Value.ref.inj q)) (by decide) (by decide) k) ?_
  show Gl _ _ _ _ _ _ _ (T1.setTop (mkF m 7 #[.val (.ref a)] []))
  refine Gl.back (fun _ k => XS.aloadN X1.here hx rfl (hb hby d1_7) rfl rfl k) ?_
  show Gl _ _ _ _ _ _ _ (T1.setTop (mkF m 8 #[.val (.ref a)] [(.ref a)]))
  obtain ⟨T2, X2, e2, st2⟩ := getS2 X1 hx hZ hown (host := "") (Or.inl (hw _ (List.mem_of_getElem? (i := 44) rfl))) Via.refl e1 S1 (g := (mkF m 8 #[.val (.ref a)] [(.ref a)])) rfl (hb hby d1_8)
  refine Gl.back (fun _ k => st2 _ k) ?_
  show Gl _ _ _ _ _ _ _ (T2.setTop (mkF m 11 #[.val (.ref a)] [(.ref w1), (.ref a)]))
  refine Gl.back (fun _ k => Jvm.RoadKit.acmp (g := (mkF m 11 #[.val (.ref a)] [(.ref w1), (.ref a)])) X2 hx rfl rfl rfl (pc0 := 11) (pc' := 14) (same := false) rfl (hb hby d1_11) rfl (decide_eq_false fun q => ne1 (Value.ref.inj q)) (by decide) (by decide) k) ?_
  show Gl _ _ _ _ _ _ _ (T2.setTop (mkF m 14 #[.val (.ref a)] []))
  refine Gl.back (fun _ k => XS.aloadN X2.here hx rfl (hb hby d1_14) rfl rfl k) ?_
  show Gl _ _ _ _ _ _ _ (T2.setTop (mkF m 15 #[.val (.ref a)] [(.ref a)]))
  obtain ⟨T3, X3, e3, st3⟩ := getS2 X2 hx hZ hown (host := "") (Or.inl (hw _ (List.mem_of_getElem? (i := 45) rfl))) Via.refl e2 S2 (g := (mkF m 15 #[.val (.ref a)] [(.ref a)])) rfl (hb hby d1_15)
  refine Gl.back (fun _ k => st3 _ k) ?_
  show Gl _ _ _ _ _ _ _ (T3.setTop (mkF m 18 #[.val (.ref a)] [(.ref w2), (.ref a)]))
  refine Gl.back (fun _ k => Jvm.RoadKit.acmp (g := (mkF m 18 #[.val (.ref a)] [(.ref w2), (.ref a)])) X3 hx rfl rfl rfl (pc0 := 18) (pc' := 21) (same := false) rfl (hb hby d1_18) rfl (decide_eq_false fun q => ne2 (Value.ref.inj q)) (by decide) (by decide) k) ?_
  show Gl _ _ _ _ _ _ _ (T3.setTop (mkF m 21 #[.val (.ref a)] []))
  refine Gl.back (fun _ k => XS.aloadN X3.here hx rfl (hb hby d1_21) rfl rfl k) ?_
  show Gl _ _ _ _ _ _ _ (T3.setTop (mkF m 22 #[.val (.ref a)] [(.ref a)]))
  obtain ⟨T4, X4, e4, st4⟩ := getS2 X3 hx hZ hown (host := "") (Or.inl (hw _ (List.mem_of_getElem? (i := 46) rfl))) Via.refl e3 S3 (g := (mkF m 22 #[.val (.ref a)] [(.ref a)])) rfl (hb hby d1_22)
  refine Gl.back (fun _ k => st4 _ k) ?_
  show Gl _ _ _ _ _ _ _ (T4.setTop (mkF m 25 #[.val (.ref a)] [(.ref w3), (.ref a)]))
  refine Gl.back (fun _ k => Jvm.RoadKit.acmp (g := (mkF m 25 #[.val (.ref a)] [(.ref w3), (.ref a)])) X4 hx rfl rfl rfl (pc0 := 25) (pc' := 28) (same := false) rfl (hb hby d1_25) rfl (decide_eq_false fun q => ne3 (Value.ref.inj q)) (by decide) (by decide) k) ?_
  show Gl _ _ _ _ _ _ _ (T4.setTop (mkF m 28 #[.val (.ref a)] []))
  refine Gl.back (fun _ k => XS.aloadN X4.here hx rfl (hb hby d1_28) rfl rfl k) ?_
  show Gl _ _ _ _ _ _ _ (T4.setTop (mkF m 29 #[.val (.ref a)] [(.ref a)]))
  obtain ⟨T5, X5, e5, st5⟩ := getS2 X4 hx hZ hown (host := "") (Or.inl (hw _ (List.mem_of_getElem? (i := 47) rfl))) Via.refl e4 S4 (g := (mkF m 29 #[.val (.ref a)] [(.ref a)])) rfl (hb hby d1_29)
  refine Gl.back (fun _ k => st5 _ k) ?_
  show Gl _ _ _ _ _ _ _ (T5.setTop (mkF m 32 #[.val (.ref a)] [(.ref w4), (.ref a)]))
  refine Gl.back (fun _ k => Jvm.RoadKit.acmp (g := (mkF m 32 #[.val (.ref a)] [(.ref w4), (.ref a)])) X5 hx rfl rfl rfl (pc0 := 32) (pc' := 39) (same := false) rfl (hb hby d1_32) rfl (decide_eq_false fun q => ne4 (Value.ref.inj q)) (by decide) (by decide) k) ?_
  show Gl _ _ _ _ _ _ _ (T5.setTop (mkF m 39 #[.val (.ref a)] []))
  refine Gl.back (fun _ k => XS.iconst X5.here hx rfl (hb hby d1_39) k) ?_
  show Gl _ _ _ _ _ _ _ (T5.setTop (mkF m 40 #[.val (.ref a)] [(.int (0 : Int32))]))
  exact Gl.ret X5 e5 (v := (some (.int (0 : Int32)))) (fun h => by rw [Bd.returns] at h; cases h) Bd.notSynchronized (fun fs hr => retN X5 hx (t := .boolean) (z := (0 : Int32)) Bd.returns (by simp) (hb hby d1_40) hr) ⟨N0, rfl, rfl⟩ (by decide) (by decide)
theorem d1_35 : decode prog_15_method_6_code 35 = .ok (.iconst 1, 1) := by decide +kernel
theorem d1_36 : decode prog_15_method_6_code 36 = .ok (.goto 4, 3) := by decide +kernel
theorem ef_1_LIKE (m : MethodId) (x0 : Addr) : entryFrame m #[(.ref x0)] 1 = mkF m 0 #[.val (.ref x0)] [] := by first | (simp [entryFrame, mkF, argsToLocals, Value.category]; done) | rfl
def Q1_LIKE (Z : State) (w0 : Addr) (h0 : Heap) (n0 : Nat) (v : Option Value) (h : Heap) (L : List Loc) : Prop := Fr n0 L ∧ (v = some (.int 1) ∧ h = h0)
set_option maxRecDepth 65536 in
set_option maxHeartbeats 40000000 in
theorem rm1_LIKE (l : Launch) (Z : State) (a0 : Array Value) (hw : ∀ d ∈ tables_1, d.before a0 Z = true) (ws : List Jvm.Cond) (w0 : Addr) (h0 : Heap) (n0 : Nat) (Z0 : n0 ≤ h0.size) (S0 : Sta Z h0 "com/example/demi_orm/demiorm/query/Operator" "LIKE" "Lcom/example/demi_orm/demiorm/query/Operator;" (.ref w0)) :
    MetFree l (⟨"com/example/demi_orm/demiorm/query/Operator", "comparesText", "()Z"⟩ : MethodName) (head1 (Jvm.Cond.code (⟨"com/example/demi_orm/demiorm/query/Operator", "comparesText", "()Z"⟩ : MethodName) prog_15_method_6_code 1 (some .boolean) :: ws) ({ frames := 0, cells := 0, slots := 0, locals := 0 } : Room)) (fun as0 U => as0 = #[(.ref w0)] ∧ Z.Warmed39 U.vm ∧ U.heap = h0) (fun _ _ _ _ _ => True) (fun _ U oc0 U' => ∃ v L, oc0 = .returned v ∧ Q1_LIKE Z w0 h0 n0 v U'.heap L ∧ FrameEnd U oc0 U' L ({ frames := 0, cells := 0, slots := 0, locals := 0 } : Room).cells ({ frames := 0, cells := 0, slots := 0, locals := 0 } : Room).slots) := by
  refine MetFree.of_bodySF (plainFor_of_name pn_com_example_demi_orm_demiorm_query_Operator) hisR ?_
  intro p e s m args below meth c s₁ Bd hml0 hP hK
  obtain ⟨rfl, hZ, hh⟩ := hP
  have hx := Bd.exec
  have hby := Bd.bytes
  have hml : c.maxLocals = 1 := hml0
  have hown : s.vm.findClass "com/example/demi_orm/demiorm/query/Operator" = some m.cls := findClass_of_methodNamed Bd.named
  have hnm := (name_of_methodNamed Bd.named Bd.method).1
  have X0 : Stand p l e ({ frames := 0, cells := 0, slots := 0, locals := 0 } : Room) s m #[(.ref w0)] below meth c s₁ [] 0 0 := Stand.of_body Bd
  have e0 : s₁.heap = h0 := by rw [← hh, Bd.state]; rfl
  have N0 := Fr.nil n0
  show Gl p e below s (Q1_LIKE Z w0 h0 n0) ({ frames := 0, cells := 0, slots := 0, locals := 0 } : Room).cells ({ frames := 0, cells := 0, slots := 0, locals := 0 } : Room).slots (s₁.setTop (entryFrame m #[(.ref w0)] 1))
  refine Gl.back (fun _ k => castTop (ef_1_LIKE m w0) k) ?_
  show Gl _ _ _ _ _ _ _ (s₁.setTop (mkF m 0 #[.val (.ref w0)] []))
  refine Gl.back (fun _ k => XS.aloadN X0.here hx rfl (hb hby d1_0) rfl rfl k) ?_
  show Gl _ _ _ _ _ _ _ (s₁.setTop (mkF m 1 #[.val (.ref w0)] [(.ref w0)]))
  obtain ⟨T6, X6, e6, st6⟩ := getS2 X0 hx hZ hown (host := "") (Or.inl (hw _ (List.mem_of_getElem? (i := 43) rfl))) Via.refl e0 S0 (g := (mkF m 1 #[.val (.ref w0)] [(.ref w0)])) rfl (hb hby d1_1)
  refine Gl.back (fun _ k => st6 _ k) ?_
  show Gl _ _ _ _ _ _ _ (T6.setTop (mkF m 4 #[.val (.ref w0)] [(.ref w0), (.ref w0)]))
  refine Gl.back (fun _ k => Jvm.RoadKit.acmp (g := (mkF m 4 #[.val (.ref w0)] [(.ref w0), (.ref w0)])) X6 hx rfl rfl rfl (pc0 := 4) (pc' := 35) (same := true) rfl (hb hby d1_4) rfl (decide_eq_true rfl) (by decide) (by decide) k) ?_
  show Gl _ _ _ _ _ _ _ (T6.setTop (mkF m 35 #[.val (.ref w0)] []))
  refine Gl.back (fun _ k => XS.iconst X6.here hx rfl (hb hby d1_35) k) ?_
  show Gl _ _ _ _ _ _ _ (T6.setTop (mkF m 36 #[.val (.ref w0)] [(.int (1 : Int32))]))
  refine Gl.back (fun _ k => XS.goto X6.here hx rfl (pc0 := 36) (pc' := 40) rfl (hb hby d1_36) (by decide) (by decide) k) ?_
  show Gl _ _ _ _ _ _ _ (T6.setTop (mkF m 40 #[.val (.ref w0)] [(.int (1 : Int32))]))
  exact Gl.ret X6 e6 (v := (some (.int (1 : Int32)))) (fun h => by rw [Bd.returns] at h; cases h) Bd.notSynchronized (fun fs hr => retN X6 hx (t := .boolean) (z := (1 : Int32)) Bd.returns (by simp) (hb hby d1_40) hr) ⟨N0, rfl, rfl⟩ (by decide) (by decide)
theorem ef_1_NOT_LIKE (m : MethodId) (x0 : Addr) : entryFrame m #[(.ref x0)] 1 = mkF m 0 #[.val (.ref x0)] [] := by first | (simp [entryFrame, mkF, argsToLocals, Value.category]; done) | rfl
def Q1_NOT_LIKE (Z : State) (w1 : Addr) (w0 : Addr) (h0 : Heap) (n0 : Nat) (v : Option Value) (h : Heap) (L : List Loc) : Prop := Fr n0 L ∧ (v = some (.int 1) ∧ h = h0)
set_option maxRecDepth 65536 in
set_option maxHeartbeats 40000000 in
theorem rm1_NOT_LIKE (l : Launch) (Z : State) (a0 : Array Value) (hw : ∀ d ∈ tables_1, d.before a0 Z = true) (ws : List Jvm.Cond) (w1 : Addr) (w0 : Addr) (h0 : Heap) (n0 : Nat) (Z0 : n0 ≤ h0.size) (S0 : Sta Z h0 "com/example/demi_orm/demiorm/query/Operator" "LIKE" "Lcom/example/demi_orm/demiorm/query/Operator;" (.ref w0)) (S1 : Sta Z h0 "com/example/demi_orm/demiorm/query/Operator" "NOT_LIKE" "Lcom/example/demi_orm/demiorm/query/Operator;" (.ref w1)) (ne0 : ¬ w1 = w0) :
    MetFree l (⟨"com/example/demi_orm/demiorm/query/Operator", "comparesText", "()Z"⟩ : MethodName) (head1 (Jvm.Cond.code (⟨"com/example/demi_orm/demiorm/query/Operator", "comparesText", "()Z"⟩ : MethodName) prog_15_method_6_code 1 (some .boolean) :: ws) ({ frames := 0, cells := 0, slots := 0, locals := 0 } : Room)) (fun as0 U => as0 = #[(.ref w1)] ∧ Z.Warmed39 U.vm ∧ U.heap = h0) (fun _ _ _ _ _ => True) (fun _ U oc0 U' => ∃ v L, oc0 = .returned v ∧ Q1_NOT_LIKE Z w1 w0 h0 n0 v U'.heap L ∧ FrameEnd U oc0 U' L ({ frames := 0, cells := 0, slots := 0, locals := 0 } : Room).cells ({ frames := 0, cells := 0, slots := 0, locals := 0 } : Room).slots) := by
  refine MetFree.of_bodySF (plainFor_of_name pn_com_example_demi_orm_demiorm_query_Operator) hisR ?_
  intro p e s m args below meth c s₁ Bd hml0 hP hK
  obtain ⟨rfl, hZ, hh⟩ := hP
  have hx := Bd.exec
  have hby := Bd.bytes
  have hml : c.maxLocals = 1 := hml0
  have hown : s.vm.findClass "com/example/demi_orm/demiorm/query/Operator" = some m.cls := findClass_of_methodNamed Bd.named
  have hnm := (name_of_methodNamed Bd.named Bd.method).1
  have X0 : Stand p l e ({ frames := 0, cells := 0, slots := 0, locals := 0 } : Room) s m #[(.ref w1)] below meth c s₁ [] 0 0 := Stand.of_body Bd
  have e0 : s₁.heap = h0 := by rw [← hh, Bd.state]; rfl
  have N0 := Fr.nil n0
  show Gl p e below s (Q1_NOT_LIKE Z w1 w0 h0 n0) ({ frames := 0, cells := 0, slots := 0, locals := 0 } : Room).cells ({ frames := 0, cells := 0, slots := 0, locals := 0 } : Room).slots (s₁.setTop (entryFrame m #[(.ref w1)] 1))
  refine Gl.back (fun _ k => castTop (ef_1_NOT_LIKE m w1) k) ?_
  show Gl _ _ _ _ _ _ _ (s₁.setTop (mkF m 0 #[.val (.ref w1)] []))
  refine Gl.back (fun _ k => XS.aloadN X0.here hx rfl (hb hby d1_0) rfl rfl k) ?_
  show Gl _ _ _ _ _ _ _ (s₁.setTop (mkF m 1 #[.val (.ref w1)] [(.ref w1)]))
  obtain ⟨T7, X7, e7, st7⟩ := getS2 X0 hx hZ hown (host := "") (Or.inl (hw _ (List.mem_of_getElem? (i := 43) rfl))) Via.refl e0 S0 (g := (mkF m 1 #[.val (.ref w1)] [(.ref w1)])) rfl (hb hby d1_1)
  refine Gl.back (fun _ k => st7 _ k) ?_
  show Gl _ _ _ _ _ _ _ (T7.setTop (mkF m 4 #[.val (.ref w1)] [(.ref w0), (.ref w1)]))
  refine Gl.back (fun _ k => Jvm.RoadKit.acmp (g := (mkF m 4 #[.val (.ref w1)] [(.ref w0), (.ref w1)])) X7 hx rfl rfl rfl (pc0 := 4) (pc' := 7) (same := false) rfl (hb hby d1_4) rfl (decide_eq_false fun q => ne0 (Value.ref.inj q)) (by decide) (by decide) k) ?_
  show Gl _ _ _ _ _ _ _ (T7.setTop (mkF m 7 #[.val (.ref w1)] []))
  refine Gl.back (fun _ k => XS.aloadN X7.here hx rfl (hb hby d1_7) rfl rfl k) ?_
  show Gl _ _ _ _ _ _ _ (T7.setTop (mkF m 8 #[.val (.ref w1)] [(.ref w1)]))
  obtain ⟨T8, X8, e8, st8⟩ := getS2 X7 hx hZ hown (host := "") (Or.inl (hw _ (List.mem_of_getElem? (i := 44) rfl))) Via.refl e7 S1 (g := (mkF m 8 #[.val (.ref w1)] [(.ref w1)])) rfl (hb hby d1_8)
  refine Gl.back (fun _ k => st8 _ k) ?_
  show Gl _ _ _ _ _ _ _ (T8.setTop (mkF m 11 #[.val (.ref w1)] [(.ref w1), (.ref w1)]))
  refine Gl.back (fun _ k => Jvm.RoadKit.acmp (g := (mkF m 11 #[.val (.ref w1)] [(.ref w1), (.ref w1)])) X8 hx rfl rfl rfl (pc0 := 11) (pc' := 35) (same := true) rfl (hb hby d1_11) rfl (decide_eq_true rfl) (by decide) (by decide) k) ?_
  show Gl _ _ _ _ _ _ _ (T8.setTop (mkF m 35 #[.val (.ref w1)] []))
  refine Gl.back (fun _ k => XS.iconst X8.here hx rfl (hb hby d1_35) k) ?_
  show Gl _ _ _ _ _ _ _ (T8.setTop (mkF m 36 #[.val (.ref w1)] [(.int (1 : Int32))]))
  refine Gl.back (fun _ k => XS.goto X8.here hx rfl (pc0 := 36) (pc' := 40) rfl (hb hby d1_36) (by decide) (by decide) k) ?_
  show Gl _ _ _ _ _ _ _ (T8.setTop (mkF m 40 #[.val (.ref w1)] [(.int (1 : Int32))]))
  exact Gl.ret X8 e8 (v := (some (.int (1 : Int32)))) (fun h => by rw [Bd.returns] at h; cases h) Bd.notSynchronized (fun fs hr => retN X8 hx (t := .boolean) (z := (1 : Int32)) Bd.returns (by simp) (hb hby d1_40) hr) ⟨N0, rfl, rfl⟩ (by decide) (by decide)
theorem ef_1_STARTING_WITH (m : MethodId) (x0 : Addr) : entryFrame m #[(.ref x0)] 1 = mkF m 0 #[.val (.ref x0)] [] := by first | (simp [entryFrame, mkF, argsToLocals, Value.category]; done) | rfl
def Q1_STARTING_WITH (Z : State) (w2 : Addr) (w0 : Addr) (w1 : Addr) (h0 : Heap) (n0 : Nat) (v : Option Value) (h : Heap) (L : List Loc) : Prop := Fr n0 L ∧ (v = some (.int 1) ∧ h = h0)
set_option maxRecDepth 65536 in
set_option maxHeartbeats 40000000 in
theorem rm1_STARTING_WITH (l : Launch) (Z : State) (a0 : Array Value) (hw : ∀ d ∈ tables_1, d.before a0 Z = true) (ws : List Jvm.Cond) (w2 : Addr) (w0 : Addr) (w1 : Addr) (h0 : Heap) (n0 : Nat) (Z0 : n0 ≤ h0.size) (S0 : Sta Z h0 "com/example/demi_orm/demiorm/query/Operator" "LIKE" "Lcom/example/demi_orm/demiorm/query/Operator;" (.ref w0)) (S1 : Sta Z h0 "com/example/demi_orm/demiorm/query/Operator" "NOT_LIKE" "Lcom/example/demi_orm/demiorm/query/Operator;" (.ref w1)) (S2 : Sta Z h0 "com/example/demi_orm/demiorm/query/Operator" "STARTING_WITH" "Lcom/example/demi_orm/demiorm/query/Operator;" (.ref w2)) (ne0 : ¬ w2 = w0) (ne1 : ¬ w2 = w1) :
    MetFree l (⟨"com/example/demi_orm/demiorm/query/Operator", "comparesText", "()Z"⟩ : MethodName) (head1 (Jvm.Cond.code (⟨"com/example/demi_orm/demiorm/query/Operator", "comparesText", "()Z"⟩ : MethodName) prog_15_method_6_code 1 (some .boolean) :: ws) ({ frames := 0, cells := 0, slots := 0, locals := 0 } : Room)) (fun as0 U => as0 = #[(.ref w2)] ∧ Z.Warmed39 U.vm ∧ U.heap = h0) (fun _ _ _ _ _ => True) (fun _ U oc0 U' => ∃ v L, oc0 = .returned v ∧ Q1_STARTING_WITH Z w2 w0 w1 h0 n0 v U'.heap L ∧ FrameEnd U oc0 U' L ({ frames := 0, cells := 0, slots := 0, locals := 0 } : Room).cells ({ frames := 0, cells := 0, slots := 0, locals := 0 } : Room).slots) := by
  refine MetFree.of_bodySF (plainFor_of_name pn_com_example_demi_orm_demiorm_query_Operator) hisR ?_
  intro p e s m args below meth c s₁ Bd hml0 hP hK
  obtain ⟨rfl, hZ, hh⟩ := hP
  have hx := Bd.exec
  have hby := Bd.bytes
  have hml : c.maxLocals = 1 := hml0
  have hown : s.vm.findClass "com/example/demi_orm/demiorm/query/Operator" = some m.cls := findClass_of_methodNamed Bd.named
  have hnm := (name_of_methodNamed Bd.named Bd.method).1
  have X0 : Stand p l e ({ frames := 0, cells := 0, slots := 0, locals := 0 } : Room) s m #[(.ref w2)] below meth c s₁ [] 0 0 := Stand.of_body Bd
  have e0 : s₁.heap = h0 := by rw [← hh, Bd.state]; rfl
  have N0 := Fr.nil n0
  show Gl p e below s (Q1_STARTING_WITH Z w2 w0 w1 h0 n0) ({ frames := 0, cells := 0, slots := 0, locals := 0 } : Room).cells ({ frames := 0, cells := 0, slots := 0, locals := 0 } : Room).slots (s₁.setTop (entryFrame m #[(.ref w2)] 1))
  refine Gl.back (fun _ k => castTop (ef_1_STARTING_WITH m w2) k) ?_
  show Gl _ _ _ _ _ _ _ (s₁.setTop (mkF m 0 #[.val (.ref w2)] []))
  refine Gl.back (fun _ k => XS.aloadN X0.here hx rfl (hb hby d1_0) rfl rfl k) ?_
  show Gl _ _ _ _ _ _ _ (s₁.setTop (mkF m 1 #[.val (.ref w2)] [(.ref w2)]))
  obtain ⟨T9, X9, e9, st9⟩ := getS2 X0 hx hZ hown (host := "") (Or.inl (hw _ (List.mem_of_getElem? (i := 43) rfl))) Via.refl e0 S0 (g := (mkF m 1 #[.val (.ref w2)] [(.ref w2)])) rfl (hb hby d1_1)
  refine Gl.back (fun _ k => st9 _ k) ?_
  show Gl _ _ _ _ _ _ _ (T9.setTop (mkF m 4 #[.val (.ref w2)] [(.ref w0), (.ref w2)]))
  refine Gl.back (fun _ k => Jvm.RoadKit.acmp (g := (mkF m 4 #[.val (.ref w2)] [(.ref w0), (.ref w2)])) X9 hx rfl rfl rfl (pc0 := 4) (pc' := 7) (same := false) rfl (hb hby d1_4) rfl (decide_eq_false fun q => ne0 (Value.ref.inj q)) (by decide) (by decide) k) ?_
  show Gl _ _ _ _ _ _ _ (T9.setTop (mkF m 7 #[.val (.ref w2)] []))
  refine Gl.back (fun _ k => XS.aloadN X9.here hx rfl (hb hby d1_7) rfl rfl k) ?_
  show Gl _ _ _ _ _ _ _ (T9.setTop (mkF m 8 #[.val (.ref w2)] [(.ref w2)]))
  obtain ⟨T10, X10, e10, st10⟩ := getS2 X9 hx hZ hown (host := "") (Or.inl (hw _ (List.mem_of_getElem? (i := 44) rfl))) Via.refl e9 S1 (g := (mkF m 8 #[.val (.ref w2)] [(.ref w2)])) rfl (hb hby d1_8)
  refine Gl.back (fun _ k => st10 _ k) ?_
  show Gl _ _ _ _ _ _ _ (T10.setTop (mkF m 11 #[.val (.ref w2)] [(.ref w1), (.ref w2)]))
  refine Gl.back (fun _ k => Jvm.RoadKit.acmp (g := (mkF m 11 #[.val (.ref w2)] [(.ref w1), (.ref w2)])) X10 hx rfl rfl rfl (pc0 := 11) (pc' := 14) (same := false) rfl (hb hby d1_11) rfl (decide_eq_false fun q => ne1 (Value.ref.inj q)) (by decide) (by decide) k) ?_
  show Gl _ _ _ _ _ _ _ (T10.setTop (mkF m 14 #[.val (.ref w2)] []))
  refine Gl.back (fun _ k => XS.aloadN X10.here hx rfl (hb hby d1_14) rfl rfl k) ?_
  show Gl _ _ _ _ _ _ _ (T10.setTop (mkF m 15 #[.val (.ref w2)] [(.ref w2)]))
  obtain ⟨T11, X11, e11, st11⟩ := getS2 X10 hx hZ hown (host := "") (Or.inl (hw _ (List.mem_of_getElem? (i := 45) rfl))) Via.refl e10 S2 (g := (mkF m 15 #[.val (.ref w2)] [(.ref w2)])) rfl (hb hby d1_15)
  refine Gl.back (fun _ k => st11 _ k) ?_
  show Gl _ _ _ _ _ _ _ (T11.setTop (mkF m 18 #[.val (.ref w2)] [(.ref w2), (.ref w2)]))
  refine Gl.back (fun _ k => Jvm.RoadKit.acmp (g := (mkF m 18 #[.val (.ref w2)] [(.ref w2), (.ref w2)])) X11 hx rfl rfl rfl (pc0 := 18) (pc' := 35) (same := true) rfl (hb hby d1_18) rfl (decide_eq_true rfl) (by decide) (by decide) k) ?_
  show Gl _ _ _ _ _ _ _ (T11.setTop (mkF m 35 #[.val (.ref w2)] []))
  refine Gl.back (fun _ k => XS.iconst X11.here hx rfl (hb hby d1_35) k) ?_
  show Gl _ _ _ _ _ _ _ (T11.setTop (mkF m 36 #[.val (.ref w2)] [(.int (1 : Int32))]))
  refine Gl.back (fun _ k => XS.goto X11.here hx rfl (pc0 := 36) (pc' := 40) rfl (hb hby d1_36) (by decide) (by decide) k) ?_
  show Gl _ _ _ _ _ _ _ (T11.setTop (mkF m 40 #[.val (.ref w2)] [(.int (1 : Int32))]))
  exact Gl.ret X11 e11 (v := (some (.int (1 : Int32)))) (fun h => by rw [Bd.returns] at h; cases h) Bd.notSynchronized (fun fs hr => retN X11 hx (t := .boolean) (z := (1 : Int32)) Bd.returns (by simp) (hb hby d1_40) hr) ⟨N0, rfl, rfl⟩ (by decide) (by decide)
theorem ef_1_ENDING_WITH (m : MethodId) (x0 : Addr) : entryFrame m #[(.ref x0)] 1 = mkF m 0 #[.val (.ref x0)] [] := by first | (simp [entryFrame, mkF, argsToLocals, Value.category]; done) | rfl
def Q1_ENDING_WITH (Z : State) (w3 : Addr) (w0 : Addr) (w1 : Addr) (w2 : Addr) (h0 : Heap) (n0 : Nat) (v : Option Value) (h : Heap) (L : List Loc) : Prop := Fr n0 L ∧ (v = some (.int 1) ∧ h = h0)
set_option maxRecDepth 65536 in
set_option maxHeartbeats 40000000 in
theorem rm1_ENDING_WITH (l : Launch) (Z : State) (a0 : Array Value) (hw : ∀ d ∈ tables_1, d.before a0 Z = true) (ws : List Jvm.Cond) (w3 : Addr) (w0 : Addr) (w1 : Addr) (w2 : Addr) (h0 : Heap) (n0 : Nat) (Z0 : n0 ≤ h0.size) (S0 : Sta Z h0 "com/example/demi_orm/demiorm/query/Operator" "LIKE" "Lcom/example/demi_orm/demiorm/query/Operator;" (.ref w0)) (S1 : Sta Z h0 "com/example/demi_orm/demiorm/query/Operator" "NOT_LIKE" "Lcom/example/demi_orm/demiorm/query/Operator;" (.ref w1)) (S2 : Sta Z h0 "com/example/demi_orm/demiorm/query/Operator" "STARTING_WITH" "Lcom/example/demi_orm/demiorm/query/Operator;" (.ref w2)) (S3 : Sta Z h0 "com/example/demi_orm/demiorm/query/Operator" "ENDING_WITH" "Lcom/example/demi_orm/demiorm/query/Operator;" (.ref w3)) (ne0 : ¬ w3 = w0) (ne1 : ¬ w3 = w1) (ne2 : ¬ w3 = w2) :
    MetFree l (⟨"com/example/demi_orm/demiorm/query/Operator", "comparesText", "()Z"⟩ : MethodName) (head1 (Jvm.Cond.code (⟨"com/example/demi_orm/demiorm/query/Operator", "comparesText", "()Z"⟩ : MethodName) prog_15_method_6_code 1 (some .boolean) :: ws) ({ frames := 0, cells := 0, slots := 0, locals := 0 } : Room)) (fun as0 U => as0 = #[(.ref w3)] ∧ Z.Warmed39 U.vm ∧ U.heap = h0) (fun _ _ _ _ _ => True) (fun _ U oc0 U' => ∃ v L, oc0 = .returned v ∧ Q1_ENDING_WITH Z w3 w0 w1 w2 h0 n0 v U'.heap L ∧ FrameEnd U oc0 U' L ({ frames := 0, cells := 0, slots := 0, locals := 0 } : Room).cells ({ frames := 0, cells := 0, slots := 0, locals := 0 } : Room).slots) := by
  refine MetFree.of_bodySF (plainFor_of_name pn_com_example_demi_orm_demiorm_query_Operator) hisR ?_
  intro p e s m args below meth c s₁ Bd hml0 hP hK
  obtain ⟨rfl, hZ, hh⟩ := hP
  have hx := Bd.exec
  have hby := Bd.bytes
  have hml : c.maxLocals = 1 := hml0
  have hown : s.vm.findClass "com/example/demi_orm/demiorm/query/Operator" = some m.cls := findClass_of_methodNamed Bd.named
  have hnm := (name_of_methodNamed Bd.named Bd.method).1
  have X0 : Stand p l e ({ frames := 0, cells := 0, slots := 0, locals := 0 } : Room) s m #[(.ref w3)] below meth c s₁ [] 0 0 := Stand.of_body Bd
  have e0 : s₁.heap = h0 := by rw [← hh, Bd.state]; rfl
  have N0 := Fr.nil n0
  show Gl p e below s (Q1_ENDING_WITH Z w3 w0 w1 w2 h0 n0) ({ frames := 0, cells := 0, slots := 0, locals := 0 } : Room).cells ({ frames := 0, cells := 0, slots := 0, locals := 0 } : Room).slots (s₁.setTop (entryFrame m #[(.ref w3)] 1))
  refine Gl.back (fun _ k => castTop (ef_1_ENDING_WITH m w3) k) ?_
  show Gl _ _ _ _ _ _ _ (s₁.setTop (mkF m 0 #[.val (.ref w3)] []))
  refine Gl.back (fun _ k => XS.aloadN X0.here hx rfl (hb hby d1_0) rfl rfl k) ?_
  show Gl _ _ _ _ _ _ _ (s₁.setTop (mkF m 1 #[.val (.ref w3)] [(.ref w3)]))
  obtain ⟨T12, X12, e12, st12⟩ := getS2 X0 hx hZ hown (host := "") (Or.inl (hw _ (List.mem_of_getElem? (i := 43) rfl))) Via.refl e0 S0 (g := (mkF m 1 #[.val (.ref w3)] [(.ref w3)])) rfl (hb hby d1_1)
  refine Gl.back (fun _ k => st12 _ k) ?_
  show Gl _ _ _ _ _ _ _ (T12.setTop (mkF m 4 #[.val (.ref w3)] [(.ref w0), (.ref w3)]))
  refine Gl.back (fun _ k => Jvm.RoadKit.acmp (g := (mkF m 4 #[.val (.ref w3)] [(.ref w0), (.ref w3)])) X12 hx rfl rfl rfl (pc0 := 4) (pc' := 7) (same := false) rfl (hb hby d1_4) rfl (decide_eq_false fun q => ne0 (Value.ref.inj q)) (by decide) (by decide) k) ?_
  show Gl _ _ _ _ _ _ _ (T12.setTop (mkF m 7 #[.val (.ref w3)] []))
  refine Gl.back (fun _ k => XS.aloadN X12.here hx rfl (hb hby d1_7) rfl rfl k) ?_
  show Gl _ _ _ _ _ _ _ (T12.setTop (mkF m 8 #[.val (.ref w3)] [(.ref w3)]))
  obtain ⟨T13, X13, e13, st13⟩ := getS2 X12 hx hZ hown (host := "") (Or.inl (hw _ (List.mem_of_getElem? (i := 44) rfl))) Via.refl e12 S1 (g := (mkF m 8 #[.val (.ref w3)] [(.ref w3)])) rfl (hb hby d1_8)
  refine Gl.back (fun _ k => st13 _ k) ?_
  show Gl _ _ _ _ _ _ _ (T13.setTop (mkF m 11 #[.val (.ref w3)] [(.ref w1), (.ref w3)]))
  refine Gl.back (fun _ k => Jvm.RoadKit.acmp (g := (mkF m 11 #[.val (.ref w3)] [(.ref w1), (.ref w3)])) X13 hx rfl rfl rfl (pc0 := 11) (pc' := 14) (same := false) rfl (hb hby d1_11) rfl (decide_eq_false fun q => ne1 (Value.ref.inj q)) (by decide) (by decide) k) ?_
  show Gl _ _ _ _ _ _ _ (T13.setTop (mkF m 14 #[.val (.ref w3)] []))
  refine Gl.back (fun _ k => XS.aloadN X13.here hx rfl (hb hby d1_14) rfl rfl k) ?_
  show Gl _ _ _ _ _ _ _ (T13.setTop (mkF m 15 #[.val (.ref w3)] [(.ref w3)]))
  obtain ⟨T14, X14, e14, st14⟩ := getS2 X13 hx hZ hown (host := "") (Or.inl (hw _ (List.mem_of_getElem? (i := 45) rfl))) Via.refl e13 S2 (g := (mkF m 15 #[.val (.ref w3)] [(.ref w3)])) rfl (hb hby d1_15)
  refine Gl.back (fun _ k => st14 _ k) ?_
  show Gl _ _ _ _ _ _ _ (T14.setTop (mkF m 18 #[.val (.ref w3)] [(.ref w2), (.ref w3)]))
  refine Gl.back (fun _ k => Jvm.RoadKit.acmp (g := (mkF m 18 #[.val (.ref w3)] [(.ref w2), (.ref w3)])) X14 hx rfl rfl rfl (pc0 := 18) (pc' := 21) (same := false) rfl (hb hby d1_18) rfl (decide_eq_false fun q => ne2 (Value.ref.inj q)) (by decide) (by decide) k) ?_
  show Gl _ _ _ _ _ _ _ (T14.setTop (mkF m 21 #[.val (.ref w3)] []))
  refine Gl.back (fun _ k => XS.aloadN X14.here hx rfl (hb hby d1_21) rfl rfl k) ?_
  show Gl _ _ _ _ _ _ _ (T14.setTop (mkF m 22 #[.val (.ref w3)] [(.ref w3)]))
  obtain ⟨T15, X15, e15, st15⟩ := getS2 X14 hx hZ hown (host := "") (Or.inl (hw _ (List.mem_of_getElem? (i := 46) rfl))) Via.refl e14 S3 (g := (mkF m 22 #[.val (.ref w3)] [(.ref w3)])) rfl (hb hby d1_22)
  refine Gl.back (fun _ k => st15 _ k) ?_
  show Gl _ _ _ _ _ _ _ (T15.setTop (mkF m 25 #[.val (.ref w3)] [(.ref w3), (.ref w3)]))
  refine Gl.back (fun _ k => Jvm.RoadKit.acmp (g := (mkF m 25 #[.val (.ref w3)] [(.ref w3), (.ref w3)])) X15 hx rfl rfl rfl (pc0 := 25) (pc' := 35) (same := true) rfl (hb hby d1_25) rfl (decide_eq_true rfl) (by decide) (by decide) k) ?_
  show Gl _ _ _ _ _ _ _ (T15.setTop (mkF m 35 #[.val (.ref w3)] []))
  refine Gl.back (fun _ k => XS.iconst X15.here hx rfl (hb hby d1_35) k) ?_
  show Gl _ _ _ _ _ _ _ (T15.setTop (mkF m 36 #[.val (.ref w3)] [(.int (1 : Int32))]))
  refine Gl.back (fun _ k => XS.goto X15.here hx rfl (pc0 := 36) (pc' := 40) rfl (hb hby d1_36) (by decide) (by decide) k) ?_
  show Gl _ _ _ _ _ _ _ (T15.setTop (mkF m 40 #[.val (.ref w3)] [(.int (1 : Int32))]))
  exact Gl.ret X15 e15 (v := (some (.int (1 : Int32)))) (fun h => by rw [Bd.returns] at h; cases h) Bd.notSynchronized (fun fs hr => retN X15 hx (t := .boolean) (z := (1 : Int32)) Bd.returns (by simp) (hb hby d1_40) hr) ⟨N0, rfl, rfl⟩ (by decide) (by decide)
theorem ef_1_CONTAINING (m : MethodId) (x0 : Addr) : entryFrame m #[(.ref x0)] 1 = mkF m 0 #[.val (.ref x0)] [] := by first | (simp [entryFrame, mkF, argsToLocals, Value.category]; done) | rfl
def Q1_CONTAINING (Z : State) (w4 : Addr) (w0 : Addr) (w1 : Addr) (w2 : Addr) (w3 : Addr) (h0 : Heap) (n0 : Nat) (v : Option Value) (h : Heap) (L : List Loc) : Prop := Fr n0 L ∧ (v = some (.int 1) ∧ h = h0)
set_option maxRecDepth 65536 in
set_option maxHeartbeats 40000000 in
theorem rm1_CONTAINING (l : Launch) (Z : State) (a0 : Array Value) (hw : ∀ d ∈ tables_1, d.before a0 Z = true) (ws : List Jvm.Cond) (w4 : Addr) (w0 : Addr) (w1 : Addr) (w2 : Addr) (w3 : Addr) (h0 : Heap) (n0 : Nat) (Z0 : n0 ≤ h0.size) (S0 : Sta Z h0 "com/example/demi_orm/demiorm/query/Operator" "LIKE" "Lcom/example/demi_orm/demiorm/query/Operator;" (.ref w0)) (S1 : Sta Z h0 "com/example/demi_orm/demiorm/query/Operator" "NOT_LIKE" "Lcom/example/demi_orm/demiorm/query/Operator;" (.ref w1)) (S2 : Sta Z h0 "com/example/demi_orm/demiorm/query/Operator" "STARTING_WITH" "Lcom/example/demi_orm/demiorm/query/Operator;" (.ref w2)) (S3 : Sta Z h0 "com/example/demi_orm/demiorm/query/Operator" "ENDING_WITH" "Lcom/example/demi_orm/demiorm/query/Operator;" (.ref w3)) (S4 : Sta Z h0 "com/example/demi_orm/demiorm/query/Operator" "CONTAINING" "Lcom/example/demi_orm/demiorm/query/Operator;" (.ref w4)) (ne0 : ¬ w4 = w0) (ne1 : ¬ w4 = w1) (ne2 : ¬ w4 = w2) (ne3 : ¬ w4 = w3) :
    MetFree l (⟨"com/example/demi_orm/demiorm/query/Operator", "comparesText", "()Z"⟩ : MethodName) (head1 (Jvm.Cond.code (⟨"com/example/demi_orm/demiorm/query/Operator", "comparesText", "()Z"⟩ : MethodName) prog_15_method_6_code 1 (some .boolean) :: ws) ({ frames := 0, cells := 0, slots := 0, locals := 0 } : Room)) (fun as0 U => as0 = #[(.ref w4)] ∧ Z.Warmed39 U.vm ∧ U.heap = h0) (fun _ _ _ _ _ => True) (fun _ U oc0 U' => ∃ v L, oc0 = .returned v ∧ Q1_CONTAINING Z w4 w0 w1 w2 w3 h0 n0 v U'.heap L ∧ FrameEnd U oc0 U' L ({ frames := 0, cells := 0, slots := 0, locals := 0 } : Room).cells ({ frames := 0, cells := 0, slots := 0, locals := 0 } : Room).slots) := by
  refine MetFree.of_bodySF (plainFor_of_name pn_com_example_demi_orm_demiorm_query_Operator) hisR ?_
  intro p e s m args below meth c s₁ Bd hml0 hP hK
  obtain ⟨rfl, hZ, hh⟩ := hP
  have hx := Bd.exec
  have hby := Bd.bytes
  have hml : c.maxLocals = 1 := hml0
  have hown : s.vm.findClass "com/example/demi_orm/demiorm/query/Operator" = some m.cls := findClass_of_methodNamed Bd.named
  have hnm := (name_of_methodNamed Bd.named Bd.method).1
  have X0 : Stand p l e ({ frames := 0, cells := 0, slots := 0, locals := 0 } : Room) s m #[(.ref w4)] below meth c s₁ [] 0 0 := Stand.of_body Bd
  have e0 : s₁.heap = h0 := by rw [← hh, Bd.state]; rfl
  have N0 := Fr.nil n0
  show Gl p e below s (Q1_CONTAINING Z w4 w0 w1 w2 w3 h0 n0) ({ frames := 0, cells := 0, slots := 0, locals := 0 } : Room).cells ({ frames := 0, cells := 0, slots := 0, locals := 0 } : Room).slots (s₁.setTop (entryFrame m #[(.ref w4)] 1))
  refine Gl.back (fun _ k => castTop (ef_1_CONTAINING m w4) k) ?_
  show Gl _ _ _ _ _ _ _ (s₁.setTop (mkF m 0 #[.val (.ref w4)] []))
  refine Gl.back (fun _ k => XS.aloadN X0.here hx rfl (hb hby d1_0) rfl rfl k) ?_
  show Gl _ _ _ _ _ _ _ (s₁.setTop (mkF m 1 #[.val (.ref w4)] [(.ref w4)]))
  obtain ⟨T16, X16, e16, st16⟩ := getS2 X0 hx hZ hown (host := "") (Or.inl (hw _ (List.mem_of_getElem? (i := 43) rfl))) Via.refl e0 S0 (g := (mkF m 1 #[.val (.ref w4)] [(.ref w4)])) rfl (hb hby d1_1)
  refine Gl.back (fun _ k => st16 _ k) ?_
  show Gl _ _ _ _ _ _ _ (T16.setTop (mkF m 4 #[.val (.ref w4)] [(.ref w0), (.ref w4)]))
  refine Gl.back (fun _ k => Jvm.RoadKit.acmp (g := (mkF m 4 #[.val (.ref w4)] [(.ref w0), (.ref w4)])) X16 hx rfl rfl rfl (pc0 := 4) (pc' := 7) (same := false) rfl (hb hby d1_4) rfl (decide_eq_false fun q => ne0 (Value.ref.inj q)) (by decide) (by decide) k) ?_
  show Gl _ _ _ _ _ _ _ (T16.setTop (mkF m 7 #[.val (.ref w4)] []))
  refine Gl.back (fun _ k => XS.aloadN X16.here hx rfl (hb hby d1_7) rfl rfl k) ?_
  show Gl _ _ _ _ _ _ _ (T16.setTop (mkF m 8 #[.val (.ref w4)] [(.ref w4)]))
  obtain ⟨T17, X17, e17, st17⟩ := getS2 X16 hx hZ hown (host := "") (Or.inl (hw _ (List.mem_of_getElem? (i := 44) rfl))) Via.refl e16 S1 (g := (mkF m 8 #[.val (.ref w4)] [(.ref w4)])) rfl (hb hby d1_8)
  refine Gl.back (fun _ k => st17 _ k) ?_
  show Gl _ _ _ _ _ _ _ (T17.setTop (mkF m 11 #[.val (.ref w4)] [(.ref w1), (.ref w4)]))
  refine Gl.back (fun _ k => Jvm.RoadKit.acmp (g := (mkF m 11 #[.val (.ref w4)] [(.ref w1), (.ref w4)])) X17 hx rfl rfl rfl (pc0 := 11) (pc' := 14) (same := false) rfl (hb hby d1_11) rfl (decide_eq_false fun q => ne1 (Value.ref.inj q)) (by decide) (by decide) k) ?_
  show Gl _ _ _ _ _ _ _ (T17.setTop (mkF m 14 #[.val (.ref w4)] []))
  refine Gl.back (fun _ k => XS.aloadN X17.here hx rfl (hb hby d1_14) rfl rfl k) ?_
  show Gl _ _ _ _ _ _ _ (T17.setTop (mkF m 15 #[.val (.ref w4)] [(.ref w4)]))
  obtain ⟨T18, X18, e18, st18⟩ := getS2 X17 hx hZ hown (host := "") (Or.inl (hw _ (List.mem_of_getElem? (i := 45) rfl))) Via.refl e17 S2 (g := (mkF m 15 #[.val (.ref w4)] [(.ref w4)])) rfl (hb hby d1_15)
  refine Gl.back (fun _ k => st18 _ k) ?_
  show Gl _ _ _ _ _ _ _ (T18.setTop (mkF m 18 #[.val (.ref w4)] [(.ref w2), (.ref w4)]))
  refine Gl.back (fun _ k => Jvm.RoadKit.acmp (g := (mkF m 18 #[.val (.ref w4)] [(.ref w2), (.ref w4)])) X18 hx rfl rfl rfl (pc0 := 18) (pc' := 21) (same := false) rfl (hb hby d1_18) rfl (decide_eq_false fun q => ne2 (Value.ref.inj q)) (by decide) (by decide) k) ?_
  show Gl _ _ _ _ _ _ _ (T18.setTop (mkF m 21 #[.val (.ref w4)] []))
  refine Gl.back (fun _ k => XS.aloadN X18.here hx rfl (hb hby d1_21) rfl rfl k) ?_
  show Gl _ _ _ _ _ _ _ (T18.setTop (mkF m 22 #[.val (.ref w4)] [(.ref w4)]))
  obtain ⟨T19, X19, e19, st19⟩ := getS2 X18 hx hZ hown (host := "") (Or.inl (hw _ (List.mem_of_getElem? (i := 46) rfl))) Via.refl e18 S3 (g := (mkF m 22 #[.val (.ref w4)] [(.ref w4)])) rfl (hb hby d1_22)
  refine Gl.back (fun _ k => st19 _ k) ?_
  show Gl _ _ _ _ _ _ _ (T19.setTop (mkF m 25 #[.val (.ref w4)] [(.ref w3), (.ref w4)]))
  refine Gl.back (fun _ k => Jvm.RoadKit.acmp (g := (mkF m 25 #[.val (.ref w4)] [(.ref w3), (.ref w4)])) X19 hx rfl rfl rfl (pc0 := 25) (pc' := 28) (same := false) rfl (hb hby d1_25) rfl (decide_eq_false fun q => ne3 (Value.ref.inj q)) (by decide) (by decide) k) ?_
  show Gl _ _ _ _ _ _ _ (T19.setTop (mkF m 28 #[.val (.ref w4)] []))
  refine Gl.back (fun _ k => XS.aloadN X19.here hx rfl (hb hby d1_28) rfl rfl k) ?_
  show Gl _ _ _ _ _ _ _ (T19.setTop (mkF m 29 #[.val (.ref w4)] [(.ref w4)]))
  obtain ⟨T20, X20, e20, st20⟩ := getS2 X19 hx hZ hown (host := "") (Or.inl (hw _ (List.mem_of_getElem? (i := 47) rfl))) Via.refl e19 S4 (g := (mkF m 29 #[.val (.ref w4)] [(.ref w4)])) rfl (hb hby d1_29)
  refine Gl.back (fun _ k => st20 _ k) ?_
  show Gl _ _ _ _ _ _ _ (T20.setTop (mkF m 32 #[.val (.ref w4)] [(.ref w4), (.ref w4)]))
  refine Gl.back (fun _ k => Jvm.RoadKit.acmp (g := (mkF m 32 #[.val (.ref w4)] [(.ref w4), (.ref w4)])) X20 hx rfl rfl rfl (pc0 := 32) (pc' := 35) (same := true) rfl (hb hby d1_32) rfl (decide_eq_true rfl) (by decide) (by decide) k) ?_
  show Gl _ _ _ _ _ _ _ (T20.setTop (mkF m 35 #[.val (.ref w4)] []))
  refine Gl.back (fun _ k => XS.iconst X20.here hx rfl (hb hby d1_35) k) ?_
  show Gl _ _ _ _ _ _ _ (T20.setTop (mkF m 36 #[.val (.ref w4)] [(.int (1 : Int32))]))
  refine Gl.back (fun _ k => XS.goto X20.here hx rfl (pc0 := 36) (pc' := 40) rfl (hb hby d1_36) (by decide) (by decide) k) ?_
  show Gl _ _ _ _ _ _ _ (T20.setTop (mkF m 40 #[.val (.ref w4)] [(.int (1 : Int32))]))
  exact Gl.ret X20 e20 (v := (some (.int (1 : Int32)))) (fun h => by rw [Bd.returns] at h; cases h) Bd.notSynchronized (fun fs hr => retN X20 hx (t := .boolean) (z := (1 : Int32)) Bd.returns (by simp) (hb hby d1_40) hr) ⟨N0, rfl, rfl⟩ (by decide) (by decide)
theorem d3_0 : decode prog_15_method_7_code 0 = .ok (.aload_n 0, 1) := by decide +kernel
theorem d3_1 : decode prog_15_method_7_code 1 = .ok (.getstatic 46, 3) := by decide +kernel
theorem d3_4 : decode prog_15_method_7_code 4 = .ok (.if_acmp .eq 10, 3) := by decide +kernel
theorem d3_7 : decode prog_15_method_7_code 7 = .ok (.aload_n 0, 1) := by decide +kernel
theorem d3_8 : decode prog_15_method_7_code 8 = .ok (.getstatic 49, 3) := by decide +kernel
theorem d3_11 : decode prog_15_method_7_code 11 = .ok (.if_acmp .ne 7, 3) := by decide +kernel
theorem d3_18 : decode prog_15_method_7_code 18 = .ok (.iconst 0, 1) := by decide +kernel
theorem d3_19 : decode prog_15_method_7_code 19 = .ok (.ireturn, 1) := by decide +kernel
theorem ef_3_no (m : MethodId) (x0 : Addr) : entryFrame m #[(.ref x0)] 1 = mkF m 0 #[.val (.ref x0)] [] := by first | (simp [entryFrame, mkF, argsToLocals, Value.category]; done) | rfl
def Q3_no (Z : State) (a : Addr) (w0 : Addr) (w1 : Addr) (h0 : Heap) (n0 : Nat) (v : Option Value) (h : Heap) (L : List Loc) : Prop := Fr n0 L ∧ (v = some (.int 0) ∧ h = h0)
set_option maxRecDepth 65536 in
set_option maxHeartbeats 40000000 in
theorem rm3_no (l : Launch) (Z : State) (a0 : Array Value) (hw : ∀ d ∈ tables_1, d.before a0 Z = true) (ws : List Jvm.Cond) (a : Addr) (w0 : Addr) (w1 : Addr) (h0 : Heap) (n0 : Nat) (Z0 : n0 ≤ h0.size) (S0 : Sta Z h0 "com/example/demi_orm/demiorm/query/Operator" "IN" "Lcom/example/demi_orm/demiorm/query/Operator;" (.ref w0)) (S1 : Sta Z h0 "com/example/demi_orm/demiorm/query/Operator" "NOT_IN" "Lcom/example/demi_orm/demiorm/query/Operator;" (.ref w1)) (ne0 : ¬ a = w0) (ne1 : ¬ a = w1) :
    MetFree l (⟨"com/example/demi_orm/demiorm/query/Operator", "takesCollection", "()Z"⟩ : MethodName) (head1 (Jvm.Cond.code (⟨"com/example/demi_orm/demiorm/query/Operator", "takesCollection", "()Z"⟩ : MethodName) prog_15_method_7_code 1 (some .boolean) :: ws) ({ frames := 0, cells := 0, slots := 0, locals := 0 } : Room)) (fun as0 U => as0 = #[(.ref a)] ∧ Z.Warmed39 U.vm ∧ U.heap = h0) (fun _ _ _ _ _ => True) (fun _ U oc0 U' => ∃ v L, oc0 = .returned v ∧ Q3_no Z a w0 w1 h0 n0 v U'.heap L ∧ FrameEnd U oc0 U' L ({ frames := 0, cells := 0, slots := 0, locals := 0 } : Room).cells ({ frames := 0, cells := 0, slots := 0, locals := 0 } : Room).slots) := by
  refine MetFree.of_bodySF (plainFor_of_name pn_com_example_demi_orm_demiorm_query_Operator) hisR ?_
  intro p e s m args below meth c s₁ Bd hml0 hP hK
  obtain ⟨rfl, hZ, hh⟩ := hP
  have hx := Bd.exec
  have hby := Bd.bytes
  have hml : c.maxLocals = 1 := hml0
  have hown : s.vm.findClass "com/example/demi_orm/demiorm/query/Operator" = some m.cls := findClass_of_methodNamed Bd.named
  have hnm := (name_of_methodNamed Bd.named Bd.method).1
  have X0 : Stand p l e ({ frames := 0, cells := 0, slots := 0, locals := 0 } : Room) s m #[(.ref a)] below meth c s₁ [] 0 0 := Stand.of_body Bd
  have e0 : s₁.heap = h0 := by rw [← hh, Bd.state]; rfl
  have N0 := Fr.nil n0
  show Gl p e below s (Q3_no Z a w0 w1 h0 n0) ({ frames := 0, cells := 0, slots := 0, locals := 0 } : Room).cells ({ frames := 0, cells := 0, slots := 0, locals := 0 } : Room).slots (s₁.setTop (entryFrame m #[(.ref a)] 1))
  refine Gl.back (fun _ k => castTop (ef_3_no m a) k) ?_
  show Gl _ _ _ _ _ _ _ (s₁.setTop (mkF m 0 #[.val (.ref a)] []))
  refine Gl.back (fun _ k => XS.aloadN X0.here hx rfl (hb hby d3_0) rfl rfl k) ?_
  show Gl _ _ _ _ _ _ _ (s₁.setTop (mkF m 1 #[.val (.ref a)] [(.ref a)]))
  obtain ⟨T21, X21, e21, st21⟩ := getS2 X0 hx hZ hown (host := "") (Or.inl (hw _ (List.mem_of_getElem? (i := 60) rfl))) Via.refl e0 S0 (g := (mkF m 1 #[.val (.ref a)] [(.ref a)])) rfl (hb hby d3_1)
  refine Gl.back (fun _ k => st21 _ k) ?_
  show Gl _ _ _ _ _ _ _ (T21.setTop (mkF m 4 #[.val (.ref a)] [(.ref w0), (.ref a)]))
  refine Gl.back (fun _ k => Jvm.RoadKit.acmp (g := (mkF m 4 #[.val (.ref a)] [(.ref w0), (.ref a)])) X21 hx rfl rfl rfl (pc0 := 4) (pc' := 7) (same := false) rfl (hb hby d3_4) rfl (decide_eq_false fun q => ne0 (Value.ref.inj q)) (by decide) (by decide) k) ?_
  show Gl _ _ _ _ _ _ _ (T21.setTop (mkF m 7 #[.val (.ref a)] []))
  refine Gl.back (fun _ k => XS.aloadN X21.here hx rfl (hb hby d3_7) rfl rfl k) ?_
  show Gl _ _ _ _ _ _ _ (T21.setTop (mkF m 8 #[.val (.ref a)] [(.ref a)]))
  obtain ⟨T22, X22, e22, st22⟩ := getS2 X21 hx hZ hown (host := "") (Or.inl (hw _ (List.mem_of_getElem? (i := 61) rfl))) Via.refl e21 S1 (g := (mkF m 8 #[.val (.ref a)] [(.ref a)])) rfl (hb hby d3_8)
  refine Gl.back (fun _ k => st22 _ k) ?_
  show Gl _ _ _ _ _ _ _ (T22.setTop (mkF m 11 #[.val (.ref a)] [(.ref w1), (.ref a)]))
  refine Gl.back (fun _ k => Jvm.RoadKit.acmp (g := (mkF m 11 #[.val (.ref a)] [(.ref w1), (.ref a)])) X22 hx rfl rfl rfl (pc0 := 11) (pc' := 18) (same := false) rfl (hb hby d3_11) rfl (decide_eq_false fun q => ne1 (Value.ref.inj q)) (by decide) (by decide) k) ?_
  show Gl _ _ _ _ _ _ _ (T22.setTop (mkF m 18 #[.val (.ref a)] []))
  refine Gl.back (fun _ k => XS.iconst X22.here hx rfl (hb hby d3_18) k) ?_
  show Gl _ _ _ _ _ _ _ (T22.setTop (mkF m 19 #[.val (.ref a)] [(.int (0 : Int32))]))
  exact Gl.ret X22 e22 (v := (some (.int (0 : Int32)))) (fun h => by rw [Bd.returns] at h; cases h) Bd.notSynchronized (fun fs hr => retN X22 hx (t := .boolean) (z := (0 : Int32)) Bd.returns (by simp) (hb hby d3_19) hr) ⟨N0, rfl, rfl⟩ (by decide) (by decide)
theorem d4_0 : decode prog_15_method_8_code 0 = .ok (.aload_n 0, 1) := by decide +kernel
theorem d4_1 : decode prog_15_method_8_code 1 = .ok (.getstatic 3, 3) := by decide +kernel
theorem d4_4 : decode prog_15_method_8_code 4 = .ok (.if_acmp .eq 10, 3) := by decide +kernel
theorem d4_7 : decode prog_15_method_8_code 7 = .ok (.aload_n 0, 1) := by decide +kernel
theorem d4_8 : decode prog_15_method_8_code 8 = .ok (.getstatic 7, 3) := by decide +kernel
theorem d4_11 : decode prog_15_method_8_code 11 = .ok (.if_acmp .ne 7, 3) := by decide +kernel
theorem d4_18 : decode prog_15_method_8_code 18 = .ok (.iconst 0, 1) := by decide +kernel
theorem d4_19 : decode prog_15_method_8_code 19 = .ok (.ireturn, 1) := by decide +kernel
theorem ef_4_no (m : MethodId) (x0 : Addr) : entryFrame m #[(.ref x0)] 1 = mkF m 0 #[.val (.ref x0)] [] := by first | (simp [entryFrame, mkF, argsToLocals, Value.category]; done) | rfl
def Q4_no (Z : State) (a : Addr) (w0 : Addr) (w1 : Addr) (h0 : Heap) (n0 : Nat) (v : Option Value) (h : Heap) (L : List Loc) : Prop := Fr n0 L ∧ (v = some (.int 0) ∧ h = h0)
set_option maxRecDepth 65536 in
set_option maxHeartbeats 40000000 in
theorem rm4_no (l : Launch) (Z : State) (a0 : Array Value) (hw : ∀ d ∈ tables_1, d.before a0 Z = true) (ws : List Jvm.Cond) (a : Addr) (w0 : Addr) (w1 : Addr) (h0 : Heap) (n0 : Nat) (Z0 : n0 ≤ h0.size) (S0 : Sta Z h0 "com/example/demi_orm/demiorm/query/Operator" "EQUALS" "Lcom/example/demi_orm/demiorm/query/Operator;" (.ref w0)) (S1 : Sta Z h0 "com/example/demi_orm/demiorm/query/Operator" "NOT_EQUALS" "Lcom/example/demi_orm/demiorm/query/Operator;" (.ref w1)) (ne0 : ¬ a = w0) (ne1 : ¬ a = w1) :
    MetFree l (⟨"com/example/demi_orm/demiorm/query/Operator", "takesNull", "()Z"⟩ : MethodName) (head1 (Jvm.Cond.code (⟨"com/example/demi_orm/demiorm/query/Operator", "takesNull", "()Z"⟩ : MethodName) prog_15_method_8_code 1 (some .boolean) :: ws) ({ frames := 0, cells := 0, slots := 0, locals := 0 } : Room)) (fun as0 U => as0 = #[(.ref a)] ∧ Z.Warmed39 U.vm ∧ U.heap = h0) (fun _ _ _ _ _ => True) (fun _ U oc0 U' => ∃ v L, oc0 = .returned v ∧ Q4_no Z a w0 w1 h0 n0 v U'.heap L ∧ FrameEnd U oc0 U' L ({ frames := 0, cells := 0, slots := 0, locals := 0 } : Room).cells ({ frames := 0, cells := 0, slots := 0, locals := 0 } : Room).slots) := by
  refine MetFree.of_bodySF (plainFor_of_name pn_com_example_demi_orm_demiorm_query_Operator) hisR ?_
  intro p e s m args below meth c s₁ Bd hml0 hP hK
  obtain ⟨rfl, hZ, hh⟩ := hP
  have hx := Bd.exec
  have hby := Bd.bytes
  have hml : c.maxLocals = 1 := hml0
  have hown : s.vm.findClass "com/example/demi_orm/demiorm/query/Operator" = some m.cls := findClass_of_methodNamed Bd.named
  have hnm := (name_of_methodNamed Bd.named Bd.method).1
  have X0 : Stand p l e ({ frames := 0, cells := 0, slots := 0, locals := 0 } : Room) s m #[(.ref a)] below meth c s₁ [] 0 0 := Stand.of_body Bd
  have e0 : s₁.heap = h0 := by rw [← hh, Bd.state]; rfl
  have N0 := Fr.nil n0
  show Gl p e below s (Q4_no Z a w0 w1 h0 n0) ({ frames := 0, cells := 0, slots := 0, locals := 0 } : Room).cells ({ frames := 0, cells := 0, slots := 0, locals := 0 } : Room).slots (s₁.setTop (entryFrame m #[(.ref a)] 1))
  refine Gl.back (fun _ k => castTop (ef_4_no m a) k) ?_
  show Gl _ _ _ _ _ _ _ (s₁.setTop (mkF m 0 #[.val (.ref a)] []))
  refine Gl.back (fun _ k => XS.aloadN X0.here hx rfl (hb hby d4_0) rfl rfl k) ?_
  show Gl _ _ _ _ _ _ _ (s₁.setTop (mkF m 1 #[.val (.ref a)] [(.ref a)]))
  obtain ⟨T23, X23, e23, st23⟩ := getS2 X0 hx hZ hown (host := "") (Or.inl (hw _ (List.mem_of_getElem? (i := 67) rfl))) Via.refl e0 S0 (g := (mkF m 1 #[.val (.ref a)] [(.ref a)])) rfl (hb hby d4_1)
  refine Gl.back (fun _ k => st23 _ k) ?_
  show Gl _ _ _ _ _ _ _ (T23.setTop (mkF m 4 #[.val (.ref a)] [(.ref w0), (.ref a)]))
  refine Gl.back (fun _ k => Jvm.RoadKit.acmp (g := (mkF m 4 #[.val (.ref a)] [(.ref w0), (.ref a)])) X23 hx rfl rfl rfl (pc0 := 4) (pc' := 7) (same := false) rfl (hb hby d4_4) rfl (decide_eq_false fun q => ne0 (Value.ref.inj q)) (by decide) (by decide) k) ?_
  show Gl _ _ _ _ _ _ _ (T23.setTop (mkF m 7 #[.val (.ref a)] []))
  refine Gl.back (fun _ k => XS.aloadN X23.here hx rfl (hb hby d4_7) rfl rfl k) ?_
  show Gl _ _ _ _ _ _ _ (T23.setTop (mkF m 8 #[.val (.ref a)] [(.ref a)]))
  obtain ⟨T24, X24, e24, st24⟩ := getS2 X23 hx hZ hown (host := "") (Or.inl (hw _ (List.mem_of_getElem? (i := 68) rfl))) Via.refl e23 S1 (g := (mkF m 8 #[.val (.ref a)] [(.ref a)])) rfl (hb hby d4_8)
  refine Gl.back (fun _ k => st24 _ k) ?_
  show Gl _ _ _ _ _ _ _ (T24.setTop (mkF m 11 #[.val (.ref a)] [(.ref w1), (.ref a)]))
  refine Gl.back (fun _ k => Jvm.RoadKit.acmp (g := (mkF m 11 #[.val (.ref a)] [(.ref w1), (.ref a)])) X24 hx rfl rfl rfl (pc0 := 11) (pc' := 18) (same := false) rfl (hb hby d4_11) rfl (decide_eq_false fun q => ne1 (Value.ref.inj q)) (by decide) (by decide) k) ?_
  show Gl _ _ _ _ _ _ _ (T24.setTop (mkF m 18 #[.val (.ref a)] []))
  refine Gl.back (fun _ k => XS.iconst X24.here hx rfl (hb hby d4_18) k) ?_
  show Gl _ _ _ _ _ _ _ (T24.setTop (mkF m 19 #[.val (.ref a)] [(.int (0 : Int32))]))
  exact Gl.ret X24 e24 (v := (some (.int (0 : Int32)))) (fun h => by rw [Bd.returns] at h; cases h) Bd.notSynchronized (fun fs hr => retN X24 hx (t := .boolean) (z := (0 : Int32)) Bd.returns (by simp) (hb hby d4_19) hr) ⟨N0, rfl, rfl⟩ (by decide) (by decide)
theorem d2_0 : decode prog_15_method_4_code 0 = .ok (.aload_n 0, 1) := by decide +kernel
theorem d2_1 : decode prog_15_method_4_code 1 = .ok (.getfield 71, 3) := by decide +kernel
theorem d2_4 : decode prog_15_method_4_code 4 = .ok (.ireturn, 1) := by decide +kernel
theorem ef_2 (m : MethodId) (x0 : Addr) : entryFrame m #[(.ref x0)] 1 = mkF m 0 #[.val (.ref x0)] [] := by first | (simp [entryFrame, mkF, argsToLocals, Value.category]; done) | rfl
def Q2 (Z : State) (a : Addr) (r : Int32) (h0 : Heap) (n0 : Nat) (v : Option Value) (h : Heap) (L : List Loc) : Prop := Fr n0 L ∧ (v = some (.int r) ∧ h = h0)
set_option maxRecDepth 65536 in
set_option maxHeartbeats 40000000 in
theorem rm2 (l : Launch) (Z : State) (a0 : Array Value) (hw : ∀ d ∈ tables_1, d.before a0 Z = true) (ws : List Jvm.Cond) (a : Addr) (r : Int32) (h0 : Heap) (n0 : Nat) (Z0 : n0 ≤ h0.size) (F : Fld Z h0 a "com/example/demi_orm/demiorm/query/Operator" "arity" "I" (.int r)) :
    MetFree l (⟨"com/example/demi_orm/demiorm/query/Operator", "arity", "()I"⟩ : MethodName) (head1 (Jvm.Cond.code (⟨"com/example/demi_orm/demiorm/query/Operator", "arity", "()I"⟩ : MethodName) prog_15_method_4_code 1 (some .int) :: ws) ({ frames := 0, cells := 0, slots := 0, locals := 0 } : Room)) (fun as0 U => as0 = #[(.ref a)] ∧ Z.Warmed39 U.vm ∧ U.heap = h0) (fun _ _ _ _ _ => True) (fun _ U oc0 U' => ∃ v L, oc0 = .returned v ∧ Q2 Z a r h0 n0 v U'.heap L ∧ FrameEnd U oc0 U' L ({ frames := 0, cells := 0, slots := 0, locals := 0 } : Room).cells ({ frames := 0, cells := 0, slots := 0, locals := 0 } : Room).slots) := by
  refine MetFree.of_bodySF (plainFor_of_name pn_com_example_demi_orm_demiorm_query_Operator) hisR ?_
  intro p e s m args below meth c s₁ Bd hml0 hP hK
  obtain ⟨rfl, hZ, hh⟩ := hP
  have hx := Bd.exec
  have hby := Bd.bytes
  have hml : c.maxLocals = 1 := hml0
  have hown : s.vm.findClass "com/example/demi_orm/demiorm/query/Operator" = some m.cls := findClass_of_methodNamed Bd.named
  have hnm := (name_of_methodNamed Bd.named Bd.method).1
  have X0 : Stand p l e ({ frames := 0, cells := 0, slots := 0, locals := 0 } : Room) s m #[(.ref a)] below meth c s₁ [] 0 0 := Stand.of_body Bd
  have e0 : s₁.heap = h0 := by rw [← hh, Bd.state]; rfl
  have N0 := Fr.nil n0
  show Gl p e below s (Q2 Z a r h0 n0) ({ frames := 0, cells := 0, slots := 0, locals := 0 } : Room).cells ({ frames := 0, cells := 0, slots := 0, locals := 0 } : Room).slots (s₁.setTop (entryFrame m #[(.ref a)] 1))
  refine Gl.back (fun _ k => castTop (ef_2 m a) k) ?_
  show Gl _ _ _ _ _ _ _ (s₁.setTop (mkF m 0 #[.val (.ref a)] []))
  refine Gl.back (fun _ k => XS.aloadN X0.here hx rfl (hb hby d2_0) rfl rfl k) ?_
  show Gl _ _ _ _ _ _ _ (s₁.setTop (mkF m 1 #[.val (.ref a)] [(.ref a)]))
  obtain ⟨T25, X25, e25, st25⟩ := getF X0 hx hZ hown (host := "") (Or.inl (hw _ (List.mem_of_getElem? (i := 53) rfl))) Via.refl e0 F (g := (mkF m 1 #[.val (.ref a)] [(.ref a)])) rfl rfl (hb hby d2_1)
  refine Gl.back (fun _ k => st25 _ k) ?_
  show Gl _ _ _ _ _ _ _ (T25.setTop (mkF m 4 #[.val (.ref a)] [(.int r)]))
  exact Gl.ret X25 e25 (v := (some (.int r))) (fun h => by rw [Bd.returns] at h; cases h) Bd.notSynchronized (fun fs hr => retOut X25 hx (w := (.int r)) Bd.returns rfl (Or.inl ⟨rfl, Or.inl rfl, _, rfl⟩) (hb hby d2_4) hr) ⟨N0, rfl, rfl⟩ (by decide) (by decide)
theorem pd___Z : parseMethodDescriptor "()Z" = some ⟨[], some .boolean⟩ := by decide +kernel
theorem pd___I : parseMethodDescriptor "()I" = some ⟨[], some .int⟩ := by decide +kernel
theorem pn_com_example_demi_orm_demiorm_query_OperatorComparesTextPinLaw : plainName "com/example/demi_orm/demiorm/query/OperatorComparesTextPinLaw" = true := by first | (simp [plainName, overriddenIn]; done) | decide +kernel
theorem ef_0 (m : MethodId) (x0 : Int32) : entryFrame m #[(.int x0)] maxLocals = mkF m 0 #[.val (.int x0), .unset, .unset, .unset, .unset, .unset] [] := by first | (simp [entryFrame, mkF, argsToLocals, Value.category, maxLocals]; done) | rfl
def Q0 (Z : State) (i : Int32) (w_EQUALS : Addr) (w_NOT_EQUALS : Addr) (w_LESS_THAN : Addr) (w_LESS_THAN_OR_EQUAL : Addr) (w_GREATER_THAN : Addr) (w_GREATER_THAN_OR_EQUAL : Addr) (w_BETWEEN : Addr) (w_IS_NULL : Addr) (w_IS_NOT_NULL : Addr) (w_LIKE : Addr) (w_NOT_LIKE : Addr) (w_STARTING_WITH : Addr) (w_ENDING_WITH : Addr) (w_CONTAINING : Addr) (w_IN : Addr) (w_NOT_IN : Addr) (h0 : Heap) (n0 : Nat) (v : Option Value) (h : Heap) (L : List Loc) : Prop := Fr n0 L ∧ (v = some (.int 1))
set_option maxRecDepth 65536 in
set_option maxHeartbeats 40000000 in
theorem rm0 (l : Launch) (Z : State) (a0 : Array Value) (hw : ∀ d ∈ tables_1, d.before a0 Z = true) (ws : List Jvm.Cond) (i : Int32) (w_EQUALS : Addr) (w_NOT_EQUALS : Addr) (w_LESS_THAN : Addr) (w_LESS_THAN_OR_EQUAL : Addr) (w_GREATER_THAN : Addr) (w_GREATER_THAN_OR_EQUAL : Addr) (w_BETWEEN : Addr) (w_IS_NULL : Addr) (w_IS_NOT_NULL : Addr) (w_LIKE : Addr) (w_NOT_LIKE : Addr) (w_STARTING_WITH : Addr) (w_ENDING_WITH : Addr) (w_CONTAINING : Addr) (w_IN : Addr) (w_NOT_IN : Addr) (h0 : Heap) (n0 : Nat) (Z0 : n0 ≤ h0.size) (S_EQUALS : Sta Z h0 "com/example/demi_orm/demiorm/query/Operator" "EQUALS" "Lcom/example/demi_orm/demiorm/query/Operator;" (.ref w_EQUALS)) (S_NOT_EQUALS : Sta Z h0 "com/example/demi_orm/demiorm/query/Operator" "NOT_EQUALS" "Lcom/example/demi_orm/demiorm/query/Operator;" (.ref w_NOT_EQUALS)) (S_LESS_THAN : Sta Z h0 "com/example/demi_orm/demiorm/query/Operator" "LESS_THAN" "Lcom/example/demi_orm/demiorm/query/Operator;" (.ref w_LESS_THAN)) (S_LESS_THAN_OR_EQUAL : Sta Z h0 "com/example/demi_orm/demiorm/query/Operator" "LESS_THAN_OR_EQUAL" "Lcom/example/demi_orm/demiorm/query/Operator;" (.ref w_LESS_THAN_OR_EQUAL)) (S_GREATER_THAN : Sta Z h0 "com/example/demi_orm/demiorm/query/Operator" "GREATER_THAN" "Lcom/example/demi_orm/demiorm/query/Operator;" (.ref w_GREATER_THAN)) (S_GREATER_THAN_OR_EQUAL : Sta Z h0 "com/example/demi_orm/demiorm/query/Operator" "GREATER_THAN_OR_EQUAL" "Lcom/example/demi_orm/demiorm/query/Operator;" (.ref w_GREATER_THAN_OR_EQUAL)) (S_BETWEEN : Sta Z h0 "com/example/demi_orm/demiorm/query/Operator" "BETWEEN" "Lcom/example/demi_orm/demiorm/query/Operator;" (.ref w_BETWEEN)) (S_IS_NULL : Sta Z h0 "com/example/demi_orm/demiorm/query/Operator" "IS_NULL" "Lcom/example/demi_orm/demiorm/query/Operator;" (.ref w_IS_NULL)) (S_IS_NOT_NULL : Sta Z h0 "com/example/demi_orm/demiorm/query/Operator" "IS_NOT_NULL" "Lcom/example/demi_orm/demiorm/query/Operator;" (.ref w_IS_NOT_NULL)) (S_LIKE : Sta Z h0 "com/example/demi_orm/demiorm/query/Operator" "LIKE" "Lcom/example/demi_orm/demiorm/query/Operator;" (.ref w_LIKE)) (S_NOT_LIKE : Sta Z h0 "com/example/demi_orm/demiorm/query/Operator" "NOT_LIKE" "Lcom/example/demi_orm/demiorm/query/Operator;" (.ref w_NOT_LIKE)) (S_STARTING_WITH : Sta Z h0 "com/example/demi_orm/demiorm/query/Operator" "STARTING_WITH" "Lcom/example/demi_orm/demiorm/query/Operator;" (.ref w_STARTING_WITH)) (S_ENDING_WITH : Sta Z h0 "com/example/demi_orm/demiorm/query/Operator" "ENDING_WITH" "Lcom/example/demi_orm/demiorm/query/Operator;" (.ref w_ENDING_WITH)) (S_CONTAINING : Sta Z h0 "com/example/demi_orm/demiorm/query/Operator" "CONTAINING" "Lcom/example/demi_orm/demiorm/query/Operator;" (.ref w_CONTAINING)) (S_IN : Sta Z h0 "com/example/demi_orm/demiorm/query/Operator" "IN" "Lcom/example/demi_orm/demiorm/query/Operator;" (.ref w_IN)) (S_NOT_IN : Sta Z h0 "com/example/demi_orm/demiorm/query/Operator" "NOT_IN" "Lcom/example/demi_orm/demiorm/query/Operator;" (.ref w_NOT_IN)) (E_EQUALS : Exa Z h0 w_EQUALS "com/example/demi_orm/demiorm/query/Operator") (E_NOT_EQUALS : Exa Z h0 w_NOT_EQUALS "com/example/demi_orm/demiorm/query/Operator") (E_LESS_THAN : Exa Z h0 w_LESS_THAN "com/example/demi_orm/demiorm/query/Operator") (E_LESS_THAN_OR_EQUAL : Exa Z h0 w_LESS_THAN_OR_EQUAL "com/example/demi_orm/demiorm/query/Operator") (E_GREATER_THAN : Exa Z h0 w_GREATER_THAN "com/example/demi_orm/demiorm/query/Operator") (E_GREATER_THAN_OR_EQUAL : Exa Z h0 w_GREATER_THAN_OR_EQUAL "com/example/demi_orm/demiorm/query/Operator") (E_BETWEEN : Exa Z h0 w_BETWEEN "com/example/demi_orm/demiorm/query/Operator") (E_IS_NULL : Exa Z h0 w_IS_NULL "com/example/demi_orm/demiorm/query/Operator") (E_IS_NOT_NULL : Exa Z h0 w_IS_NOT_NULL "com/example/demi_orm/demiorm/query/Operator") (E_LIKE : Exa Z h0 w_LIKE "com/example/demi_orm/demiorm/query/Operator") (E_NOT_LIKE : Exa Z h0 w_NOT_LIKE "com/example/demi_orm/demiorm/query/Operator") (E_STARTING_WITH : Exa Z h0 w_STARTING_WITH "com/example/demi_orm/demiorm/query/Operator") (E_ENDING_WITH : Exa Z h0 w_ENDING_WITH "com/example/demi_orm/demiorm/query/Operator") (E_CONTAINING : Exa Z h0 w_CONTAINING "com/example/demi_orm/demiorm/query/Operator") (E_IN : Exa Z h0 w_IN "com/example/demi_orm/demiorm/query/Operator") (E_NOT_IN : Exa Z h0 w_NOT_IN "com/example/demi_orm/demiorm/query/Operator") (F_EQUALS_ordinal : Fld Z h0 w_EQUALS "java/lang/Enum" "ordinal" "I" (.int 0)) (F_NOT_EQUALS_ordinal : Fld Z h0 w_NOT_EQUALS "java/lang/Enum" "ordinal" "I" (.int 1)) (F_LESS_THAN_ordinal : Fld Z h0 w_LESS_THAN "java/lang/Enum" "ordinal" "I" (.int 2)) (F_LESS_THAN_OR_EQUAL_ordinal : Fld Z h0 w_LESS_THAN_OR_EQUAL "java/lang/Enum" "ordinal" "I" (.int 3)) (F_GREATER_THAN_ordinal : Fld Z h0 w_GREATER_THAN "java/lang/Enum" "ordinal" "I" (.int 4)) (F_GREATER_THAN_OR_EQUAL_ordinal : Fld Z h0 w_GREATER_THAN_OR_EQUAL "java/lang/Enum" "ordinal" "I" (.int 5)) (F_BETWEEN_ordinal : Fld Z h0 w_BETWEEN "java/lang/Enum" "ordinal" "I" (.int 6)) (F_IS_NULL_ordinal : Fld Z h0 w_IS_NULL "java/lang/Enum" "ordinal" "I" (.int 7)) (F_IS_NOT_NULL_ordinal : Fld Z h0 w_IS_NOT_NULL "java/lang/Enum" "ordinal" "I" (.int 8)) (F_LIKE_ordinal : Fld Z h0 w_LIKE "java/lang/Enum" "ordinal" "I" (.int 9)) (F_NOT_LIKE_ordinal : Fld Z h0 w_NOT_LIKE "java/lang/Enum" "ordinal" "I" (.int 10)) (F_STARTING_WITH_ordinal : Fld Z h0 w_STARTING_WITH "java/lang/Enum" "ordinal" "I" (.int 11)) (F_ENDING_WITH_ordinal : Fld Z h0 w_ENDING_WITH "java/lang/Enum" "ordinal" "I" (.int 12)) (F_CONTAINING_ordinal : Fld Z h0 w_CONTAINING "java/lang/Enum" "ordinal" "I" (.int 13)) (F_IN_ordinal : Fld Z h0 w_IN "java/lang/Enum" "ordinal" "I" (.int 14)) (F_NOT_IN_ordinal : Fld Z h0 w_NOT_IN "java/lang/Enum" "ordinal" "I" (.int 15)) (F_LIKE_arity : Fld Z h0 w_LIKE "com/example/demi_orm/demiorm/query/Operator" "arity" "I" (.int 1)) (F_NOT_LIKE_arity : Fld Z h0 w_NOT_LIKE "com/example/demi_orm/demiorm/query/Operator" "arity" "I" (.int 1)) (F_STARTING_WITH_arity : Fld Z h0 w_STARTING_WITH "com/example/demi_orm/demiorm/query/Operator" "arity" "I" (.int 1)) (F_ENDING_WITH_arity : Fld Z h0 w_ENDING_WITH "com/example/demi_orm/demiorm/query/Operator" "arity" "I" (.int 1)) (F_CONTAINING_arity : Fld Z h0 w_CONTAINING "com/example/demi_orm/demiorm/query/Operator" "arity" "I" (.int 1)) :
    MetFree l x (head1 (Jvm.Cond.code x code maxLocals ret :: ws) room_1) (fun as0 U => as0 = #[(.int i)] ∧ Z.Warmed39 U.vm ∧ U.heap = h0) (fun _ _ _ _ _ => True) (fun _ U oc0 U' => ∃ v L, oc0 = .returned v ∧ Q0 Z i w_EQUALS w_NOT_EQUALS w_LESS_THAN w_LESS_THAN_OR_EQUAL w_GREATER_THAN w_GREATER_THAN_OR_EQUAL w_BETWEEN w_IS_NULL w_IS_NOT_NULL w_LIKE w_NOT_LIKE w_STARTING_WITH w_ENDING_WITH w_CONTAINING w_IN w_NOT_IN h0 n0 v U'.heap L ∧ FrameEnd U oc0 U' L room_1.cells room_1.slots) := by
  refine MetFree.of_bodySF (plainFor_of_name pn_com_example_demi_orm_demiorm_query_OperatorComparesTextPinLaw) hisR ?_
  intro p e s m args below meth c s₁ Bd hml0 hP hK
  obtain ⟨rfl, hZ, hh⟩ := hP
  have hx := Bd.exec
  have hby := Bd.bytes
  have hml : c.maxLocals = 6 := hml0
  have hown : s.vm.findClass "com/example/demi_orm/demiorm/query/OperatorComparesTextPinLaw" = some m.cls := findClass_of_methodNamed Bd.named
  have hnm := (name_of_methodNamed Bd.named Bd.method).1
  have X0 : Stand p l e room_1 s m #[(.int i)] below meth c s₁ [] 0 0 := Stand.of_body Bd
  have e0 : s₁.heap = h0 := by rw [← hh, Bd.state]; rfl
  have N0 := Fr.nil n0
  show Gl p e below s (Q0 Z i w_EQUALS w_NOT_EQUALS w_LESS_THAN w_LESS_THAN_OR_EQUAL w_GREATER_THAN w_GREATER_THAN_OR_EQUAL w_BETWEEN w_IS_NULL w_IS_NOT_NULL w_LIKE w_NOT_LIKE w_STARTING_WITH w_ENDING_WITH w_CONTAINING w_IN w_NOT_IN h0 n0) room_1.cells room_1.slots (s₁.setTop (entryFrame m #[(.int i)] maxLocals))
  refine Gl.back (fun _ k => castTop (ef_0 m i) k) ?_
  show Gl _ _ _ _ _ _ _ (s₁.setTop (mkF m 0 #[.val (.int i), .unset, .unset, .unset, .unset, .unset] []))
  refine Gl.back (fun _ k => XS.bipush X0.here hx rfl (hb hby at_0) k) ?_
  show Gl _ _ _ _ _ _ _ (s₁.setTop (mkF m 2 #[.val (.int i), .unset, .unset, .unset, .unset, .unset] [(.int (16 : Int32))]))
  obtain ⟨T120, h120, k120, X120, e120, E120, A120, Ov120, st120⟩ := newR X0 hx hZ hown (hw _ (List.mem_of_getElem? (i := 0) rfl)) (hw _ (List.mem_of_getElem? (i := 1) rfl)) e0 (g := (mkF m 2 #[.val (.int i), .unset, .unset, .unset, .unset, .unset] [(.int (16 : Int32))])) rfl (hb hby at_2) rfl (by decide) (cap := 16) (by decide) (by decide) (by decide) (by decide)
  obtain ⟨b120, g120⟩ : ∃ z, z = h0.size := ⟨_, rfl⟩
  rw [← g120] at A120 st120
  have V120 : Arv Z h120 b120 k120 (.object "com/example/demi_orm/demiorm/query/Operator") (16 : Int32) [.null, .null, .null, .null, .null, .null, .null, .null, .null, .null, .null, .null, .null, .null, .null, .null] .null := (Arv.new A120 (by decide)).pad (pad_rep [] .null 16)
  have ne_w_EQUALS_b120 : w_EQUALS ≠ b120 := Nat.ne_of_lt (Nat.lt_of_lt_of_le E_EQUALS.lt (Nat.le_of_eq g120.symm))
  have ne_w_NOT_EQUALS_b120 : w_NOT_EQUALS ≠ b120 := Nat.ne_of_lt (Nat.lt_of_lt_of_le E_NOT_EQUALS.lt (Nat.le_of_eq g120.symm))
  have ne_w_LESS_THAN_b120 : w_LESS_THAN ≠ b120 := Nat.ne_of_lt (Nat.lt_of_lt_of_le E_LESS_THAN.lt (Nat.le_of_eq g120.symm))
  have ne_w_LESS_THAN_OR_EQUAL_b120 : w_LESS_THAN_OR_EQUAL ≠ b120 := Nat.ne_of_lt (Nat.lt_of_lt_of_le E_LESS_THAN_OR_EQUAL.lt (Nat.le_of_eq g120.symm))
  have ne_w_GREATER_THAN_b120 : w_GREATER_THAN ≠ b120 := Nat.ne_of_lt (Nat.lt_of_lt_of_le E_GREATER_THAN.lt (Nat.le_of_eq g120.symm))
  have ne_w_GREATER_THAN_OR_EQUAL_b120 : w_GREATER_THAN_OR_EQUAL ≠ b120 := Nat.ne_of_lt (Nat.lt_of_lt_of_le E_GREATER_THAN_OR_EQUAL.lt (Nat.le_of_eq g120.symm))
  have ne_w_BETWEEN_b120 : w_BETWEEN ≠ b120 := Nat.ne_of_lt (Nat.lt_of_lt_of_le E_BETWEEN.lt (Nat.le_of_eq g120.symm))
  have ne_w_IS_NULL_b120 : w_IS_NULL ≠ b120 := Nat.ne_of_lt (Nat.lt_of_lt_of_le E_IS_NULL.lt (Nat.le_of_eq g120.symm))
  have ne_w_IS_NOT_NULL_b120 : w_IS_NOT_NULL ≠ b120 := Nat.ne_of_lt (Nat.lt_of_lt_of_le E_IS_NOT_NULL.lt (Nat.le_of_eq g120.symm))
  have ne_w_LIKE_b120 : w_LIKE ≠ b120 := Nat.ne_of_lt (Nat.lt_of_lt_of_le E_LIKE.lt (Nat.le_of_eq g120.symm))
  have ne_w_NOT_LIKE_b120 : w_NOT_LIKE ≠ b120 := Nat.ne_of_lt (Nat.lt_of_lt_of_le E_NOT_LIKE.lt (Nat.le_of_eq g120.symm))
  have ne_w_STARTING_WITH_b120 : w_STARTING_WITH ≠ b120 := Nat.ne_of_lt (Nat.lt_of_lt_of_le E_STARTING_WITH.lt (Nat.le_of_eq g120.symm))
  have ne_w_ENDING_WITH_b120 : w_ENDING_WITH ≠ b120 := Nat.ne_of_lt (Nat.lt_of_lt_of_le E_ENDING_WITH.lt (Nat.le_of_eq g120.symm))
  have ne_w_CONTAINING_b120 : w_CONTAINING ≠ b120 := Nat.ne_of_lt (Nat.lt_of_lt_of_le E_CONTAINING.lt (Nat.le_of_eq g120.symm))
  have ne_w_IN_b120 : w_IN ≠ b120 := Nat.ne_of_lt (Nat.lt_of_lt_of_le E_IN.lt (Nat.le_of_eq g120.symm))
  have ne_w_NOT_IN_b120 : w_NOT_IN ≠ b120 := Nat.ne_of_lt (Nat.lt_of_lt_of_le E_NOT_IN.lt (Nat.le_of_eq g120.symm))
  have g_b120 : n0 ≤ b120 := Nat.le_trans Z0 (Nat.le_of_eq g120.symm)
  have sz_b120 : h0.size ≤ b120 := Nat.le_trans (Keep.refl h0 []).1 (Nat.le_of_eq g120.symm)
  have Z120 : n0 ≤ h120.size := Nat.le_trans Z0 E120.1
  have K120 := Keep.ext (Keep.refl h0 []) E120
  refine Gl.back (fun _ k => st120 _ k) ?_
  show Gl _ _ _ _ _ _ _ (T120.setTop (mkF m 5 #[.val (.int i), .unset, .unset, .unset, .unset, .unset] [(.ref b120)]))
  refine Gl.back (fun _ k => XS.dup X120.here hx rfl (hb hby at_5) rfl rfl k) ?_
  show Gl _ _ _ _ _ _ _ (T120.setTop (mkF m 6 #[.val (.int i), .unset, .unset, .unset, .unset, .unset] [(.ref b120), (.ref b120)]))
  refine Gl.back (fun _ k => XS.iconst X120.here hx rfl (hb hby at_6) k) ?_
  show Gl _ _ _ _ _ _ _ (T120.setTop (mkF m 7 #[.val (.int i), .unset, .unset, .unset, .unset, .unset] [(.int (0 : Int32)), (.ref b120), (.ref b120)]))
  have f121 := (S_EQUALS.ext E120)
  obtain ⟨T122, X122, e122, st122⟩ := getS2 X120 hx hZ hown (host := "") (Or.inl (hw _ (List.mem_of_getElem? (i := 2) rfl))) Via.refl e120 f121 (g := (mkF m 7 #[.val (.int i), .unset, .unset, .unset, .unset, .unset] [(.int (0 : Int32)), (.ref b120), (.ref b120)])) rfl (hb hby at_7)
  refine Gl.back (fun _ k => st122 _ k) ?_
  show Gl _ _ _ _ _ _ _ (T122.setTop (mkF m 10 #[.val (.int i), .unset, .unset, .unset, .unset, .unset] [(.ref w_EQUALS), (.int (0 : Int32)), (.ref b120), (.ref b120)]))
  obtain ⟨cl123, Ar123, q123, Sz123, Nn123, Hs123, Gf123⟩ := id V120
  have hin123 : ¬ ((0 : Int32) < 0 ∨ cl123.slots.size ≤ ((0 : Int32)).toNatClampNeg) := inb_of Sz123 ⟨by decide, by decide⟩
  have f124 := (E_EQUALS.ext E120)
  obtain ⟨T125, h125, X125, e125, W125, st125⟩ := stR X122 hx hZ e122 Ar123 (j := (0 : Int32)) hin123 rfl (Sto.ofV Ar123 q123 Ov120 (Ins.self f124)) (g := (mkF m 10 #[.val (.int i), .unset, .unset, .unset, .unset, .unset] [(.ref w_EQUALS), (.int (0 : Int32)), (.ref b120), (.ref b120)])) rfl rfl (hb hby at_10)
  have V125 := Arv.set Ar123 q123 Sz123 Nn123 Hs123 Gf123 rfl W125 0 rfl (Nat.le_of_ble_eq_true rfl)
  replace V125 : Arv Z h125 b120 k120 (.object "com/example/demi_orm/demiorm/query/Operator") (16 : Int32) [(.ref w_EQUALS), .null, .null, .null, .null, .null, .null, .null, .null, .null, .null, .null, .null, .null, .null, .null] .null := V125
  have K125 := Keep.wr K120 W125 (Or.inr sz_b120)
  have Z125 : n0 ≤ h125.size := Nat.le_trans Z120 (Keep.of_wr W125).1
  have N125 := Fr.snoc X125 N0 g_b120
  refine Gl.back (fun _ k => st125 _ k) ?_
  show Gl _ _ _ _ _ _ _ (T125.setTop (mkF m 11 #[.val (.int i), .unset, .unset, .unset, .unset, .unset] [(.ref b120)]))
  refine Gl.back (fun _ k => XS.dup X125.here hx rfl (hb hby at_11) rfl rfl k) ?_
  show Gl _ _ _ _ _ _ _ (T125.setTop (mkF m 12 #[.val (.int i), .unset, .unset, .unset, .unset, .unset] [(.ref b120), (.ref b120)]))
  refine Gl.back (fun _ k => XS.iconst X125.here hx rfl (hb hby at_12) k) ?_
  show Gl _ _ _ _ _ _ _ (T125.setTop (mkF m 13 #[.val (.int i), .unset, .unset, .unset, .unset, .unset] [(.int (1 : Int32)), (.ref b120), (.ref b120)]))
  have f126 := ((S_NOT_EQUALS.ext E120).wr W125)
  obtain ⟨T127, X127, e127, st127⟩ := getS2 X125 hx hZ hown (host := "") (Or.inl (hw _ (List.mem_of_getElem? (i := 6) rfl))) Via.refl e125 f126 (g := (mkF m 13 #[.val (.int i), .unset, .unset, .unset, .unset, .unset] [(.int (1 : Int32)), (.ref b120), (.ref b120)])) rfl (hb hby at_13)
  refine Gl.back (fun _ k => st127 _ k) ?_
  show Gl _ _ _ _ _ _ _ (T127.setTop (mkF m 16 #[.val (.int i), .unset, .unset, .unset, .unset, .unset] [(.ref w_NOT_EQUALS), (.int (1 : Int32)), (.ref b120), (.ref b120)]))
  obtain ⟨cl128, Ar128, q128, Sz128, Nn128, Hs128, Gf128⟩ := id V125
  have hin128 : ¬ ((1 : Int32) < 0 ∨ cl128.slots.size ≤ ((1 : Int32)).toNatClampNeg) := inb_of Sz128 ⟨by decide, by decide⟩
  have f129 := ((E_NOT_EQUALS.ext E120).wr W125)
  obtain ⟨T130, h130, X130, e130, W130, st130⟩ := stR X127 hx hZ e127 Ar128 (j := (1 : Int32)) hin128 rfl (Sto.ofV Ar128 q128 Ov120 (Ins.self f129)) (g := (mkF m 16 #[.val (.int i), .unset, .unset, .unset, .unset, .unset] [(.ref w_NOT_EQUALS), (.int (1 : Int32)), (.ref b120), (.ref b120)])) rfl rfl (hb hby at_16)
  have V130 := Arv.set Ar128 q128 Sz128 Nn128 Hs128 Gf128 rfl W130 1 rfl (Nat.le_of_ble_eq_true rfl)
  replace V130 : Arv Z h130 b120 k120 (.object "com/example/demi_orm/demiorm/query/Operator") (16 : Int32) [(.ref w_EQUALS), (.ref w_NOT_EQUALS), .null, .null, .null, .null, .null, .null, .null, .null, .null, .null, .null, .null, .null, .null] .null := V130
  have K130 := Keep.wr K125 W130 (Or.inr sz_b120)
  have Z130 : n0 ≤ h130.size := Nat.le_trans Z125 (Keep.of_wr W130).1
  have N130 := Fr.snoc X130 N125 g_b120
  refine Gl.back (fun _ k => st130 _ k) ?_
  show Gl _ _ _ _ _ _ _ (T130.setTop (mkF m 17 #[.val (.int i), .unset, .unset, .unset, .unset, .unset] [(.ref b120)]))
  refine Gl.back (fun _ k => XS.dup X130.here hx rfl (hb hby at_17) rfl rfl k) ?_
  show Gl _ _ _ _ _ _ _ (T130.setTop (mkF m 18 #[.val (.int i), .unset, .unset, .unset, .unset, .unset] [(.ref b120), (.ref b120)]))
  refine Gl.back (fun _ k => XS.iconst X130.here hx rfl (hb hby at_18) k) ?_
  show Gl _ _ _ _ _ _ _ (T130.setTop (mkF m 19 #[.val (.int i), .unset, .unset, .unset, .unset, .unset] [(.int (2 : Int32)), (.ref b120), (.ref b120)]))
  have f131 := (((S_LESS_THAN.ext E120).wr W125).wr W130)
  obtain ⟨T132, X132, e132, st132⟩ := getS2 X130 hx hZ hown (host := "") (Or.inl (hw _ (List.mem_of_getElem? (i := 8) rfl))) Via.refl e130 f131 (g := (mkF m 19 #[.val (.int i), .unset, .unset, .unset, .unset, .unset] [(.int (2 : Int32)), (.ref b120), (.ref b120)])) rfl (hb hby at_19)
  refine Gl.back (fun _ k => st132 _ k) ?_
  show Gl _ _ _ _ _ _ _ (T132.setTop (mkF m 22 #[.val (.int i), .unset, .unset, .unset, .unset, .unset] [(.ref w_LESS_THAN), (.int (2 : Int32)), (.ref b120), (.ref b120)]))
  obtain ⟨cl133, Ar133, q133, Sz133, Nn133, Hs133, Gf133⟩ := id V130
  have hin133 : ¬ ((2 : Int32) < 0 ∨ cl133.slots.size ≤ ((2 : Int32)).toNatClampNeg) := inb_of Sz133 ⟨by decide, by decide⟩
  have f134 := (((E_LESS_THAN.ext E120).wr W125).wr W130)
  obtain ⟨T135, h135, X135, e135, W135, st135⟩ := stR X132 hx hZ e132 Ar133 (j := (2 : Int32)) hin133 rfl (Sto.ofV Ar133 q133 Ov120 (Ins.self f134)) (g := (mkF m 22 #[.val (.int i), .unset, .unset, .unset, .unset, .unset] [(.ref w_LESS_THAN), (.int (2 : Int32)), (.ref b120), (.ref b120)])) rfl rfl (hb hby at_22)
  have V135 := Arv.set Ar133 q133 Sz133 Nn133 Hs133 Gf133 rfl W135 2 rfl (Nat.le_of_ble_eq_true rfl)
  replace V135 : Arv Z h135 b120 k120 (.object "com/example/demi_orm/demiorm/query/Operator") (16 : Int32) [(.ref w_EQUALS), (.ref w_NOT_EQUALS), (.ref w_LESS_THAN), .null, .null, .null, .null, .null, .null, .null, .null, .null, .null, .null, .null, .null] .null := V135
  have K135 := Keep.wr K130 W135 (Or.inr sz_b120)
  have Z135 : n0 ≤ h135.size := Nat.le_trans Z130 (Keep.of_wr W135).1
  have N135 := Fr.snoc X135 N130 g_b120
  refine Gl.back (fun _ k => st135 _ k) ?_
  show Gl _ _ _ _ _ _ _ (T135.setTop (mkF m 23 #[.val (.int i), .unset, .unset, .unset, .unset, .unset] [(.ref b120)]))
  refine Gl.back (fun _ k => XS.dup X135.here hx rfl (hb hby at_23) rfl rfl k) ?_
  show Gl _ _ _ _ _ _ _ (T135.setTop (mkF m 24 #[.val (.int i), .unset, .unset, .unset, .unset, .unset] [(.ref b120), (.ref b120)]))
  refine Gl.back (fun _ k => XS.iconst X135.here hx rfl (hb hby at_24) k) ?_
  show Gl _ _ _ _ _ _ _ (T135.setTop (mkF m 25 #[.val (.int i), .unset, .unset, .unset, .unset, .unset] [(.int (3 : Int32)), (.ref b120), (.ref b120)]))
  have f136 := ((((S_LESS_THAN_OR_EQUAL.ext E120).wr W125).wr W130).wr W135)
  obtain ⟨T137, X137, e137, st137⟩ := getS2 X135 hx hZ hown (host := "") (Or.inl (hw _ (List.mem_of_getElem? (i := 10) rfl))) Via.refl e135 f136 (g := (mkF m 25 #[.val (.int i), .unset, .unset, .unset, .unset, .unset] [(.int (3 : Int32)), (.ref b120), (.ref b120)])) rfl (hb hby at_25)
  refine Gl.back (fun _ k => st137 _ k) ?_
  show Gl _ _ _ _ _ _ _ (T137.setTop (mkF m 28 #[.val (.int i), .unset, .unset, .unset, .unset, .unset] [(.ref w_LESS_THAN_OR_EQUAL), (.int (3 : Int32)), (.ref b120), (.ref b120)]))
  obtain ⟨cl138, Ar138, q138, Sz138, Nn138, Hs138, Gf138⟩ := id V135
  have hin138 : ¬ ((3 : Int32) < 0 ∨ cl138.slots.size ≤ ((3 : Int32)).toNatClampNeg) := inb_of Sz138 ⟨by decide, by decide⟩
  have f139 := ((((E_LESS_THAN_OR_EQUAL.ext E120).wr W125).wr W130).wr W135)
  obtain ⟨T140, h140, X140, e140, W140, st140⟩ := stR X137 hx hZ e137 Ar138 (j := (3 : Int32)) hin138 rfl (Sto.ofV Ar138 q138 Ov120 (Ins.self f139)) (g := (mkF m 28 #[.val (.int i), .unset, .unset, .unset, .unset, .unset] [(.ref w_LESS_THAN_OR_EQUAL), (.int (3 : Int32)), (.ref b120), (.ref b120)])) rfl rfl (hb hby at_28)
  have V140 := Arv.set Ar138 q138 Sz138 Nn138 Hs138 Gf138 rfl W140 3 rfl (Nat.le_of_ble_eq_true rfl)
  replace V140 : Arv Z h140 b120 k120 (.object "com/example/demi_orm/demiorm/query/Operator") (16 : Int32) [(.ref w_EQUALS), (.ref w_NOT_EQUALS), (.ref w_LESS_THAN), (.ref w_LESS_THAN_OR_EQUAL), .null, .null, .null, .null, .null, .null, .null, .null, .null, .null, .null, .null] .null := V140
  have K140 := Keep.wr K135 W140 (Or.inr sz_b120)
  have Z140 : n0 ≤ h140.size := Nat.le_trans Z135 (Keep.of_wr W140).1
  have N140 := Fr.snoc X140 N135 g_b120
  refine Gl.back (fun _ k => st140 _ k) ?_
  show Gl _ _ _ _ _ _ _ (T140.setTop (mkF m 29 #[.val (.int i), .unset, .unset, .unset, .unset, .unset] [(.ref b120)]))
  refine Gl.back (fun _ k => XS.dup X140.here hx rfl (hb hby at_29) rfl rfl k) ?_
  show Gl _ _ _ _ _ _ _ (T140.setTop (mkF m 30 #[.val (.int i), .unset, .unset, .unset, .unset, .unset] [(.ref b120), (.ref b120)]))
  refine Gl.back (fun _ k => XS.iconst X140.here hx rfl (hb hby at_30) k) ?_
  show Gl _ _ _ _ _ _ _ (T140.setTop (mkF m 31 #[.val (.int i), .unset, .unset, .unset, .unset, .unset] [(.int (4 : Int32)), (.ref b120), (.ref b120)]))
  have f141 := (((((S_GREATER_THAN.ext E120).wr W125).wr W130).wr W135).wr W140)
  obtain ⟨T142, X142, e142, st142⟩ := getS2 X140 hx hZ hown (host := "") (Or.inl (hw _ (List.mem_of_getElem? (i := 12) rfl))) Via.refl e140 f141 (g := (mkF m 31 #[.val (.int i), .unset, .unset, .unset, .unset, .unset] [(.int (4 : Int32)), (.ref b120), (.ref b120)])) rfl (hb hby at_31)
  refine Gl.back (fun _ k => st142 _ k) ?_
  show Gl _ _ _ _ _ _ _ (T142.setTop (mkF m 34 #[.val (.int i), .unset, .unset, .unset, .unset, .unset] [(.ref w_GREATER_THAN), (.int (4 : Int32)), (.ref b120), (.ref b120)]))
  obtain ⟨cl143, Ar143, q143, Sz143, Nn143, Hs143, Gf143⟩ := id V140
  have hin143 : ¬ ((4 : Int32) < 0 ∨ cl143.slots.size ≤ ((4 : Int32)).toNatClampNeg) := inb_of Sz143 ⟨by decide, by decide⟩
  have f144 := (((((E_GREATER_THAN.ext E120).wr W125).wr W130).wr W135).wr W140)
  obtain ⟨T145, h145, X145, e145, W145, st145⟩ := stR X142 hx hZ e142 Ar143 (j := (4 : Int32)) hin143 rfl (Sto.ofV Ar143 q143 Ov120 (Ins.self f144)) (g := (mkF m 34 #[.val (.int i), .unset, .unset, .unset, .unset, .unset] [(.ref w_GREATER_THAN), (.int (4 : Int32)), (.ref b120), (.ref b120)])) rfl rfl (hb hby at_34)
  have V145 := Arv.set Ar143 q143 Sz143 Nn143 Hs143 Gf143 rfl W145 4 rfl (Nat.le_of_ble_eq_true rfl)
  replace V145 : Arv Z h145 b120 k120 (.object "com/example/demi_orm/demiorm/query/Operator") (16 : Int32) [(.ref w_EQUALS), (.ref w_NOT_EQUALS), (.ref w_LESS_THAN), (.ref w_LESS_THAN_OR_EQUAL), (.ref w_GREATER_THAN), .null, .null, .null, .null, .null, .null, .null, .null, .null, .null, .null] .null := V145
  have K145 := Keep.wr K140 W145 (Or.inr sz_b120)
  have Z145 : n0 ≤ h145.size := Nat.le_trans Z140 (Keep.of_wr W145).1
  have N145 := Fr.snoc X145 N140 g_b120
  refine Gl.back (fun _ k => st145 _ k) ?_
  show Gl _ _ _ _ _ _ _ (T145.setTop (mkF m 35 #[.val (.int i), .unset, .unset, .unset, .unset, .unset] [(.ref b120)]))
  refine Gl.back (fun _ k => XS.dup X145.here hx rfl (hb hby at_35) rfl rfl k) ?_
  show Gl _ _ _ _ _ _ _ (T145.setTop (mkF m 36 #[.val (.int i), .unset, .unset, .unset, .unset, .unset] [(.ref b120), (.ref b120)]))
  refine Gl.back (fun _ k => XS.iconst X145.here hx rfl (hb hby at_36) k) ?_
  show Gl _ _ _ _ _ _ _ (T145.setTop (mkF m 37 #[.val (.int i), .unset, .unset, .unset, .unset, .unset] [(.int (5 : Int32)), (.ref b120), (.ref b120)]))
  have f146 := ((((((S_GREATER_THAN_OR_EQUAL.ext E120).wr W125).wr W130).wr W135).wr W140).wr W145)
  obtain ⟨T147, X147, e147, st147⟩ := getS2 X145 hx hZ hown (host := "") (Or.inl (hw _ (List.mem_of_getElem? (i := 14) rfl))) Via.refl e145 f146 (g := (mkF m 37 #[.val (.int i), .unset, .unset, .unset, .unset, .unset] [(.int (5 : Int32)), (.ref b120), (.ref b120)])) rfl (hb hby at_37)
  refine Gl.back (fun _ k => st147 _ k) ?_
  show Gl _ _ _ _ _ _ _ (T147.setTop (mkF m 40 #[.val (.int i), .unset, .unset, .unset, .unset, .unset] [(.ref w_GREATER_THAN_OR_EQUAL), (.int (5 : Int32)), (.ref b120), (.ref b120)]))
  obtain ⟨cl148, Ar148, q148, Sz148, Nn148, Hs148, Gf148⟩ := id V145
  have hin148 : ¬ ((5 : Int32) < 0 ∨ cl148.slots.size ≤ ((5 : Int32)).toNatClampNeg) := inb_of Sz148 ⟨by decide, by decide⟩
  have f149 := ((((((E_GREATER_THAN_OR_EQUAL.ext E120).wr W125).wr W130).wr W135).wr W140).wr W145)
  obtain ⟨T150, h150, X150, e150, W150, st150⟩ := stR X147 hx hZ e147 Ar148 (j := (5 : Int32)) hin148 rfl (Sto.ofV Ar148 q148 Ov120 (Ins.self f149)) (g := (mkF m 40 #[.val (.int i), .unset, .unset, .unset, .unset, .unset] [(.ref w_GREATER_THAN_OR_EQUAL), (.int (5 : Int32)), (.ref b120), (.ref b120)])) rfl rfl (hb hby at_40)
  have V150 := Arv.set Ar148 q148 Sz148 Nn148 Hs148 Gf148 rfl W150 5 rfl (Nat.le_of_ble_eq_true rfl)
  replace V150 : Arv Z h150 b120 k120 (.object "com/example/demi_orm/demiorm/query/Operator") (16 : Int32) [(.ref w_EQUALS), (.ref w_NOT_EQUALS), (.ref w_LESS_THAN), (.ref w_LESS_THAN_OR_EQUAL), (.ref w_GREATER_THAN), (.ref w_GREATER_THAN_OR_EQUAL), .null, .null, .null, .null, .null, .null, .null, .null, .null, .null] .null := V150
  have K150 := Keep.wr K145 W150 (Or.inr sz_b120)
  have Z150 : n0 ≤ h150.size := Nat.le_trans Z145 (Keep.of_wr W150).1
  have N150 := Fr.snoc X150 N145 g_b120
  refine Gl.back (fun _ k => st150 _ k) ?_
  show Gl _ _ _ _ _ _ _ (T150.setTop (mkF m 41 #[.val (.int i), .unset, .unset, .unset, .unset, .unset] [(.ref b120)]))
  refine Gl.back (fun _ k => XS.dup X150.here hx rfl (hb hby at_41) rfl rfl k) ?_
  show Gl _ _ _ _ _ _ _ (T150.setTop (mkF m 42 #[.val (.int i), .unset, .unset, .unset, .unset, .unset] [(.ref b120), (.ref b120)]))
  refine Gl.back (fun _ k => XS.bipush X150.here hx rfl (hb hby at_42) k) ?_
  show Gl _ _ _ _ _ _ _ (T150.setTop (mkF m 44 #[.val (.int i), .unset, .unset, .unset, .unset, .unset] [(.int (6 : Int32)), (.ref b120), (.ref b120)]))
  have f151 := (((((((S_BETWEEN.ext E120).wr W125).wr W130).wr W135).wr W140).wr W145).wr W150)
  obtain ⟨T152, X152, e152, st152⟩ := getS2 X150 hx hZ hown (host := "") (Or.inl (hw _ (List.mem_of_getElem? (i := 16) rfl))) Via.refl e150 f151 (g := (mkF m 44 #[.val (.int i), .unset, .unset, .unset, .unset, .unset] [(.int (6 : Int32)), (.ref b120), (.ref b120)])) rfl (hb hby at_44)
  refine Gl.back (fun _ k => st152 _ k) ?_
  show Gl _ _ _ _ _ _ _ (T152.setTop (mkF m 47 #[.val (.int i), .unset, .unset, .unset, .unset, .unset] [(.ref w_BETWEEN), (.int (6 : Int32)), (.ref b120), (.ref b120)]))
  obtain ⟨cl153, Ar153, q153, Sz153, Nn153, Hs153, Gf153⟩ := id V150
  have hin153 : ¬ ((6 : Int32) < 0 ∨ cl153.slots.size ≤ ((6 : Int32)).toNatClampNeg) := inb_of Sz153 ⟨by decide, by decide⟩
  have f154 := (((((((E_BETWEEN.ext E120).wr W125).wr W130).wr W135).wr W140).wr W145).wr W150)
  obtain ⟨T155, h155, X155, e155, W155, st155⟩ := stR X152 hx hZ e152 Ar153 (j := (6 : Int32)) hin153 rfl (Sto.ofV Ar153 q153 Ov120 (Ins.self f154)) (g := (mkF m 47 #[.val (.int i), .unset, .unset, .unset, .unset, .unset] [(.ref w_BETWEEN), (.int (6 : Int32)), (.ref b120), (.ref b120)])) rfl rfl (hb hby at_47)
  have V155 := Arv.set Ar153 q153 Sz153 Nn153 Hs153 Gf153 rfl W155 6 rfl (Nat.le_of_ble_eq_true rfl)
  replace V155 : Arv Z h155 b120 k120 (.object "com/example/demi_orm/demiorm/query/Operator") (16 : Int32) [(.ref w_EQUALS), (.ref w_NOT_EQUALS), (.ref w_LESS_THAN), (.ref w_LESS_THAN_OR_EQUAL), (.ref w_GREATER_THAN), (.ref w_GREATER_THAN_OR_EQUAL), (.ref w_BETWEEN), .null, .null, .null, .null, .null, .null, .null, .null, .null] .null := V155
  have K155 := Keep.wr K150 W155 (Or.inr sz_b120)
  have Z155 : n0 ≤ h155.size := Nat.le_trans Z150 (Keep.of_wr W155).1
  have N155 := Fr.snoc X155 N150 g_b120
  refine Gl.back (fun _ k => st155 _ k) ?_
  show Gl _ _ _ _ _ _ _ (T155.setTop (mkF m 48 #[.val (.int i), .unset, .unset, .unset, .unset, .unset] [(.ref b120)]))
  refine Gl.back (fun _ k => XS.dup X155.here hx rfl (hb hby at_48) rfl rfl k) ?_
  show Gl _ _ _ _ _ _ _ (T155.setTop (mkF m 49 #[.val (.int i), .unset, .unset, .unset, .unset, .unset] [(.ref b120), (.ref b120)]))
  refine Gl.back (fun _ k => XS.bipush X155.here hx rfl (hb hby at_49) k) ?_
  show Gl _ _ _ _ _ _ _ (T155.setTop (mkF m 51 #[.val (.int i), .unset, .unset, .unset, .unset, .unset] [(.int (7 : Int32)), (.ref b120), (.ref b120)]))
  have f156 := ((((((((S_IS_NULL.ext E120).wr W125).wr W130).wr W135).wr W140).wr W145).wr W150).wr W155)
  obtain ⟨T157, X157, e157, st157⟩ := getS2 X155 hx hZ hown (host := "") (Or.inl (hw _ (List.mem_of_getElem? (i := 18) rfl))) Via.refl e155 f156 (g := (mkF m 51 #[.val (.int i), .unset, .unset, .unset, .unset, .unset] [(.int (7 : Int32)), (.ref b120), (.ref b120)])) rfl (hb hby at_51)
  refine Gl.back (fun _ k => st157 _ k) ?_
  show Gl _ _ _ _ _ _ _ (T157.setTop (mkF m 54 #[.val (.int i), .unset, .unset, .unset, .unset, .unset] [(.ref w_IS_NULL), (.int (7 : Int32)), (.ref b120), (.ref b120)]))
  obtain ⟨cl158, Ar158, q158, Sz158, Nn158, Hs158, Gf158⟩ := id V155
  have hin158 : ¬ ((7 : Int32) < 0 ∨ cl158.slots.size ≤ ((7 : Int32)).toNatClampNeg) := inb_of Sz158 ⟨by decide, by decide⟩
  have f159 := ((((((((E_IS_NULL.ext E120).wr W125).wr W130).wr W135).wr W140).wr W145).wr W150).wr W155)
  obtain ⟨T160, h160, X160, e160, W160, st160⟩ := stR X157 hx hZ e157 Ar158 (j := (7 : Int32)) hin158 rfl (Sto.ofV Ar158 q158 Ov120 (Ins.self f159)) (g := (mkF m 54 #[.val (.int i), .unset, .unset, .unset, .unset, .unset] [(.ref w_IS_NULL), (.int (7 : Int32)), (.ref b120), (.ref b120)])) rfl rfl (hb hby at_54)
  have V160 := Arv.set Ar158 q158 Sz158 Nn158 Hs158 Gf158 rfl W160 7 rfl (Nat.le_of_ble_eq_true rfl)
  replace V160 : Arv Z h160 b120 k120 (.object "com/example/demi_orm/demiorm/query/Operator") (16 : Int32) [(.ref w_EQUALS), (.ref w_NOT_EQUALS), (.ref w_LESS_THAN), (.ref w_LESS_THAN_OR_EQUAL), (.ref w_GREATER_THAN), (.ref w_GREATER_THAN_OR_EQUAL), (.ref w_BETWEEN), (.ref w_IS_NULL), .null, .null, .null, .null, .null, .null, .null, .null] .null := V160
  have K160 := Keep.wr K155 W160 (Or.inr sz_b120)
  have Z160 : n0 ≤ h160.size := Nat.le_trans Z155 (Keep.of_wr W160).1
  have N160 := Fr.snoc X160 N155 g_b120
  refine Gl.back (fun _ k => st160 _ k) ?_
  show Gl _ _ _ _ _ _ _ (T160.setTop (mkF m 55 #[.val (.int i), .unset, .unset, .unset, .unset, .unset] [(.ref b120)]))
  refine Gl.back (fun _ k => XS.dup X160.here hx rfl (hb hby at_55) rfl rfl k) ?_
  show Gl _ _ _ _ _ _ _ (T160.setTop (mkF m 56 #[.val (.int i), .unset, .unset, .unset, .unset, .unset] [(.ref b120), (.ref b120)]))
  refine Gl.back (fun _ k => XS.bipush X160.here hx rfl (hb hby at_56) k) ?_
  show Gl _ _ _ _ _ _ _ (T160.setTop (mkF m 58 #[.val (.int i), .unset, .unset, .unset, .unset, .unset] [(.int (8 : Int32)), (.ref b120), (.ref b120)]))
  have f161 := (((((((((S_IS_NOT_NULL.ext E120).wr W125).wr W130).wr W135).wr W140).wr W145).wr W150).wr W155).wr W160)
  obtain ⟨T162, X162, e162, st162⟩ := getS2 X160 hx hZ hown (host := "") (Or.inl (hw _ (List.mem_of_getElem? (i := 20) rfl))) Via.refl e160 f161 (g := (mkF m 58 #[.val (.int i), .unset, .unset, .unset, .unset, .unset] [(.int (8 : Int32)), (.ref b120), (.ref b120)])) rfl (hb hby at_58)
  refine Gl.back (fun _ k => st162 _ k) ?_
  show Gl _ _ _ _ _ _ _ (T162.setTop (mkF m 61 #[.val (.int i), .unset, .unset, .unset, .unset, .unset] [(.ref w_IS_NOT_NULL), (.int (8 : Int32)), (.ref b120), (.ref b120)]))
  obtain ⟨cl163, Ar163, q163, Sz163, Nn163, Hs163, Gf163⟩ := id V160
  have hin163 : ¬ ((8 : Int32) < 0 ∨ cl163.slots.size ≤ ((8 : Int32)).toNatClampNeg) := inb_of Sz163 ⟨by decide, by decide⟩
  have f164 := (((((((((E_IS_NOT_NULL.ext E120).wr W125).wr W130).wr W135).wr W140).wr W145).wr W150).wr W155).wr W160)
  obtain ⟨T165, h165, X165, e165, W165, st165⟩ := stR X162 hx hZ e162 Ar163 (j := (8 : Int32)) hin163 rfl (Sto.ofV Ar163 q163 Ov120 (Ins.self f164)) (g := (mkF m 61 #[.val (.int i), .unset, .unset, .unset, .unset, .unset] [(.ref w_IS_NOT_NULL), (.int (8 : Int32)), (.ref b120), (.ref b120)])) rfl rfl (hb hby at_61)
  have V165 := Arv.set Ar163 q163 Sz163 Nn163 Hs163 Gf163 rfl W165 8 rfl (Nat.le_of_ble_eq_true rfl)
  replace V165 : Arv Z h165 b120 k120 (.object "com/example/demi_orm/demiorm/query/Operator") (16 : Int32) [(.ref w_EQUALS), (.ref w_NOT_EQUALS), (.ref w_LESS_THAN), (.ref w_LESS_THAN_OR_EQUAL), (.ref w_GREATER_THAN), (.ref w_GREATER_THAN_OR_EQUAL), (.ref w_BETWEEN), (.ref w_IS_NULL), (.ref w_IS_NOT_NULL), .null, .null, .null, .null, .null, .null, .null] .null := V165
  have K165 := Keep.wr K160 W165 (Or.inr sz_b120)
  have Z165 : n0 ≤ h165.size := Nat.le_trans Z160 (Keep.of_wr W165).1
  have N165 := Fr.snoc X165 N160 g_b120
  refine Gl.back (fun _ k => st165 _ k) ?_
  show Gl _ _ _ _ _ _ _ (T165.setTop (mkF m 62 #[.val (.int i), .unset, .unset, .unset, .unset, .unset] [(.ref b120)]))
  refine Gl.back (fun _ k => XS.dup X165.here hx rfl (hb hby at_62) rfl rfl k) ?_
  show Gl _ _ _ _ _ _ _ (T165.setTop (mkF m 63 #[.val (.int i), .unset, .unset, .unset, .unset, .unset] [(.ref b120), (.ref b120)]))
  refine Gl.back (fun _ k => XS.bipush X165.here hx rfl (hb hby at_63) k) ?_
  show Gl _ _ _ _ _ _ _ (T165.setTop (mkF m 65 #[.val (.int i), .unset, .unset, .unset, .unset, .unset] [(.int (9 : Int32)), (.ref b120), (.ref b120)]))
  have f166 := ((((((((((S_LIKE.ext E120).wr W125).wr W130).wr W135).wr W140).wr W145).wr W150).wr W155).wr W160).wr W165)
  obtain ⟨T167, X167, e167, st167⟩ := getS2 X165 hx hZ hown (host := "") (Or.inl (hw _ (List.mem_of_getElem? (i := 22) rfl))) Via.refl e165 f166 (g := (mkF m 65 #[.val (.int i), .unset, .unset, .unset, .unset, .unset] [(.int (9 : Int32)), (.ref b120), (.ref b120)])) rfl (hb hby at_65)
  refine Gl.back (fun _ k => st167 _ k) ?_
  show Gl _ _ _ _ _ _ _ (T167.setTop (mkF m 68 #[.val (.int i), .unset, .unset, .unset, .unset, .unset] [(.ref w_LIKE), (.int (9 : Int32)), (.ref b120), (.ref b120)]))
  obtain ⟨cl168, Ar168, q168, Sz168, Nn168, Hs168, Gf168⟩ := id V165
  have hin168 : ¬ ((9 : Int32) < 0 ∨ cl168.slots.size ≤ ((9 : Int32)).toNatClampNeg) := inb_of Sz168 ⟨by decide, by decide⟩
  have f169 := ((((((((((E_LIKE.ext E120).wr W125).wr W130).wr W135).wr W140).wr W145).wr W150).wr W155).wr W160).wr W165)
  obtain ⟨T170, h170, X170, e170, W170, st170⟩ := stR X167 hx hZ e167 Ar168 (j := (9 : Int32)) hin168 rfl (Sto.ofV Ar168 q168 Ov120 (Ins.self f169)) (g := (mkF m 68 #[.val (.int i), .unset, .unset, .unset, .unset, .unset] [(.ref w_LIKE), (.int (9 : Int32)), (.ref b120), (.ref b120)])) rfl rfl (hb hby at_68)
  have V170 := Arv.set Ar168 q168 Sz168 Nn168 Hs168 Gf168 rfl W170 9 rfl (Nat.le_of_ble_eq_true rfl)
  replace V170 : Arv Z h170 b120 k120 (.object "com/example/demi_orm/demiorm/query/Operator") (16 : Int32) [(.ref w_EQUALS), (.ref w_NOT_EQUALS), (.ref w_LESS_THAN), (.ref w_LESS_THAN_OR_EQUAL), (.ref w_GREATER_THAN), (.ref w_GREATER_THAN_OR_EQUAL), (.ref w_BETWEEN), (.ref w_IS_NULL), (.ref w_IS_NOT_NULL), (.ref w_LIKE), .null, .null, .null, .null, .null, .null] .null := V170
  have K170 := Keep.wr K165 W170 (Or.inr sz_b120)
  have Z170 : n0 ≤ h170.size := Nat.le_trans Z165 (Keep.of_wr W170).1
  have N170 := Fr.snoc X170 N165 g_b120
  refine Gl.back (fun _ k => st170 _ k) ?_
  show Gl _ _ _ _ _ _ _ (T170.setTop (mkF m 69 #[.val (.int i), .unset, .unset, .unset, .unset, .unset] [(.ref b120)]))
  refine Gl.back (fun _ k => XS.dup X170.here hx rfl (hb hby at_69) rfl rfl k) ?_
  show Gl _ _ _ _ _ _ _ (T170.setTop (mkF m 70 #[.val (.int i), .unset, .unset, .unset, .unset, .unset] [(.ref b120), (.ref b120)]))
  refine Gl.back (fun _ k => XS.bipush X170.here hx rfl (hb hby at_70) k) ?_
  show Gl _ _ _ _ _ _ _ (T170.setTop (mkF m 72 #[.val (.int i), .unset, .unset, .unset, .unset, .unset] [(.int (10 : Int32)), (.ref b120), (.ref b120)]))
  have f171 := (((((((((((S_NOT_LIKE.ext E120).wr W125).wr W130).wr W135).wr W140).wr W145).wr W150).wr W155).wr W160).wr W165).wr W170)
  obtain ⟨T172, X172, e172, st172⟩ := getS2 X170 hx hZ hown (host := "") (Or.inl (hw _ (List.mem_of_getElem? (i := 24) rfl))) Via.refl e170 f171 (g := (mkF m 72 #[.val (.int i), .unset, .unset, .unset, .unset, .unset] [(.int (10 : Int32)), (.ref b120), (.ref b120)])) rfl (hb hby at_72)
  refine Gl.back (fun _ k => st172 _ k) ?_
  show Gl _ _ _ _ _ _ _ (T172.setTop (mkF m 75 #[.val (.int i), .unset, .unset, .unset, .unset, .unset] [(.ref w_NOT_LIKE), (.int (10 : Int32)), (.ref b120), (.ref b120)]))
  obtain ⟨cl173, Ar173, q173, Sz173, Nn173, Hs173, Gf173⟩ := id V170
  have hin173 : ¬ ((10 : Int32) < 0 ∨ cl173.slots.size ≤ ((10 : Int32)).toNatClampNeg) := inb_of Sz173 ⟨by decide, by decide⟩
  have f174 := (((((((((((E_NOT_LIKE.ext E120).wr W125).wr W130).wr W135).wr W140).wr W145).wr W150).wr W155).wr W160).wr W165).wr W170)
  obtain ⟨T175, h175, X175, e175, W175, st175⟩ := stR X172 hx hZ e172 Ar173 (j := (10 : Int32)) hin173 rfl (Sto.ofV Ar173 q173 Ov120 (Ins.self f174)) (g := (mkF m 75 #[.val (.int i), .unset, .unset, .unset, .unset, .unset] [(.ref w_NOT_LIKE), (.int (10 : Int32)), (.ref b120), (.ref b120)])) rfl rfl (hb hby at_75)
  have V175 := Arv.set Ar173 q173 Sz173 Nn173 Hs173 Gf173 rfl W175 10 rfl (Nat.le_of_ble_eq_true rfl)
  replace V175 : Arv Z h175 b120 k120 (.object "com/example/demi_orm/demiorm/query/Operator") (16 : Int32) [(.ref w_EQUALS), (.ref w_NOT_EQUALS), (.ref w_LESS_THAN), (.ref w_LESS_THAN_OR_EQUAL), (.ref w_GREATER_THAN), (.ref w_GREATER_THAN_OR_EQUAL), (.ref w_BETWEEN), (.ref w_IS_NULL), (.ref w_IS_NOT_NULL), (.ref w_LIKE), (.ref w_NOT_LIKE), .null, .null, .null, .null, .null] .null := V175
  have K175 := Keep.wr K170 W175 (Or.inr sz_b120)
  have Z175 : n0 ≤ h175.size := Nat.le_trans Z170 (Keep.of_wr W175).1
  have N175 := Fr.snoc X175 N170 g_b120
  refine Gl.back (fun _ k => st175 _ k) ?_
  show Gl _ _ _ _ _ _ _ (T175.setTop (mkF m 76 #[.val (.int i), .unset, .unset, .unset, .unset, .unset] [(.ref b120)]))
  refine Gl.back (fun _ k => XS.dup X175.here hx rfl (hb hby at_76) rfl rfl k) ?_
  show Gl _ _ _ _ _ _ _ (T175.setTop (mkF m 77 #[.val (.int i), .unset, .unset, .unset, .unset, .unset] [(.ref b120), (.ref b120)]))
  refine Gl.back (fun _ k => XS.bipush X175.here hx rfl (hb hby at_77) k) ?_
  show Gl _ _ _ _ _ _ _ (T175.setTop (mkF m 79 #[.val (.int i), .unset, .unset, .unset, .unset, .unset] [(.int (11 : Int32)), (.ref b120), (.ref b120)]))
  have f176 := ((((((((((((S_STARTING_WITH.ext E120).wr W125).wr W130).wr W135).wr W140).wr W145).wr W150).wr W155).wr W160).wr W165).wr W170).wr W175)
  obtain ⟨T177, X177, e177, st177⟩ := getS2 X175 hx hZ hown (host := "") (Or.inl (hw _ (List.mem_of_getElem? (i := 26) rfl))) Via.refl e175 f176 (g := (mkF m 79 #[.val (.int i), .unset, .unset, .unset, .unset, .unset] [(.int (11 : Int32)), (.ref b120), (.ref b120)])) rfl (hb hby at_79)
  refine Gl.back (fun _ k => st177 _ k) ?_
  show Gl _ _ _ _ _ _ _ (T177.setTop (mkF m 82 #[.val (.int i), .unset, .unset, .unset, .unset, .unset] [(.ref w_STARTING_WITH), (.int (11 : Int32)), (.ref b120), (.ref b120)]))
  obtain ⟨cl178, Ar178, q178, Sz178, Nn178, Hs178, Gf178⟩ := id V175
  have hin178 : ¬ ((11 : Int32) < 0 ∨ cl178.slots.size ≤ ((11 : Int32)).toNatClampNeg) := inb_of Sz178 ⟨by decide, by decide⟩
  have f179 := ((((((((((((E_STARTING_WITH.ext E120).wr W125).wr W130).wr W135).wr W140).wr W145).wr W150).wr W155).wr W160).wr W165).wr W170).wr W175)
  obtain ⟨T180, h180, X180, e180, W180, st180⟩ := stR X177 hx hZ e177 Ar178 (j := (11 : Int32)) hin178 rfl (Sto.ofV Ar178 q178 Ov120 (Ins.self f179)) (g := (mkF m 82 #[.val (.int i), .unset, .unset, .unset, .unset, .unset] [(.ref w_STARTING_WITH), (.int (11 : Int32)), (.ref b120), (.ref b120)])) rfl rfl (hb hby at_82)
  have V180 := Arv.set Ar178 q178 Sz178 Nn178 Hs178 Gf178 rfl W180 11 rfl (Nat.le_of_ble_eq_true rfl)
  replace V180 : Arv Z h180 b120 k120 (.object "com/example/demi_orm/demiorm/query/Operator") (16 : Int32) [(.ref w_EQUALS), (.ref w_NOT_EQUALS), (.ref w_LESS_THAN), (.ref w_LESS_THAN_OR_EQUAL), (.ref w_GREATER_THAN), (.ref w_GREATER_THAN_OR_EQUAL), (.ref w_BETWEEN), (.ref w_IS_NULL), (.ref w_IS_NOT_NULL), (.ref w_LIKE), (.ref w_NOT_LIKE), (.ref w_STARTING_WITH), .null, .null, .null, .null] .null := V180
  have K180 := Keep.wr K175 W180 (Or.inr sz_b120)
  have Z180 : n0 ≤ h180.size := Nat.le_trans Z175 (Keep.of_wr W180).1
  have N180 := Fr.snoc X180 N175 g_b120
  refine Gl.back (fun _ k => st180 _ k) ?_
  show Gl _ _ _ _ _ _ _ (T180.setTop (mkF m 83 #[.val (.int i), .unset, .unset, .unset, .unset, .unset] [(.ref b120)]))
  refine Gl.back (fun _ k => XS.dup X180.here hx rfl (hb hby at_83) rfl rfl k) ?_
  show Gl _ _ _ _ _ _ _ (T180.setTop (mkF m 84 #[.val (.int i), .unset, .unset, .unset, .unset, .unset] [(.ref b120), (.ref b120)]))
  refine Gl.back (fun _ k => XS.bipush X180.here hx rfl (hb hby at_84) k) ?_
  show Gl _ _ _ _ _ _ _ (T180.setTop (mkF m 86 #[.val (.int i), .unset, .unset, .unset, .unset, .unset] [(.int (12 : Int32)), (.ref b120), (.ref b120)]))
  have f181 := (((((((((((((S_ENDING_WITH.ext E120).wr W125).wr W130).wr W135).wr W140).wr W145).wr W150).wr W155).wr W160).wr W165).wr W170).wr W175).wr W180)
  obtain ⟨T182, X182, e182, st182⟩ := getS2 X180 hx hZ hown (host := "") (Or.inl (hw _ (List.mem_of_getElem? (i := 28) rfl))) Via.refl e180 f181 (g := (mkF m 86 #[.val (.int i), .unset, .unset, .unset, .unset, .unset] [(.int (12 : Int32)), (.ref b120), (.ref b120)])) rfl (hb hby at_86)
  refine Gl.back (fun _ k => st182 _ k) ?_
  show Gl _ _ _ _ _ _ _ (T182.setTop (mkF m 89 #[.val (.int i), .unset, .unset, .unset, .unset, .unset] [(.ref w_ENDING_WITH), (.int (12 : Int32)), (.ref b120), (.ref b120)]))
  obtain ⟨cl183, Ar183, q183, Sz183, Nn183, Hs183, Gf183⟩ := id V180
  have hin183 : ¬ ((12 : Int32) < 0 ∨ cl183.slots.size ≤ ((12 : Int32)).toNatClampNeg) := inb_of Sz183 ⟨by decide, by decide⟩
  have f184 := (((((((((((((E_ENDING_WITH.ext E120).wr W125).wr W130).wr W135).wr W140).wr W145).wr W150).wr W155).wr W160).wr W165).wr W170).wr W175).wr W180)
  obtain ⟨T185, h185, X185, e185, W185, st185⟩ := stR X182 hx hZ e182 Ar183 (j := (12 : Int32)) hin183 rfl (Sto.ofV Ar183 q183 Ov120 (Ins.self f184)) (g := (mkF m 89 #[.val (.int i), .unset, .unset, .unset, .unset, .unset] [(.ref w_ENDING_WITH), (.int (12 : Int32)), (.ref b120), (.ref b120)])) rfl rfl (hb hby at_89)
  have V185 := Arv.set Ar183 q183 Sz183 Nn183 Hs183 Gf183 rfl W185 12 rfl (Nat.le_of_ble_eq_true rfl)
  replace V185 : Arv Z h185 b120 k120 (.object "com/example/demi_orm/demiorm/query/Operator") (16 : Int32) [(.ref w_EQUALS), (.ref w_NOT_EQUALS), (.ref w_LESS_THAN), (.ref w_LESS_THAN_OR_EQUAL), (.ref w_GREATER_THAN), (.ref w_GREATER_THAN_OR_EQUAL), (.ref w_BETWEEN), (.ref w_IS_NULL), (.ref w_IS_NOT_NULL), (.ref w_LIKE), (.ref w_NOT_LIKE), (.ref w_STARTING_WITH), (.ref w_ENDING_WITH), .null, .null, .null] .null := V185
  have K185 := Keep.wr K180 W185 (Or.inr sz_b120)
  have Z185 : n0 ≤ h185.size := Nat.le_trans Z180 (Keep.of_wr W185).1
  have N185 := Fr.snoc X185 N180 g_b120
  refine Gl.back (fun _ k => st185 _ k) ?_
  show Gl _ _ _ _ _ _ _ (T185.setTop (mkF m 90 #[.val (.int i), .unset, .unset, .unset, .unset, .unset] [(.ref b120)]))
  refine Gl.back (fun _ k => XS.dup X185.here hx rfl (hb hby at_90) rfl rfl k) ?_
  show Gl _ _ _ _ _ _ _ (T185.setTop (mkF m 91 #[.val (.int i), .unset, .unset, .unset, .unset, .unset] [(.ref b120), (.ref b120)]))
  refine Gl.back (fun _ k => XS.bipush X185.here hx rfl (hb hby at_91) k) ?_
  show Gl _ _ _ _ _ _ _ (T185.setTop (mkF m 93 #[.val (.int i), .unset, .unset, .unset, .unset, .unset] [(.int (13 : Int32)), (.ref b120), (.ref b120)]))
  have f186 := ((((((((((((((S_CONTAINING.ext E120).wr W125).wr W130).wr W135).wr W140).wr W145).wr W150).wr W155).wr W160).wr W165).wr W170).wr W175).wr W180).wr W185)
  obtain ⟨T187, X187, e187, st187⟩ := getS2 X185 hx hZ hown (host := "") (Or.inl (hw _ (List.mem_of_getElem? (i := 30) rfl))) Via.refl e185 f186 (g := (mkF m 93 #[.val (.int i), .unset, .unset, .unset, .unset, .unset] [(.int (13 : Int32)), (.ref b120), (.ref b120)])) rfl (hb hby at_93)
  refine Gl.back (fun _ k => st187 _ k) ?_
  show Gl _ _ _ _ _ _ _ (T187.setTop (mkF m 96 #[.val (.int i), .unset, .unset, .unset, .unset, .unset] [(.ref w_CONTAINING), (.int (13 : Int32)), (.ref b120), (.ref b120)]))
  obtain ⟨cl188, Ar188, q188, Sz188, Nn188, Hs188, Gf188⟩ := id V185
  have hin188 : ¬ ((13 : Int32) < 0 ∨ cl188.slots.size ≤ ((13 : Int32)).toNatClampNeg) := inb_of Sz188 ⟨by decide, by decide⟩
  have f189 := ((((((((((((((E_CONTAINING.ext E120).wr W125).wr W130).wr W135).wr W140).wr W145).wr W150).wr W155).wr W160).wr W165).wr W170).wr W175).wr W180).wr W185)
  obtain ⟨T190, h190, X190, e190, W190, st190⟩ := stR X187 hx hZ e187 Ar188 (j := (13 : Int32)) hin188 rfl (Sto.ofV Ar188 q188 Ov120 (Ins.self f189)) (g := (mkF m 96 #[.val (.int i), .unset, .unset, .unset, .unset, .unset] [(.ref w_CONTAINING), (.int (13 : Int32)), (.ref b120), (.ref b120)])) rfl rfl (hb hby at_96)
  have V190 := Arv.set Ar188 q188 Sz188 Nn188 Hs188 Gf188 rfl W190 13 rfl (Nat.le_of_ble_eq_true rfl)
  replace V190 : Arv Z h190 b120 k120 (.object "com/example/demi_orm/demiorm/query/Operator") (16 : Int32) [(.ref w_EQUALS), (.ref w_NOT_EQUALS), (.ref w_LESS_THAN), (.ref w_LESS_THAN_OR_EQUAL), (.ref w_GREATER_THAN), (.ref w_GREATER_THAN_OR_EQUAL), (.ref w_BETWEEN), (.ref w_IS_NULL), (.ref w_IS_NOT_NULL), (.ref w_LIKE), (.ref w_NOT_LIKE), (.ref w_STARTING_WITH), (.ref w_ENDING_WITH), (.ref w_CONTAINING), .null, .null] .null := V190
  have K190 := Keep.wr K185 W190 (Or.inr sz_b120)
  have Z190 : n0 ≤ h190.size := Nat.le_trans Z185 (Keep.of_wr W190).1
  have N190 := Fr.snoc X190 N185 g_b120
  refine Gl.back (fun _ k => st190 _ k) ?_
  show Gl _ _ _ _ _ _ _ (T190.setTop (mkF m 97 #[.val (.int i), .unset, .unset, .unset, .unset, .unset] [(.ref b120)]))
  refine Gl.back (fun _ k => XS.dup X190.here hx rfl (hb hby at_97) rfl rfl k) ?_
  show Gl _ _ _ _ _ _ _ (T190.setTop (mkF m 98 #[.val (.int i), .unset, .unset, .unset, .unset, .unset] [(.ref b120), (.ref b120)]))
  refine Gl.back (fun _ k => XS.bipush X190.here hx rfl (hb hby at_98) k) ?_
  show Gl _ _ _ _ _ _ _ (T190.setTop (mkF m 100 #[.val (.int i), .unset, .unset, .unset, .unset, .unset] [(.int (14 : Int32)), (.ref b120), (.ref b120)]))
  have f191 := (((((((((((((((S_IN.ext E120).wr W125).wr W130).wr W135).wr W140).wr W145).wr W150).wr W155).wr W160).wr W165).wr W170).wr W175).wr W180).wr W185).wr W190)
  obtain ⟨T192, X192, e192, st192⟩ := getS2 X190 hx hZ hown (host := "") (Or.inl (hw _ (List.mem_of_getElem? (i := 32) rfl))) Via.refl e190 f191 (g := (mkF m 100 #[.val (.int i), .unset, .unset, .unset, .unset, .unset] [(.int (14 : Int32)), (.ref b120), (.ref b120)])) rfl (hb hby at_100)
  refine Gl.back (fun _ k => st192 _ k) ?_
  show Gl _ _ _ _ _ _ _ (T192.setTop (mkF m 103 #[.val (.int i), .unset, .unset, .unset, .unset, .unset] [(.ref w_IN), (.int (14 : Int32)), (.ref b120), (.ref b120)]))
  obtain ⟨cl193, Ar193, q193, Sz193, Nn193, Hs193, Gf193⟩ := id V190
  have hin193 : ¬ ((14 : Int32) < 0 ∨ cl193.slots.size ≤ ((14 : Int32)).toNatClampNeg) := inb_of Sz193 ⟨by decide, by decide⟩
  have f194 := (((((((((((((((E_IN.ext E120).wr W125).wr W130).wr W135).wr W140).wr W145).wr W150).wr W155).wr W160).wr W165).wr W170).wr W175).wr W180).wr W185).wr W190)
  obtain ⟨T195, h195, X195, e195, W195, st195⟩ := stR X192 hx hZ e192 Ar193 (j := (14 : Int32)) hin193 rfl (Sto.ofV Ar193 q193 Ov120 (Ins.self f194)) (g := (mkF m 103 #[.val (.int i), .unset, .unset, .unset, .unset, .unset] [(.ref w_IN), (.int (14 : Int32)), (.ref b120), (.ref b120)])) rfl rfl (hb hby at_103)
  have V195 := Arv.set Ar193 q193 Sz193 Nn193 Hs193 Gf193 rfl W195 14 rfl (Nat.le_of_ble_eq_true rfl)
  replace V195 : Arv Z h195 b120 k120 (.object "com/example/demi_orm/demiorm/query/Operator") (16 : Int32) [(.ref w_EQUALS), (.ref w_NOT_EQUALS), (.ref w_LESS_THAN), (.ref w_LESS_THAN_OR_EQUAL), (.ref w_GREATER_THAN), (.ref w_GREATER_THAN_OR_EQUAL), (.ref w_BETWEEN), (.ref w_IS_NULL), (.ref w_IS_NOT_NULL), (.ref w_LIKE), (.ref w_NOT_LIKE), (.ref w_STARTING_WITH), (.ref w_ENDING_WITH), (.ref w_CONTAINING), (.ref w_IN), .null] .null := V195
  have K195 := Keep.wr K190 W195 (Or.inr sz_b120)
  have Z195 : n0 ≤ h195.size := Nat.le_trans Z190 (Keep.of_wr W195).1
  have N195 := Fr.snoc X195 N190 g_b120
  refine Gl.back (fun _ k => st195 _ k) ?_
  show Gl _ _ _ _ _ _ _ (T195.setTop (mkF m 104 #[.val (.int i), .unset, .unset, .unset, .unset, .unset] [(.ref b120)]))
  refine Gl.back (fun _ k => XS.dup X195.here hx rfl (hb hby at_104) rfl rfl k) ?_
  show Gl _ _ _ _ _ _ _ (T195.setTop (mkF m 105 #[.val (.int i), .unset, .unset, .unset, .unset, .unset] [(.ref b120), (.ref b120)]))
  refine Gl.back (fun _ k => XS.bipush X195.here hx rfl (hb hby at_105) k) ?_
  show Gl _ _ _ _ _ _ _ (T195.setTop (mkF m 107 #[.val (.int i), .unset, .unset, .unset, .unset, .unset] [(.int (15 : Int32)), (.ref b120), (.ref b120)]))
  have f196 := ((((((((((((((((S_NOT_IN.ext E120).wr W125).wr W130).wr W135).wr W140).wr W145).wr W150).wr W155).wr W160).wr W165).wr W170).wr W175).wr W180).wr W185).wr W190).wr W195)
  obtain ⟨T197, X197, e197, st197⟩ := getS2 X195 hx hZ hown (host := "") (Or.inl (hw _ (List.mem_of_getElem? (i := 34) rfl))) Via.refl e195 f196 (g := (mkF m 107 #[.val (.int i), .unset, .unset, .unset, .unset, .unset] [(.int (15 : Int32)), (.ref b120), (.ref b120)])) rfl (hb hby at_107)
  refine Gl.back (fun _ k => st197 _ k) ?_
  show Gl _ _ _ _ _ _ _ (T197.setTop (mkF m 110 #[.val (.int i), .unset, .unset, .unset, .unset, .unset] [(.ref w_NOT_IN), (.int (15 : Int32)), (.ref b120), (.ref b120)]))
  obtain ⟨cl198, Ar198, q198, Sz198, Nn198, Hs198, Gf198⟩ := id V195
  have hin198 : ¬ ((15 : Int32) < 0 ∨ cl198.slots.size ≤ ((15 : Int32)).toNatClampNeg) := inb_of Sz198 ⟨by decide, by decide⟩
  have f199 := ((((((((((((((((E_NOT_IN.ext E120).wr W125).wr W130).wr W135).wr W140).wr W145).wr W150).wr W155).wr W160).wr W165).wr W170).wr W175).wr W180).wr W185).wr W190).wr W195)
  obtain ⟨T200, h200, X200, e200, W200, st200⟩ := stR X197 hx hZ e197 Ar198 (j := (15 : Int32)) hin198 rfl (Sto.ofV Ar198 q198 Ov120 (Ins.self f199)) (g := (mkF m 110 #[.val (.int i), .unset, .unset, .unset, .unset, .unset] [(.ref w_NOT_IN), (.int (15 : Int32)), (.ref b120), (.ref b120)])) rfl rfl (hb hby at_110)
  have V200 := Arv.set Ar198 q198 Sz198 Nn198 Hs198 Gf198 rfl W200 15 rfl (Nat.le_of_ble_eq_true rfl)
  replace V200 : Arv Z h200 b120 k120 (.object "com/example/demi_orm/demiorm/query/Operator") (16 : Int32) [(.ref w_EQUALS), (.ref w_NOT_EQUALS), (.ref w_LESS_THAN), (.ref w_LESS_THAN_OR_EQUAL), (.ref w_GREATER_THAN), (.ref w_GREATER_THAN_OR_EQUAL), (.ref w_BETWEEN), (.ref w_IS_NULL), (.ref w_IS_NOT_NULL), (.ref w_LIKE), (.ref w_NOT_LIKE), (.ref w_STARTING_WITH), (.ref w_ENDING_WITH), (.ref w_CONTAINING), (.ref w_IN), (.ref w_NOT_IN)] .null := V200
  have K200 := Keep.wr K195 W200 (Or.inr sz_b120)
  have Z200 : n0 ≤ h200.size := Nat.le_trans Z195 (Keep.of_wr W200).1
  have N200 := Fr.snoc X200 N195 g_b120
  refine Gl.back (fun _ k => st200 _ k) ?_
  show Gl _ _ _ _ _ _ _ (T200.setTop (mkF m 111 #[.val (.int i), .unset, .unset, .unset, .unset, .unset] [(.ref b120)]))
  refine Gl.back (fun _ k => XS.astoreN X200.here hx rfl (hb hby at_111) rfl rfl (l' := #[.val (.int i), .val (.ref b120), .unset, .unset, .unset, .unset]) rfl k) ?_
  show Gl _ _ _ _ _ _ _ (T200.setTop (mkF m 112 #[.val (.int i), .val (.ref b120), .unset, .unset, .unset, .unset] []))
  refine Gl.back (fun _ k => XS.bipush X200.here hx rfl (hb hby at_112) k) ?_
  show Gl _ _ _ _ _ _ _ (T200.setTop (mkF m 114 #[.val (.int i), .val (.ref b120), .unset, .unset, .unset, .unset] [(.int (16 : Int32))]))
  obtain ⟨T201, h201, k201, X201, e201, E201, A201, st201⟩ := newP X200 hx hZ (hw _ (List.mem_of_getElem? (i := 36) rfl)) e200 (g := (mkF m 114 #[.val (.int i), .val (.ref b120), .unset, .unset, .unset, .unset] [(.int (16 : Int32))])) rfl (hb hby at_114) rfl (by decide) (cap := 16) (by decide) (by decide) (by decide) (by decide)
  obtain ⟨b201, g201⟩ : ∃ z, z = h200.size := ⟨_, rfl⟩
  rw [← g201] at A201 st201
  have V201 : Arv Z h201 b201 k201 .boolean (16 : Int32) [(.int (0 : Int32)), (.int (0 : Int32)), (.int (0 : Int32)), (.int (0 : Int32)), (.int (0 : Int32)), (.int (0 : Int32)), (.int (0 : Int32)), (.int (0 : Int32)), (.int (0 : Int32)), (.int (0 : Int32)), (.int (0 : Int32)), (.int (0 : Int32)), (.int (0 : Int32)), (.int (0 : Int32)), (.int (0 : Int32)), (.int (0 : Int32))] (.int (0 : Int32)) := (Arv.new A201 (by decide)).pad (pad_rep [] (.int (0 : Int32)) 16)
  have f202 := ((((((((((((((((f124.wr W125).wr W130).wr W135).wr W140).wr W145).wr W150).wr W155).wr W160).wr W165).wr W170).wr W175).wr W180).wr W185).wr W190).wr W195).wr W200)
  have ne_w_EQUALS_b201 : w_EQUALS ≠ b201 := Nat.ne_of_lt (Nat.lt_of_lt_of_le f202.lt (Nat.le_of_eq g201.symm))
  have f203 := (((((((((((((((f129.wr W130).wr W135).wr W140).wr W145).wr W150).wr W155).wr W160).wr W165).wr W170).wr W175).wr W180).wr W185).wr W190).wr W195).wr W200)
  have ne_w_NOT_EQUALS_b201 : w_NOT_EQUALS ≠ b201 := Nat.ne_of_lt (Nat.lt_of_lt_of_le f203.lt (Nat.le_of_eq g201.symm))
  have f204 := ((((((((((((((f134.wr W135).wr W140).wr W145).wr W150).wr W155).wr W160).wr W165).wr W170).wr W175).wr W180).wr W185).wr W190).wr W195).wr W200)
  have ne_w_LESS_THAN_b201 : w_LESS_THAN ≠ b201 := Nat.ne_of_lt (Nat.lt_of_lt_of_le f204.lt (Nat.le_of_eq g201.symm))
  have f205 := (((((((((((((f139.wr W140).wr W145).wr W150).wr W155).wr W160).wr W165).wr W170).wr W175).wr W180).wr W185).wr W190).wr W195).wr W200)
  have ne_w_LESS_THAN_OR_EQUAL_b201 : w_LESS_THAN_OR_EQUAL ≠ b201 := Nat.ne_of_lt (Nat.lt_of_lt_of_le f205.lt (Nat.le_of_eq g201.symm))
  have f206 := ((((((((((((f144.wr W145).wr W150).wr W155).wr W160).wr W165).wr W170).wr W175).wr W180).wr W185).wr W190).wr W195).wr W200)
  have ne_w_GREATER_THAN_b201 : w_GREATER_THAN ≠ b201 := Nat.ne_of_lt (Nat.lt_of_lt_of_le f206.lt (Nat.le_of_eq g201.symm))
  have f207 := (((((((((((f149.wr W150).wr W155).wr W160).wr W165).wr W170).wr W175).wr W180).wr W185).wr W190).wr W195).wr W200)
  have ne_w_GREATER_THAN_OR_EQUAL_b201 : w_GREATER_THAN_OR_EQUAL ≠ b201 := Nat.ne_of_lt (Nat.lt_of_lt_of_le f207.lt (Nat.le_of_eq g201.symm))
  have f208 := ((((((((((f154.wr W155).wr W160).wr W165).wr W170).wr W175).wr W180).wr W185).wr W190).wr W195).wr W200)
  have ne_w_BETWEEN_b201 : w_BETWEEN ≠ b201 := Nat.ne_of_lt (Nat.lt_of_lt_of_le f208.lt (Nat.le_of_eq g201.symm))
  have f209 := (((((((((f159.wr W160).wr W165).wr W170).wr W175).wr W180).wr W185).wr W190).wr W195).wr W200)
  have ne_w_IS_NULL_b201 : w_IS_NULL ≠ b201 := Nat.ne_of_lt (Nat.lt_of_lt_of_le f209.lt (Nat.le_of_eq g201.symm))
  have f210 := ((((((((f164.wr W165).wr W170).wr W175).wr W180).wr W185).wr W190).wr W195).wr W200)
  have ne_w_IS_NOT_NULL_b201 : w_IS_NOT_NULL ≠ b201 := Nat.ne_of_lt (Nat.lt_of_lt_of_le f210.lt (Nat.le_of_eq g201.symm))
  have f211 := (((((((f169.wr W170).wr W175).wr W180).wr W185).wr W190).wr W195).wr W200)
  have ne_w_LIKE_b201 : w_LIKE ≠ b201 := Nat.ne_of_lt (Nat.lt_of_lt_of_le f211.lt (Nat.le_of_eq g201.symm))
  have f212 := ((((((f174.wr W175).wr W180).wr W185).wr W190).wr W195).wr W200)
  have ne_w_NOT_LIKE_b201 : w_NOT_LIKE ≠ b201 := Nat.ne_of_lt (Nat.lt_of_lt_of_le f212.lt (Nat.le_of_eq g201.symm))
  have f213 := (((((f179.wr W180).wr W185).wr W190).wr W195).wr W200)
  have ne_w_STARTING_WITH_b201 : w_STARTING_WITH ≠ b201 := Nat.ne_of_lt (Nat.lt_of_lt_of_le f213.lt (Nat.le_of_eq g201.symm))
  have f214 := ((((f184.wr W185).wr W190).wr W195).wr W200)
  have ne_w_ENDING_WITH_b201 : w_ENDING_WITH ≠ b201 := Nat.ne_of_lt (Nat.lt_of_lt_of_le f214.lt (Nat.le_of_eq g201.symm))
  have f215 := (((f189.wr W190).wr W195).wr W200)
  have ne_w_CONTAINING_b201 : w_CONTAINING ≠ b201 := Nat.ne_of_lt (Nat.lt_of_lt_of_le f215.lt (Nat.le_of_eq g201.symm))
  have f216 := ((f194.wr W195).wr W200)
  have ne_w_IN_b201 : w_IN ≠ b201 := Nat.ne_of_lt (Nat.lt_of_lt_of_le f216.lt (Nat.le_of_eq g201.symm))
  have f217 := (f199.wr W200)
  have ne_w_NOT_IN_b201 : w_NOT_IN ≠ b201 := Nat.ne_of_lt (Nat.lt_of_lt_of_le f217.lt (Nat.le_of_eq g201.symm))
  have ne_b120_b201 : b120 ≠ b201 := Nat.ne_of_lt (Nat.lt_of_lt_of_le V200.lt (Nat.le_of_eq g201.symm))
  have g_b201 : n0 ≤ b201 := Nat.le_trans Z200 (Nat.le_of_eq g201.symm)
  have sz_b201 : h0.size ≤ b201 := Nat.le_trans K200.1 (Nat.le_of_eq g201.symm)
  have Z201 : n0 ≤ h201.size := Nat.le_trans Z200 E201.1
  have K201 := Keep.ext K200 E201
  refine Gl.back (fun _ k => st201 _ k) ?_
  show Gl _ _ _ _ _ _ _ (T201.setTop (mkF m 116 #[.val (.int i), .val (.ref b120), .unset, .unset, .unset, .unset] [(.ref b201)]))
  refine Gl.back (fun _ k => XS.dup X201.here hx rfl (hb hby at_116) rfl rfl k) ?_
  show Gl _ _ _ _ _ _ _ (T201.setTop (mkF m 117 #[.val (.int i), .val (.ref b120), .unset, .unset, .unset, .unset] [(.ref b201), (.ref b201)]))
  refine Gl.back (fun _ k => XS.iconst X201.here hx rfl (hb hby at_117) k) ?_
  show Gl _ _ _ _ _ _ _ (T201.setTop (mkF m 118 #[.val (.int i), .val (.ref b120), .unset, .unset, .unset, .unset] [(.int (0 : Int32)), (.ref b201), (.ref b201)]))
  refine Gl.back (fun _ k => XS.iconst X201.here hx rfl (hb hby at_118) k) ?_
  show Gl _ _ _ _ _ _ _ (T201.setTop (mkF m 119 #[.val (.int i), .val (.ref b120), .unset, .unset, .unset, .unset] [(.int (0 : Int32)), (.int (0 : Int32)), (.ref b201), (.ref b201)]))
  obtain ⟨cl218, Ar218, q218, Sz218, Nn218, Hs218, Gf218⟩ := id V201
  have hin218 : ¬ ((0 : Int32) < 0 ∨ cl218.slots.size ≤ ((0 : Int32)).toNatClampNeg) := inb_of Sz218 ⟨by decide, by decide⟩
  obtain ⟨T219, h219, X219, e219, W219, st219⟩ := stZ X201 hx hZ e201 Ar218 (j := (0 : Int32)) hin218 (g := (mkF m 119 #[.val (.int i), .val (.ref b120), .unset, .unset, .unset, .unset] [(.int (0 : Int32)), (.int (0 : Int32)), (.ref b201), (.ref b201)])) rfl rfl (hb hby at_119)
  have V219 := Arv.set Ar218 q218 Sz218 Nn218 Hs218 Gf218 (fits_nar_bool _) W219 0 rfl (Nat.le_of_ble_eq_true rfl)
  replace V219 : Arv Z h219 b201 k201 .boolean (16 : Int32) [(.int (0 : Int32)), (.int (0 : Int32)), (.int (0 : Int32)), (.int (0 : Int32)), (.int (0 : Int32)), (.int (0 : Int32)), (.int (0 : Int32)), (.int (0 : Int32)), (.int (0 : Int32)), (.int (0 : Int32)), (.int (0 : Int32)), (.int (0 : Int32)), (.int (0 : Int32)), (.int (0 : Int32)), (.int (0 : Int32)), (.int (0 : Int32))] (.int (0 : Int32)) := V219
  have K219 := Keep.wr K201 W219 (Or.inr sz_b201)
  have Z219 : n0 ≤ h219.size := Nat.le_trans Z201 (Keep.of_wr W219).1
  have N219 := Fr.snoc X219 N200 g_b201
  refine Gl.back (fun _ k => st219 _ k) ?_
  show Gl _ _ _ _ _ _ _ (T219.setTop (mkF m 120 #[.val (.int i), .val (.ref b120), .unset, .unset, .unset, .unset] [(.ref b201)]))
  refine Gl.back (fun _ k => XS.dup X219.here hx rfl (hb hby at_120) rfl rfl k) ?_
  show Gl _ _ _ _ _ _ _ (T219.setTop (mkF m 121 #[.val (.int i), .val (.ref b120), .unset, .unset, .unset, .unset] [(.ref b201), (.ref b201)]))
  refine Gl.back (fun _ k => XS.iconst X219.here hx rfl (hb hby at_121) k) ?_
  show Gl _ _ _ _ _ _ _ (T219.setTop (mkF m 122 #[.val (.int i), .val (.ref b120), .unset, .unset, .unset, .unset] [(.int (1 : Int32)), (.ref b201), (.ref b201)]))
  refine Gl.back (fun _ k => XS.iconst X219.here hx rfl (hb hby at_122) k) ?_
  show Gl _ _ _ _ _ _ _ (T219.setTop (mkF m 123 #[.val (.int i), .val (.ref b120), .unset, .unset, .unset, .unset] [(.int (0 : Int32)), (.int (1 : Int32)), (.ref b201), (.ref b201)]))
  obtain ⟨cl220, Ar220, q220, Sz220, Nn220, Hs220, Gf220⟩ := id V219
  have hin220 : ¬ ((1 : Int32) < 0 ∨ cl220.slots.size ≤ ((1 : Int32)).toNatClampNeg) := inb_of Sz220 ⟨by decide, by decide⟩
  obtain ⟨T221, h221, X221, e221, W221, st221⟩ := stZ X219 hx hZ e219 Ar220 (j := (1 : Int32)) hin220 (g := (mkF m 123 #[.val (.int i), .val (.ref b120), .unset, .unset, .unset, .unset] [(.int (0 : Int32)), (.int (1 : Int32)), (.ref b201), (.ref b201)])) rfl rfl (hb hby at_123)
  have V221 := Arv.set Ar220 q220 Sz220 Nn220 Hs220 Gf220 (fits_nar_bool _) W221 1 rfl (Nat.le_of_ble_eq_true rfl)
  replace V221 : Arv Z h221 b201 k201 .boolean (16 : Int32) [(.int (0 : Int32)), (.int (0 : Int32)), (.int (0 : Int32)), (.int (0 : Int32)), (.int (0 : Int32)), (.int (0 : Int32)), (.int (0 : Int32)), (.int (0 : Int32)), (.int (0 : Int32)), (.int (0 : Int32)), (.int (0 : Int32)), (.int (0 : Int32)), (.int (0 : Int32)), (.int (0 : Int32)), (.int (0 : Int32)), (.int (0 : Int32))] (.int (0 : Int32)) := V221
  have K221 := Keep.wr K219 W221 (Or.inr sz_b201)
  have Z221 : n0 ≤ h221.size := Nat.le_trans Z219 (Keep.of_wr W221).1
  have N221 := Fr.snoc X221 N219 g_b201
  refine Gl.back (fun _ k => st221 _ k) ?_
  show Gl _ _ _ _ _ _ _ (T221.setTop (mkF m 124 #[.val (.int i), .val (.ref b120), .unset, .unset, .unset, .unset] [(.ref b201)]))
  refine Gl.back (fun _ k => XS.dup X221.here hx rfl (hb hby at_124) rfl rfl k) ?_
  show Gl _ _ _ _ _ _ _ (T221.setTop (mkF m 125 #[.val (.int i), .val (.ref b120), .unset, .unset, .unset, .unset] [(.ref b201), (.ref b201)]))
  refine Gl.back (fun _ k => XS.iconst X221.here hx rfl (hb hby at_125) k) ?_
  show Gl _ _ _ _ _ _ _ (T221.setTop (mkF m 126 #[.val (.int i), .val (.ref b120), .unset, .unset, .unset, .unset] [(.int (2 : Int32)), (.ref b201), (.ref b201)]))
  refine Gl.back (fun _ k => XS.iconst X221.here hx rfl (hb hby at_126) k) ?_
  show Gl _ _ _ _ _ _ _ (T221.setTop (mkF m 127 #[.val (.int i), .val (.ref b120), .unset, .unset, .unset, .unset] [(.int (0 : Int32)), (.int (2 : Int32)), (.ref b201), (.ref b201)]))
  obtain ⟨cl222, Ar222, q222, Sz222, Nn222, Hs222, Gf222⟩ := id V221
  have hin222 : ¬ ((2 : Int32) < 0 ∨ cl222.slots.size ≤ ((2 : Int32)).toNatClampNeg) := inb_of Sz222 ⟨by decide, by decide⟩
  obtain ⟨T223, h223, X223, e223, W223, st223⟩ := stZ X221 hx hZ e221 Ar222 (j := (2 : Int32)) hin222 (g := (mkF m 127 #[.val (.int i), .val (.ref b120), .unset, .unset, .unset, .unset] [(.int (0 : Int32)), (.int (2 : Int32)), (.ref b201), (.ref b201)])) rfl rfl (hb hby at_127)
  have V223 := Arv.set Ar222 q222 Sz222 Nn222 Hs222 Gf222 (fits_nar_bool _) W223 2 rfl (Nat.le_of_ble_eq_true rfl)
  replace V223 : Arv Z h223 b201 k201 .boolean (16 : Int32) [(.int (0 : Int32)), (.int (0 : Int32)), (.int (0 : Int32)), (.int (0 : Int32)), (.int (0 : Int32)), (.int (0 : Int32)), (.int (0 : Int32)), (.int (0 : Int32)), (.int (0 : Int32)), (.int (0 : Int32)), (.int (0 : Int32)), (.int (0 : Int32)), (.int (0 : Int32)), (.int (0 : Int32)), (.int (0 : Int32)), (.int (0 : Int32))] (.int (0 : Int32)) := V223
  have K223 := Keep.wr K221 W223 (Or.inr sz_b201)
  have Z223 : n0 ≤ h223.size := Nat.le_trans Z221 (Keep.of_wr W223).1
  have N223 := Fr.snoc X223 N221 g_b201
  refine Gl.back (fun _ k => st223 _ k) ?_
  show Gl _ _ _ _ _ _ _ (T223.setTop (mkF m 128 #[.val (.int i), .val (.ref b120), .unset, .unset, .unset, .unset] [(.ref b201)]))
  refine Gl.back (fun _ k => XS.dup X223.here hx rfl (hb hby at_128) rfl rfl k) ?_
  show Gl _ _ _ _ _ _ _ (T223.setTop (mkF m 129 #[.val (.int i), .val (.ref b120), .unset, .unset, .unset, .unset] [(.ref b201), (.ref b201)]))
  refine Gl.back (fun _ k => XS.iconst X223.here hx rfl (hb hby at_129) k) ?_
  show Gl _ _ _ _ _ _ _ (T223.setTop (mkF m 130 #[.val (.int i), .val (.ref b120), .unset, .unset, .unset, .unset] [(.int (3 : Int32)), (.ref b201), (.ref b201)]))
  refine Gl.back (fun _ k => XS.iconst X223.here hx rfl (hb hby at_130) k) ?_
  show Gl _ _ _ _ _ _ _ (T223.setTop (mkF m 131 #[.val (.int i), .val (.ref b120), .unset, .unset, .unset, .unset] [(.int (0 : Int32)), (.int (3 : Int32)), (.ref b201), (.ref b201)]))
  obtain ⟨cl224, Ar224, q224, Sz224, Nn224, Hs224, Gf224⟩ := id V223
  have hin224 : ¬ ((3 : Int32) < 0 ∨ cl224.slots.size ≤ ((3 : Int32)).toNatClampNeg) := inb_of Sz224 ⟨by decide, by decide⟩
  obtain ⟨T225, h225, X225, e225, W225, st225⟩ := stZ X223 hx hZ e223 Ar224 (j := (3 : Int32)) hin224 (g := (mkF m 131 #[.val (.int i), .val (.ref b120), .unset, .unset, .unset, .unset] [(.int (0 : Int32)), (.int (3 : Int32)), (.ref b201), (.ref b201)])) rfl rfl (hb hby at_131)
  have V225 := Arv.set Ar224 q224 Sz224 Nn224 Hs224 Gf224 (fits_nar_bool _) W225 3 rfl (Nat.le_of_ble_eq_true rfl)
  replace V225 : Arv Z h225 b201 k201 .boolean (16 : Int32) [(.int (0 : Int32)), (.int (0 : Int32)), (.int (0 : Int32)), (.int (0 : Int32)), (.int (0 : Int32)), (.int (0 : Int32)), (.int (0 : Int32)), (.int (0 : Int32)), (.int (0 : Int32)), (.int (0 : Int32)), (.int (0 : Int32)), (.int (0 : Int32)), (.int (0 : Int32)), (.int (0 : Int32)), (.int (0 : Int32)), (.int (0 : Int32))] (.int (0 : Int32)) := V225
  have K225 := Keep.wr K223 W225 (Or.inr sz_b201)
  have Z225 : n0 ≤ h225.size := Nat.le_trans Z223 (Keep.of_wr W225).1
  have N225 := Fr.snoc X225 N223 g_b201
  refine Gl.back (fun _ k => st225 _ k) ?_
  show Gl _ _ _ _ _ _ _ (T225.setTop (mkF m 132 #[.val (.int i), .val (.ref b120), .unset, .unset, .unset, .unset] [(.ref b201)]))
  refine Gl.back (fun _ k => XS.dup X225.here hx rfl (hb hby at_132) rfl rfl k) ?_
  show Gl _ _ _ _ _ _ _ (T225.setTop (mkF m 133 #[.val (.int i), .val (.ref b120), .unset, .unset, .unset, .unset] [(.ref b201), (.ref b201)]))
  refine Gl.back (fun _ k => XS.iconst X225.here hx rfl (hb hby at_133) k) ?_
  show Gl _ _ _ _ _ _ _ (T225.setTop (mkF m 134 #[.val (.int i), .val (.ref b120), .unset, .unset, .unset, .unset] [(.int (4 : Int32)), (.ref b201), (.ref b201)]))
  refine Gl.back (fun _ k => XS.iconst X225.here hx rfl (hb hby at_134) k) ?_
  show Gl _ _ _ _ _ _ _ (T225.setTop (mkF m 135 #[.val (.int i), .val (.ref b120), .unset, .unset, .unset, .unset] [(.int (0 : Int32)), (.int (4 : Int32)), (.ref b201), (.ref b201)]))
  obtain ⟨cl226, Ar226, q226, Sz226, Nn226, Hs226, Gf226⟩ := id V225
  have hin226 : ¬ ((4 : Int32) < 0 ∨ cl226.slots.size ≤ ((4 : Int32)).toNatClampNeg) := inb_of Sz226 ⟨by decide, by decide⟩
  obtain ⟨T227, h227, X227, e227, W227, st227⟩ := stZ X225 hx hZ e225 Ar226 (j := (4 : Int32)) hin226 (g := (mkF m 135 #[.val (.int i), .val (.ref b120), .unset, .unset, .unset, .unset] [(.int (0 : Int32)), (.int (4 : Int32)), (.ref b201), (.ref b201)])) rfl rfl (hb hby at_135)
  have V227 := Arv.set Ar226 q226 Sz226 Nn226 Hs226 Gf226 (fits_nar_bool _) W227 4 rfl (Nat.le_of_ble_eq_true rfl)
  replace V227 : Arv Z h227 b201 k201 .boolean (16 : Int32) [(.int (0 : Int32)), (.int (0 : Int32)), (.int (0 : Int32)), (.int (0 : Int32)), (.int (0 : Int32)), (.int (0 : Int32)), (.int (0 : Int32)), (.int (0 : Int32)), (.int (0 : Int32)), (.int (0 : Int32)), (.int (0 : Int32)), (.int (0 : Int32)), (.int (0 : Int32)), (.int (0 : Int32)), (.int (0 : Int32)), (.int (0 : Int32))] (.int (0 : Int32)) := V227
  have K227 := Keep.wr K225 W227 (Or.inr sz_b201)
  have Z227 : n0 ≤ h227.size := Nat.le_trans Z225 (Keep.of_wr W227).1
  have N227 := Fr.snoc X227 N225 g_b201
  refine Gl.back (fun _ k => st227 _ k) ?_
  show Gl _ _ _ _ _ _ _ (T227.setTop (mkF m 136 #[.val (.int i), .val (.ref b120), .unset, .unset, .unset, .unset] [(.ref b201)]))
  refine Gl.back (fun _ k => XS.dup X227.here hx rfl (hb hby at_136) rfl rfl k) ?_
  show Gl _ _ _ _ _ _ _ (T227.setTop (mkF m 137 #[.val (.int i), .val (.ref b120), .unset, .unset, .unset, .unset] [(.ref b201), (.ref b201)]))
  refine Gl.back (fun _ k => XS.iconst X227.here hx rfl (hb hby at_137) k) ?_
  show Gl _ _ _ _ _ _ _ (T227.setTop (mkF m 138 #[.val (.int i), .val (.ref b120), .unset, .unset, .unset, .unset] [(.int (5 : Int32)), (.ref b201), (.ref b201)]))
  refine Gl.back (fun _ k => XS.iconst X227.here hx rfl (hb hby at_138) k) ?_
  show Gl _ _ _ _ _ _ _ (T227.setTop (mkF m 139 #[.val (.int i), .val (.ref b120), .unset, .unset, .unset, .unset] [(.int (0 : Int32)), (.int (5 : Int32)), (.ref b201), (.ref b201)]))
  obtain ⟨cl228, Ar228, q228, Sz228, Nn228, Hs228, Gf228⟩ := id V227
  have hin228 : ¬ ((5 : Int32) < 0 ∨ cl228.slots.size ≤ ((5 : Int32)).toNatClampNeg) := inb_of Sz228 ⟨by decide, by decide⟩
  obtain ⟨T229, h229, X229, e229, W229, st229⟩ := stZ X227 hx hZ e227 Ar228 (j := (5 : Int32)) hin228 (g := (mkF m 139 #[.val (.int i), .val (.ref b120), .unset, .unset, .unset, .unset] [(.int (0 : Int32)), (.int (5 : Int32)), (.ref b201), (.ref b201)])) rfl rfl (hb hby at_139)
  have V229 := Arv.set Ar228 q228 Sz228 Nn228 Hs228 Gf228 (fits_nar_bool _) W229 5 rfl (Nat.le_of_ble_eq_true rfl)
  replace V229 : Arv Z h229 b201 k201 .boolean (16 : Int32) [(.int (0 : Int32)), (.int (0 : Int32)), (.int (0 : Int32)), (.int (0 : Int32)), (.int (0 : Int32)), (.int (0 : Int32)), (.int (0 : Int32)), (.int (0 : Int32)), (.int (0 : Int32)), (.int (0 : Int32)), (.int (0 : Int32)), (.int (0 : Int32)), (.int (0 : Int32)), (.int (0 : Int32)), (.int (0 : Int32)), (.int (0 : Int32))] (.int (0 : Int32)) := V229
  have K229 := Keep.wr K227 W229 (Or.inr sz_b201)
  have Z229 : n0 ≤ h229.size := Nat.le_trans Z227 (Keep.of_wr W229).1
  have N229 := Fr.snoc X229 N227 g_b201
  refine Gl.back (fun _ k => st229 _ k) ?_
  show Gl _ _ _ _ _ _ _ (T229.setTop (mkF m 140 #[.val (.int i), .val (.ref b120), .unset, .unset, .unset, .unset] [(.ref b201)]))
  refine Gl.back (fun _ k => XS.dup X229.here hx rfl (hb hby at_140) rfl rfl k) ?_
  show Gl _ _ _ _ _ _ _ (T229.setTop (mkF m 141 #[.val (.int i), .val (.ref b120), .unset, .unset, .unset, .unset] [(.ref b201), (.ref b201)]))
  refine Gl.back (fun _ k => XS.bipush X229.here hx rfl (hb hby at_141) k) ?_
  show Gl _ _ _ _ _ _ _ (T229.setTop (mkF m 143 #[.val (.int i), .val (.ref b120), .unset, .unset, .unset, .unset] [(.int (6 : Int32)), (.ref b201), (.ref b201)]))
  refine Gl.back (fun _ k => XS.iconst X229.here hx rfl (hb hby at_143) k) ?_
  show Gl _ _ _ _ _ _ _ (T229.setTop (mkF m 144 #[.val (.int i), .val (.ref b120), .unset, .unset, .unset, .unset] [(.int (0 : Int32)), (.int (6 : Int32)), (.ref b201), (.ref b201)]))
  obtain ⟨cl230, Ar230, q230, Sz230, Nn230, Hs230, Gf230⟩ := id V229
  have hin230 : ¬ ((6 : Int32) < 0 ∨ cl230.slots.size ≤ ((6 : Int32)).toNatClampNeg) := inb_of Sz230 ⟨by decide, by decide⟩
  obtain ⟨T231, h231, X231, e231, W231, st231⟩ := stZ X229 hx hZ e229 Ar230 (j := (6 : Int32)) hin230 (g := (mkF m 144 #[.val (.int i), .val (.ref b120), .unset, .unset, .unset, .unset] [(.int (0 : Int32)), (.int (6 : Int32)), (.ref b201), (.ref b201)])) rfl rfl (hb hby at_144)
  have V231 := Arv.set Ar230 q230 Sz230 Nn230 Hs230 Gf230 (fits_nar_bool _) W231 6 rfl (Nat.le_of_ble_eq_true rfl)
  replace V231 : Arv Z h231 b201 k201 .boolean (16 : Int32) [(.int (0 : Int32)), (.int (0 : Int32)), (.int (0 : Int32)), (.int (0 : Int32)), (.int (0 : Int32)), (.int (0 : Int32)), (.int (0 : Int32)), (.int (0 : Int32)), (.int (0 : Int32)), (.int (0 : Int32)), (.int (0 : Int32)), (.int (0 : Int32)), (.int (0 : Int32)), (.int (0 : Int32)), (.int (0 : Int32)), (.int (0 : Int32))] (.int (0 : Int32)) := V231
  have K231 := Keep.wr K229 W231 (Or.inr sz_b201)
  have Z231 : n0 ≤ h231.size := Nat.le_trans Z229 (Keep.of_wr W231).1
  have N231 := Fr.snoc X231 N229 g_b201
  refine Gl.back (fun _ k => st231 _ k) ?_
  show Gl _ _ _ _ _ _ _ (T231.setTop (mkF m 145 #[.val (.int i), .val (.ref b120), .unset, .unset, .unset, .unset] [(.ref b201)]))
  refine Gl.back (fun _ k => XS.dup X231.here hx rfl (hb hby at_145) rfl rfl k) ?_
  show Gl _ _ _ _ _ _ _ (T231.setTop (mkF m 146 #[.val (.int i), .val (.ref b120), .unset, .unset, .unset, .unset] [(.ref b201), (.ref b201)]))
  refine Gl.back (fun _ k => XS.bipush X231.here hx rfl (hb hby at_146) k) ?_
  show Gl _ _ _ _ _ _ _ (T231.setTop (mkF m 148 #[.val (.int i), .val (.ref b120), .unset, .unset, .unset, .unset] [(.int (7 : Int32)), (.ref b201), (.ref b201)]))
  refine Gl.back (fun _ k => XS.iconst X231.here hx rfl (hb hby at_148) k) ?_
  show Gl _ _ _ _ _ _ _ (T231.setTop (mkF m 149 #[.val (.int i), .val (.ref b120), .unset, .unset, .unset, .unset] [(.int (0 : Int32)), (.int (7 : Int32)), (.ref b201), (.ref b201)]))
  obtain ⟨cl232, Ar232, q232, Sz232, Nn232, Hs232, Gf232⟩ := id V231
  have hin232 : ¬ ((7 : Int32) < 0 ∨ cl232.slots.size ≤ ((7 : Int32)).toNatClampNeg) := inb_of Sz232 ⟨by decide, by decide⟩
  obtain ⟨T233, h233, X233, e233, W233, st233⟩ := stZ X231 hx hZ e231 Ar232 (j := (7 : Int32)) hin232 (g := (mkF m 149 #[.val (.int i), .val (.ref b120), .unset, .unset, .unset, .unset] [(.int (0 : Int32)), (.int (7 : Int32)), (.ref b201), (.ref b201)])) rfl rfl (hb hby at_149)
  have V233 := Arv.set Ar232 q232 Sz232 Nn232 Hs232 Gf232 (fits_nar_bool _) W233 7 rfl (Nat.le_of_ble_eq_true rfl)
  replace V233 : Arv Z h233 b201 k201 .boolean (16 : Int32) [(.int (0 : Int32)), (.int (0 : Int32)), (.int (0 : Int32)), (.int (0 : Int32)), (.int (0 : Int32)), (.int (0 : Int32)), (.int (0 : Int32)), (.int (0 : Int32)), (.int (0 : Int32)), (.int (0 : Int32)), (.int (0 : Int32)), (.int (0 : Int32)), (.int (0 : Int32)), (.int (0 : Int32)), (.int (0 : Int32)), (.int (0 : Int32))] (.int (0 : Int32)) := V233
  have K233 := Keep.wr K231 W233 (Or.inr sz_b201)
  have Z233 : n0 ≤ h233.size := Nat.le_trans Z231 (Keep.of_wr W233).1
  have N233 := Fr.snoc X233 N231 g_b201
  refine Gl.back (fun _ k => st233 _ k) ?_
  show Gl _ _ _ _ _ _ _ (T233.setTop (mkF m 150 #[.val (.int i), .val (.ref b120), .unset, .unset, .unset, .unset] [(.ref b201)]))
  refine Gl.back (fun _ k => XS.dup X233.here hx rfl (hb hby at_150) rfl rfl k) ?_
  show Gl _ _ _ _ _ _ _ (T233.setTop (mkF m 151 #[.val (.int i), .val (.ref b120), .unset, .unset, .unset, .unset] [(.ref b201), (.ref b201)]))
  refine Gl.back (fun _ k => XS.bipush X233.here hx rfl (hb hby at_151) k) ?_
  show Gl _ _ _ _ _ _ _ (T233.setTop (mkF m 153 #[.val (.int i), .val (.ref b120), .unset, .unset, .unset, .unset] [(.int (8 : Int32)), (.ref b201), (.ref b201)]))
  refine Gl.back (fun _ k => XS.iconst X233.here hx rfl (hb hby at_153) k) ?_
  show Gl _ _ _ _ _ _ _ (T233.setTop (mkF m 154 #[.val (.int i), .val (.ref b120), .unset, .unset, .unset, .unset] [(.int (0 : Int32)), (.int (8 : Int32)), (.ref b201), (.ref b201)]))
  obtain ⟨cl234, Ar234, q234, Sz234, Nn234, Hs234, Gf234⟩ := id V233
  have hin234 : ¬ ((8 : Int32) < 0 ∨ cl234.slots.size ≤ ((8 : Int32)).toNatClampNeg) := inb_of Sz234 ⟨by decide, by decide⟩
  obtain ⟨T235, h235, X235, e235, W235, st235⟩ := stZ X233 hx hZ e233 Ar234 (j := (8 : Int32)) hin234 (g := (mkF m 154 #[.val (.int i), .val (.ref b120), .unset, .unset, .unset, .unset] [(.int (0 : Int32)), (.int (8 : Int32)), (.ref b201), (.ref b201)])) rfl rfl (hb hby at_154)
  have V235 := Arv.set Ar234 q234 Sz234 Nn234 Hs234 Gf234 (fits_nar_bool _) W235 8 rfl (Nat.le_of_ble_eq_true rfl)
  replace V235 : Arv Z h235 b201 k201 .boolean (16 : Int32) [(.int (0 : Int32)), (.int (0 : Int32)), (.int (0 : Int32)), (.int (0 : Int32)), (.int (0 : Int32)), (.int (0 : Int32)), (.int (0 : Int32)), (.int (0 : Int32)), (.int (0 : Int32)), (.int (0 : Int32)), (.int (0 : Int32)), (.int (0 : Int32)), (.int (0 : Int32)), (.int (0 : Int32)), (.int (0 : Int32)), (.int (0 : Int32))] (.int (0 : Int32)) := V235
  have K235 := Keep.wr K233 W235 (Or.inr sz_b201)
  have Z235 : n0 ≤ h235.size := Nat.le_trans Z233 (Keep.of_wr W235).1
  have N235 := Fr.snoc X235 N233 g_b201
  refine Gl.back (fun _ k => st235 _ k) ?_
  show Gl _ _ _ _ _ _ _ (T235.setTop (mkF m 155 #[.val (.int i), .val (.ref b120), .unset, .unset, .unset, .unset] [(.ref b201)]))
  refine Gl.back (fun _ k => XS.dup X235.here hx rfl (hb hby at_155) rfl rfl k) ?_
  show Gl _ _ _ _ _ _ _ (T235.setTop (mkF m 156 #[.val (.int i), .val (.ref b120), .unset, .unset, .unset, .unset] [(.ref b201), (.ref b201)]))
  refine Gl.back (fun _ k => XS.bipush X235.here hx rfl (hb hby at_156) k) ?_
  show Gl _ _ _ _ _ _ _ (T235.setTop (mkF m 158 #[.val (.int i), .val (.ref b120), .unset, .unset, .unset, .unset] [(.int (9 : Int32)), (.ref b201), (.ref b201)]))
  refine Gl.back (fun _ k => XS.iconst X235.here hx rfl (hb hby at_158) k) ?_
  show Gl _ _ _ _ _ _ _ (T235.setTop (mkF m 159 #[.val (.int i), .val (.ref b120), .unset, .unset, .unset, .unset] [(.int (1 : Int32)), (.int (9 : Int32)), (.ref b201), (.ref b201)]))
  obtain ⟨cl236, Ar236, q236, Sz236, Nn236, Hs236, Gf236⟩ := id V235
  have hin236 : ¬ ((9 : Int32) < 0 ∨ cl236.slots.size ≤ ((9 : Int32)).toNatClampNeg) := inb_of Sz236 ⟨by decide, by decide⟩
  obtain ⟨T237, h237, X237, e237, W237, st237⟩ := stZ X235 hx hZ e235 Ar236 (j := (9 : Int32)) hin236 (g := (mkF m 159 #[.val (.int i), .val (.ref b120), .unset, .unset, .unset, .unset] [(.int (1 : Int32)), (.int (9 : Int32)), (.ref b201), (.ref b201)])) rfl rfl (hb hby at_159)
  have V237 := Arv.set Ar236 q236 Sz236 Nn236 Hs236 Gf236 (fits_nar_bool _) W237 9 rfl (Nat.le_of_ble_eq_true rfl)
  replace V237 : Arv Z h237 b201 k201 .boolean (16 : Int32) [(.int (0 : Int32)), (.int (0 : Int32)), (.int (0 : Int32)), (.int (0 : Int32)), (.int (0 : Int32)), (.int (0 : Int32)), (.int (0 : Int32)), (.int (0 : Int32)), (.int (0 : Int32)), (.int (1 : Int32)), (.int (0 : Int32)), (.int (0 : Int32)), (.int (0 : Int32)), (.int (0 : Int32)), (.int (0 : Int32)), (.int (0 : Int32))] (.int (0 : Int32)) := V237
  have K237 := Keep.wr K235 W237 (Or.inr sz_b201)
  have Z237 : n0 ≤ h237.size := Nat.le_trans Z235 (Keep.of_wr W237).1
  have N237 := Fr.snoc X237 N235 g_b201
  refine Gl.back (fun _ k => st237 _ k) ?_
  show Gl _ _ _ _ _ _ _ (T237.setTop (mkF m 160 #[.val (.int i), .val (.ref b120), .unset, .unset, .unset, .unset] [(.ref b201)]))
  refine Gl.back (fun _ k => XS.dup X237.here hx rfl (hb hby at_160) rfl rfl k) ?_
  show Gl _ _ _ _ _ _ _ (T237.setTop (mkF m 161 #[.val (.int i), .val (.ref b120), .unset, .unset, .unset, .unset] [(.ref b201), (.ref b201)]))
  refine Gl.back (fun _ k => XS.bipush X237.here hx rfl (hb hby at_161) k) ?_
  show Gl _ _ _ _ _ _ _ (T237.setTop (mkF m 163 #[.val (.int i), .val (.ref b120), .unset, .unset, .unset, .unset] [(.int (10 : Int32)), (.ref b201), (.ref b201)]))
  refine Gl.back (fun _ k => XS.iconst X237.here hx rfl (hb hby at_163) k) ?_
  show Gl _ _ _ _ _ _ _ (T237.setTop (mkF m 164 #[.val (.int i), .val (.ref b120), .unset, .unset, .unset, .unset] [(.int (1 : Int32)), (.int (10 : Int32)), (.ref b201), (.ref b201)]))
  obtain ⟨cl238, Ar238, q238, Sz238, Nn238, Hs238, Gf238⟩ := id V237
  have hin238 : ¬ ((10 : Int32) < 0 ∨ cl238.slots.size ≤ ((10 : Int32)).toNatClampNeg) := inb_of Sz238 ⟨by decide, by decide⟩
  obtain ⟨T239, h239, X239, e239, W239, st239⟩ := stZ X237 hx hZ e237 Ar238 (j := (10 : Int32)) hin238 (g := (mkF m 164 #[.val (.int i), .val (.ref b120), .unset, .unset, .unset, .unset] [(.int (1 : Int32)), (.int (10 : Int32)), (.ref b201), (.ref b201)])) rfl rfl (hb hby at_164)
  have V239 := Arv.set Ar238 q238 Sz238 Nn238 Hs238 Gf238 (fits_nar_bool _) W239 10 rfl (Nat.le_of_ble_eq_true rfl)
  replace V239 : Arv Z h239 b201 k201 .boolean (16 : Int32) [(.int (0 : Int32)), (.int (0 : Int32)), (.int (0 : Int32)), (.int (0 : Int32)), (.int (0 : Int32)), (.int (0 : Int32)), (.int (0 : Int32)), (.int (0 : Int32)), (.int (0 : Int32)), (.int (1 : Int32)), (.int (1 : Int32)), (.int (0 : Int32)), (.int (0 : Int32)), (.int (0 : Int32)), (.int (0 : Int32)), (.int (0 : Int32))] (.int (0 : Int32)) := V239
  have K239 := Keep.wr K237 W239 (Or.inr sz_b201)
  have Z239 : n0 ≤ h239.size := Nat.le_trans Z237 (Keep.of_wr W239).1
  have N239 := Fr.snoc X239 N237 g_b201
  refine Gl.back (fun _ k => st239 _ k) ?_
  show Gl _ _ _ _ _ _ _ (T239.setTop (mkF m 165 #[.val (.int i), .val (.ref b120), .unset, .unset, .unset, .unset] [(.ref b201)]))
  refine Gl.back (fun _ k => XS.dup X239.here hx rfl (hb hby at_165) rfl rfl k) ?_
  show Gl _ _ _ _ _ _ _ (T239.setTop (mkF m 166 #[.val (.int i), .val (.ref b120), .unset, .unset, .unset, .unset] [(.ref b201), (.ref b201)]))
  refine Gl.back (fun _ k => XS.bipush X239.here hx rfl (hb hby at_166) k) ?_
  show Gl _ _ _ _ _ _ _ (T239.setTop (mkF m 168 #[.val (.int i), .val (.ref b120), .unset, .unset, .unset, .unset] [(.int (11 : Int32)), (.ref b201), (.ref b201)]))
  refine Gl.back (fun _ k => XS.iconst X239.here hx rfl (hb hby at_168) k) ?_
  show Gl _ _ _ _ _ _ _ (T239.setTop (mkF m 169 #[.val (.int i), .val (.ref b120), .unset, .unset, .unset, .unset] [(.int (1 : Int32)), (.int (11 : Int32)), (.ref b201), (.ref b201)]))
  obtain ⟨cl240, Ar240, q240, Sz240, Nn240, Hs240, Gf240⟩ := id V239
  have hin240 : ¬ ((11 : Int32) < 0 ∨ cl240.slots.size ≤ ((11 : Int32)).toNatClampNeg) := inb_of Sz240 ⟨by decide, by decide⟩
  obtain ⟨T241, h241, X241, e241, W241, st241⟩ := stZ X239 hx hZ e239 Ar240 (j := (11 : Int32)) hin240 (g := (mkF m 169 #[.val (.int i), .val (.ref b120), .unset, .unset, .unset, .unset] [(.int (1 : Int32)), (.int (11 : Int32)), (.ref b201), (.ref b201)])) rfl rfl (hb hby at_169)
  have V241 := Arv.set Ar240 q240 Sz240 Nn240 Hs240 Gf240 (fits_nar_bool _) W241 11 rfl (Nat.le_of_ble_eq_true rfl)
  replace V241 : Arv Z h241 b201 k201 .boolean (16 : Int32) [(.int (0 : Int32)), (.int (0 : Int32)), (.int (0 : Int32)), (.int (0 : Int32)), (.int (0 : Int32)), (.int (0 : Int32)), (.int (0 : Int32)), (.int (0 : Int32)), (.int (0 : Int32)), (.int (1 : Int32)), (.int (1 : Int32)), (.int (1 : Int32)), (.int (0 : Int32)), (.int (0 : Int32)), (.int (0 : Int32)), (.int (0 : Int32))] (.int (0 : Int32)) := V241
  have K241 := Keep.wr K239 W241 (Or.inr sz_b201)
  have Z241 : n0 ≤ h241.size := Nat.le_trans Z239 (Keep.of_wr W241).1
  have N241 := Fr.snoc X241 N239 g_b201
  refine Gl.back (fun _ k => st241 _ k) ?_
  show Gl _ _ _ _ _ _ _ (T241.setTop (mkF m 170 #[.val (.int i), .val (.ref b120), .unset, .unset, .unset, .unset] [(.ref b201)]))
  refine Gl.back (fun _ k => XS.dup X241.here hx rfl (hb hby at_170) rfl rfl k) ?_
  show Gl _ _ _ _ _ _ _ (T241.setTop (mkF m 171 #[.val (.int i), .val (.ref b120), .unset, .unset, .unset, .unset] [(.ref b201), (.ref b201)]))
  refine Gl.back (fun _ k => XS.bipush X241.here hx rfl (hb hby at_171) k) ?_
  show Gl _ _ _ _ _ _ _ (T241.setTop (mkF m 173 #[.val (.int i), .val (.ref b120), .unset, .unset, .unset, .unset] [(.int (12 : Int32)), (.ref b201), (.ref b201)]))
  refine Gl.back (fun _ k => XS.iconst X241.here hx rfl (hb hby at_173) k) ?_
  show Gl _ _ _ _ _ _ _ (T241.setTop (mkF m 174 #[.val (.int i), .val (.ref b120), .unset, .unset, .unset, .unset] [(.int (1 : Int32)), (.int (12 : Int32)), (.ref b201), (.ref b201)]))
  obtain ⟨cl242, Ar242, q242, Sz242, Nn242, Hs242, Gf242⟩ := id V241
  have hin242 : ¬ ((12 : Int32) < 0 ∨ cl242.slots.size ≤ ((12 : Int32)).toNatClampNeg) := inb_of Sz242 ⟨by decide, by decide⟩
  obtain ⟨T243, h243, X243, e243, W243, st243⟩ := stZ X241 hx hZ e241 Ar242 (j := (12 : Int32)) hin242 (g := (mkF m 174 #[.val (.int i), .val (.ref b120), .unset, .unset, .unset, .unset] [(.int (1 : Int32)), (.int (12 : Int32)), (.ref b201), (.ref b201)])) rfl rfl (hb hby at_174)
  have V243 := Arv.set Ar242 q242 Sz242 Nn242 Hs242 Gf242 (fits_nar_bool _) W243 12 rfl (Nat.le_of_ble_eq_true rfl)
  replace V243 : Arv Z h243 b201 k201 .boolean (16 : Int32) [(.int (0 : Int32)), (.int (0 : Int32)), (.int (0 : Int32)), (.int (0 : Int32)), (.int (0 : Int32)), (.int (0 : Int32)), (.int (0 : Int32)), (.int (0 : Int32)), (.int (0 : Int32)), (.int (1 : Int32)), (.int (1 : Int32)), (.int (1 : Int32)), (.int (1 : Int32)), (.int (0 : Int32)), (.int (0 : Int32)), (.int (0 : Int32))] (.int (0 : Int32)) := V243
  have K243 := Keep.wr K241 W243 (Or.inr sz_b201)
  have Z243 : n0 ≤ h243.size := Nat.le_trans Z241 (Keep.of_wr W243).1
  have N243 := Fr.snoc X243 N241 g_b201
  refine Gl.back (fun _ k => st243 _ k) ?_
  show Gl _ _ _ _ _ _ _ (T243.setTop (mkF m 175 #[.val (.int i), .val (.ref b120), .unset, .unset, .unset, .unset] [(.ref b201)]))
  refine Gl.back (fun _ k => XS.dup X243.here hx rfl (hb hby at_175) rfl rfl k) ?_
  show Gl _ _ _ _ _ _ _ (T243.setTop (mkF m 176 #[.val (.int i), .val (.ref b120), .unset, .unset, .unset, .unset] [(.ref b201), (.ref b201)]))
  refine Gl.back (fun _ k => XS.bipush X243.here hx rfl (hb hby at_176) k) ?_
  show Gl _ _ _ _ _ _ _ (T243.setTop (mkF m 178 #[.val (.int i), .val (.ref b120), .unset, .unset, .unset, .unset] [(.int (13 : Int32)), (.ref b201), (.ref b201)]))
  refine Gl.back (fun _ k => XS.iconst X243.here hx rfl (hb hby at_178) k) ?_
  show Gl _ _ _ _ _ _ _ (T243.setTop (mkF m 179 #[.val (.int i), .val (.ref b120), .unset, .unset, .unset, .unset] [(.int (1 : Int32)), (.int (13 : Int32)), (.ref b201), (.ref b201)]))
  obtain ⟨cl244, Ar244, q244, Sz244, Nn244, Hs244, Gf244⟩ := id V243
  have hin244 : ¬ ((13 : Int32) < 0 ∨ cl244.slots.size ≤ ((13 : Int32)).toNatClampNeg) := inb_of Sz244 ⟨by decide, by decide⟩
  obtain ⟨T245, h245, X245, e245, W245, st245⟩ := stZ X243 hx hZ e243 Ar244 (j := (13 : Int32)) hin244 (g := (mkF m 179 #[.val (.int i), .val (.ref b120), .unset, .unset, .unset, .unset] [(.int (1 : Int32)), (.int (13 : Int32)), (.ref b201), (.ref b201)])) rfl rfl (hb hby at_179)
  have V245 := Arv.set Ar244 q244 Sz244 Nn244 Hs244 Gf244 (fits_nar_bool _) W245 13 rfl (Nat.le_of_ble_eq_true rfl)
  replace V245 : Arv Z h245 b201 k201 .boolean (16 : Int32) [(.int (0 : Int32)), (.int (0 : Int32)), (.int (0 : Int32)), (.int (0 : Int32)), (.int (0 : Int32)), (.int (0 : Int32)), (.int (0 : Int32)), (.int (0 : Int32)), (.int (0 : Int32)), (.int (1 : Int32)), (.int (1 : Int32)), (.int (1 : Int32)), (.int (1 : Int32)), (.int (1 : Int32)), (.int (0 : Int32)), (.int (0 : Int32))] (.int (0 : Int32)) := V245
  have K245 := Keep.wr K243 W245 (Or.inr sz_b201)
  have Z245 : n0 ≤ h245.size := Nat.le_trans Z243 (Keep.of_wr W245).1
  have N245 := Fr.snoc X245 N243 g_b201
  refine Gl.back (fun _ k => st245 _ k) ?_
  show Gl _ _ _ _ _ _ _ (T245.setTop (mkF m 180 #[.val (.int i), .val (.ref b120), .unset, .unset, .unset, .unset] [(.ref b201)]))
  refine Gl.back (fun _ k => XS.dup X245.here hx rfl (hb hby at_180) rfl rfl k) ?_
  show Gl _ _ _ _ _ _ _ (T245.setTop (mkF m 181 #[.val (.int i), .val (.ref b120), .unset, .unset, .unset, .unset] [(.ref b201), (.ref b201)]))
  refine Gl.back (fun _ k => XS.bipush X245.here hx rfl (hb hby at_181) k) ?_
  show Gl _ _ _ _ _ _ _ (T245.setTop (mkF m 183 #[.val (.int i), .val (.ref b120), .unset, .unset, .unset, .unset] [(.int (14 : Int32)), (.ref b201), (.ref b201)]))
  refine Gl.back (fun _ k => XS.iconst X245.here hx rfl (hb hby at_183) k) ?_
  show Gl _ _ _ _ _ _ _ (T245.setTop (mkF m 184 #[.val (.int i), .val (.ref b120), .unset, .unset, .unset, .unset] [(.int (0 : Int32)), (.int (14 : Int32)), (.ref b201), (.ref b201)]))
  obtain ⟨cl246, Ar246, q246, Sz246, Nn246, Hs246, Gf246⟩ := id V245
  have hin246 : ¬ ((14 : Int32) < 0 ∨ cl246.slots.size ≤ ((14 : Int32)).toNatClampNeg) := inb_of Sz246 ⟨by decide, by decide⟩
  obtain ⟨T247, h247, X247, e247, W247, st247⟩ := stZ X245 hx hZ e245 Ar246 (j := (14 : Int32)) hin246 (g := (mkF m 184 #[.val (.int i), .val (.ref b120), .unset, .unset, .unset, .unset] [(.int (0 : Int32)), (.int (14 : Int32)), (.ref b201), (.ref b201)])) rfl rfl (hb hby at_184)
  have V247 := Arv.set Ar246 q246 Sz246 Nn246 Hs246 Gf246 (fits_nar_bool _) W247 14 rfl (Nat.le_of_ble_eq_true rfl)
  replace V247 : Arv Z h247 b201 k201 .boolean (16 : Int32) [(.int (0 : Int32)), (.int (0 : Int32)), (.int (0 : Int32)), (.int (0 : Int32)), (.int (0 : Int32)), (.int (0 : Int32)), (.int (0 : Int32)), (.int (0 : Int32)), (.int (0 : Int32)), (.int (1 : Int32)), (.int (1 : Int32)), (.int (1 : Int32)), (.int (1 : Int32)), (.int (1 : Int32)), (.int (0 : Int32)), (.int (0 : Int32))] (.int (0 : Int32)) := V247
  have K247 := Keep.wr K245 W247 (Or.inr sz_b201)
  have Z247 : n0 ≤ h247.size := Nat.le_trans Z245 (Keep.of_wr W247).1
  have N247 := Fr.snoc X247 N245 g_b201
  refine Gl.back (fun _ k => st247 _ k) ?_
  show Gl _ _ _ _ _ _ _ (T247.setTop (mkF m 185 #[.val (.int i), .val (.ref b120), .unset, .unset, .unset, .unset] [(.ref b201)]))
  refine Gl.back (fun _ k => XS.dup X247.here hx rfl (hb hby at_185) rfl rfl k) ?_
  show Gl _ _ _ _ _ _ _ (T247.setTop (mkF m 186 #[.val (.int i), .val (.ref b120), .unset, .unset, .unset, .unset] [(.ref b201), (.ref b201)]))
  refine Gl.back (fun _ k => XS.bipush X247.here hx rfl (hb hby at_186) k) ?_
  show Gl _ _ _ _ _ _ _ (T247.setTop (mkF m 188 #[.val (.int i), .val (.ref b120), .unset, .unset, .unset, .unset] [(.int (15 : Int32)), (.ref b201), (.ref b201)]))
  refine Gl.back (fun _ k => XS.iconst X247.here hx rfl (hb hby at_188) k) ?_
  show Gl _ _ _ _ _ _ _ (T247.setTop (mkF m 189 #[.val (.int i), .val (.ref b120), .unset, .unset, .unset, .unset] [(.int (0 : Int32)), (.int (15 : Int32)), (.ref b201), (.ref b201)]))
  obtain ⟨cl248, Ar248, q248, Sz248, Nn248, Hs248, Gf248⟩ := id V247
  have hin248 : ¬ ((15 : Int32) < 0 ∨ cl248.slots.size ≤ ((15 : Int32)).toNatClampNeg) := inb_of Sz248 ⟨by decide, by decide⟩
  obtain ⟨T249, h249, X249, e249, W249, st249⟩ := stZ X247 hx hZ e247 Ar248 (j := (15 : Int32)) hin248 (g := (mkF m 189 #[.val (.int i), .val (.ref b120), .unset, .unset, .unset, .unset] [(.int (0 : Int32)), (.int (15 : Int32)), (.ref b201), (.ref b201)])) rfl rfl (hb hby at_189)
  have V249 := Arv.set Ar248 q248 Sz248 Nn248 Hs248 Gf248 (fits_nar_bool _) W249 15 rfl (Nat.le_of_ble_eq_true rfl)
  replace V249 : Arv Z h249 b201 k201 .boolean (16 : Int32) [(.int (0 : Int32)), (.int (0 : Int32)), (.int (0 : Int32)), (.int (0 : Int32)), (.int (0 : Int32)), (.int (0 : Int32)), (.int (0 : Int32)), (.int (0 : Int32)), (.int (0 : Int32)), (.int (1 : Int32)), (.int (1 : Int32)), (.int (1 : Int32)), (.int (1 : Int32)), (.int (1 : Int32)), (.int (0 : Int32)), (.int (0 : Int32))] (.int (0 : Int32)) := V249
  have K249 := Keep.wr K247 W249 (Or.inr sz_b201)
  have Z249 : n0 ≤ h249.size := Nat.le_trans Z247 (Keep.of_wr W249).1
  have N249 := Fr.snoc X249 N247 g_b201
  refine Gl.back (fun _ k => st249 _ k) ?_
  show Gl _ _ _ _ _ _ _ (T249.setTop (mkF m 190 #[.val (.int i), .val (.ref b120), .unset, .unset, .unset, .unset] [(.ref b201)]))
  refine Gl.back (fun _ k => XS.astoreN X249.here hx rfl (hb hby at_190) rfl rfl (l' := #[.val (.int i), .val (.ref b120), .val (.ref b201), .unset, .unset, .unset]) rfl k) ?_
  show Gl _ _ _ _ _ _ _ (T249.setTop (mkF m 191 #[.val (.int i), .val (.ref b120), .val (.ref b201), .unset, .unset, .unset] []))
  refine Gl.back (fun _ k => XS.iloadN X249.here hx rfl (hb hby at_191) rfl k) ?_
  show Gl _ _ _ _ _ _ _ (T249.setTop (mkF m 192 #[.val (.int i), .val (.ref b120), .val (.ref b201), .unset, .unset, .unset] [(.int i)]))
  refine Gl.back (fun _ k => X249.ldcInt hx hown (mvT hZ (hw _ (List.mem_of_getElem? (i := 37) rfl))) (g := (mkF m 192 #[.val (.int i), .val (.ref b120), .val (.ref b201), .unset, .unset, .unset] [(.int i)])) rfl (hb hby at_192) _ k) ?_
  show Gl _ _ _ _ _ _ _ (T249.setTop (mkF m 194 #[.val (.int i), .val (.ref b120), .val (.ref b201), .unset, .unset, .unset] [(.int (2147483647 : Int32)), (.int i)]))
  refine Gl.back (fun _ k => XS.iand X249.here hx rfl (hb hby at_194) rfl k) ?_
  show Gl _ _ _ _ _ _ _ (T249.setTop (mkF m 195 #[.val (.int i), .val (.ref b120), .val (.ref b201), .unset, .unset, .unset] [(.int (i &&& (2147483647 : Int32)))]))
  refine Gl.back (fun _ k => XS.bipush X249.here hx rfl (hb hby at_195) k) ?_
  show Gl _ _ _ _ _ _ _ (T249.setTop (mkF m 197 #[.val (.int i), .val (.ref b120), .val (.ref b201), .unset, .unset, .unset] [(.int (16 : Int32)), (.int (i &&& (2147483647 : Int32)))]))
  refine Gl.back (fun _ k => iremM X249 hx rfl (hb hby at_197) rfl (by decide) k) ?_
  show Gl _ _ _ _ _ _ _ (T249.setTop (mkF m 198 #[.val (.int i), .val (.ref b120), .val (.ref b201), .unset, .unset, .unset] [(.int ((i &&& (2147483647 : Int32)) % (16 : Int32)))]))
  rcases own_16 (own_rem16 i) with hk250 | hk250 | hk250 | hk250 | hk250 | hk250 | hk250 | hk250 | hk250 | hk250 | hk250 | hk250 | hk250 | hk250 | hk250 | hk250
  · rw [hk250]
    show Gl _ _ _ _ _ _ _ (T249.setTop (mkF m 198 #[.val (.int i), .val (.ref b120), .val (.ref b201), .unset, .unset, .unset] [(.int (0 : Int32))]))
    refine Gl.back (fun _ k => XS.istoreN X249.here hx rfl (hb hby at_198) rfl (l' := #[.val (.int i), .val (.ref b120), .val (.ref b201), .val (.int (0 : Int32)), .unset, .unset]) rfl k) ?_
    show Gl _ _ _ _ _ _ _ (T249.setTop (mkF m 199 #[.val (.int i), .val (.ref b120), .val (.ref b201), .val (.int (0 : Int32)), .unset, .unset] []))
    refine Gl.back (fun _ k => XS.aloadN X249.here hx rfl (hb hby at_199) rfl rfl k) ?_
    show Gl _ _ _ _ _ _ _ (T249.setTop (mkF m 200 #[.val (.int i), .val (.ref b120), .val (.ref b201), .val (.int (0 : Int32)), .unset, .unset] [(.ref b120)]))
    refine Gl.back (fun _ k => XS.iloadN X249.here hx rfl (hb hby at_200) rfl k) ?_
    show Gl _ _ _ _ _ _ _ (T249.setTop (mkF m 201 #[.val (.int i), .val (.ref b120), .val (.ref b201), .val (.int (0 : Int32)), .unset, .unset] [(.int (0 : Int32)), (.ref b120)]))
    have f251 := (((((((((((((((((V200.ext E201).other W219 ne_b120_b201).other W221 ne_b120_b201).other W223 ne_b120_b201).other W225 ne_b120_b201).other W227 ne_b120_b201).other W229 ne_b120_b201).other W231 ne_b120_b201).other W233 ne_b120_b201).other W235 ne_b120_b201).other W237 ne_b120_b201).other W239 ne_b120_b201).other W241 ne_b120_b201).other W243 ne_b120_b201).other W245 ne_b120_b201).other W247 ne_b120_b201).other W249 ne_b120_b201)
    obtain ⟨cl252, Ar252, q252, Sz252, Nn252, Hs252, Gf252⟩ := id f251
    have hin252 : ¬ ((0 : Int32) < 0 ∨ cl252.slots.size ≤ ((0 : Int32)).toNatClampNeg) := inb_of Sz252 ⟨by decide, by decide⟩
    have hat252 : cl252.slots[((0 : Int32)).toNatClampNeg]? = some (.ref w_EQUALS) := Hs252.at hin252 (rfl)
    refine Gl.back (fun _ k => X249.aaload hx (j := (0 : Int32)) (v := (.ref w_EQUALS)) (by rw [e249]; exact Ar252.1) (State.isArrayOf_alike hZ.alike Ar252.2.1) rfl Ar252.2.2 hin252 hat252 (g := (mkF m 201 #[.val (.int i), .val (.ref b120), .val (.ref b201), .val (.int (0 : Int32)), .unset, .unset] [(.int (0 : Int32)), (.ref b120)])) rfl rfl (hb hby at_201) _ k) ?_
    show Gl _ _ _ _ _ _ _ (T249.setTop (mkF m 202 #[.val (.int i), .val (.ref b120), .val (.ref b201), .val (.int (0 : Int32)), .unset, .unset] [(.ref w_EQUALS)]))
    refine Gl.back (fun _ k => XS.astore X249.here hx rfl (hb hby at_202) rfl rfl (l' := #[.val (.int i), .val (.ref b120), .val (.ref b201), .val (.int (0 : Int32)), .val (.ref w_EQUALS), .unset]) rfl k) ?_
    show Gl _ _ _ _ _ _ _ (T249.setTop (mkF m 204 #[.val (.int i), .val (.ref b120), .val (.ref b201), .val (.int (0 : Int32)), .val (.ref w_EQUALS), .unset] []))
    refine Gl.back (fun _ k => XS.aload X249.here hx rfl (hb hby at_204) rfl rfl k) ?_
    show Gl _ _ _ _ _ _ _ (T249.setTop (mkF m 206 #[.val (.int i), .val (.ref b120), .val (.ref b201), .val (.int (0 : Int32)), .val (.ref w_EQUALS), .unset] [(.ref w_EQUALS)]))
    have f254 := ((((((((((((((((((((((((f166.wr W170).wr W175).wr W180).wr W185).wr W190).wr W195).wr W200).ext E201).wr W219).wr W221).wr W223).wr W225).wr W227).wr W229).wr W231).wr W233).wr W235).wr W237).wr W239).wr W241).wr W243).wr W245).wr W247).wr W249)
    have f255 := (((((((((((((((((((((((f171.wr W175).wr W180).wr W185).wr W190).wr W195).wr W200).ext E201).wr W219).wr W221).wr W223).wr W225).wr W227).wr W229).wr W231).wr W233).wr W235).wr W237).wr W239).wr W241).wr W243).wr W245).wr W247).wr W249)
    have f256 := ((((((((((((((((((((((f176.wr W180).wr W185).wr W190).wr W195).wr W200).ext E201).wr W219).wr W221).wr W223).wr W225).wr W227).wr W229).wr W231).wr W233).wr W235).wr W237).wr W239).wr W241).wr W243).wr W245).wr W247).wr W249)
    have f257 := (((((((((((((((((((((f181.wr W185).wr W190).wr W195).wr W200).ext E201).wr W219).wr W221).wr W223).wr W225).wr W227).wr W229).wr W231).wr W233).wr W235).wr W237).wr W239).wr W241).wr W243).wr W245).wr W247).wr W249)
    have f258 := ((((((((((((((((((((f186.wr W190).wr W195).wr W200).ext E201).wr W219).wr W221).wr W223).wr W225).wr W227).wr W229).wr W231).wr W233).wr W235).wr W237).wr W239).wr W241).wr W243).wr W245).wr W247).wr W249)
    have f259 := (((((((((((((((((f202.ext E201).wr W219).wr W221).wr W223).wr W225).wr W227).wr W229).wr W231).wr W233).wr W235).wr W237).wr W239).wr W241).wr W243).wr W245).wr W247).wr W249)
    obtain ⟨cq253, kq253, q253a, q253b, q253c⟩ := isOf hZ e249 f259
    obtain ⟨_, _, ⟨T253, L253, k253, n253⟩, -, X253, ⟨Lc253, hQ253, l253, y253, z253⟩, st253⟩ := X249.virtualBack hx (y := (⟨"com/example/demi_orm/demiorm/query/Operator", "comparesText", "()Z"⟩ : MethodName)) (z := (⟨"com/example/demi_orm/demiorm/query/Operator", "comparesText", "()Z"⟩ : MethodName)) hown (mvT hZ (hw _ (List.mem_of_getElem? (i := 38) rfl))) (mvT hZ (hw _ (List.mem_of_getElem? (i := 39) rfl))) (notFace_of_selects (args := #[]) (mvT hZ (hw _ (List.mem_of_getElem? (i := 41) rfl)))) (mvT hZ (hw _ (List.mem_of_getElem? (i := 41) rfl))) (mvT hZ (hw _ (List.mem_of_getElem? (i := 40) rfl))) (by decide) (backOf (W := 0) (rm1_no l Z a0 hw [] w_EQUALS w_LIKE w_NOT_LIKE w_STARTING_WITH w_ENDING_WITH w_CONTAINING h249 n0 Z249 f254 f255 f256 f257 f258 (Fld.ne F_EQUALS_ordinal F_LIKE_ordinal (by decide)) (Fld.ne F_EQUALS_ordinal F_NOT_LIKE_ordinal (by decide)) (Fld.ne F_EQUALS_ordinal F_STARTING_WITH_ordinal (by decide)) (Fld.ne F_EQUALS_ordinal F_ENDING_WITH_ordinal (by decide)) (Fld.ne F_EQUALS_ordinal F_CONTAINING_ordinal (by decide))) hZ (hw _ (List.mem_of_getElem? (i := 42) rfl)) (hw _ (List.mem_of_getElem? (i := 3) rfl)) (by decide) (by decide)) q253a q253c (g := (mkF m 206 #[.val (.int i), .val (.ref b120), .val (.ref b201), .val (.int (0 : Int32)), .val (.ref w_EQUALS), .unset] [(.ref w_EQUALS)])) rfl (by rw [hml]; rfl) (Steps.refl _) (argsL := []) (rest := []) (lenOf pd___Z rfl) rfl (by show 2 * 0 + _ ≤ _; exact Nat.le_of_eq rfl) (hb hby at_206) (fun _ _ => ⟨rfl, e249, (by decide : 2 + 0 ≤ _), (by decide : 32 + 0 ≤ _)⟩)
    dsimp only [Pt.U, Pt.locs, Pt.cells, Pt.slots] at X253 l253 y253 z253 st253 hQ253
    replace l253 := Eq.symm l253
    replace y253 := Eq.symm y253
    replace z253 := Eq.symm z253
    subst l253 y253 z253
    obtain ⟨Nq253, rfl, eh253⟩ := hQ253
    have N253 := Fr.app N249 Nq253
    refine Gl.back (fun _ k => st253.trans k) ?_
    show Gl _ _ _ _ _ _ _ (T253.setTop (mkF m 209 #[.val (.int i), .val (.ref b120), .val (.ref b201), .val (.int (0 : Int32)), .val (.ref w_EQUALS), .unset] [(.int (0 : Int32))]))
    refine Gl.back (fun _ k => XS.istore X253.here hx rfl (hb hby at_209) rfl (l' := #[.val (.int i), .val (.ref b120), .val (.ref b201), .val (.int (0 : Int32)), .val (.ref w_EQUALS), .val (.int (0 : Int32))]) rfl k) ?_
    show Gl _ _ _ _ _ _ _ (T253.setTop (mkF m 211 #[.val (.int i), .val (.ref b120), .val (.ref b201), .val (.int (0 : Int32)), .val (.ref w_EQUALS), .val (.int (0 : Int32))] []))
    refine Gl.back (fun _ k => XS.iload X253.here hx rfl (hb hby at_211) rfl k) ?_
    show Gl _ _ _ _ _ _ _ (T253.setTop (mkF m 213 #[.val (.int i), .val (.ref b120), .val (.ref b201), .val (.int (0 : Int32)), .val (.ref w_EQUALS), .val (.int (0 : Int32))] [(.int (0 : Int32))]))
    refine Gl.back (fun _ k => XS.aloadN X253.here hx rfl (hb hby at_213) rfl rfl k) ?_
    show Gl _ _ _ _ _ _ _ (T253.setTop (mkF m 214 #[.val (.int i), .val (.ref b120), .val (.ref b201), .val (.int (0 : Int32)), .val (.ref w_EQUALS), .val (.int (0 : Int32))] [(.ref b201), (.int (0 : Int32))]))
    refine Gl.back (fun _ k => XS.iloadN X253.here hx rfl (hb hby at_214) rfl k) ?_
    show Gl _ _ _ _ _ _ _ (T253.setTop (mkF m 215 #[.val (.int i), .val (.ref b120), .val (.ref b201), .val (.int (0 : Int32)), .val (.ref w_EQUALS), .val (.int (0 : Int32))] [(.int (0 : Int32)), (.ref b201), (.int (0 : Int32))]))
    obtain ⟨cl260, Ar260, q260, Sz260, Nn260, Hs260, Gf260⟩ := id V249
    have hin260 : ¬ ((0 : Int32) < 0 ∨ cl260.slots.size ≤ ((0 : Int32)).toNatClampNeg) := inb_of Sz260 ⟨by decide, by decide⟩
    have hat260 : cl260.slots[((0 : Int32)).toNatClampNeg]? = some (.int (0 : Int32)) := Hs260.at hin260 (rfl)
    refine Gl.back (fun _ k => X253.baloadBooleans hx (j := (0 : Int32)) (v := (.int (0 : Int32))) (by rw [eh253]; exact Ar260.1) (State.isArrayOf_alike hZ.alike Ar260.2.1) Ar260.2.2 hin260 hat260 (g := (mkF m 215 #[.val (.int i), .val (.ref b120), .val (.ref b201), .val (.int (0 : Int32)), .val (.ref w_EQUALS), .val (.int (0 : Int32))] [(.int (0 : Int32)), (.ref b201), (.int (0 : Int32))])) rfl rfl (hb hby at_215) _ k) ?_
    show Gl _ _ _ _ _ _ _ (T253.setTop (mkF m 216 #[.val (.int i), .val (.ref b120), .val (.ref b201), .val (.int (0 : Int32)), .val (.ref w_EQUALS), .val (.int (0 : Int32))] [(.int (0 : Int32)), (.int (0 : Int32))]))
    refine Gl.back (fun _ k => XS.icmpYes X253.here hx rfl (pc0 := 216) (pc' := 221) rfl (hb hby at_216) rfl (teq (by decide : (0 : Int32) = (0 : Int32))).1 (by decide) (by decide) k) ?_
    show Gl _ _ _ _ _ _ _ (T253.setTop (mkF m 221 #[.val (.int i), .val (.ref b120), .val (.ref b201), .val (.int (0 : Int32)), .val (.ref w_EQUALS), .val (.int (0 : Int32))] []))
    refine Gl.back (fun _ k => XS.iload X253.here hx rfl (hb hby at_221) rfl k) ?_
    show Gl _ _ _ _ _ _ _ (T253.setTop (mkF m 223 #[.val (.int i), .val (.ref b120), .val (.ref b201), .val (.int (0 : Int32)), .val (.ref w_EQUALS), .val (.int (0 : Int32))] [(.int (0 : Int32))]))
    refine Gl.back (fun _ k => XS.ifYes X253.here hx rfl (pc0 := 223) (pc' := 257) rfl (hb hby at_223) rfl ((if0 _ _).trans (teq (by decide : (0 : Int32) = (0 : Int32))).1) (by decide) (by decide) k) ?_
    show Gl _ _ _ _ _ _ _ (T253.setTop (mkF m 257 #[.val (.int i), .val (.ref b120), .val (.ref b201), .val (.int (0 : Int32)), .val (.ref w_EQUALS), .val (.int (0 : Int32))] []))
    refine Gl.back (fun _ k => XS.iconst X253.here hx rfl (hb hby at_257) k) ?_
    show Gl _ _ _ _ _ _ _ (T253.setTop (mkF m 258 #[.val (.int i), .val (.ref b120), .val (.ref b201), .val (.int (0 : Int32)), .val (.ref w_EQUALS), .val (.int (0 : Int32))] [(.int (1 : Int32))]))
    exact Gl.ret X253 eh253 (v := (some (.int (1 : Int32)))) (fun h => by rw [Bd.returns] at h; cases h) Bd.notSynchronized (fun fs hr => retN X253 hx (t := .boolean) (z := (1 : Int32)) Bd.returns (by simp) (hb hby at_258) hr) ⟨N253, rfl⟩ (by decide) (by decide)
  · rw [hk250]
    show Gl _ _ _ _ _ _ _ (T249.setTop (mkF m 198 #[.val (.int i), .val (.ref b120), .val (.ref b201), .unset, .unset, .unset] [(.int (1 : Int32))]))
    refine Gl.back (fun _ k => XS.istoreN X249.here hx rfl (hb hby at_198) rfl (l' := #[.val (.int i), .val (.ref b120), .val (.ref b201), .val (.int (1 : Int32)), .unset, .unset]) rfl k) ?_
    show Gl _ _ _ _ _ _ _ (T249.setTop (mkF m 199 #[.val (.int i), .val (.ref b120), .val (.ref b201), .val (.int (1 : Int32)), .unset, .unset] []))
    refine Gl.back (fun _ k => XS.aloadN X249.here hx rfl (hb hby at_199) rfl rfl k) ?_
    show Gl _ _ _ _ _ _ _ (T249.setTop (mkF m 200 #[.val (.int i), .val (.ref b120), .val (.ref b201), .val (.int (1 : Int32)), .unset, .unset] [(.ref b120)]))
    refine Gl.back (fun _ k => XS.iloadN X249.here hx rfl (hb hby at_200) rfl k) ?_
    show Gl _ _ _ _ _ _ _ (T249.setTop (mkF m 201 #[.val (.int i), .val (.ref b120), .val (.ref b201), .val (.int (1 : Int32)), .unset, .unset] [(.int (1 : Int32)), (.ref b120)]))
    have f261 := (((((((((((((((((V200.ext E201).other W219 ne_b120_b201).other W221 ne_b120_b201).other W223 ne_b120_b201).other W225 ne_b120_b201).other W227 ne_b120_b201).other W229 ne_b120_b201).other W231 ne_b120_b201).other W233 ne_b120_b201).other W235 ne_b120_b201).other W237 ne_b120_b201).other W239 ne_b120_b201).other W241 ne_b120_b201).other W243 ne_b120_b201).other W245 ne_b120_b201).other W247 ne_b120_b201).other W249 ne_b120_b201)
    obtain ⟨cl262, Ar262, q262, Sz262, Nn262, Hs262, Gf262⟩ := id f261
    have hin262 : ¬ ((1 : Int32) < 0 ∨ cl262.slots.size ≤ ((1 : Int32)).toNatClampNeg) := inb_of Sz262 ⟨by decide, by decide⟩
    have hat262 : cl262.slots[((1 : Int32)).toNatClampNeg]? = some (.ref w_NOT_EQUALS) := Hs262.at hin262 (rfl)
    refine Gl.back (fun _ k => X249.aaload hx (j := (1 : Int32)) (v := (.ref w_NOT_EQUALS)) (by rw [e249]; exact Ar262.1) (State.isArrayOf_alike hZ.alike Ar262.2.1) rfl Ar262.2.2 hin262 hat262 (g := (mkF m 201 #[.val (.int i), .val (.ref b120), .val (.ref b201), .val (.int (1 : Int32)), .unset, .unset] [(.int (1 : Int32)), (.ref b120)])) rfl rfl (hb hby at_201) _ k) ?_
    show Gl _ _ _ _ _ _ _ (T249.setTop (mkF m 202 #[.val (.int i), .val (.ref b120), .val (.ref b201), .val (.int (1 : Int32)), .unset, .unset] [(.ref w_NOT_EQUALS)]))
    refine Gl.back (fun _ k => XS.astore X249.here hx rfl (hb hby at_202) rfl rfl (l' := #[.val (.int i), .val (.ref b120), .val (.ref b201), .val (.int (1 : Int32)), .val (.ref w_NOT_EQUALS), .unset]) rfl k) ?_
    show Gl _ _ _ _ _ _ _ (T249.setTop (mkF m 204 #[.val (.int i), .val (.ref b120), .val (.ref b201), .val (.int (1 : Int32)), .val (.ref w_NOT_EQUALS), .unset] []))
    refine Gl.back (fun _ k => XS.aload X249.here hx rfl (hb hby at_204) rfl rfl k) ?_
    show Gl _ _ _ _ _ _ _ (T249.setTop (mkF m 206 #[.val (.int i), .val (.ref b120), .val (.ref b201), .val (.int (1 : Int32)), .val (.ref w_NOT_EQUALS), .unset] [(.ref w_NOT_EQUALS)]))
    have f264 := ((((((((((((((((((((((((f166.wr W170).wr W175).wr W180).wr W185).wr W190).wr W195).wr W200).ext E201).wr W219).wr W221).wr W223).wr W225).wr W227).wr W229).wr W231).wr W233).wr W235).wr W237).wr W239).wr W241).wr W243).wr W245).wr W247).wr W249)
    have f265 := (((((((((((((((((((((((f171.wr W175).wr W180).wr W185).wr W190).wr W195).wr W200).ext E201).wr W219).wr W221).wr W223).wr W225).wr W227).wr W229).wr W231).wr W233).wr W235).wr W237).wr W239).wr W241).wr W243).wr W245).wr W247).wr W249)
    have f266 := ((((((((((((((((((((((f176.wr W180).wr W185).wr W190).wr W195).wr W200).ext E201).wr W219).wr W221).wr W223).wr W225).wr W227).wr W229).wr W231).wr W233).wr W235).wr W237).wr W239).wr W241).wr W243).wr W245).wr W247).wr W249)
    have f267 := (((((((((((((((((((((f181.wr W185).wr W190).wr W195).wr W200).ext E201).wr W219).wr W221).wr W223).wr W225).wr W227).wr W229).wr W231).wr W233).wr W235).wr W237).wr W239).wr W241).wr W243).wr W245).wr W247).wr W249)
    have f268 := ((((((((((((((((((((f186.wr W190).wr W195).wr W200).ext E201).wr W219).wr W221).wr W223).wr W225).wr W227).wr W229).wr W231).wr W233).wr W235).wr W237).wr W239).wr W241).wr W243).wr W245).wr W247).wr W249)
    have f269 := (((((((((((((((((f203.ext E201).wr W219).wr W221).wr W223).wr W225).wr W227).wr W229).wr W231).wr W233).wr W235).wr W237).wr W239).wr W241).wr W243).wr W245).wr W247).wr W249)
    obtain ⟨cq263, kq263, q263a, q263b, q263c⟩ := isOf hZ e249 f269
    obtain ⟨_, _, ⟨T263, L263, k263, n263⟩, -, X263, ⟨Lc263, hQ263, l263, y263, z263⟩, st263⟩ := X249.virtualBack hx (y := (⟨"com/example/demi_orm/demiorm/query/Operator", "comparesText", "()Z"⟩ : MethodName)) (z := (⟨"com/example/demi_orm/demiorm/query/Operator", "comparesText", "()Z"⟩ : MethodName)) hown (mvT hZ (hw _ (List.mem_of_getElem? (i := 38) rfl))) (mvT hZ (hw _ (List.mem_of_getElem? (i := 39) rfl))) (notFace_of_selects (args := #[]) (mvT hZ (hw _ (List.mem_of_getElem? (i := 41) rfl)))) (mvT hZ (hw _ (List.mem_of_getElem? (i := 41) rfl))) (mvT hZ (hw _ (List.mem_of_getElem? (i := 40) rfl))) (by decide) (backOf (W := 0) (rm1_no l Z a0 hw [] w_NOT_EQUALS w_LIKE w_NOT_LIKE w_STARTING_WITH w_ENDING_WITH w_CONTAINING h249 n0 Z249 f264 f265 f266 f267 f268 (Fld.ne F_NOT_EQUALS_ordinal F_LIKE_ordinal (by decide)) (Fld.ne F_NOT_EQUALS_ordinal F_NOT_LIKE_ordinal (by decide)) (Fld.ne F_NOT_EQUALS_ordinal F_STARTING_WITH_ordinal (by decide)) (Fld.ne F_NOT_EQUALS_ordinal F_ENDING_WITH_ordinal (by decide)) (Fld.ne F_NOT_EQUALS_ordinal F_CONTAINING_ordinal (by decide))) hZ (hw _ (List.mem_of_getElem? (i := 42) rfl)) (hw _ (List.mem_of_getElem? (i := 3) rfl)) (by decide) (by decide)) q263a q263c (g := (mkF m 206 #[.val (.int i), .val (.ref b120), .val (.ref b201), .val (.int (1 : Int32)), .val (.ref w_NOT_EQUALS), .unset] [(.ref w_NOT_EQUALS)])) rfl (by rw [hml]; rfl) (Steps.refl _) (argsL := []) (rest := []) (lenOf pd___Z rfl) rfl (by show 2 * 0 + _ ≤ _; exact Nat.le_of_eq rfl) (hb hby at_206) (fun _ _ => ⟨rfl, e249, (by decide : 2 + 0 ≤ _), (by decide : 32 + 0 ≤ _)⟩)
    dsimp only [Pt.U, Pt.locs, Pt.cells, Pt.slots] at X263 l263 y263 z263 st263 hQ263
    replace l263 := Eq.symm l263
    replace y263 := Eq.symm y263
    replace z263 := Eq.symm z263
    subst l263 y263 z263
    obtain ⟨Nq263, rfl, eh263⟩ := hQ263
    have N263 := Fr.app N249 Nq263
    refine Gl.back (fun _ k => st263.trans k) ?_
    show Gl _ _ _ _ _ _ _ (T263.setTop (mkF m 209 #[.val (.int i), .val (.ref b120), .val (.ref b201), .val (.int (1 : Int32)), .val (.ref w_NOT_EQUALS), .unset] [(.int (0 : Int32))]))
    refine Gl.back (fun _ k => XS.istore X263.here hx rfl (hb hby at_209) rfl (l' := #[.val (.int i), .val (.ref b120), .val (.ref b201), .val (.int (1 : Int32)), .val (.ref w_NOT_EQUALS), .val (.int (0 : Int32))]) rfl k) ?_
    show Gl _ _ _ _ _ _ _ (T263.setTop (mkF m 211 #[.val (.int i), .val (.ref b120), .val (.ref b201), .val (.int (1 : Int32)), .val (.ref w_NOT_EQUALS), .val (.int (0 : Int32))] []))
    refine Gl.back (fun _ k => XS.iload X263.here hx rfl (hb hby at_211) rfl k) ?_
    show Gl _ _ _ _ _ _ _ (T263.setTop (mkF m 213 #[.val (.int i), .val (.ref b120), .val (.ref b201), .val (.int (1 : Int32)), .val (.ref w_NOT_EQUALS), .val (.int (0 : Int32))] [(.int (0 : Int32))]))
    refine Gl.back (fun _ k => XS.aloadN X263.here hx rfl (hb hby at_213) rfl rfl k) ?_
    show Gl _ _ _ _ _ _ _ (T263.setTop (mkF m 214 #[.val (.int i), .val (.ref b120), .val (.ref b201), .val (.int (1 : Int32)), .val (.ref w_NOT_EQUALS), .val (.int (0 : Int32))] [(.ref b201), (.int (0 : Int32))]))
    refine Gl.back (fun _ k => XS.iloadN X263.here hx rfl (hb hby at_214) rfl k) ?_
    show Gl _ _ _ _ _ _ _ (T263.setTop (mkF m 215 #[.val (.int i), .val (.ref b120), .val (.ref b201), .val (.int (1 : Int32)), .val (.ref w_NOT_EQUALS), .val (.int (0 : Int32))] [(.int (1 : Int32)), (.ref b201), (.int (0 : Int32))]))
    obtain ⟨cl270, Ar270, q270, Sz270, Nn270, Hs270, Gf270⟩ := id V249
    have hin270 : ¬ ((1 : Int32) < 0 ∨ cl270.slots.size ≤ ((1 : Int32)).toNatClampNeg) := inb_of Sz270 ⟨by decide, by decide⟩
    have hat270 : cl270.slots[((1 : Int32)).toNatClampNeg]? = some (.int (0 : Int32)) := Hs270.at hin270 (rfl)
    refine Gl.back (fun _ k => X263.baloadBooleans hx (j := (1 : Int32)) (v := (.int (0 : Int32))) (by rw [eh263]; exact Ar270.1) (State.isArrayOf_alike hZ.alike Ar270.2.1) Ar270.2.2 hin270 hat270 (g := (mkF m 215 #[.val (.int i), .val (.ref b120), .val (.ref b201), .val (.int (1 : Int32)), .val (.ref w_NOT_EQUALS), .val (.int (0 : Int32))] [(.int (1 : Int32)), (.ref b201), (.int (0 : Int32))])) rfl rfl (hb hby at_215) _ k) ?_
    show Gl _ _ _ _ _ _ _ (T263.setTop (mkF m 216 #[.val (.int i), .val (.ref b120), .val (.ref b201), .val (.int (1 : Int32)), .val (.ref w_NOT_EQUALS), .val (.int (0 : Int32))] [(.int (0 : Int32)), (.int (0 : Int32))]))
    refine Gl.back (fun _ k => XS.icmpYes X263.here hx rfl (pc0 := 216) (pc' := 221) rfl (hb hby at_216) rfl (teq (by decide : (0 : Int32) = (0 : Int32))).1 (by decide) (by decide) k) ?_
    show Gl _ _ _ _ _ _ _ (T263.setTop (mkF m 221 #[.val (.int i), .val (.ref b120), .val (.ref b201), .val (.int (1 : Int32)), .val (.ref w_NOT_EQUALS), .val (.int (0 : Int32))] []))
    refine Gl.back (fun _ k => XS.iload X263.here hx rfl (hb hby at_221) rfl k) ?_
    show Gl _ _ _ _ _ _ _ (T263.setTop (mkF m 223 #[.val (.int i), .val (.ref b120), .val (.ref b201), .val (.int (1 : Int32)), .val (.ref w_NOT_EQUALS), .val (.int (0 : Int32))] [(.int (0 : Int32))]))
    refine Gl.back (fun _ k => XS.ifYes X263.here hx rfl (pc0 := 223) (pc' := 257) rfl (hb hby at_223) rfl ((if0 _ _).trans (teq (by decide : (0 : Int32) = (0 : Int32))).1) (by decide) (by decide) k) ?_
    show Gl _ _ _ _ _ _ _ (T263.setTop (mkF m 257 #[.val (.int i), .val (.ref b120), .val (.ref b201), .val (.int (1 : Int32)), .val (.ref w_NOT_EQUALS), .val (.int (0 : Int32))] []))
    refine Gl.back (fun _ k => XS.iconst X263.here hx rfl (hb hby at_257) k) ?_
    show Gl _ _ _ _ _ _ _ (T263.setTop (mkF m 258 #[.val (.int i), .val (.ref b120), .val (.ref b201), .val (.int (1 : Int32)), .val (.ref w_NOT_EQUALS), .val (.int (0 : Int32))] [(.int (1 : Int32))]))
    exact Gl.ret X263 eh263 (v := (some (.int (1 : Int32)))) (fun h => by rw [Bd.returns] at h; cases h) Bd.notSynchronized (fun fs hr => retN X263 hx (t := .boolean) (z := (1 : Int32)) Bd.returns (by simp) (hb hby at_258) hr) ⟨N263, rfl⟩ (by decide) (by decide)
  · rw [hk250]
    show Gl _ _ _ _ _ _ _ (T249.setTop (mkF m 198 #[.val (.int i), .val (.ref b120), .val (.ref b201), .unset, .unset, .unset] [(.int (2 : Int32))]))
    refine Gl.back (fun _ k => XS.istoreN X249.here hx rfl (hb hby at_198) rfl (l' := #[.val (.int i), .val (.ref b120), .val (.ref b201), .val (.int (2 : Int32)), .unset, .unset]) rfl k) ?_
    show Gl _ _ _ _ _ _ _ (T249.setTop (mkF m 199 #[.val (.int i), .val (.ref b120), .val (.ref b201), .val (.int (2 : Int32)), .unset, .unset] []))
    refine Gl.back (fun _ k => XS.aloadN X249.here hx rfl (hb hby at_199) rfl rfl k) ?_
    show Gl _ _ _ _ _ _ _ (T249.setTop (mkF m 200 #[.val (.int i), .val (.ref b120), .val (.ref b201), .val (.int (2 : Int32)), .unset, .unset] [(.ref b120)]))
    refine Gl.back (fun _ k => XS.iloadN X249.here hx rfl (hb hby at_200) rfl k) ?_
    show Gl _ _ _ _ _ _ _ (T249.setTop (mkF m 201 #[.val (.int i), .val (.ref b120), .val (.ref b201), .val (.int (2 : Int32)), .unset, .unset] [(.int (2 : Int32)), (.ref b120)]))
    have f271 := (((((((((((((((((V200.ext E201).other W219 ne_b120_b201).other W221 ne_b120_b201).other W223 ne_b120_b201).other W225 ne_b120_b201).other W227 ne_b120_b201).other W229 ne_b120_b201).other W231 ne_b120_b201).other W233 ne_b120_b201).other W235 ne_b120_b201).other W237 ne_b120_b201).other W239 ne_b120_b201).other W241 ne_b120_b201).other W243 ne_b120_b201).other W245 ne_b120_b201).other W247 ne_b120_b201).other W249 ne_b120_b201)
    obtain ⟨cl272, Ar272, q272, Sz272, Nn272, Hs272, Gf272⟩ := id f271
    have hin272 : ¬ ((2 : Int32) < 0 ∨ cl272.slots.size ≤ ((2 : Int32)).toNatClampNeg) := inb_of Sz272 ⟨by decide, by decide⟩
    have hat272 : cl272.slots[((2 : Int32)).toNatClampNeg]? = some (.ref w_LESS_THAN) := Hs272.at hin272 (rfl)
    refine Gl.back (fun _ k => X249.aaload hx (j := (2 : Int32)) (v := (.ref w_LESS_THAN)) (by rw [e249]; exact Ar272.1) (State.isArrayOf_alike hZ.alike Ar272.2.1) rfl Ar272.2.2 hin272 hat272 (g := (mkF m 201 #[.val (.int i), .val (.ref b120), .val (.ref b201), .val (.int (2 : Int32)), .unset, .unset] [(.int (2 : Int32)), (.ref b120)])) rfl rfl (hb hby at_201) _ k) ?_
    show Gl _ _ _ _ _ _ _ (T249.setTop (mkF m 202 #[.val (.int i), .val (.ref b120), .val (.ref b201), .val (.int (2 : Int32)), .unset, .unset] [(.ref w_LESS_THAN)]))
    refine Gl.back (fun _ k => XS.astore X249.here hx rfl (hb hby at_202) rfl rfl (l' := #[.val (.int i), .val (.ref b120), .val (.ref b201), .val (.int (2 : Int32)), .val (.ref w_LESS_THAN), .unset]) rfl k) ?_
    show Gl _ _ _ _ _ _ _ (T249.setTop (mkF m 204 #[.val (.int i), .val (.ref b120), .val (.ref b201), .val (.int (2 : Int32)), .val (.ref w_LESS_THAN), .unset] []))
    refine Gl.back (fun _ k => XS.aload X249.here hx rfl (hb hby at_204) rfl rfl k) ?_
    show Gl _ _ _ _ _ _ _ (T249.setTop (mkF m 206 #[.val (.int i), .val (.ref b120), .val (.ref b201), .val (.int (2 : Int32)), .val (.ref w_LESS_THAN), .unset] [(.ref w_LESS_THAN)]))
    have f274 := ((((((((((((((((((((((((f166.wr W170).wr W175).wr W180).wr W185).wr W190).wr W195).wr W200).ext E201).wr W219).wr W221).wr W223).wr W225).wr W227).wr W229).wr W231).wr W233).wr W235).wr W237).wr W239).wr W241).wr W243).wr W245).wr W247).wr W249)
    have f275 := (((((((((((((((((((((((f171.wr W175).wr W180).wr W185).wr W190).wr W195).wr W200).ext E201).wr W219).wr W221).wr W223).wr W225).wr W227).wr W229).wr W231).wr W233).wr W235).wr W237).wr W239).wr W241).wr W243).wr W245).wr W247).wr W249)
    have f276 := ((((((((((((((((((((((f176.wr W180).wr W185).wr W190).wr W195).wr W200).ext E201).wr W219).wr W221).wr W223).wr W225).wr W227).wr W229).wr W231).wr W233).wr W235).wr W237).wr W239).wr W241).wr W243).wr W245).wr W247).wr W249)
    have f277 := (((((((((((((((((((((f181.wr W185).wr W190).wr W195).wr W200).ext E201).wr W219).wr W221).wr W223).wr W225).wr W227).wr W229).wr W231).wr W233).wr W235).wr W237).wr W239).wr W241).wr W243).wr W245).wr W247).wr W249)
    have f278 := ((((((((((((((((((((f186.wr W190).wr W195).wr W200).ext E201).wr W219).wr W221).wr W223).wr W225).wr W227).wr W229).wr W231).wr W233).wr W235).wr W237).wr W239).wr W241).wr W243).wr W245).wr W247).wr W249)
    have f279 := (((((((((((((((((f204.ext E201).wr W219).wr W221).wr W223).wr W225).wr W227).wr W229).wr W231).wr W233).wr W235).wr W237).wr W239).wr W241).wr W243).wr W245).wr W247).wr W249)
    obtain ⟨cq273, kq273, q273a, q273b, q273c⟩ := isOf hZ e249 f279
    obtain ⟨_, _, ⟨T273, L273, k273, n273⟩, -, X273, ⟨Lc273, hQ273, l273, y273, z273⟩, st273⟩ := X249.virtualBack hx (y := (⟨"com/example/demi_orm/demiorm/query/Operator", "comparesText", "()Z"⟩ : MethodName)) (z := (⟨"com/example/demi_orm/demiorm/query/Operator", "comparesText", "()Z"⟩ : MethodName)) hown (mvT hZ (hw _ (List.mem_of_getElem? (i := 38) rfl))) (mvT hZ (hw _ (List.mem_of_getElem? (i := 39) rfl))) (notFace_of_selects (args := #[]) (mvT hZ (hw _ (List.mem_of_getElem? (i := 41) rfl)))) (mvT hZ (hw _ (List.mem_of_getElem? (i := 41) rfl))) (mvT hZ (hw _ (List.mem_of_getElem? (i := 40) rfl))) (by decide) (backOf (W := 0) (rm1_no l Z a0 hw [] w_LESS_THAN w_LIKE w_NOT_LIKE w_STARTING_WITH w_ENDING_WITH w_CONTAINING h249 n0 Z249 f274 f275 f276 f277 f278 (Fld.ne F_LESS_THAN_ordinal F_LIKE_ordinal (by decide)) (Fld.ne F_LESS_THAN_ordinal F_NOT_LIKE_ordinal (by decide)) (Fld.ne F_LESS_THAN_ordinal F_STARTING_WITH_ordinal (by decide)) (Fld.ne F_LESS_THAN_ordinal F_ENDING_WITH_ordinal (by decide)) (Fld.ne F_LESS_THAN_ordinal F_CONTAINING_ordinal (by decide))) hZ (hw _ (List.mem_of_getElem? (i := 42) rfl)) (hw _ (List.mem_of_getElem? (i := 3) rfl)) (by decide) (by decide)) q273a q273c (g := (mkF m 206 #[.val (.int i), .val (.ref b120), .val (.ref b201), .val (.int (2 : Int32)), .val (.ref w_LESS_THAN), .unset] [(.ref w_LESS_THAN)])) rfl (by rw [hml]; rfl) (Steps.refl _) (argsL := []) (rest := []) (lenOf pd___Z rfl) rfl (by show 2 * 0 + _ ≤ _; exact Nat.le_of_eq rfl) (hb hby at_206) (fun _ _ => ⟨rfl, e249, (by decide : 2 + 0 ≤ _), (by decide : 32 + 0 ≤ _)⟩)
    dsimp only [Pt.U, Pt.locs, Pt.cells, Pt.slots] at X273 l273 y273 z273 st273 hQ273
    replace l273 := Eq.symm l273
    replace y273 := Eq.symm y273
    replace z273 := Eq.symm z273
    subst l273 y273 z273
    obtain ⟨Nq273, rfl, eh273⟩ := hQ273
    have N273 := Fr.app N249 Nq273
    refine Gl.back (fun _ k => st273.trans k) ?_
    show Gl _ _ _ _ _ _ _ (T273.setTop (mkF m 209 #[.val (.int i), .val (.ref b120), .val (.ref b201), .val (.int (2 : Int32)), .val (.ref w_LESS_THAN), .unset] [(.int (0 : Int32))]))
    refine Gl.back (fun _ k => XS.istore X273.here hx rfl (hb hby at_209) rfl (l' := #[.val (.int i), .val (.ref b120), .val (.ref b201), .val (.int (2 : Int32)), .val (.ref w_LESS_THAN), .val (.int (0 : Int32))]) rfl k) ?_
    show Gl _ _ _ _ _ _ _ (T273.setTop (mkF m 211 #[.val (.int i), .val (.ref b120), .val (.ref b201), .val (.int (2 : Int32)), .val (.ref w_LESS_THAN), .val (.int (0 : Int32))] []))
    refine Gl.back (fun _ k => XS.iload X273.here hx rfl (hb hby at_211) rfl k) ?_
    show Gl _ _ _ _ _ _ _ (T273.setTop (mkF m 213 #[.val (.int i), .val (.ref b120), .val (.ref b201), .val (.int (2 : Int32)), .val (.ref w_LESS_THAN), .val (.int (0 : Int32))] [(.int (0 : Int32))]))
    refine Gl.back (fun _ k => XS.aloadN X273.here hx rfl (hb hby at_213) rfl rfl k) ?_
    show Gl _ _ _ _ _ _ _ (T273.setTop (mkF m 214 #[.val (.int i), .val (.ref b120), .val (.ref b201), .val (.int (2 : Int32)), .val (.ref w_LESS_THAN), .val (.int (0 : Int32))] [(.ref b201), (.int (0 : Int32))]))
    refine Gl.back (fun _ k => XS.iloadN X273.here hx rfl (hb hby at_214) rfl k) ?_
    show Gl _ _ _ _ _ _ _ (T273.setTop (mkF m 215 #[.val (.int i), .val (.ref b120), .val (.ref b201), .val (.int (2 : Int32)), .val (.ref w_LESS_THAN), .val (.int (0 : Int32))] [(.int (2 : Int32)), (.ref b201), (.int (0 : Int32))]))
    obtain ⟨cl280, Ar280, q280, Sz280, Nn280, Hs280, Gf280⟩ := id V249
    have hin280 : ¬ ((2 : Int32) < 0 ∨ cl280.slots.size ≤ ((2 : Int32)).toNatClampNeg) := inb_of Sz280 ⟨by decide, by decide⟩
    have hat280 : cl280.slots[((2 : Int32)).toNatClampNeg]? = some (.int (0 : Int32)) := Hs280.at hin280 (rfl)
    refine Gl.back (fun _ k => X273.baloadBooleans hx (j := (2 : Int32)) (v := (.int (0 : Int32))) (by rw [eh273]; exact Ar280.1) (State.isArrayOf_alike hZ.alike Ar280.2.1) Ar280.2.2 hin280 hat280 (g := (mkF m 215 #[.val (.int i), .val (.ref b120), .val (.ref b201), .val (.int (2 : Int32)), .val (.ref w_LESS_THAN), .val (.int (0 : Int32))] [(.int (2 : Int32)), (.ref b201), (.int (0 : Int32))])) rfl rfl (hb hby at_215) _ k) ?_
    show Gl _ _ _ _ _ _ _ (T273.setTop (mkF m 216 #[.val (.int i), .val (.ref b120), .val (.ref b201), .val (.int (2 : Int32)), .val (.ref w_LESS_THAN), .val (.int (0 : Int32))] [(.int (0 : Int32)), (.int (0 : Int32))]))
    refine Gl.back (fun _ k => XS.icmpYes X273.here hx rfl (pc0 := 216) (pc' := 221) rfl (hb hby at_216) rfl (teq (by decide : (0 : Int32) = (0 : Int32))).1 (by decide) (by decide) k) ?_
    show Gl _ _ _ _ _ _ _ (T273.setTop (mkF m 221 #[.val (.int i), .val (.ref b120), .val (.ref b201), .val (.int (2 : Int32)), .val (.ref w_LESS_THAN), .val (.int (0 : Int32))] []))
    refine Gl.back (fun _ k => XS.iload X273.here hx rfl (hb hby at_221) rfl k) ?_
    show Gl _ _ _ _ _ _ _ (T273.setTop (mkF m 223 #[.val (.int i), .val (.ref b120), .val (.ref b201), .val (.int (2 : Int32)), .val (.ref w_LESS_THAN), .val (.int (0 : Int32))] [(.int (0 : Int32))]))
    refine Gl.back (fun _ k => XS.ifYes X273.here hx rfl (pc0 := 223) (pc' := 257) rfl (hb hby at_223) rfl ((if0 _ _).trans (teq (by decide : (0 : Int32) = (0 : Int32))).1) (by decide) (by decide) k) ?_
    show Gl _ _ _ _ _ _ _ (T273.setTop (mkF m 257 #[.val (.int i), .val (.ref b120), .val (.ref b201), .val (.int (2 : Int32)), .val (.ref w_LESS_THAN), .val (.int (0 : Int32))] []))
    refine Gl.back (fun _ k => XS.iconst X273.here hx rfl (hb hby at_257) k) ?_
    show Gl _ _ _ _ _ _ _ (T273.setTop (mkF m 258 #[.val (.int i), .val (.ref b120), .val (.ref b201), .val (.int (2 : Int32)), .val (.ref w_LESS_THAN), .val (.int (0 : Int32))] [(.int (1 : Int32))]))
    exact Gl.ret X273 eh273 (v := (some (.int (1 : Int32)))) (fun h => by rw [Bd.returns] at h; cases h) Bd.notSynchronized (fun fs hr => retN X273 hx (t := .boolean) (z := (1 : Int32)) Bd.returns (by simp) (hb hby at_258) hr) ⟨N273, rfl⟩ (by decide) (by decide)
  · rw [hk250]
    show Gl _ _ _ _ _ _ _ (T249.setTop (mkF m 198 #[.val (.int i), .val (.ref b120), .val (.ref b201), .unset, .unset, .unset] [(.int (3 : Int32))]))
    refine Gl.back (fun _ k => XS.istoreN X249.here hx rfl (hb hby at_198) rfl (l' := #[.val (.int i), .val (.ref b120), .val (.ref b201), .val (.int (3 : Int32)), .unset, .unset]) rfl k) ?_
    show Gl _ _ _ _ _ _ _ (T249.setTop (mkF m 199 #[.val (.int i), .val (.ref b120), .val (.ref b201), .val (.int (3 : Int32)), .unset, .unset] []))
    refine Gl.back (fun _ k => XS.aloadN X249.here hx rfl (hb hby at_199) rfl rfl k) ?_
    show Gl _ _ _ _ _ _ _ (T249.setTop (mkF m 200 #[.val (.int i), .val (.ref b120), .val (.ref b201), .val (.int (3 : Int32)), .unset, .unset] [(.ref b120)]))
    refine Gl.back (fun _ k => XS.iloadN X249.here hx rfl (hb hby at_200) rfl k) ?_
    show Gl _ _ _ _ _ _ _ (T249.setTop (mkF m 201 #[.val (.int i), .val (.ref b120), .val (.ref b201), .val (.int (3 : Int32)), .unset, .unset] [(.int (3 : Int32)), (.ref b120)]))
    have f281 := (((((((((((((((((V200.ext E201).other W219 ne_b120_b201).other W221 ne_b120_b201).other W223 ne_b120_b201).other W225 ne_b120_b201).other W227 ne_b120_b201).other W229 ne_b120_b201).other W231 ne_b120_b201).other W233 ne_b120_b201).other W235 ne_b120_b201).other W237 ne_b120_b201).other W239 ne_b120_b201).other W241 ne_b120_b201).other W243 ne_b120_b201).other W245 ne_b120_b201).other W247 ne_b120_b201).other W249 ne_b120_b201)
    obtain ⟨cl282, Ar282, q282, Sz282, Nn282, Hs282, Gf282⟩ := id f281
    have hin282 : ¬ ((3 : Int32) < 0 ∨ cl282.slots.size ≤ ((3 : Int32)).toNatClampNeg) := inb_of Sz282 ⟨by decide, by decide⟩
    have hat282 : cl282.slots[((3 : Int32)).toNatClampNeg]? = some (.ref w_LESS_THAN_OR_EQUAL) := Hs282.at hin282 (rfl)
    refine Gl.back (fun _ k => X249.aaload hx (j := (3 : Int32)) (v := (.ref w_LESS_THAN_OR_EQUAL)) (by rw [e249]; exact Ar282.1) (State.isArrayOf_alike hZ.alike Ar282.2.1) rfl Ar282.2.2 hin282 hat282 (g := (mkF m 201 #[.val (.int i), .val (.ref b120), .val (.ref b201), .val (.int (3 : Int32)), .unset, .unset] [(.int (3 : Int32)), (.ref b120)])) rfl rfl (hb hby at_201) _ k) ?_
    show Gl _ _ _ _ _ _ _ (T249.setTop (mkF m 202 #[.val (.int i), .val (.ref b120), .val (.ref b201), .val (.int (3 : Int32)), .unset, .unset] [(.ref w_LESS_THAN_OR_EQUAL)]))
    refine Gl.back (fun _ k => XS.astore X249.here hx rfl (hb hby at_202) rfl rfl (l' := #[.val (.int i), .val (.ref b120), .val (.ref b201), .val (.int (3 : Int32)), .val (.ref w_LESS_THAN_OR_EQUAL), .unset]) rfl k) ?_
    show Gl _ _ _ _ _ _ _ (T249.setTop (mkF m 204 #[.val (.int i), .val (.ref b120), .val (.ref b201), .val (.int (3 : Int32)), .val (.ref w_LESS_THAN_OR_EQUAL), .unset] []))
    refine Gl.back (fun _ k => XS.aload X249.here hx rfl (hb hby at_204) rfl rfl k) ?_
    show Gl _ _ _ _ _ _ _ (T249.setTop (mkF m 206 #[.val (.int i), .val (.ref b120), .val (.ref b201), .val (.int (3 : Int32)), .val (.ref w_LESS_THAN_OR_EQUAL), .unset] [(.ref w_LESS_THAN_OR_EQUAL)]))
    have f284 := ((((((((((((((((((((((((f166.wr W170).wr W175).wr W180).wr W185).wr W190).wr W195).wr W200).ext E201).wr W219).wr W221).wr W223).wr W225).wr W227).wr W229).wr W231).wr W233).wr W235).wr W237).wr W239).wr W241).wr W243).wr W245).wr W247).wr W249)
    have f285 := (((((((((((((((((((((((f171.wr W175).wr W180).wr W185).wr W190).wr W195).wr W200).ext E201).wr W219).wr W221).wr W223).wr W225).wr W227).wr W229).wr W231).wr W233).wr W235).wr W237).wr W239).wr W241).wr W243).wr W245).wr W247).wr W249)
    have f286 := ((((((((((((((((((((((f176.wr W180).wr W185).wr W190).wr W195).wr W200).ext E201).wr W219).wr W221).wr W223).wr W225).wr W227).wr W229).wr W231).wr W233).wr W235).wr W237).wr W239).wr W241).wr W243).wr W245).wr W247).wr W249)
    have f287 := (((((((((((((((((((((f181.wr W185).wr W190).wr W195).wr W200).ext E201).wr W219).wr W221).wr W223).wr W225).wr W227).wr W229).wr W231).wr W233).wr W235).wr W237).wr W239).wr W241).wr W243).wr W245).wr W247).wr W249)
    have f288 := ((((((((((((((((((((f186.wr W190).wr W195).wr W200).ext E201).wr W219).wr W221).wr W223).wr W225).wr W227).wr W229).wr W231).wr W233).wr W235).wr W237).wr W239).wr W241).wr W243).wr W245).wr W247).wr W249)
    have f289 := (((((((((((((((((f205.ext E201).wr W219).wr W221).wr W223).wr W225).wr W227).wr W229).wr W231).wr W233).wr W235).wr W237).wr W239).wr W241).wr W243).wr W245).wr W247).wr W249)
    obtain ⟨cq283, kq283, q283a, q283b, q283c⟩ := isOf hZ e249 f289
    obtain ⟨_, _, ⟨T283, L283, k283, n283⟩, -, X283, ⟨Lc283, hQ283, l283, y283, z283⟩, st283⟩ := X249.virtualBack hx (y := (⟨"com/example/demi_orm/demiorm/query/Operator", "comparesText", "()Z"⟩ : MethodName)) (z := (⟨"com/example/demi_orm/demiorm/query/Operator", "comparesText", "()Z"⟩ : MethodName)) hown (mvT hZ (hw _ (List.mem_of_getElem? (i := 38) rfl))) (mvT hZ (hw _ (List.mem_of_getElem? (i := 39) rfl))) (notFace_of_selects (args := #[]) (mvT hZ (hw _ (List.mem_of_getElem? (i := 41) rfl)))) (mvT hZ (hw _ (List.mem_of_getElem? (i := 41) rfl))) (mvT hZ (hw _ (List.mem_of_getElem? (i := 40) rfl))) (by decide) (backOf (W := 0) (rm1_no l Z a0 hw [] w_LESS_THAN_OR_EQUAL w_LIKE w_NOT_LIKE w_STARTING_WITH w_ENDING_WITH w_CONTAINING h249 n0 Z249 f284 f285 f286 f287 f288 (Fld.ne F_LESS_THAN_OR_EQUAL_ordinal F_LIKE_ordinal (by decide)) (Fld.ne F_LESS_THAN_OR_EQUAL_ordinal F_NOT_LIKE_ordinal (by decide)) (Fld.ne F_LESS_THAN_OR_EQUAL_ordinal F_STARTING_WITH_ordinal (by decide)) (Fld.ne F_LESS_THAN_OR_EQUAL_ordinal F_ENDING_WITH_ordinal (by decide)) (Fld.ne F_LESS_THAN_OR_EQUAL_ordinal F_CONTAINING_ordinal (by decide))) hZ (hw _ (List.mem_of_getElem? (i := 42) rfl)) (hw _ (List.mem_of_getElem? (i := 3) rfl)) (by decide) (by decide)) q283a q283c (g := (mkF m 206 #[.val (.int i), .val (.ref b120), .val (.ref b201), .val (.int (3 : Int32)), .val (.ref w_LESS_THAN_OR_EQUAL), .unset] [(.ref w_LESS_THAN_OR_EQUAL)])) rfl (by rw [hml]; rfl) (Steps.refl _) (argsL := []) (rest := []) (lenOf pd___Z rfl) rfl (by show 2 * 0 + _ ≤ _; exact Nat.le_of_eq rfl) (hb hby at_206) (fun _ _ => ⟨rfl, e249, (by decide : 2 + 0 ≤ _), (by decide : 32 + 0 ≤ _)⟩)
    dsimp only [Pt.U, Pt.locs, Pt.cells, Pt.slots] at X283 l283 y283 z283 st283 hQ283
    replace l283 := Eq.symm l283
    replace y283 := Eq.symm y283
    replace z283 := Eq.symm z283
    subst l283 y283 z283
    obtain ⟨Nq283, rfl, eh283⟩ := hQ283
    have N283 := Fr.app N249 Nq283
    refine Gl.back (fun _ k => st283.trans k) ?_
    show Gl _ _ _ _ _ _ _ (T283.setTop (mkF m 209 #[.val (.int i), .val (.ref b120), .val (.ref b201), .val (.int (3 : Int32)), .val (.ref w_LESS_THAN_OR_EQUAL), .unset] [(.int (0 : Int32))]))
    refine Gl.back (fun _ k => XS.istore X283.here hx rfl (hb hby at_209) rfl (l' := #[.val (.int i), .val (.ref b120), .val (.ref b201), .val (.int (3 : Int32)), .val (.ref w_LESS_THAN_OR_EQUAL), .val (.int (0 : Int32))]) rfl k) ?_
    show Gl _ _ _ _ _ _ _ (T283.setTop (mkF m 211 #[.val (.int i), .val (.ref b120), .val (.ref b201), .val (.int (3 : Int32)), .val (.ref w_LESS_THAN_OR_EQUAL), .val (.int (0 : Int32))] []))
    refine Gl.back (fun _ k => XS.iload X283.here hx rfl (hb hby at_211) rfl k) ?_
    show Gl _ _ _ _ _ _ _ (T283.setTop (mkF m 213 #[.val (.int i), .val (.ref b120), .val (.ref b201), .val (.int (3 : Int32)), .val (.ref w_LESS_THAN_OR_EQUAL), .val (.int (0 : Int32))] [(.int (0 : Int32))]))
    refine Gl.back (fun _ k => XS.aloadN X283.here hx rfl (hb hby at_213) rfl rfl k) ?_
    show Gl _ _ _ _ _ _ _ (T283.setTop (mkF m 214 #[.val (.int i), .val (.ref b120), .val (.ref b201), .val (.int (3 : Int32)), .val (.ref w_LESS_THAN_OR_EQUAL), .val (.int (0 : Int32))] [(.ref b201), (.int (0 : Int32))]))
    refine Gl.back (fun _ k => XS.iloadN X283.here hx rfl (hb hby at_214) rfl k) ?_
    show Gl _ _ _ _ _ _ _ (T283.setTop (mkF m 215 #[.val (.int i), .val (.ref b120), .val (.ref b201), .val (.int (3 : Int32)), .val (.ref w_LESS_THAN_OR_EQUAL), .val (.int (0 : Int32))] [(.int (3 : Int32)), (.ref b201), (.int (0 : Int32))]))
    obtain ⟨cl290, Ar290, q290, Sz290, Nn290, Hs290, Gf290⟩ := id V249
    have hin290 : ¬ ((3 : Int32) < 0 ∨ cl290.slots.size ≤ ((3 : Int32)).toNatClampNeg) := inb_of Sz290 ⟨by decide, by decide⟩
    have hat290 : cl290.slots[((3 : Int32)).toNatClampNeg]? = some (.int (0 : Int32)) := Hs290.at hin290 (rfl)
    refine Gl.back (fun _ k => X283.baloadBooleans hx (j := (3 : Int32)) (v := (.int (0 : Int32))) (by rw [eh283]; exact Ar290.1) (State.isArrayOf_alike hZ.alike Ar290.2.1) Ar290.2.2 hin290 hat290 (g := (mkF m 215 #[.val (.int i), .val (.ref b120), .val (.ref b201), .val (.int (3 : Int32)), .val (.ref w_LESS_THAN_OR_EQUAL), .val (.int (0 : Int32))] [(.int (3 : Int32)), (.ref b201), (.int (0 : Int32))])) rfl rfl (hb hby at_215) _ k) ?_
    show Gl _ _ _ _ _ _ _ (T283.setTop (mkF m 216 #[.val (.int i), .val (.ref b120), .val (.ref b201), .val (.int (3 : Int32)), .val (.ref w_LESS_THAN_OR_EQUAL), .val (.int (0 : Int32))] [(.int (0 : Int32)), (.int (0 : Int32))]))
    refine Gl.back (fun _ k => XS.icmpYes X283.here hx rfl (pc0 := 216) (pc' := 221) rfl (hb hby at_216) rfl (teq (by decide : (0 : Int32) = (0 : Int32))).1 (by decide) (by decide) k) ?_
    show Gl _ _ _ _ _ _ _ (T283.setTop (mkF m 221 #[.val (.int i), .val (.ref b120), .val (.ref b201), .val (.int (3 : Int32)), .val (.ref w_LESS_THAN_OR_EQUAL), .val (.int (0 : Int32))] []))
    refine Gl.back (fun _ k => XS.iload X283.here hx rfl (hb hby at_221) rfl k) ?_
    show Gl _ _ _ _ _ _ _ (T283.setTop (mkF m 223 #[.val (.int i), .val (.ref b120), .val (.ref b201), .val (.int (3 : Int32)), .val (.ref w_LESS_THAN_OR_EQUAL), .val (.int (0 : Int32))] [(.int (0 : Int32))]))
    refine Gl.back (fun _ k => XS.ifYes X283.here hx rfl (pc0 := 223) (pc' := 257) rfl (hb hby at_223) rfl ((if0 _ _).trans (teq (by decide : (0 : Int32) = (0 : Int32))).1) (by decide) (by decide) k) ?_
    show Gl _ _ _ _ _ _ _ (T283.setTop (mkF m 257 #[.val (.int i), .val (.ref b120), .val (.ref b201), .val (.int (3 : Int32)), .val (.ref w_LESS_THAN_OR_EQUAL), .val (.int (0 : Int32))] []))
    refine Gl.back (fun _ k => XS.iconst X283.here hx rfl (hb hby at_257) k) ?_
    show Gl _ _ _ _ _ _ _ (T283.setTop (mkF m 258 #[.val (.int i), .val (.ref b120), .val (.ref b201), .val (.int (3 : Int32)), .val (.ref w_LESS_THAN_OR_EQUAL), .val (.int (0 : Int32))] [(.int (1 : Int32))]))
    exact Gl.ret X283 eh283 (v := (some (.int (1 : Int32)))) (fun h => by rw [Bd.returns] at h; cases h) Bd.notSynchronized (fun fs hr => retN X283 hx (t := .boolean) (z := (1 : Int32)) Bd.returns (by simp) (hb hby at_258) hr) ⟨N283, rfl⟩ (by decide) (by decide)
  · rw [hk250]
    show Gl _ _ _ _ _ _ _ (T249.setTop (mkF m 198 #[.val (.int i), .val (.ref b120), .val (.ref b201), .unset, .unset, .unset] [(.int (4 : Int32))]))
    refine Gl.back (fun _ k => XS.istoreN X249.here hx rfl (hb hby at_198) rfl (l' := #[.val (.int i), .val (.ref b120), .val (.ref b201), .val (.int (4 : Int32)), .unset, .unset]) rfl k) ?_
    show Gl _ _ _ _ _ _ _ (T249.setTop (mkF m 199 #[.val (.int i), .val (.ref b120), .val (.ref b201), .val (.int (4 : Int32)), .unset, .unset] []))
    refine Gl.back (fun _ k => XS.aloadN X249.here hx rfl (hb hby at_199) rfl rfl k) ?_
    show Gl _ _ _ _ _ _ _ (T249.setTop (mkF m 200 #[.val (.int i), .val (.ref b120), .val (.ref b201), .val (.int (4 : Int32)), .unset, .unset] [(.ref b120)]))
    refine Gl.back (fun _ k => XS.iloadN X249.here hx rfl (hb hby at_200) rfl k) ?_
    show Gl _ _ _ _ _ _ _ (T249.setTop (mkF m 201 #[.val (.int i), .val (.ref b120), .val (.ref b201), .val (.int (4 : Int32)), .unset, .unset] [(.int (4 : Int32)), (.ref b120)]))
    have f291 := (((((((((((((((((V200.ext E201).other W219 ne_b120_b201).other W221 ne_b120_b201).other W223 ne_b120_b201).other W225 ne_b120_b201).other W227 ne_b120_b201).other W229 ne_b120_b201).other W231 ne_b120_b201).other W233 ne_b120_b201).other W235 ne_b120_b201).other W237 ne_b120_b201).other W239 ne_b120_b201).other W241 ne_b120_b201).other W243 ne_b120_b201).other W245 ne_b120_b201).other W247 ne_b120_b201).other W249 ne_b120_b201)
    obtain ⟨cl292, Ar292, q292, Sz292, Nn292, Hs292, Gf292⟩ := id f291
    have hin292 : ¬ ((4 : Int32) < 0 ∨ cl292.slots.size ≤ ((4 : Int32)).toNatClampNeg) := inb_of Sz292 ⟨by decide, by decide⟩
    have hat292 : cl292.slots[((4 : Int32)).toNatClampNeg]? = some (.ref w_GREATER_THAN) := Hs292.at hin292 (rfl)
    refine Gl.back (fun _ k => X249.aaload hx (j := (4 : Int32)) (v := (.ref w_GREATER_THAN)) (by rw [e249]; exact Ar292.1) (State.isArrayOf_alike hZ.alike Ar292.2.1) rfl Ar292.2.2 hin292 hat292 (g := (mkF m 201 #[.val (.int i), .val (.ref b120), .val (.ref b201), .val (.int (4 : Int32)), .unset, .unset] [(.int (4 : Int32)), (.ref b120)])) rfl rfl (hb hby at_201) _ k) ?_
    show Gl _ _ _ _ _ _ _ (T249.setTop (mkF m 202 #[.val (.int i), .val (.ref b120), .val (.ref b201), .val (.int (4 : Int32)), .unset, .unset] [(.ref w_GREATER_THAN)]))
    refine Gl.back (fun _ k => XS.astore X249.here hx rfl (hb hby at_202) rfl rfl (l' := #[.val (.int i), .val (.ref b120), .val (.ref b201), .val (.int (4 : Int32)), .val (.ref w_GREATER_THAN), .unset]) rfl k) ?_
    show Gl _ _ _ _ _ _ _ (T249.setTop (mkF m 204 #[.val (.int i), .val (.ref b120), .val (.ref b201), .val (.int (4 : Int32)), .val (.ref w_GREATER_THAN), .unset] []))
    refine Gl.back (fun _ k => XS.aload X249.here hx rfl (hb hby at_204) rfl rfl k) ?_
    show Gl _ _ _ _ _ _ _ (T249.setTop (mkF m 206 #[.val (.int i), .val (.ref b120), .val (.ref b201), .val (.int (4 : Int32)), .val (.ref w_GREATER_THAN), .unset] [(.ref w_GREATER_THAN)]))
    have f294 := ((((((((((((((((((((((((f166.wr W170).wr W175).wr W180).wr W185).wr W190).wr W195).wr W200).ext E201).wr W219).wr W221).wr W223).wr W225).wr W227).wr W229).wr W231).wr W233).wr W235).wr W237).wr W239).wr W241).wr W243).wr W245).wr W247).wr W249)
    have f295 := (((((((((((((((((((((((f171.wr W175).wr W180).wr W185).wr W190).wr W195).wr W200).ext E201).wr W219).wr W221).wr W223).wr W225).wr W227).wr W229).wr W231).wr W233).wr W235).wr W237).wr W239).wr W241).wr W243).wr W245).wr W247).wr W249)
    have f296 := ((((((((((((((((((((((f176.wr W180).wr W185).wr W190).wr W195).wr W200).ext E201).wr W219).wr W221).wr W223).wr W225).wr W227).wr W229).wr W231).wr W233).wr W235).wr W237).wr W239).wr W241).wr W243).wr W245).wr W247).wr W249)
    have f297 := (((((((((((((((((((((f181.wr W185).wr W190).wr W195).wr W200).ext E201).wr W219).wr W221).wr W223).wr W225).wr W227).wr W229).wr W231).wr W233).wr W235).wr W237).wr W239).wr W241).wr W243).wr W245).wr W247).wr W249)
    have f298 := ((((((((((((((((((((f186.wr W190).wr W195).wr W200).ext E201).wr W219).wr W221).wr W223).wr W225).wr W227).wr W229).wr W231).wr W233).wr W235).wr W237).wr W239).wr W241).wr W243).wr W245).wr W247).wr W249)
    have f299 := (((((((((((((((((f206.ext E201).wr W219).wr W221).wr W223).wr W225).wr W227).wr W229).wr W231).wr W233).wr W235).wr W237).wr W239).wr W241).wr W243).wr W245).wr W247).wr W249)
    obtain ⟨cq293, kq293, q293a, q293b, q293c⟩ := isOf hZ e249 f299
    obtain ⟨_, _, ⟨T293, L293, k293, n293⟩, -, X293, ⟨Lc293, hQ293, l293, y293, z293⟩, st293⟩ := X249.virtualBack hx (y := (⟨"com/example/demi_orm/demiorm/query/Operator", "comparesText", "()Z"⟩ : MethodName)) (z := (⟨"com/example/demi_orm/demiorm/query/Operator", "comparesText", "()Z"⟩ : MethodName)) hown (mvT hZ (hw _ (List.mem_of_getElem? (i := 38) rfl))) (mvT hZ (hw _ (List.mem_of_getElem? (i := 39) rfl))) (notFace_of_selects (args := #[]) (mvT hZ (hw _ (List.mem_of_getElem? (i := 41) rfl)))) (mvT hZ (hw _ (List.mem_of_getElem? (i := 41) rfl))) (mvT hZ (hw _ (List.mem_of_getElem? (i := 40) rfl))) (by decide) (backOf (W := 0) (rm1_no l Z a0 hw [] w_GREATER_THAN w_LIKE w_NOT_LIKE w_STARTING_WITH w_ENDING_WITH w_CONTAINING h249 n0 Z249 f294 f295 f296 f297 f298 (Fld.ne F_GREATER_THAN_ordinal F_LIKE_ordinal (by decide)) (Fld.ne F_GREATER_THAN_ordinal F_NOT_LIKE_ordinal (by decide)) (Fld.ne F_GREATER_THAN_ordinal F_STARTING_WITH_ordinal (by decide)) (Fld.ne F_GREATER_THAN_ordinal F_ENDING_WITH_ordinal (by decide)) (Fld.ne F_GREATER_THAN_ordinal F_CONTAINING_ordinal (by decide))) hZ (hw _ (List.mem_of_getElem? (i := 42) rfl)) (hw _ (List.mem_of_getElem? (i := 3) rfl)) (by decide) (by decide)) q293a q293c (g := (mkF m 206 #[.val (.int i), .val (.ref b120), .val (.ref b201), .val (.int (4 : Int32)), .val (.ref w_GREATER_THAN), .unset] [(.ref w_GREATER_THAN)])) rfl (by rw [hml]; rfl) (Steps.refl _) (argsL := []) (rest := []) (lenOf pd___Z rfl) rfl (by show 2 * 0 + _ ≤ _; exact Nat.le_of_eq rfl) (hb hby at_206) (fun _ _ => ⟨rfl, e249, (by decide : 2 + 0 ≤ _), (by decide : 32 + 0 ≤ _)⟩)
    dsimp only [Pt.U, Pt.locs, Pt.cells, Pt.slots] at X293 l293 y293 z293 st293 hQ293
    replace l293 := Eq.symm l293
    replace y293 := Eq.symm y293
    replace z293 := Eq.symm z293
    subst l293 y293 z293
    obtain ⟨Nq293, rfl, eh293⟩ := hQ293
    have N293 := Fr.app N249 Nq293
    refine Gl.back (fun _ k => st293.trans k) ?_
    show Gl _ _ _ _ _ _ _ (T293.setTop (mkF m 209 #[.val (.int i), .val (.ref b120), .val (.ref b201), .val (.int (4 : Int32)), .val (.ref w_GREATER_THAN), .unset] [(.int (0 : Int32))]))
    refine Gl.back (fun _ k => XS.istore X293.here hx rfl (hb hby at_209) rfl (l' := #[.val (.int i), .val (.ref b120), .val (.ref b201), .val (.int (4 : Int32)), .val (.ref w_GREATER_THAN), .val (.int (0 : Int32))]) rfl k) ?_
    show Gl _ _ _ _ _ _ _ (T293.setTop (mkF m 211 #[.val (.int i), .val (.ref b120), .val (.ref b201), .val (.int (4 : Int32)), .val (.ref w_GREATER_THAN), .val (.int (0 : Int32))] []))
    refine Gl.back (fun _ k => XS.iload X293.here hx rfl (hb hby at_211) rfl k) ?_
    show Gl _ _ _ _ _ _ _ (T293.setTop (mkF m 213 #[.val (.int i), .val (.ref b120), .val (.ref b201), .val (.int (4 : Int32)), .val (.ref w_GREATER_THAN), .val (.int (0 : Int32))] [(.int (0 : Int32))]))
    refine Gl.back (fun _ k => XS.aloadN X293.here hx rfl (hb hby at_213) rfl rfl k) ?_
    show Gl _ _ _ _ _ _ _ (T293.setTop (mkF m 214 #[.val (.int i), .val (.ref b120), .val (.ref b201), .val (.int (4 : Int32)), .val (.ref w_GREATER_THAN), .val (.int (0 : Int32))] [(.ref b201), (.int (0 : Int32))]))
    refine Gl.back (fun _ k => XS.iloadN X293.here hx rfl (hb hby at_214) rfl k) ?_
    show Gl _ _ _ _ _ _ _ (T293.setTop (mkF m 215 #[.val (.int i), .val (.ref b120), .val (.ref b201), .val (.int (4 : Int32)), .val (.ref w_GREATER_THAN), .val (.int (0 : Int32))] [(.int (4 : Int32)), (.ref b201), (.int (0 : Int32))]))
    obtain ⟨cl300, Ar300, q300, Sz300, Nn300, Hs300, Gf300⟩ := id V249
    have hin300 : ¬ ((4 : Int32) < 0 ∨ cl300.slots.size ≤ ((4 : Int32)).toNatClampNeg) := inb_of Sz300 ⟨by decide, by decide⟩
    have hat300 : cl300.slots[((4 : Int32)).toNatClampNeg]? = some (.int (0 : Int32)) := Hs300.at hin300 (rfl)
    refine Gl.back (fun _ k => X293.baloadBooleans hx (j := (4 : Int32)) (v := (.int (0 : Int32))) (by rw [eh293]; exact Ar300.1) (State.isArrayOf_alike hZ.alike Ar300.2.1) Ar300.2.2 hin300 hat300 (g := (mkF m 215 #[.val (.int i), .val (.ref b120), .val (.ref b201), .val (.int (4 : Int32)), .val (.ref w_GREATER_THAN), .val (.int (0 : Int32))] [(.int (4 : Int32)), (.ref b201), (.int (0 : Int32))])) rfl rfl (hb hby at_215) _ k) ?_
    show Gl _ _ _ _ _ _ _ (T293.setTop (mkF m 216 #[.val (.int i), .val (.ref b120), .val (.ref b201), .val (.int (4 : Int32)), .val (.ref w_GREATER_THAN), .val (.int (0 : Int32))] [(.int (0 : Int32)), (.int (0 : Int32))]))
    refine Gl.back (fun _ k => XS.icmpYes X293.here hx rfl (pc0 := 216) (pc' := 221) rfl (hb hby at_216) rfl (teq (by decide : (0 : Int32) = (0 : Int32))).1 (by decide) (by decide) k) ?_
    show Gl _ _ _ _ _ _ _ (T293.setTop (mkF m 221 #[.val (.int i), .val (.ref b120), .val (.ref b201), .val (.int (4 : Int32)), .val (.ref w_GREATER_THAN), .val (.int (0 : Int32))] []))
    refine Gl.back (fun _ k => XS.iload X293.here hx rfl (hb hby at_221) rfl k) ?_
    show Gl _ _ _ _ _ _ _ (T293.setTop (mkF m 223 #[.val (.int i), .val (.ref b120), .val (.ref b201), .val (.int (4 : Int32)), .val (.ref w_GREATER_THAN), .val (.int (0 : Int32))] [(.int (0 : Int32))]))
    refine Gl.back (fun _ k => XS.ifYes X293.here hx rfl (pc0 := 223) (pc' := 257) rfl (hb hby at_223) rfl ((if0 _ _).trans (teq (by decide : (0 : Int32) = (0 : Int32))).1) (by decide) (by decide) k) ?_
    show Gl _ _ _ _ _ _ _ (T293.setTop (mkF m 257 #[.val (.int i), .val (.ref b120), .val (.ref b201), .val (.int (4 : Int32)), .val (.ref w_GREATER_THAN), .val (.int (0 : Int32))] []))
    refine Gl.back (fun _ k => XS.iconst X293.here hx rfl (hb hby at_257) k) ?_
    show Gl _ _ _ _ _ _ _ (T293.setTop (mkF m 258 #[.val (.int i), .val (.ref b120), .val (.ref b201), .val (.int (4 : Int32)), .val (.ref w_GREATER_THAN), .val (.int (0 : Int32))] [(.int (1 : Int32))]))
    exact Gl.ret X293 eh293 (v := (some (.int (1 : Int32)))) (fun h => by rw [Bd.returns] at h; cases h) Bd.notSynchronized (fun fs hr => retN X293 hx (t := .boolean) (z := (1 : Int32)) Bd.returns (by simp) (hb hby at_258) hr) ⟨N293, rfl⟩ (by decide) (by decide)
  · rw [hk250]
    show Gl _ _ _ _ _ _ _ (T249.setTop (mkF m 198 #[.val (.int i), .val (.ref b120), .val (.ref b201), .unset, .unset, .unset] [(.int (5 : Int32))]))
    refine Gl.back (fun _ k => XS.istoreN X249.here hx rfl (hb hby at_198) rfl (l' := #[.val (.int i), .val (.ref b120), .val (.ref b201), .val (.int (5 : Int32)), .unset, .unset]) rfl k) ?_
    show Gl _ _ _ _ _ _ _ (T249.setTop (mkF m 199 #[.val (.int i), .val (.ref b120), .val (.ref b201), .val (.int (5 : Int32)), .unset, .unset] []))
    refine Gl.back (fun _ k => XS.aloadN X249.here hx rfl (hb hby at_199) rfl rfl k) ?_
    show Gl _ _ _ _ _ _ _ (T249.setTop (mkF m 200 #[.val (.int i), .val (.ref b120), .val (.ref b201), .val (.int (5 : Int32)), .unset, .unset] [(.ref b120)]))
    refine Gl.back (fun _ k => XS.iloadN X249.here hx rfl (hb hby at_200) rfl k) ?_
    show Gl _ _ _ _ _ _ _ (T249.setTop (mkF m 201 #[.val (.int i), .val (.ref b120), .val (.ref b201), .val (.int (5 : Int32)), .unset, .unset] [(.int (5 : Int32)), (.ref b120)]))
    have f301 := (((((((((((((((((V200.ext E201).other W219 ne_b120_b201).other W221 ne_b120_b201).other W223 ne_b120_b201).other W225 ne_b120_b201).other W227 ne_b120_b201).other W229 ne_b120_b201).other W231 ne_b120_b201).other W233 ne_b120_b201).other W235 ne_b120_b201).other W237 ne_b120_b201).other W239 ne_b120_b201).other W241 ne_b120_b201).other W243 ne_b120_b201).other W245 ne_b120_b201).other W247 ne_b120_b201).other W249 ne_b120_b201)
    obtain ⟨cl302, Ar302, q302, Sz302, Nn302, Hs302, Gf302⟩ := id f301
    have hin302 : ¬ ((5 : Int32) < 0 ∨ cl302.slots.size ≤ ((5 : Int32)).toNatClampNeg) := inb_of Sz302 ⟨by decide, by decide⟩
    have hat302 : cl302.slots[((5 : Int32)).toNatClampNeg]? = some (.ref w_GREATER_THAN_OR_EQUAL) := Hs302.at hin302 (rfl)
    refine Gl.back (fun _ k => X249.aaload hx (j := (5 : Int32)) (v := (.ref w_GREATER_THAN_OR_EQUAL)) (by rw [e249]; exact Ar302.1) (State.isArrayOf_alike hZ.alike Ar302.2.1) rfl Ar302.2.2 hin302 hat302 (g := (mkF m 201 #[.val (.int i), .val (.ref b120), .val (.ref b201), .val (.int (5 : Int32)), .unset, .unset] [(.int (5 : Int32)), (.ref b120)])) rfl rfl (hb hby at_201) _ k) ?_
    show Gl _ _ _ _ _ _ _ (T249.setTop (mkF m 202 #[.val (.int i), .val (.ref b120), .val (.ref b201), .val (.int (5 : Int32)), .unset, .unset] [(.ref w_GREATER_THAN_OR_EQUAL)]))
    refine Gl.back (fun _ k => XS.astore X249.here hx rfl (hb hby at_202) rfl rfl (l' := #[.val (.int i), .val (.ref b120), .val (.ref b201), .val (.int (5 : Int32)), .val (.ref w_GREATER_THAN_OR_EQUAL), .unset]) rfl k) ?_
    show Gl _ _ _ _ _ _ _ (T249.setTop (mkF m 204 #[.val (.int i), .val (.ref b120), .val (.ref b201), .val (.int (5 : Int32)), .val (.ref w_GREATER_THAN_OR_EQUAL), .unset] []))
    refine Gl.back (fun _ k => XS.aload X249.here hx rfl (hb hby at_204) rfl rfl k) ?_
    show Gl _ _ _ _ _ _ _ (T249.setTop (mkF m 206 #[.val (.int i), .val (.ref b120), .val (.ref b201), .val (.int (5 : Int32)), .val (.ref w_GREATER_THAN_OR_EQUAL), .unset] [(.ref w_GREATER_THAN_OR_EQUAL)]))
    have f304 := ((((((((((((((((((((((((f166.wr W170).wr W175).wr W180).wr W185).wr W190).wr W195).wr W200).ext E201).wr W219).wr W221).wr W223).wr W225).wr W227).wr W229).wr W231).wr W233).wr W235).wr W237).wr W239).wr W241).wr W243).wr W245).wr W247).wr W249)
    have f305 := (((((((((((((((((((((((f171.wr W175).wr W180).wr W185).wr W190).wr W195).wr W200).ext E201).wr W219).wr W221).wr W223).wr W225).wr W227).wr W229).wr W231).wr W233).wr W235).wr W237).wr W239).wr W241).wr W243).wr W245).wr W247).wr W249)
    have f306 := ((((((((((((((((((((((f176.wr W180).wr W185).wr W190).wr W195).wr W200).ext E201).wr W219).wr W221).wr W223).wr W225).wr W227).wr W229).wr W231).wr W233).wr W235).wr W237).wr W239).wr W241).wr W243).wr W245).wr W247).wr W249)
    have f307 := (((((((((((((((((((((f181.wr W185).wr W190).wr W195).wr W200).ext E201).wr W219).wr W221).wr W223).wr W225).wr W227).wr W229).wr W231).wr W233).wr W235).wr W237).wr W239).wr W241).wr W243).wr W245).wr W247).wr W249)
    have f308 := ((((((((((((((((((((f186.wr W190).wr W195).wr W200).ext E201).wr W219).wr W221).wr W223).wr W225).wr W227).wr W229).wr W231).wr W233).wr W235).wr W237).wr W239).wr W241).wr W243).wr W245).wr W247).wr W249)
    have f309 := (((((((((((((((((f207.ext E201).wr W219).wr W221).wr W223).wr W225).wr W227).wr W229).wr W231).wr W233).wr W235).wr W237).wr W239).wr W241).wr W243).wr W245).wr W247).wr W249)
    obtain ⟨cq303, kq303, q303a, q303b, q303c⟩ := isOf hZ e249 f309
    obtain ⟨_, _, ⟨T303, L303, k303, n303⟩, -, X303, ⟨Lc303, hQ303, l303, y303, z303⟩, st303⟩ := X249.virtualBack hx (y := (⟨"com/example/demi_orm/demiorm/query/Operator", "comparesText", "()Z"⟩ : MethodName)) (z := (⟨"com/example/demi_orm/demiorm/query/Operator", "comparesText", "()Z"⟩ : MethodName)) hown (mvT hZ (hw _ (List.mem_of_getElem? (i := 38) rfl))) (mvT hZ (hw _ (List.mem_of_getElem? (i := 39) rfl))) (notFace_of_selects (args := #[]) (mvT hZ (hw _ (List.mem_of_getElem? (i := 41) rfl)))) (mvT hZ (hw _ (List.mem_of_getElem? (i := 41) rfl))) (mvT hZ (hw _ (List.mem_of_getElem? (i := 40) rfl))) (by decide) (backOf (W := 0) (rm1_no l Z a0 hw [] w_GREATER_THAN_OR_EQUAL w_LIKE w_NOT_LIKE w_STARTING_WITH w_ENDING_WITH w_CONTAINING h249 n0 Z249 f304 f305 f306 f307 f308 (Fld.ne F_GREATER_THAN_OR_EQUAL_ordinal F_LIKE_ordinal (by decide)) (Fld.ne F_GREATER_THAN_OR_EQUAL_ordinal F_NOT_LIKE_ordinal (by decide)) (Fld.ne F_GREATER_THAN_OR_EQUAL_ordinal F_STARTING_WITH_ordinal (by decide)) (Fld.ne F_GREATER_THAN_OR_EQUAL_ordinal F_ENDING_WITH_ordinal (by decide)) (Fld.ne F_GREATER_THAN_OR_EQUAL_ordinal F_CONTAINING_ordinal (by decide))) hZ (hw _ (List.mem_of_getElem? (i := 42) rfl)) (hw _ (List.mem_of_getElem? (i := 3) rfl)) (by decide) (by decide)) q303a q303c (g := (mkF m 206 #[.val (.int i), .val (.ref b120), .val (.ref b201), .val (.int (5 : Int32)), .val (.ref w_GREATER_THAN_OR_EQUAL), .unset] [(.ref w_GREATER_THAN_OR_EQUAL)])) rfl (by rw [hml]; rfl) (Steps.refl _) (argsL := []) (rest := []) (lenOf pd___Z rfl) rfl (by show 2 * 0 + _ ≤ _; exact Nat.le_of_eq rfl) (hb hby at_206) (fun _ _ => ⟨rfl, e249, (by decide : 2 + 0 ≤ _), (by decide : 32 + 0 ≤ _)⟩)
    dsimp only [Pt.U, Pt.locs, Pt.cells, Pt.slots] at X303 l303 y303 z303 st303 hQ303
    replace l303 := Eq.symm l303
    replace y303 := Eq.symm y303
    replace z303 := Eq.symm z303
    subst l303 y303 z303
    obtain ⟨Nq303, rfl, eh303⟩ := hQ303
    have N303 := Fr.app N249 Nq303
    refine Gl.back (fun _ k => st303.trans k) ?_
    show Gl _ _ _ _ _ _ _ (T303.setTop (mkF m 209 #[.val (.int i), .val (.ref b120), .val (.ref b201), .val (.int (5 : Int32)), .val (.ref w_GREATER_THAN_OR_EQUAL), .unset] [(.int (0 : Int32))]))
    refine Gl.back (fun _ k => XS.istore X303.here hx rfl (hb hby at_209) rfl (l' := #[.val (.int i), .val (.ref b120), .val (.ref b201), .val (.int (5 : Int32)), .val (.ref w_GREATER_THAN_OR_EQUAL), .val (.int (0 : Int32))]) rfl k) ?_
    show Gl _ _ _ _ _ _ _ (T303.setTop (mkF m 211 #[.val (.int i), .val (.ref b120), .val (.ref b201), .val (.int (5 : Int32)), .val (.ref w_GREATER_THAN_OR_EQUAL), .val (.int (0 : Int32))] []))
    refine Gl.back (fun _ k => XS.iload X303.here hx rfl (hb hby at_211) rfl k) ?_
    show Gl _ _ _ _ _ _ _ (T303.setTop (mkF m 213 #[.val (.int i), .val (.ref b120), .val (.ref b201), .val (.int (5 : Int32)), .val (.ref w_GREATER_THAN_OR_EQUAL), .val (.int (0 : Int32))] [(.int (0 : Int32))]))
    refine Gl.back (fun _ k => XS.aloadN X303.here hx rfl (hb hby at_213) rfl rfl k) ?_
    show Gl _ _ _ _ _ _ _ (T303.setTop (mkF m 214 #[.val (.int i), .val (.ref b120), .val (.ref b201), .val (.int (5 : Int32)), .val (.ref w_GREATER_THAN_OR_EQUAL), .val (.int (0 : Int32))] [(.ref b201), (.int (0 : Int32))]))
    refine Gl.back (fun _ k => XS.iloadN X303.here hx rfl (hb hby at_214) rfl k) ?_
    show Gl _ _ _ _ _ _ _ (T303.setTop (mkF m 215 #[.val (.int i), .val (.ref b120), .val (.ref b201), .val (.int (5 : Int32)), .val (.ref w_GREATER_THAN_OR_EQUAL), .val (.int (0 : Int32))] [(.int (5 : Int32)), (.ref b201), (.int (0 : Int32))]))
    obtain ⟨cl310, Ar310, q310, Sz310, Nn310, Hs310, Gf310⟩ := id V249
    have hin310 : ¬ ((5 : Int32) < 0 ∨ cl310.slots.size ≤ ((5 : Int32)).toNatClampNeg) := inb_of Sz310 ⟨by decide, by decide⟩
    have hat310 : cl310.slots[((5 : Int32)).toNatClampNeg]? = some (.int (0 : Int32)) := Hs310.at hin310 (rfl)
    refine Gl.back (fun _ k => X303.baloadBooleans hx (j := (5 : Int32)) (v := (.int (0 : Int32))) (by rw [eh303]; exact Ar310.1) (State.isArrayOf_alike hZ.alike Ar310.2.1) Ar310.2.2 hin310 hat310 (g := (mkF m 215 #[.val (.int i), .val (.ref b120), .val (.ref b201), .val (.int (5 : Int32)), .val (.ref w_GREATER_THAN_OR_EQUAL), .val (.int (0 : Int32))] [(.int (5 : Int32)), (.ref b201), (.int (0 : Int32))])) rfl rfl (hb hby at_215) _ k) ?_
    show Gl _ _ _ _ _ _ _ (T303.setTop (mkF m 216 #[.val (.int i), .val (.ref b120), .val (.ref b201), .val (.int (5 : Int32)), .val (.ref w_GREATER_THAN_OR_EQUAL), .val (.int (0 : Int32))] [(.int (0 : Int32)), (.int (0 : Int32))]))
    refine Gl.back (fun _ k => XS.icmpYes X303.here hx rfl (pc0 := 216) (pc' := 221) rfl (hb hby at_216) rfl (teq (by decide : (0 : Int32) = (0 : Int32))).1 (by decide) (by decide) k) ?_
    show Gl _ _ _ _ _ _ _ (T303.setTop (mkF m 221 #[.val (.int i), .val (.ref b120), .val (.ref b201), .val (.int (5 : Int32)), .val (.ref w_GREATER_THAN_OR_EQUAL), .val (.int (0 : Int32))] []))
    refine Gl.back (fun _ k => XS.iload X303.here hx rfl (hb hby at_221) rfl k) ?_
    show Gl _ _ _ _ _ _ _ (T303.setTop (mkF m 223 #[.val (.int i), .val (.ref b120), .val (.ref b201), .val (.int (5 : Int32)), .val (.ref w_GREATER_THAN_OR_EQUAL), .val (.int (0 : Int32))] [(.int (0 : Int32))]))
    refine Gl.back (fun _ k => XS.ifYes X303.here hx rfl (pc0 := 223) (pc' := 257) rfl (hb hby at_223) rfl ((if0 _ _).trans (teq (by decide : (0 : Int32) = (0 : Int32))).1) (by decide) (by decide) k) ?_
    show Gl _ _ _ _ _ _ _ (T303.setTop (mkF m 257 #[.val (.int i), .val (.ref b120), .val (.ref b201), .val (.int (5 : Int32)), .val (.ref w_GREATER_THAN_OR_EQUAL), .val (.int (0 : Int32))] []))
    refine Gl.back (fun _ k => XS.iconst X303.here hx rfl (hb hby at_257) k) ?_
    show Gl _ _ _ _ _ _ _ (T303.setTop (mkF m 258 #[.val (.int i), .val (.ref b120), .val (.ref b201), .val (.int (5 : Int32)), .val (.ref w_GREATER_THAN_OR_EQUAL), .val (.int (0 : Int32))] [(.int (1 : Int32))]))
    exact Gl.ret X303 eh303 (v := (some (.int (1 : Int32)))) (fun h => by rw [Bd.returns] at h; cases h) Bd.notSynchronized (fun fs hr => retN X303 hx (t := .boolean) (z := (1 : Int32)) Bd.returns (by simp) (hb hby at_258) hr) ⟨N303, rfl⟩ (by decide) (by decide)
  · rw [hk250]
    show Gl _ _ _ _ _ _ _ (T249.setTop (mkF m 198 #[.val (.int i), .val (.ref b120), .val (.ref b201), .unset, .unset, .unset] [(.int (6 : Int32))]))
    refine Gl.back (fun _ k => XS.istoreN X249.here hx rfl (hb hby at_198) rfl (l' := #[.val (.int i), .val (.ref b120), .val (.ref b201), .val (.int (6 : Int32)), .unset, .unset]) rfl k) ?_
    show Gl _ _ _ _ _ _ _ (T249.setTop (mkF m 199 #[.val (.int i), .val (.ref b120), .val (.ref b201), .val (.int (6 : Int32)), .unset, .unset] []))
    refine Gl.back (fun _ k => XS.aloadN X249.here hx rfl (hb hby at_199) rfl rfl k) ?_
    show Gl _ _ _ _ _ _ _ (T249.setTop (mkF m 200 #[.val (.int i), .val (.ref b120), .val (.ref b201), .val (.int (6 : Int32)), .unset, .unset] [(.ref b120)]))
    refine Gl.back (fun _ k => XS.iloadN X249.here hx rfl (hb hby at_200) rfl k) ?_
    show Gl _ _ _ _ _ _ _ (T249.setTop (mkF m 201 #[.val (.int i), .val (.ref b120), .val (.ref b201), .val (.int (6 : Int32)), .unset, .unset] [(.int (6 : Int32)), (.ref b120)]))
    have f311 := (((((((((((((((((V200.ext E201).other W219 ne_b120_b201).other W221 ne_b120_b201).other W223 ne_b120_b201).other W225 ne_b120_b201).other W227 ne_b120_b201).other W229 ne_b120_b201).other W231 ne_b120_b201).other W233 ne_b120_b201).other W235 ne_b120_b201).other W237 ne_b120_b201).other W239 ne_b120_b201).other W241 ne_b120_b201).other W243 ne_b120_b201).other W245 ne_b120_b201).other W247 ne_b120_b201).other W249 ne_b120_b201)
    obtain ⟨cl312, Ar312, q312, Sz312, Nn312, Hs312, Gf312⟩ := id f311
    have hin312 : ¬ ((6 : Int32) < 0 ∨ cl312.slots.size ≤ ((6 : Int32)).toNatClampNeg) := inb_of Sz312 ⟨by decide, by decide⟩
    have hat312 : cl312.slots[((6 : Int32)).toNatClampNeg]? = some (.ref w_BETWEEN) := Hs312.at hin312 (rfl)
    refine Gl.back (fun _ k => X249.aaload hx (j := (6 : Int32)) (v := (.ref w_BETWEEN)) (by rw [e249]; exact Ar312.1) (State.isArrayOf_alike hZ.alike Ar312.2.1) rfl Ar312.2.2 hin312 hat312 (g := (mkF m 201 #[.val (.int i), .val (.ref b120), .val (.ref b201), .val (.int (6 : Int32)), .unset, .unset] [(.int (6 : Int32)), (.ref b120)])) rfl rfl (hb hby at_201) _ k) ?_
    show Gl _ _ _ _ _ _ _ (T249.setTop (mkF m 202 #[.val (.int i), .val (.ref b120), .val (.ref b201), .val (.int (6 : Int32)), .unset, .unset] [(.ref w_BETWEEN)]))
    refine Gl.back (fun _ k => XS.astore X249.here hx rfl (hb hby at_202) rfl rfl (l' := #[.val (.int i), .val (.ref b120), .val (.ref b201), .val (.int (6 : Int32)), .val (.ref w_BETWEEN), .unset]) rfl k) ?_
    show Gl _ _ _ _ _ _ _ (T249.setTop (mkF m 204 #[.val (.int i), .val (.ref b120), .val (.ref b201), .val (.int (6 : Int32)), .val (.ref w_BETWEEN), .unset] []))
    refine Gl.back (fun _ k => XS.aload X249.here hx rfl (hb hby at_204) rfl rfl k) ?_
    show Gl _ _ _ _ _ _ _ (T249.setTop (mkF m 206 #[.val (.int i), .val (.ref b120), .val (.ref b201), .val (.int (6 : Int32)), .val (.ref w_BETWEEN), .unset] [(.ref w_BETWEEN)]))
    have f314 := ((((((((((((((((((((((((f166.wr W170).wr W175).wr W180).wr W185).wr W190).wr W195).wr W200).ext E201).wr W219).wr W221).wr W223).wr W225).wr W227).wr W229).wr W231).wr W233).wr W235).wr W237).wr W239).wr W241).wr W243).wr W245).wr W247).wr W249)
    have f315 := (((((((((((((((((((((((f171.wr W175).wr W180).wr W185).wr W190).wr W195).wr W200).ext E201).wr W219).wr W221).wr W223).wr W225).wr W227).wr W229).wr W231).wr W233).wr W235).wr W237).wr W239).wr W241).wr W243).wr W245).wr W247).wr W249)
    have f316 := ((((((((((((((((((((((f176.wr W180).wr W185).wr W190).wr W195).wr W200).ext E201).wr W219).wr W221).wr W223).wr W225).wr W227).wr W229).wr W231).wr W233).wr W235).wr W237).wr W239).wr W241).wr W243).wr W245).wr W247).wr W249)
    have f317 := (((((((((((((((((((((f181.wr W185).wr W190).wr W195).wr W200).ext E201).wr W219).wr W221).wr W223).wr W225).wr W227).wr W229).wr W231).wr W233).wr W235).wr W237).wr W239).wr W241).wr W243).wr W245).wr W247).wr W249)
    have f318 := ((((((((((((((((((((f186.wr W190).wr W195).wr W200).ext E201).wr W219).wr W221).wr W223).wr W225).wr W227).wr W229).wr W231).wr W233).wr W235).wr W237).wr W239).wr W241).wr W243).wr W245).wr W247).wr W249)
    have f319 := (((((((((((((((((f208.ext E201).wr W219).wr W221).wr W223).wr W225).wr W227).wr W229).wr W231).wr W233).wr W235).wr W237).wr W239).wr W241).wr W243).wr W245).wr W247).wr W249)
    obtain ⟨cq313, kq313, q313a, q313b, q313c⟩ := isOf hZ e249 f319
    obtain ⟨_, _, ⟨T313, L313, k313, n313⟩, -, X313, ⟨Lc313, hQ313, l313, y313, z313⟩, st313⟩ := X249.virtualBack hx (y := (⟨"com/example/demi_orm/demiorm/query/Operator", "comparesText", "()Z"⟩ : MethodName)) (z := (⟨"com/example/demi_orm/demiorm/query/Operator", "comparesText", "()Z"⟩ : MethodName)) hown (mvT hZ (hw _ (List.mem_of_getElem? (i := 38) rfl))) (mvT hZ (hw _ (List.mem_of_getElem? (i := 39) rfl))) (notFace_of_selects (args := #[]) (mvT hZ (hw _ (List.mem_of_getElem? (i := 41) rfl)))) (mvT hZ (hw _ (List.mem_of_getElem? (i := 41) rfl))) (mvT hZ (hw _ (List.mem_of_getElem? (i := 40) rfl))) (by decide) (backOf (W := 0) (rm1_no l Z a0 hw [] w_BETWEEN w_LIKE w_NOT_LIKE w_STARTING_WITH w_ENDING_WITH w_CONTAINING h249 n0 Z249 f314 f315 f316 f317 f318 (Fld.ne F_BETWEEN_ordinal F_LIKE_ordinal (by decide)) (Fld.ne F_BETWEEN_ordinal F_NOT_LIKE_ordinal (by decide)) (Fld.ne F_BETWEEN_ordinal F_STARTING_WITH_ordinal (by decide)) (Fld.ne F_BETWEEN_ordinal F_ENDING_WITH_ordinal (by decide)) (Fld.ne F_BETWEEN_ordinal F_CONTAINING_ordinal (by decide))) hZ (hw _ (List.mem_of_getElem? (i := 42) rfl)) (hw _ (List.mem_of_getElem? (i := 3) rfl)) (by decide) (by decide)) q313a q313c (g := (mkF m 206 #[.val (.int i), .val (.ref b120), .val (.ref b201), .val (.int (6 : Int32)), .val (.ref w_BETWEEN), .unset] [(.ref w_BETWEEN)])) rfl (by rw [hml]; rfl) (Steps.refl _) (argsL := []) (rest := []) (lenOf pd___Z rfl) rfl (by show 2 * 0 + _ ≤ _; exact Nat.le_of_eq rfl) (hb hby at_206) (fun _ _ => ⟨rfl, e249, (by decide : 2 + 0 ≤ _), (by decide : 32 + 0 ≤ _)⟩)
    dsimp only [Pt.U, Pt.locs, Pt.cells, Pt.slots] at X313 l313 y313 z313 st313 hQ313
    replace l313 := Eq.symm l313
    replace y313 := Eq.symm y313
    replace z313 := Eq.symm z313
    subst l313 y313 z313
    obtain ⟨Nq313, rfl, eh313⟩ := hQ313
    have N313 := Fr.app N249 Nq313
    refine Gl.back (fun _ k => st313.trans k) ?_
    show Gl _ _ _ _ _ _ _ (T313.setTop (mkF m 209 #[.val (.int i), .val (.ref b120), .val (.ref b201), .val (.int (6 : Int32)), .val (.ref w_BETWEEN), .unset] [(.int (0 : Int32))]))
    refine Gl.back (fun _ k => XS.istore X313.here hx rfl (hb hby at_209) rfl (l' := #[.val (.int i), .val (.ref b120), .val (.ref b201), .val (.int (6 : Int32)), .val (.ref w_BETWEEN), .val (.int (0 : Int32))]) rfl k) ?_
    show Gl _ _ _ _ _ _ _ (T313.setTop (mkF m 211 #[.val (.int i), .val (.ref b120), .val (.ref b201), .val (.int (6 : Int32)), .val (.ref w_BETWEEN), .val (.int (0 : Int32))] []))
    refine Gl.back (fun _ k => XS.iload X313.here hx rfl (hb hby at_211) rfl k) ?_
    show Gl _ _ _ _ _ _ _ (T313.setTop (mkF m 213 #[.val (.int i), .val (.ref b120), .val (.ref b201), .val (.int (6 : Int32)), .val (.ref w_BETWEEN), .val (.int (0 : Int32))] [(.int (0 : Int32))]))
    refine Gl.back (fun _ k => XS.aloadN X313.here hx rfl (hb hby at_213) rfl rfl k) ?_
    show Gl _ _ _ _ _ _ _ (T313.setTop (mkF m 214 #[.val (.int i), .val (.ref b120), .val (.ref b201), .val (.int (6 : Int32)), .val (.ref w_BETWEEN), .val (.int (0 : Int32))] [(.ref b201), (.int (0 : Int32))]))
    refine Gl.back (fun _ k => XS.iloadN X313.here hx rfl (hb hby at_214) rfl k) ?_
    show Gl _ _ _ _ _ _ _ (T313.setTop (mkF m 215 #[.val (.int i), .val (.ref b120), .val (.ref b201), .val (.int (6 : Int32)), .val (.ref w_BETWEEN), .val (.int (0 : Int32))] [(.int (6 : Int32)), (.ref b201), (.int (0 : Int32))]))
    obtain ⟨cl320, Ar320, q320, Sz320, Nn320, Hs320, Gf320⟩ := id V249
    have hin320 : ¬ ((6 : Int32) < 0 ∨ cl320.slots.size ≤ ((6 : Int32)).toNatClampNeg) := inb_of Sz320 ⟨by decide, by decide⟩
    have hat320 : cl320.slots[((6 : Int32)).toNatClampNeg]? = some (.int (0 : Int32)) := Hs320.at hin320 (rfl)
    refine Gl.back (fun _ k => X313.baloadBooleans hx (j := (6 : Int32)) (v := (.int (0 : Int32))) (by rw [eh313]; exact Ar320.1) (State.isArrayOf_alike hZ.alike Ar320.2.1) Ar320.2.2 hin320 hat320 (g := (mkF m 215 #[.val (.int i), .val (.ref b120), .val (.ref b201), .val (.int (6 : Int32)), .val (.ref w_BETWEEN), .val (.int (0 : Int32))] [(.int (6 : Int32)), (.ref b201), (.int (0 : Int32))])) rfl rfl (hb hby at_215) _ k) ?_
    show Gl _ _ _ _ _ _ _ (T313.setTop (mkF m 216 #[.val (.int i), .val (.ref b120), .val (.ref b201), .val (.int (6 : Int32)), .val (.ref w_BETWEEN), .val (.int (0 : Int32))] [(.int (0 : Int32)), (.int (0 : Int32))]))
    refine Gl.back (fun _ k => XS.icmpYes X313.here hx rfl (pc0 := 216) (pc' := 221) rfl (hb hby at_216) rfl (teq (by decide : (0 : Int32) = (0 : Int32))).1 (by decide) (by decide) k) ?_
    show Gl _ _ _ _ _ _ _ (T313.setTop (mkF m 221 #[.val (.int i), .val (.ref b120), .val (.ref b201), .val (.int (6 : Int32)), .val (.ref w_BETWEEN), .val (.int (0 : Int32))] []))
    refine Gl.back (fun _ k => XS.iload X313.here hx rfl (hb hby at_221) rfl k) ?_
    show Gl _ _ _ _ _ _ _ (T313.setTop (mkF m 223 #[.val (.int i), .val (.ref b120), .val (.ref b201), .val (.int (6 : Int32)), .val (.ref w_BETWEEN), .val (.int (0 : Int32))] [(.int (0 : Int32))]))
    refine Gl.back (fun _ k => XS.ifYes X313.here hx rfl (pc0 := 223) (pc' := 257) rfl (hb hby at_223) rfl ((if0 _ _).trans (teq (by decide : (0 : Int32) = (0 : Int32))).1) (by decide) (by decide) k) ?_
    show Gl _ _ _ _ _ _ _ (T313.setTop (mkF m 257 #[.val (.int i), .val (.ref b120), .val (.ref b201), .val (.int (6 : Int32)), .val (.ref w_BETWEEN), .val (.int (0 : Int32))] []))
    refine Gl.back (fun _ k => XS.iconst X313.here hx rfl (hb hby at_257) k) ?_
    show Gl _ _ _ _ _ _ _ (T313.setTop (mkF m 258 #[.val (.int i), .val (.ref b120), .val (.ref b201), .val (.int (6 : Int32)), .val (.ref w_BETWEEN), .val (.int (0 : Int32))] [(.int (1 : Int32))]))
    exact Gl.ret X313 eh313 (v := (some (.int (1 : Int32)))) (fun h => by rw [Bd.returns] at h; cases h) Bd.notSynchronized (fun fs hr => retN X313 hx (t := .boolean) (z := (1 : Int32)) Bd.returns (by simp) (hb hby at_258) hr) ⟨N313, rfl⟩ (by decide) (by decide)
  · rw [hk250]
    show Gl _ _ _ _ _ _ _ (T249.setTop (mkF m 198 #[.val (.int i), .val (.ref b120), .val (.ref b201), .unset, .unset, .unset] [(.int (7 : Int32))]))
    refine Gl.back (fun _ k => XS.istoreN X249.here hx rfl (hb hby at_198) rfl (l' := #[.val (.int i), .val (.ref b120), .val (.ref b201), .val (.int (7 : Int32)), .unset, .unset]) rfl k) ?_
    show Gl _ _ _ _ _ _ _ (T249.setTop (mkF m 199 #[.val (.int i), .val (.ref b120), .val (.ref b201), .val (.int (7 : Int32)), .unset, .unset] []))
    refine Gl.back (fun _ k => XS.aloadN X249.here hx rfl (hb hby at_199) rfl rfl k) ?_
    show Gl _ _ _ _ _ _ _ (T249.setTop (mkF m 200 #[.val (.int i), .val (.ref b120), .val (.ref b201), .val (.int (7 : Int32)), .unset, .unset] [(.ref b120)]))
    refine Gl.back (fun _ k => XS.iloadN X249.here hx rfl (hb hby at_200) rfl k) ?_
    show Gl _ _ _ _ _ _ _ (T249.setTop (mkF m 201 #[.val (.int i), .val (.ref b120), .val (.ref b201), .val (.int (7 : Int32)), .unset, .unset] [(.int (7 : Int32)), (.ref b120)]))
    have f321 := (((((((((((((((((V200.ext E201).other W219 ne_b120_b201).other W221 ne_b120_b201).other W223 ne_b120_b201).other W225 ne_b120_b201).other W227 ne_b120_b201).other W229 ne_b120_b201).other W231 ne_b120_b201).other W233 ne_b120_b201).other W235 ne_b120_b201).other W237 ne_b120_b201).other W239 ne_b120_b201).other W241 ne_b120_b201).other W243 ne_b120_b201).other W245 ne_b120_b201).other W247 ne_b120_b201).other W249 ne_b120_b201)
    obtain ⟨cl322, Ar322, q322, Sz322, Nn322, Hs322, Gf322⟩ := id f321
    have hin322 : ¬ ((7 : Int32) < 0 ∨ cl322.slots.size ≤ ((7 : Int32)).toNatClampNeg) := inb_of Sz322 ⟨by decide, by decide⟩
    have hat322 : cl322.slots[((7 : Int32)).toNatClampNeg]? = some (.ref w_IS_NULL) := Hs322.at hin322 (rfl)
    refine Gl.back (fun _ k => X249.aaload hx (j := (7 : Int32)) (v := (.ref w_IS_NULL)) (by rw [e249]; exact Ar322.1) (State.isArrayOf_alike hZ.alike Ar322.2.1) rfl Ar322.2.2 hin322 hat322 (g := (mkF m 201 #[.val (.int i), .val (.ref b120), .val (.ref b201), .val (.int (7 : Int32)), .unset, .unset] [(.int (7 : Int32)), (.ref b120)])) rfl rfl (hb hby at_201) _ k) ?_
    show Gl _ _ _ _ _ _ _ (T249.setTop (mkF m 202 #[.val (.int i), .val (.ref b120), .val (.ref b201), .val (.int (7 : Int32)), .unset, .unset] [(.ref w_IS_NULL)]))
    refine Gl.back (fun _ k => XS.astore X249.here hx rfl (hb hby at_202) rfl rfl (l' := #[.val (.int i), .val (.ref b120), .val (.ref b201), .val (.int (7 : Int32)), .val (.ref w_IS_NULL), .unset]) rfl k) ?_
    show Gl _ _ _ _ _ _ _ (T249.setTop (mkF m 204 #[.val (.int i), .val (.ref b120), .val (.ref b201), .val (.int (7 : Int32)), .val (.ref w_IS_NULL), .unset] []))
    refine Gl.back (fun _ k => XS.aload X249.here hx rfl (hb hby at_204) rfl rfl k) ?_
    show Gl _ _ _ _ _ _ _ (T249.setTop (mkF m 206 #[.val (.int i), .val (.ref b120), .val (.ref b201), .val (.int (7 : Int32)), .val (.ref w_IS_NULL), .unset] [(.ref w_IS_NULL)]))
    have f324 := ((((((((((((((((((((((((f166.wr W170).wr W175).wr W180).wr W185).wr W190).wr W195).wr W200).ext E201).wr W219).wr W221).wr W223).wr W225).wr W227).wr W229).wr W231).wr W233).wr W235).wr W237).wr W239).wr W241).wr W243).wr W245).wr W247).wr W249)
    have f325 := (((((((((((((((((((((((f171.wr W175).wr W180).wr W185).wr W190).wr W195).wr W200).ext E201).wr W219).wr W221).wr W223).wr W225).wr W227).wr W229).wr W231).wr W233).wr W235).wr W237).wr W239).wr W241).wr W243).wr W245).wr W247).wr W249)
    have f326 := ((((((((((((((((((((((f176.wr W180).wr W185).wr W190).wr W195).wr W200).ext E201).wr W219).wr W221).wr W223).wr W225).wr W227).wr W229).wr W231).wr W233).wr W235).wr W237).wr W239).wr W241).wr W243).wr W245).wr W247).wr W249)
    have f327 := (((((((((((((((((((((f181.wr W185).wr W190).wr W195).wr W200).ext E201).wr W219).wr W221).wr W223).wr W225).wr W227).wr W229).wr W231).wr W233).wr W235).wr W237).wr W239).wr W241).wr W243).wr W245).wr W247).wr W249)
    have f328 := ((((((((((((((((((((f186.wr W190).wr W195).wr W200).ext E201).wr W219).wr W221).wr W223).wr W225).wr W227).wr W229).wr W231).wr W233).wr W235).wr W237).wr W239).wr W241).wr W243).wr W245).wr W247).wr W249)
    have f329 := (((((((((((((((((f209.ext E201).wr W219).wr W221).wr W223).wr W225).wr W227).wr W229).wr W231).wr W233).wr W235).wr W237).wr W239).wr W241).wr W243).wr W245).wr W247).wr W249)
    obtain ⟨cq323, kq323, q323a, q323b, q323c⟩ := isOf hZ e249 f329
    obtain ⟨_, _, ⟨T323, L323, k323, n323⟩, -, X323, ⟨Lc323, hQ323, l323, y323, z323⟩, st323⟩ := X249.virtualBack hx (y := (⟨"com/example/demi_orm/demiorm/query/Operator", "comparesText", "()Z"⟩ : MethodName)) (z := (⟨"com/example/demi_orm/demiorm/query/Operator", "comparesText", "()Z"⟩ : MethodName)) hown (mvT hZ (hw _ (List.mem_of_getElem? (i := 38) rfl))) (mvT hZ (hw _ (List.mem_of_getElem? (i := 39) rfl))) (notFace_of_selects (args := #[]) (mvT hZ (hw _ (List.mem_of_getElem? (i := 41) rfl)))) (mvT hZ (hw _ (List.mem_of_getElem? (i := 41) rfl))) (mvT hZ (hw _ (List.mem_of_getElem? (i := 40) rfl))) (by decide) (backOf (W := 0) (rm1_no l Z a0 hw [] w_IS_NULL w_LIKE w_NOT_LIKE w_STARTING_WITH w_ENDING_WITH w_CONTAINING h249 n0 Z249 f324 f325 f326 f327 f328 (Fld.ne F_IS_NULL_ordinal F_LIKE_ordinal (by decide)) (Fld.ne F_IS_NULL_ordinal F_NOT_LIKE_ordinal (by decide)) (Fld.ne F_IS_NULL_ordinal F_STARTING_WITH_ordinal (by decide)) (Fld.ne F_IS_NULL_ordinal F_ENDING_WITH_ordinal (by decide)) (Fld.ne F_IS_NULL_ordinal F_CONTAINING_ordinal (by decide))) hZ (hw _ (List.mem_of_getElem? (i := 42) rfl)) (hw _ (List.mem_of_getElem? (i := 3) rfl)) (by decide) (by decide)) q323a q323c (g := (mkF m 206 #[.val (.int i), .val (.ref b120), .val (.ref b201), .val (.int (7 : Int32)), .val (.ref w_IS_NULL), .unset] [(.ref w_IS_NULL)])) rfl (by rw [hml]; rfl) (Steps.refl _) (argsL := []) (rest := []) (lenOf pd___Z rfl) rfl (by show 2 * 0 + _ ≤ _; exact Nat.le_of_eq rfl) (hb hby at_206) (fun _ _ => ⟨rfl, e249, (by decide : 2 + 0 ≤ _), (by decide : 32 + 0 ≤ _)⟩)
    dsimp only [Pt.U, Pt.locs, Pt.cells, Pt.slots] at X323 l323 y323 z323 st323 hQ323
    replace l323 := Eq.symm l323
    replace y323 := Eq.symm y323
    replace z323 := Eq.symm z323
    subst l323 y323 z323
    obtain ⟨Nq323, rfl, eh323⟩ := hQ323
    have N323 := Fr.app N249 Nq323
    refine Gl.back (fun _ k => st323.trans k) ?_
    show Gl _ _ _ _ _ _ _ (T323.setTop (mkF m 209 #[.val (.int i), .val (.ref b120), .val (.ref b201), .val (.int (7 : Int32)), .val (.ref w_IS_NULL), .unset] [(.int (0 : Int32))]))
    refine Gl.back (fun _ k => XS.istore X323.here hx rfl (hb hby at_209) rfl (l' := #[.val (.int i), .val (.ref b120), .val (.ref b201), .val (.int (7 : Int32)), .val (.ref w_IS_NULL), .val (.int (0 : Int32))]) rfl k) ?_
    show Gl _ _ _ _ _ _ _ (T323.setTop (mkF m 211 #[.val (.int i), .val (.ref b120), .val (.ref b201), .val (.int (7 : Int32)), .val (.ref w_IS_NULL), .val (.int (0 : Int32))] []))
    refine Gl.back (fun _ k => XS.iload X323.here hx rfl (hb hby at_211) rfl k) ?_
    show Gl _ _ _ _ _ _ _ (T323.setTop (mkF m 213 #[.val (.int i), .val (.ref b120), .val (.ref b201), .val (.int (7 : Int32)), .val (.ref w_IS_NULL), .val (.int (0 : Int32))] [(.int (0 : Int32))]))
    refine Gl.back (fun _ k => XS.aloadN X323.here hx rfl (hb hby at_213) rfl rfl k) ?_
    show Gl _ _ _ _ _ _ _ (T323.setTop (mkF m 214 #[.val (.int i), .val (.ref b120), .val (.ref b201), .val (.int (7 : Int32)), .val (.ref w_IS_NULL), .val (.int (0 : Int32))] [(.ref b201), (.int (0 : Int32))]))
    refine Gl.back (fun _ k => XS.iloadN X323.here hx rfl (hb hby at_214) rfl k) ?_
    show Gl _ _ _ _ _ _ _ (T323.setTop (mkF m 215 #[.val (.int i), .val (.ref b120), .val (.ref b201), .val (.int (7 : Int32)), .val (.ref w_IS_NULL), .val (.int (0 : Int32))] [(.int (7 : Int32)), (.ref b201), (.int (0 : Int32))]))
    obtain ⟨cl330, Ar330, q330, Sz330, Nn330, Hs330, Gf330⟩ := id V249
    have hin330 : ¬ ((7 : Int32) < 0 ∨ cl330.slots.size ≤ ((7 : Int32)).toNatClampNeg) := inb_of Sz330 ⟨by decide, by decide⟩
    have hat330 : cl330.slots[((7 : Int32)).toNatClampNeg]? = some (.int (0 : Int32)) := Hs330.at hin330 (rfl)
    refine Gl.back (fun _ k => X323.baloadBooleans hx (j := (7 : Int32)) (v := (.int (0 : Int32))) (by rw [eh323]; exact Ar330.1) (State.isArrayOf_alike hZ.alike Ar330.2.1) Ar330.2.2 hin330 hat330 (g := (mkF m 215 #[.val (.int i), .val (.ref b120), .val (.ref b201), .val (.int (7 : Int32)), .val (.ref w_IS_NULL), .val (.int (0 : Int32))] [(.int (7 : Int32)), (.ref b201), (.int (0 : Int32))])) rfl rfl (hb hby at_215) _ k) ?_
    show Gl _ _ _ _ _ _ _ (T323.setTop (mkF m 216 #[.val (.int i), .val (.ref b120), .val (.ref b201), .val (.int (7 : Int32)), .val (.ref w_IS_NULL), .val (.int (0 : Int32))] [(.int (0 : Int32)), (.int (0 : Int32))]))
    refine Gl.back (fun _ k => XS.icmpYes X323.here hx rfl (pc0 := 216) (pc' := 221) rfl (hb hby at_216) rfl (teq (by decide : (0 : Int32) = (0 : Int32))).1 (by decide) (by decide) k) ?_
    show Gl _ _ _ _ _ _ _ (T323.setTop (mkF m 221 #[.val (.int i), .val (.ref b120), .val (.ref b201), .val (.int (7 : Int32)), .val (.ref w_IS_NULL), .val (.int (0 : Int32))] []))
    refine Gl.back (fun _ k => XS.iload X323.here hx rfl (hb hby at_221) rfl k) ?_
    show Gl _ _ _ _ _ _ _ (T323.setTop (mkF m 223 #[.val (.int i), .val (.ref b120), .val (.ref b201), .val (.int (7 : Int32)), .val (.ref w_IS_NULL), .val (.int (0 : Int32))] [(.int (0 : Int32))]))
    refine Gl.back (fun _ k => XS.ifYes X323.here hx rfl (pc0 := 223) (pc' := 257) rfl (hb hby at_223) rfl ((if0 _ _).trans (teq (by decide : (0 : Int32) = (0 : Int32))).1) (by decide) (by decide) k) ?_
    show Gl _ _ _ _ _ _ _ (T323.setTop (mkF m 257 #[.val (.int i), .val (.ref b120), .val (.ref b201), .val (.int (7 : Int32)), .val (.ref w_IS_NULL), .val (.int (0 : Int32))] []))
    refine Gl.back (fun _ k => XS.iconst X323.here hx rfl (hb hby at_257) k) ?_
    show Gl _ _ _ _ _ _ _ (T323.setTop (mkF m 258 #[.val (.int i), .val (.ref b120), .val (.ref b201), .val (.int (7 : Int32)), .val (.ref w_IS_NULL), .val (.int (0 : Int32))] [(.int (1 : Int32))]))
    exact Gl.ret X323 eh323 (v := (some (.int (1 : Int32)))) (fun h => by rw [Bd.returns] at h; cases h) Bd.notSynchronized (fun fs hr => retN X323 hx (t := .boolean) (z := (1 : Int32)) Bd.returns (by simp) (hb hby at_258) hr) ⟨N323, rfl⟩ (by decide) (by decide)
  · rw [hk250]
    show Gl _ _ _ _ _ _ _ (T249.setTop (mkF m 198 #[.val (.int i), .val (.ref b120), .val (.ref b201), .unset, .unset, .unset] [(.int (8 : Int32))]))
    refine Gl.back (fun _ k => XS.istoreN X249.here hx rfl (hb hby at_198) rfl (l' := #[.val (.int i), .val (.ref b120), .val (.ref b201), .val (.int (8 : Int32)), .unset, .unset]) rfl k) ?_
    show Gl _ _ _ _ _ _ _ (T249.setTop (mkF m 199 #[.val (.int i), .val (.ref b120), .val (.ref b201), .val (.int (8 : Int32)), .unset, .unset] []))
    refine Gl.back (fun _ k => XS.aloadN X249.here hx rfl (hb hby at_199) rfl rfl k) ?_
    show Gl _ _ _ _ _ _ _ (T249.setTop (mkF m 200 #[.val (.int i), .val (.ref b120), .val (.ref b201), .val (.int (8 : Int32)), .unset, .unset] [(.ref b120)]))
    refine Gl.back (fun _ k => XS.iloadN X249.here hx rfl (hb hby at_200) rfl k) ?_
    show Gl _ _ _ _ _ _ _ (T249.setTop (mkF m 201 #[.val (.int i), .val (.ref b120), .val (.ref b201), .val (.int (8 : Int32)), .unset, .unset] [(.int (8 : Int32)), (.ref b120)]))
    have f331 := (((((((((((((((((V200.ext E201).other W219 ne_b120_b201).other W221 ne_b120_b201).other W223 ne_b120_b201).other W225 ne_b120_b201).other W227 ne_b120_b201).other W229 ne_b120_b201).other W231 ne_b120_b201).other W233 ne_b120_b201).other W235 ne_b120_b201).other W237 ne_b120_b201).other W239 ne_b120_b201).other W241 ne_b120_b201).other W243 ne_b120_b201).other W245 ne_b120_b201).other W247 ne_b120_b201).other W249 ne_b120_b201)
    obtain ⟨cl332, Ar332, q332, Sz332, Nn332, Hs332, Gf332⟩ := id f331
    have hin332 : ¬ ((8 : Int32) < 0 ∨ cl332.slots.size ≤ ((8 : Int32)).toNatClampNeg) := inb_of Sz332 ⟨by decide, by decide⟩
    have hat332 : cl332.slots[((8 : Int32)).toNatClampNeg]? = some (.ref w_IS_NOT_NULL) := Hs332.at hin332 (rfl)
    refine Gl.back (fun _ k => X249.aaload hx (j := (8 : Int32)) (v := (.ref w_IS_NOT_NULL)) (by rw [e249]; exact Ar332.1) (State.isArrayOf_alike hZ.alike Ar332.2.1) rfl Ar332.2.2 hin332 hat332 (g := (mkF m 201 #[.val (.int i), .val (.ref b120), .val (.ref b201), .val (.int (8 : Int32)), .unset, .unset] [(.int (8 : Int32)), (.ref b120)])) rfl rfl (hb hby at_201) _ k) ?_
    show Gl _ _ _ _ _ _ _ (T249.setTop (mkF m 202 #[.val (.int i), .val (.ref b120), .val (.ref b201), .val (.int (8 : Int32)), .unset, .unset] [(.ref w_IS_NOT_NULL)]))
    refine Gl.back (fun _ k => XS.astore X249.here hx rfl (hb hby at_202) rfl rfl (l' := #[.val (.int i), .val (.ref b120), .val (.ref b201), .val (.int (8 : Int32)), .val (.ref w_IS_NOT_NULL), .unset]) rfl k) ?_
    show Gl _ _ _ _ _ _ _ (T249.setTop (mkF m 204 #[.val (.int i), .val (.ref b120), .val (.ref b201), .val (.int (8 : Int32)), .val (.ref w_IS_NOT_NULL), .unset] []))
    refine Gl.back (fun _ k => XS.aload X249.here hx rfl (hb hby at_204) rfl rfl k) ?_
    show Gl _ _ _ _ _ _ _ (T249.setTop (mkF m 206 #[.val (.int i), .val (.ref b120), .val (.ref b201), .val (.int (8 : Int32)), .val (.ref w_IS_NOT_NULL), .unset] [(.ref w_IS_NOT_NULL)]))
    have f334 := ((((((((((((((((((((((((f166.wr W170).wr W175).wr W180).wr W185).wr W190).wr W195).wr W200).ext E201).wr W219).wr W221).wr W223).wr W225).wr W227).wr W229).wr W231).wr W233).wr W235).wr W237).wr W239).wr W241).wr W243).wr W245).wr W247).wr W249)
    have f335 := (((((((((((((((((((((((f171.wr W175).wr W180).wr W185).wr W190).wr W195).wr W200).ext E201).wr W219).wr W221).wr W223).wr W225).wr W227).wr W229).wr W231).wr W233).wr W235).wr W237).wr W239).wr W241).wr W243).wr W245).wr W247).wr W249)
    have f336 := ((((((((((((((((((((((f176.wr W180).wr W185).wr W190).wr W195).wr W200).ext E201).wr W219).wr W221).wr W223).wr W225).wr W227).wr W229).wr W231).wr W233).wr W235).wr W237).wr W239).wr W241).wr W243).wr W245).wr W247).wr W249)
    have f337 := (((((((((((((((((((((f181.wr W185).wr W190).wr W195).wr W200).ext E201).wr W219).wr W221).wr W223).wr W225).wr W227).wr W229).wr W231).wr W233).wr W235).wr W237).wr W239).wr W241).wr W243).wr W245).wr W247).wr W249)
    have f338 := ((((((((((((((((((((f186.wr W190).wr W195).wr W200).ext E201).wr W219).wr W221).wr W223).wr W225).wr W227).wr W229).wr W231).wr W233).wr W235).wr W237).wr W239).wr W241).wr W243).wr W245).wr W247).wr W249)
    have f339 := (((((((((((((((((f210.ext E201).wr W219).wr W221).wr W223).wr W225).wr W227).wr W229).wr W231).wr W233).wr W235).wr W237).wr W239).wr W241).wr W243).wr W245).wr W247).wr W249)
    obtain ⟨cq333, kq333, q333a, q333b, q333c⟩ := isOf hZ e249 f339
    obtain ⟨_, _, ⟨T333, L333, k333, n333⟩, -, X333, ⟨Lc333, hQ333, l333, y333, z333⟩, st333⟩ := X249.virtualBack hx (y := (⟨"com/example/demi_orm/demiorm/query/Operator", "comparesText", "()Z"⟩ : MethodName)) (z := (⟨"com/example/demi_orm/demiorm/query/Operator", "comparesText", "()Z"⟩ : MethodName)) hown (mvT hZ (hw _ (List.mem_of_getElem? (i := 38) rfl))) (mvT hZ (hw _ (List.mem_of_getElem? (i := 39) rfl))) (notFace_of_selects (args := #[]) (mvT hZ (hw _ (List.mem_of_getElem? (i := 41) rfl)))) (mvT hZ (hw _ (List.mem_of_getElem? (i := 41) rfl))) (mvT hZ (hw _ (List.mem_of_getElem? (i := 40) rfl))) (by decide) (backOf (W := 0) (rm1_no l Z a0 hw [] w_IS_NOT_NULL w_LIKE w_NOT_LIKE w_STARTING_WITH w_ENDING_WITH w_CONTAINING h249 n0 Z249 f334 f335 f336 f337 f338 (Fld.ne F_IS_NOT_NULL_ordinal F_LIKE_ordinal (by decide)) (Fld.ne F_IS_NOT_NULL_ordinal F_NOT_LIKE_ordinal (by decide)) (Fld.ne F_IS_NOT_NULL_ordinal F_STARTING_WITH_ordinal (by decide)) (Fld.ne F_IS_NOT_NULL_ordinal F_ENDING_WITH_ordinal (by decide)) (Fld.ne F_IS_NOT_NULL_ordinal F_CONTAINING_ordinal (by decide))) hZ (hw _ (List.mem_of_getElem? (i := 42) rfl)) (hw _ (List.mem_of_getElem? (i := 3) rfl)) (by decide) (by decide)) q333a q333c (g := (mkF m 206 #[.val (.int i), .val (.ref b120), .val (.ref b201), .val (.int (8 : Int32)), .val (.ref w_IS_NOT_NULL), .unset] [(.ref w_IS_NOT_NULL)])) rfl (by rw [hml]; rfl) (Steps.refl _) (argsL := []) (rest := []) (lenOf pd___Z rfl) rfl (by show 2 * 0 + _ ≤ _; exact Nat.le_of_eq rfl) (hb hby at_206) (fun _ _ => ⟨rfl, e249, (by decide : 2 + 0 ≤ _), (by decide : 32 + 0 ≤ _)⟩)
    dsimp only [Pt.U, Pt.locs, Pt.cells, Pt.slots] at X333 l333 y333 z333 st333 hQ333
    replace l333 := Eq.symm l333
    replace y333 := Eq.symm y333
    replace z333 := Eq.symm z333
    subst l333 y333 z333
    obtain ⟨Nq333, rfl, eh333⟩ := hQ333
    have N333 := Fr.app N249 Nq333
    refine Gl.back (fun _ k => st333.trans k) ?_
    show Gl _ _ _ _ _ _ _ (T333.setTop (mkF m 209 #[.val (.int i), .val (.ref b120), .val (.ref b201), .val (.int (8 : Int32)), .val (.ref w_IS_NOT_NULL), .unset] [(.int (0 : Int32))]))
    refine Gl.back (fun _ k => XS.istore X333.here hx rfl (hb hby at_209) rfl (l' := #[.val (.int i), .val (.ref b120), .val (.ref b201), .val (.int (8 : Int32)), .val (.ref w_IS_NOT_NULL), .val (.int (0 : Int32))]) rfl k) ?_
    show Gl _ _ _ _ _ _ _ (T333.setTop (mkF m 211 #[.val (.int i), .val (.ref b120), .val (.ref b201), .val (.int (8 : Int32)), .val (.ref w_IS_NOT_NULL), .val (.int (0 : Int32))] []))
    refine Gl.back (fun _ k => XS.iload X333.here hx rfl (hb hby at_211) rfl k) ?_
    show Gl _ _ _ _ _ _ _ (T333.setTop (mkF m 213 #[.val (.int i), .val (.ref b120), .val (.ref b201), .val (.int (8 : Int32)), .val (.ref w_IS_NOT_NULL), .val (.int (0 : Int32))] [(.int (0 : Int32))]))
    refine Gl.back (fun _ k => XS.aloadN X333.here hx rfl (hb hby at_213) rfl rfl k) ?_
    show Gl _ _ _ _ _ _ _ (T333.setTop (mkF m 214 #[.val (.int i), .val (.ref b120), .val (.ref b201), .val (.int (8 : Int32)), .val (.ref w_IS_NOT_NULL), .val (.int (0 : Int32))] [(.ref b201), (.int (0 : Int32))]))
    refine Gl.back (fun _ k => XS.iloadN X333.here hx rfl (hb hby at_214) rfl k) ?_
    show Gl _ _ _ _ _ _ _ (T333.setTop (mkF m 215 #[.val (.int i), .val (.ref b120), .val (.ref b201), .val (.int (8 : Int32)), .val (.ref w_IS_NOT_NULL), .val (.int (0 : Int32))] [(.int (8 : Int32)), (.ref b201), (.int (0 : Int32))]))
    obtain ⟨cl340, Ar340, q340, Sz340, Nn340, Hs340, Gf340⟩ := id V249
    have hin340 : ¬ ((8 : Int32) < 0 ∨ cl340.slots.size ≤ ((8 : Int32)).toNatClampNeg) := inb_of Sz340 ⟨by decide, by decide⟩
    have hat340 : cl340.slots[((8 : Int32)).toNatClampNeg]? = some (.int (0 : Int32)) := Hs340.at hin340 (rfl)
    refine Gl.back (fun _ k => X333.baloadBooleans hx (j := (8 : Int32)) (v := (.int (0 : Int32))) (by rw [eh333]; exact Ar340.1) (State.isArrayOf_alike hZ.alike Ar340.2.1) Ar340.2.2 hin340 hat340 (g := (mkF m 215 #[.val (.int i), .val (.ref b120), .val (.ref b201), .val (.int (8 : Int32)), .val (.ref w_IS_NOT_NULL), .val (.int (0 : Int32))] [(.int (8 : Int32)), (.ref b201), (.int (0 : Int32))])) rfl rfl (hb hby at_215) _ k) ?_
    show Gl _ _ _ _ _ _ _ (T333.setTop (mkF m 216 #[.val (.int i), .val (.ref b120), .val (.ref b201), .val (.int (8 : Int32)), .val (.ref w_IS_NOT_NULL), .val (.int (0 : Int32))] [(.int (0 : Int32)), (.int (0 : Int32))]))
    refine Gl.back (fun _ k => XS.icmpYes X333.here hx rfl (pc0 := 216) (pc' := 221) rfl (hb hby at_216) rfl (teq (by decide : (0 : Int32) = (0 : Int32))).1 (by decide) (by decide) k) ?_
    show Gl _ _ _ _ _ _ _ (T333.setTop (mkF m 221 #[.val (.int i), .val (.ref b120), .val (.ref b201), .val (.int (8 : Int32)), .val (.ref w_IS_NOT_NULL), .val (.int (0 : Int32))] []))
    refine Gl.back (fun _ k => XS.iload X333.here hx rfl (hb hby at_221) rfl k) ?_
    show Gl _ _ _ _ _ _ _ (T333.setTop (mkF m 223 #[.val (.int i), .val (.ref b120), .val (.ref b201), .val (.int (8 : Int32)), .val (.ref w_IS_NOT_NULL), .val (.int (0 : Int32))] [(.int (0 : Int32))]))
    refine Gl.back (fun _ k => XS.ifYes X333.here hx rfl (pc0 := 223) (pc' := 257) rfl (hb hby at_223) rfl ((if0 _ _).trans (teq (by decide : (0 : Int32) = (0 : Int32))).1) (by decide) (by decide) k) ?_
    show Gl _ _ _ _ _ _ _ (T333.setTop (mkF m 257 #[.val (.int i), .val (.ref b120), .val (.ref b201), .val (.int (8 : Int32)), .val (.ref w_IS_NOT_NULL), .val (.int (0 : Int32))] []))
    refine Gl.back (fun _ k => XS.iconst X333.here hx rfl (hb hby at_257) k) ?_
    show Gl _ _ _ _ _ _ _ (T333.setTop (mkF m 258 #[.val (.int i), .val (.ref b120), .val (.ref b201), .val (.int (8 : Int32)), .val (.ref w_IS_NOT_NULL), .val (.int (0 : Int32))] [(.int (1 : Int32))]))
    exact Gl.ret X333 eh333 (v := (some (.int (1 : Int32)))) (fun h => by rw [Bd.returns] at h; cases h) Bd.notSynchronized (fun fs hr => retN X333 hx (t := .boolean) (z := (1 : Int32)) Bd.returns (by simp) (hb hby at_258) hr) ⟨N333, rfl⟩ (by decide) (by decide)
  · rw [hk250]
    show Gl _ _ _ _ _ _ _ (T249.setTop (mkF m 198 #[.val (.int i), .val (.ref b120), .val (.ref b201), .unset, .unset, .unset] [(.int (9 : Int32))]))
    refine Gl.back (fun _ k => XS.istoreN X249.here hx rfl (hb hby at_198) rfl (l' := #[.val (.int i), .val (.ref b120), .val (.ref b201), .val (.int (9 : Int32)), .unset, .unset]) rfl k) ?_
    show Gl _ _ _ _ _ _ _ (T249.setTop (mkF m 199 #[.val (.int i), .val (.ref b120), .val (.ref b201), .val (.int (9 : Int32)), .unset, .unset] []))
    refine Gl.back (fun _ k => XS.aloadN X249.here hx rfl (hb hby at_199) rfl rfl k) ?_
    show Gl _ _ _ _ _ _ _ (T249.setTop (mkF m 200 #[.val (.int i), .val (.ref b120), .val (.ref b201), .val (.int (9 : Int32)), .unset, .unset] [(.ref b120)]))
    refine Gl.back (fun _ k => XS.iloadN X249.here hx rfl (hb hby at_200) rfl k) ?_
    show Gl _ _ _ _ _ _ _ (T249.setTop (mkF m 201 #[.val (.int i), .val (.ref b120), .val (.ref b201), .val (.int (9 : Int32)), .unset, .unset] [(.int (9 : Int32)), (.ref b120)]))
    have f341 := (((((((((((((((((V200.ext E201).other W219 ne_b120_b201).other W221 ne_b120_b201).other W223 ne_b120_b201).other W225 ne_b120_b201).other W227 ne_b120_b201).other W229 ne_b120_b201).other W231 ne_b120_b201).other W233 ne_b120_b201).other W235 ne_b120_b201).other W237 ne_b120_b201).other W239 ne_b120_b201).other W241 ne_b120_b201).other W243 ne_b120_b201).other W245 ne_b120_b201).other W247 ne_b120_b201).other W249 ne_b120_b201)
    obtain ⟨cl342, Ar342, q342, Sz342, Nn342, Hs342, Gf342⟩ := id f341
    have hin342 : ¬ ((9 : Int32) < 0 ∨ cl342.slots.size ≤ ((9 : Int32)).toNatClampNeg) := inb_of Sz342 ⟨by decide, by decide⟩
    have hat342 : cl342.slots[((9 : Int32)).toNatClampNeg]? = some (.ref w_LIKE) := Hs342.at hin342 (rfl)
    refine Gl.back (fun _ k => X249.aaload hx (j := (9 : Int32)) (v := (.ref w_LIKE)) (by rw [e249]; exact Ar342.1) (State.isArrayOf_alike hZ.alike Ar342.2.1) rfl Ar342.2.2 hin342 hat342 (g := (mkF m 201 #[.val (.int i), .val (.ref b120), .val (.ref b201), .val (.int (9 : Int32)), .unset, .unset] [(.int (9 : Int32)), (.ref b120)])) rfl rfl (hb hby at_201) _ k) ?_
    show Gl _ _ _ _ _ _ _ (T249.setTop (mkF m 202 #[.val (.int i), .val (.ref b120), .val (.ref b201), .val (.int (9 : Int32)), .unset, .unset] [(.ref w_LIKE)]))
    refine Gl.back (fun _ k => XS.astore X249.here hx rfl (hb hby at_202) rfl rfl (l' := #[.val (.int i), .val (.ref b120), .val (.ref b201), .val (.int (9 : Int32)), .val (.ref w_LIKE), .unset]) rfl k) ?_
    show Gl _ _ _ _ _ _ _ (T249.setTop (mkF m 204 #[.val (.int i), .val (.ref b120), .val (.ref b201), .val (.int (9 : Int32)), .val (.ref w_LIKE), .unset] []))
    refine Gl.back (fun _ k => XS.aload X249.here hx rfl (hb hby at_204) rfl rfl k) ?_
    show Gl _ _ _ _ _ _ _ (T249.setTop (mkF m 206 #[.val (.int i), .val (.ref b120), .val (.ref b201), .val (.int (9 : Int32)), .val (.ref w_LIKE), .unset] [(.ref w_LIKE)]))
    have f344 := ((((((((((((((((((((((((f166.wr W170).wr W175).wr W180).wr W185).wr W190).wr W195).wr W200).ext E201).wr W219).wr W221).wr W223).wr W225).wr W227).wr W229).wr W231).wr W233).wr W235).wr W237).wr W239).wr W241).wr W243).wr W245).wr W247).wr W249)
    have f345 := (((((((((((((((((f211.ext E201).wr W219).wr W221).wr W223).wr W225).wr W227).wr W229).wr W231).wr W233).wr W235).wr W237).wr W239).wr W241).wr W243).wr W245).wr W247).wr W249)
    obtain ⟨cq343, kq343, q343a, q343b, q343c⟩ := isOf hZ e249 f345
    obtain ⟨_, _, ⟨T343, L343, k343, n343⟩, -, X343, ⟨Lc343, hQ343, l343, y343, z343⟩, st343⟩ := X249.virtualBack hx (y := (⟨"com/example/demi_orm/demiorm/query/Operator", "comparesText", "()Z"⟩ : MethodName)) (z := (⟨"com/example/demi_orm/demiorm/query/Operator", "comparesText", "()Z"⟩ : MethodName)) hown (mvT hZ (hw _ (List.mem_of_getElem? (i := 38) rfl))) (mvT hZ (hw _ (List.mem_of_getElem? (i := 39) rfl))) (notFace_of_selects (args := #[]) (mvT hZ (hw _ (List.mem_of_getElem? (i := 41) rfl)))) (mvT hZ (hw _ (List.mem_of_getElem? (i := 41) rfl))) (mvT hZ (hw _ (List.mem_of_getElem? (i := 40) rfl))) (by decide) (backOf (W := 0) (rm1_LIKE l Z a0 hw [] w_LIKE  h249 n0 Z249 f344) hZ (hw _ (List.mem_of_getElem? (i := 42) rfl)) (hw _ (List.mem_of_getElem? (i := 3) rfl)) (by decide) (by decide)) q343a q343c (g := (mkF m 206 #[.val (.int i), .val (.ref b120), .val (.ref b201), .val (.int (9 : Int32)), .val (.ref w_LIKE), .unset] [(.ref w_LIKE)])) rfl (by rw [hml]; rfl) (Steps.refl _) (argsL := []) (rest := []) (lenOf pd___Z rfl) rfl (by show 2 * 0 + _ ≤ _; exact Nat.le_of_eq rfl) (hb hby at_206) (fun _ _ => ⟨rfl, e249, (by decide : 2 + 0 ≤ _), (by decide : 32 + 0 ≤ _)⟩)
    dsimp only [Pt.U, Pt.locs, Pt.cells, Pt.slots] at X343 l343 y343 z343 st343 hQ343
    replace l343 := Eq.symm l343
    replace y343 := Eq.symm y343
    replace z343 := Eq.symm z343
    subst l343 y343 z343
    obtain ⟨Nq343, rfl, eh343⟩ := hQ343
    have N343 := Fr.app N249 Nq343
    refine Gl.back (fun _ k => st343.trans k) ?_
    show Gl _ _ _ _ _ _ _ (T343.setTop (mkF m 209 #[.val (.int i), .val (.ref b120), .val (.ref b201), .val (.int (9 : Int32)), .val (.ref w_LIKE), .unset] [(.int (1 : Int32))]))
    refine Gl.back (fun _ k => XS.istore X343.here hx rfl (hb hby at_209) rfl (l' := #[.val (.int i), .val (.ref b120), .val (.ref b201), .val (.int (9 : Int32)), .val (.ref w_LIKE), .val (.int (1 : Int32))]) rfl k) ?_
    show Gl _ _ _ _ _ _ _ (T343.setTop (mkF m 211 #[.val (.int i), .val (.ref b120), .val (.ref b201), .val (.int (9 : Int32)), .val (.ref w_LIKE), .val (.int (1 : Int32))] []))
    refine Gl.back (fun _ k => XS.iload X343.here hx rfl (hb hby at_211) rfl k) ?_
    show Gl _ _ _ _ _ _ _ (T343.setTop (mkF m 213 #[.val (.int i), .val (.ref b120), .val (.ref b201), .val (.int (9 : Int32)), .val (.ref w_LIKE), .val (.int (1 : Int32))] [(.int (1 : Int32))]))
    refine Gl.back (fun _ k => XS.aloadN X343.here hx rfl (hb hby at_213) rfl rfl k) ?_
    show Gl _ _ _ _ _ _ _ (T343.setTop (mkF m 214 #[.val (.int i), .val (.ref b120), .val (.ref b201), .val (.int (9 : Int32)), .val (.ref w_LIKE), .val (.int (1 : Int32))] [(.ref b201), (.int (1 : Int32))]))
    refine Gl.back (fun _ k => XS.iloadN X343.here hx rfl (hb hby at_214) rfl k) ?_
    show Gl _ _ _ _ _ _ _ (T343.setTop (mkF m 215 #[.val (.int i), .val (.ref b120), .val (.ref b201), .val (.int (9 : Int32)), .val (.ref w_LIKE), .val (.int (1 : Int32))] [(.int (9 : Int32)), (.ref b201), (.int (1 : Int32))]))
    obtain ⟨cl346, Ar346, q346, Sz346, Nn346, Hs346, Gf346⟩ := id V249
    have hin346 : ¬ ((9 : Int32) < 0 ∨ cl346.slots.size ≤ ((9 : Int32)).toNatClampNeg) := inb_of Sz346 ⟨by decide, by decide⟩
    have hat346 : cl346.slots[((9 : Int32)).toNatClampNeg]? = some (.int (1 : Int32)) := Hs346.at hin346 (rfl)
    refine Gl.back (fun _ k => X343.baloadBooleans hx (j := (9 : Int32)) (v := (.int (1 : Int32))) (by rw [eh343]; exact Ar346.1) (State.isArrayOf_alike hZ.alike Ar346.2.1) Ar346.2.2 hin346 hat346 (g := (mkF m 215 #[.val (.int i), .val (.ref b120), .val (.ref b201), .val (.int (9 : Int32)), .val (.ref w_LIKE), .val (.int (1 : Int32))] [(.int (9 : Int32)), (.ref b201), (.int (1 : Int32))])) rfl rfl (hb hby at_215) _ k) ?_
    show Gl _ _ _ _ _ _ _ (T343.setTop (mkF m 216 #[.val (.int i), .val (.ref b120), .val (.ref b201), .val (.int (9 : Int32)), .val (.ref w_LIKE), .val (.int (1 : Int32))] [(.int (1 : Int32)), (.int (1 : Int32))]))
    refine Gl.back (fun _ k => XS.icmpYes X343.here hx rfl (pc0 := 216) (pc' := 221) rfl (hb hby at_216) rfl (teq (by decide : (1 : Int32) = (1 : Int32))).1 (by decide) (by decide) k) ?_
    show Gl _ _ _ _ _ _ _ (T343.setTop (mkF m 221 #[.val (.int i), .val (.ref b120), .val (.ref b201), .val (.int (9 : Int32)), .val (.ref w_LIKE), .val (.int (1 : Int32))] []))
    refine Gl.back (fun _ k => XS.iload X343.here hx rfl (hb hby at_221) rfl k) ?_
    show Gl _ _ _ _ _ _ _ (T343.setTop (mkF m 223 #[.val (.int i), .val (.ref b120), .val (.ref b201), .val (.int (9 : Int32)), .val (.ref w_LIKE), .val (.int (1 : Int32))] [(.int (1 : Int32))]))
    refine Gl.back (fun _ k => XS.ifNo X343.here hx rfl (hb hby at_223) rfl ((if0 _ _).trans (feq (by decide : ¬ (1 : Int32) = (0 : Int32))).1) k) ?_
    show Gl _ _ _ _ _ _ _ (T343.setTop (mkF m 226 #[.val (.int i), .val (.ref b120), .val (.ref b201), .val (.int (9 : Int32)), .val (.ref w_LIKE), .val (.int (1 : Int32))] []))
    refine Gl.back (fun _ k => XS.aload X343.here hx rfl (hb hby at_226) rfl rfl k) ?_
    show Gl _ _ _ _ _ _ _ (T343.setTop (mkF m 228 #[.val (.int i), .val (.ref b120), .val (.ref b201), .val (.int (9 : Int32)), .val (.ref w_LIKE), .val (.int (1 : Int32))] [(.ref w_LIKE)]))
    have f348 := ((((((((((((((((((((((((((((((((((F_LIKE_arity.ext E120).other W125 (Or.inl ne_w_LIKE_b120)).other W130 (Or.inl ne_w_LIKE_b120)).other W135 (Or.inl ne_w_LIKE_b120)).other W140 (Or.inl ne_w_LIKE_b120)).other W145 (Or.inl ne_w_LIKE_b120)).other W150 (Or.inl ne_w_LIKE_b120)).other W155 (Or.inl ne_w_LIKE_b120)).other W160 (Or.inl ne_w_LIKE_b120)).other W165 (Or.inl ne_w_LIKE_b120)).other W170 (Or.inl ne_w_LIKE_b120)).other W175 (Or.inl ne_w_LIKE_b120)).other W180 (Or.inl ne_w_LIKE_b120)).other W185 (Or.inl ne_w_LIKE_b120)).other W190 (Or.inl ne_w_LIKE_b120)).other W195 (Or.inl ne_w_LIKE_b120)).other W200 (Or.inl ne_w_LIKE_b120)).ext E201).other W219 (Or.inl ne_w_LIKE_b201)).other W221 (Or.inl ne_w_LIKE_b201)).other W223 (Or.inl ne_w_LIKE_b201)).other W225 (Or.inl ne_w_LIKE_b201)).other W227 (Or.inl ne_w_LIKE_b201)).other W229 (Or.inl ne_w_LIKE_b201)).other W231 (Or.inl ne_w_LIKE_b201)).other W233 (Or.inl ne_w_LIKE_b201)).other W235 (Or.inl ne_w_LIKE_b201)).other W237 (Or.inl ne_w_LIKE_b201)).other W239 (Or.inl ne_w_LIKE_b201)).other W241 (Or.inl ne_w_LIKE_b201)).other W243 (Or.inl ne_w_LIKE_b201)).other W245 (Or.inl ne_w_LIKE_b201)).other W247 (Or.inl ne_w_LIKE_b201)).other W249 (Or.inl ne_w_LIKE_b201))
    obtain ⟨cq347, kq347, q347a, q347b, q347c⟩ := isOf hZ eh343 f345
    obtain ⟨_, _, ⟨T347, L347, k347, n347⟩, -, X347, ⟨Lc347, hQ347, l347, y347, z347⟩, st347⟩ := X343.virtualBack hx (y := (⟨"com/example/demi_orm/demiorm/query/Operator", "arity", "()I"⟩ : MethodName)) (z := (⟨"com/example/demi_orm/demiorm/query/Operator", "arity", "()I"⟩ : MethodName)) hown (mvT hZ (hw _ (List.mem_of_getElem? (i := 48) rfl))) (mvT hZ (hw _ (List.mem_of_getElem? (i := 49) rfl))) (notFace_of_selects (args := #[]) (mvT hZ (hw _ (List.mem_of_getElem? (i := 51) rfl)))) (mvT hZ (hw _ (List.mem_of_getElem? (i := 51) rfl))) (mvT hZ (hw _ (List.mem_of_getElem? (i := 50) rfl))) (by decide) (backOf (W := 0) (rm2 l Z a0 hw [] w_LIKE (1 : Int32) h249 n0 Z249 f348) hZ (hw _ (List.mem_of_getElem? (i := 52) rfl)) (hw _ (List.mem_of_getElem? (i := 3) rfl)) (by decide) (by decide)) q347a q347c (g := (mkF m 228 #[.val (.int i), .val (.ref b120), .val (.ref b201), .val (.int (9 : Int32)), .val (.ref w_LIKE), .val (.int (1 : Int32))] [(.ref w_LIKE)])) rfl (by rw [hml]; rfl) (Steps.refl _) (argsL := []) (rest := []) (lenOf pd___I rfl) rfl (by show 2 * 0 + _ ≤ _; exact Nat.le_of_eq rfl) (hb hby at_228) (fun _ _ => ⟨rfl, eh343, (by decide : 2 + 0 ≤ _), (by decide : 32 + 0 ≤ _)⟩)
    dsimp only [Pt.U, Pt.locs, Pt.cells, Pt.slots] at X347 l347 y347 z347 st347 hQ347
    replace l347 := Eq.symm l347
    replace y347 := Eq.symm y347
    replace z347 := Eq.symm z347
    subst l347 y347 z347
    obtain ⟨Nq347, rfl, eh347⟩ := hQ347
    have N347 := Fr.app N343 Nq347
    refine Gl.back (fun _ k => st347.trans k) ?_
    show Gl _ _ _ _ _ _ _ (T347.setTop (mkF m 231 #[.val (.int i), .val (.ref b120), .val (.ref b201), .val (.int (9 : Int32)), .val (.ref w_LIKE), .val (.int (1 : Int32))] [(.int (1 : Int32))]))
    refine Gl.back (fun _ k => XS.iconst X347.here hx rfl (hb hby at_231) k) ?_
    show Gl _ _ _ _ _ _ _ (T347.setTop (mkF m 232 #[.val (.int i), .val (.ref b120), .val (.ref b201), .val (.int (9 : Int32)), .val (.ref w_LIKE), .val (.int (1 : Int32))] [(.int (1 : Int32)), (.int (1 : Int32))]))
    refine Gl.back (fun _ k => XS.icmpNo X347.here hx rfl (hb hby at_232) rfl (teq (by decide : (1 : Int32) = (1 : Int32))).2 k) ?_
    show Gl _ _ _ _ _ _ _ (T347.setTop (mkF m 235 #[.val (.int i), .val (.ref b120), .val (.ref b201), .val (.int (9 : Int32)), .val (.ref w_LIKE), .val (.int (1 : Int32))] []))
    refine Gl.back (fun _ k => XS.aload X347.here hx rfl (hb hby at_235) rfl rfl k) ?_
    show Gl _ _ _ _ _ _ _ (T347.setTop (mkF m 237 #[.val (.int i), .val (.ref b120), .val (.ref b201), .val (.int (9 : Int32)), .val (.ref w_LIKE), .val (.int (1 : Int32))] [(.ref w_LIKE)]))
    have f350 := (((((((((((((((((((f191.wr W195).wr W200).ext E201).wr W219).wr W221).wr W223).wr W225).wr W227).wr W229).wr W231).wr W233).wr W235).wr W237).wr W239).wr W241).wr W243).wr W245).wr W247).wr W249)
    have f351 := ((((((((((((((((((f196.wr W200).ext E201).wr W219).wr W221).wr W223).wr W225).wr W227).wr W229).wr W231).wr W233).wr W235).wr W237).wr W239).wr W241).wr W243).wr W245).wr W247).wr W249)
    obtain ⟨cq349, kq349, q349a, q349b, q349c⟩ := isOf hZ eh347 f345
    obtain ⟨_, _, ⟨T349, L349, k349, n349⟩, -, X349, ⟨Lc349, hQ349, l349, y349, z349⟩, st349⟩ := X347.virtualBack hx (y := (⟨"com/example/demi_orm/demiorm/query/Operator", "takesCollection", "()Z"⟩ : MethodName)) (z := (⟨"com/example/demi_orm/demiorm/query/Operator", "takesCollection", "()Z"⟩ : MethodName)) hown (mvT hZ (hw _ (List.mem_of_getElem? (i := 55) rfl))) (mvT hZ (hw _ (List.mem_of_getElem? (i := 56) rfl))) (notFace_of_selects (args := #[]) (mvT hZ (hw _ (List.mem_of_getElem? (i := 58) rfl)))) (mvT hZ (hw _ (List.mem_of_getElem? (i := 58) rfl))) (mvT hZ (hw _ (List.mem_of_getElem? (i := 57) rfl))) (by decide) (backOf (W := 0) (rm3_no l Z a0 hw [] w_LIKE w_IN w_NOT_IN h249 n0 Z249 f350 f351 (Fld.ne F_LIKE_ordinal F_IN_ordinal (by decide)) (Fld.ne F_LIKE_ordinal F_NOT_IN_ordinal (by decide))) hZ (hw _ (List.mem_of_getElem? (i := 59) rfl)) (hw _ (List.mem_of_getElem? (i := 3) rfl)) (by decide) (by decide)) q349a q349c (g := (mkF m 237 #[.val (.int i), .val (.ref b120), .val (.ref b201), .val (.int (9 : Int32)), .val (.ref w_LIKE), .val (.int (1 : Int32))] [(.ref w_LIKE)])) rfl (by rw [hml]; rfl) (Steps.refl _) (argsL := []) (rest := []) (lenOf pd___Z rfl) rfl (by show 2 * 0 + _ ≤ _; exact Nat.le_of_eq rfl) (hb hby at_237) (fun _ _ => ⟨rfl, eh347, (by decide : 2 + 0 ≤ _), (by decide : 32 + 0 ≤ _)⟩)
    dsimp only [Pt.U, Pt.locs, Pt.cells, Pt.slots] at X349 l349 y349 z349 st349 hQ349
    replace l349 := Eq.symm l349
    replace y349 := Eq.symm y349
    replace z349 := Eq.symm z349
    subst l349 y349 z349
    obtain ⟨Nq349, rfl, eh349⟩ := hQ349
    have N349 := Fr.app N347 Nq349
    refine Gl.back (fun _ k => st349.trans k) ?_
    show Gl _ _ _ _ _ _ _ (T349.setTop (mkF m 240 #[.val (.int i), .val (.ref b120), .val (.ref b201), .val (.int (9 : Int32)), .val (.ref w_LIKE), .val (.int (1 : Int32))] [(.int (0 : Int32))]))
    refine Gl.back (fun _ k => XS.ifNo X349.here hx rfl (hb hby at_240) rfl ((if0 _ _).trans (teq (by decide : (0 : Int32) = (0 : Int32))).2) k) ?_
    show Gl _ _ _ _ _ _ _ (T349.setTop (mkF m 243 #[.val (.int i), .val (.ref b120), .val (.ref b201), .val (.int (9 : Int32)), .val (.ref w_LIKE), .val (.int (1 : Int32))] []))
    refine Gl.back (fun _ k => XS.aload X349.here hx rfl (hb hby at_243) rfl rfl k) ?_
    show Gl _ _ _ _ _ _ _ (T349.setTop (mkF m 245 #[.val (.int i), .val (.ref b120), .val (.ref b201), .val (.int (9 : Int32)), .val (.ref w_LIKE), .val (.int (1 : Int32))] [(.ref w_LIKE)]))
    have f353 := (((((((((((((((((((((((((((((((((f121.wr W125).wr W130).wr W135).wr W140).wr W145).wr W150).wr W155).wr W160).wr W165).wr W170).wr W175).wr W180).wr W185).wr W190).wr W195).wr W200).ext E201).wr W219).wr W221).wr W223).wr W225).wr W227).wr W229).wr W231).wr W233).wr W235).wr W237).wr W239).wr W241).wr W243).wr W245).wr W247).wr W249)
    have f354 := ((((((((((((((((((((((((((((((((f126.wr W130).wr W135).wr W140).wr W145).wr W150).wr W155).wr W160).wr W165).wr W170).wr W175).wr W180).wr W185).wr W190).wr W195).wr W200).ext E201).wr W219).wr W221).wr W223).wr W225).wr W227).wr W229).wr W231).wr W233).wr W235).wr W237).wr W239).wr W241).wr W243).wr W245).wr W247).wr W249)
    obtain ⟨cq352, kq352, q352a, q352b, q352c⟩ := isOf hZ eh349 f345
    obtain ⟨_, _, ⟨T352, L352, k352, n352⟩, -, X352, ⟨Lc352, hQ352, l352, y352, z352⟩, st352⟩ := X349.virtualBack hx (y := (⟨"com/example/demi_orm/demiorm/query/Operator", "takesNull", "()Z"⟩ : MethodName)) (z := (⟨"com/example/demi_orm/demiorm/query/Operator", "takesNull", "()Z"⟩ : MethodName)) hown (mvT hZ (hw _ (List.mem_of_getElem? (i := 62) rfl))) (mvT hZ (hw _ (List.mem_of_getElem? (i := 63) rfl))) (notFace_of_selects (args := #[]) (mvT hZ (hw _ (List.mem_of_getElem? (i := 65) rfl)))) (mvT hZ (hw _ (List.mem_of_getElem? (i := 65) rfl))) (mvT hZ (hw _ (List.mem_of_getElem? (i := 64) rfl))) (by decide) (backOf (W := 0) (rm4_no l Z a0 hw [] w_LIKE w_EQUALS w_NOT_EQUALS h249 n0 Z249 f353 f354 (Fld.ne F_LIKE_ordinal F_EQUALS_ordinal (by decide)) (Fld.ne F_LIKE_ordinal F_NOT_EQUALS_ordinal (by decide))) hZ (hw _ (List.mem_of_getElem? (i := 66) rfl)) (hw _ (List.mem_of_getElem? (i := 3) rfl)) (by decide) (by decide)) q352a q352c (g := (mkF m 245 #[.val (.int i), .val (.ref b120), .val (.ref b201), .val (.int (9 : Int32)), .val (.ref w_LIKE), .val (.int (1 : Int32))] [(.ref w_LIKE)])) rfl (by rw [hml]; rfl) (Steps.refl _) (argsL := []) (rest := []) (lenOf pd___Z rfl) rfl (by show 2 * 0 + _ ≤ _; exact Nat.le_of_eq rfl) (hb hby at_245) (fun _ _ => ⟨rfl, eh349, (by decide : 2 + 0 ≤ _), (by decide : 32 + 0 ≤ _)⟩)
    dsimp only [Pt.U, Pt.locs, Pt.cells, Pt.slots] at X352 l352 y352 z352 st352 hQ352
    replace l352 := Eq.symm l352
    replace y352 := Eq.symm y352
    replace z352 := Eq.symm z352
    subst l352 y352 z352
    obtain ⟨Nq352, rfl, eh352⟩ := hQ352
    have N352 := Fr.app N349 Nq352
    refine Gl.back (fun _ k => st352.trans k) ?_
    show Gl _ _ _ _ _ _ _ (T352.setTop (mkF m 248 #[.val (.int i), .val (.ref b120), .val (.ref b201), .val (.int (9 : Int32)), .val (.ref w_LIKE), .val (.int (1 : Int32))] [(.int (0 : Int32))]))
    refine Gl.back (fun _ k => XS.ifNo X352.here hx rfl (hb hby at_248) rfl ((if0 _ _).trans (teq (by decide : (0 : Int32) = (0 : Int32))).2) k) ?_
    show Gl _ _ _ _ _ _ _ (T352.setTop (mkF m 251 #[.val (.int i), .val (.ref b120), .val (.ref b201), .val (.int (9 : Int32)), .val (.ref w_LIKE), .val (.int (1 : Int32))] []))
    refine Gl.back (fun _ k => XS.iconst X352.here hx rfl (hb hby at_251) k) ?_
    show Gl _ _ _ _ _ _ _ (T352.setTop (mkF m 252 #[.val (.int i), .val (.ref b120), .val (.ref b201), .val (.int (9 : Int32)), .val (.ref w_LIKE), .val (.int (1 : Int32))] [(.int (1 : Int32))]))
    refine Gl.back (fun _ k => XS.goto X352.here hx rfl (pc0 := 252) (pc' := 256) rfl (hb hby at_252) (by decide) (by decide) k) ?_
    show Gl _ _ _ _ _ _ _ (T352.setTop (mkF m 256 #[.val (.int i), .val (.ref b120), .val (.ref b201), .val (.int (9 : Int32)), .val (.ref w_LIKE), .val (.int (1 : Int32))] [(.int (1 : Int32))]))
    exact Gl.ret X352 eh352 (v := (some (.int (1 : Int32)))) (fun h => by rw [Bd.returns] at h; cases h) Bd.notSynchronized (fun fs hr => retN X352 hx (t := .boolean) (z := (1 : Int32)) Bd.returns (by simp) (hb hby at_256) hr) ⟨N352, rfl⟩ (by decide) (by decide)
  · rw [hk250]
    show Gl _ _ _ _ _ _ _ (T249.setTop (mkF m 198 #[.val (.int i), .val (.ref b120), .val (.ref b201), .unset, .unset, .unset] [(.int (10 : Int32))]))
    refine Gl.back (fun _ k => XS.istoreN X249.here hx rfl (hb hby at_198) rfl (l' := #[.val (.int i), .val (.ref b120), .val (.ref b201), .val (.int (10 : Int32)), .unset, .unset]) rfl k) ?_
    show Gl _ _ _ _ _ _ _ (T249.setTop (mkF m 199 #[.val (.int i), .val (.ref b120), .val (.ref b201), .val (.int (10 : Int32)), .unset, .unset] []))
    refine Gl.back (fun _ k => XS.aloadN X249.here hx rfl (hb hby at_199) rfl rfl k) ?_
    show Gl _ _ _ _ _ _ _ (T249.setTop (mkF m 200 #[.val (.int i), .val (.ref b120), .val (.ref b201), .val (.int (10 : Int32)), .unset, .unset] [(.ref b120)]))
    refine Gl.back (fun _ k => XS.iloadN X249.here hx rfl (hb hby at_200) rfl k) ?_
    show Gl _ _ _ _ _ _ _ (T249.setTop (mkF m 201 #[.val (.int i), .val (.ref b120), .val (.ref b201), .val (.int (10 : Int32)), .unset, .unset] [(.int (10 : Int32)), (.ref b120)]))
    have f355 := (((((((((((((((((V200.ext E201).other W219 ne_b120_b201).other W221 ne_b120_b201).other W223 ne_b120_b201).other W225 ne_b120_b201).other W227 ne_b120_b201).other W229 ne_b120_b201).other W231 ne_b120_b201).other W233 ne_b120_b201).other W235 ne_b120_b201).other W237 ne_b120_b201).other W239 ne_b120_b201).other W241 ne_b120_b201).other W243 ne_b120_b201).other W245 ne_b120_b201).other W247 ne_b120_b201).other W249 ne_b120_b201)
    obtain ⟨cl356, Ar356, q356, Sz356, Nn356, Hs356, Gf356⟩ := id f355
    have hin356 : ¬ ((10 : Int32) < 0 ∨ cl356.slots.size ≤ ((10 : Int32)).toNatClampNeg) := inb_of Sz356 ⟨by decide, by decide⟩
    have hat356 : cl356.slots[((10 : Int32)).toNatClampNeg]? = some (.ref w_NOT_LIKE) := Hs356.at hin356 (rfl)
    refine Gl.back (fun _ k => X249.aaload hx (j := (10 : Int32)) (v := (.ref w_NOT_LIKE)) (by rw [e249]; exact Ar356.1) (State.isArrayOf_alike hZ.alike Ar356.2.1) rfl Ar356.2.2 hin356 hat356 (g := (mkF m 201 #[.val (.int i), .val (.ref b120), .val (.ref b201), .val (.int (10 : Int32)), .unset, .unset] [(.int (10 : Int32)), (.ref b120)])) rfl rfl (hb hby at_201) _ k) ?_
    show Gl _ _ _ _ _ _ _ (T249.setTop (mkF m 202 #[.val (.int i), .val (.ref b120), .val (.ref b201), .val (.int (10 : Int32)), .unset, .unset] [(.ref w_NOT_LIKE)]))
    refine Gl.back (fun _ k => XS.astore X249.here hx rfl (hb hby at_202) rfl rfl (l' := #[.val (.int i), .val (.ref b120), .val (.ref b201), .val (.int (10 : Int32)), .val (.ref w_NOT_LIKE), .unset]) rfl k) ?_
    show Gl _ _ _ _ _ _ _ (T249.setTop (mkF m 204 #[.val (.int i), .val (.ref b120), .val (.ref b201), .val (.int (10 : Int32)), .val (.ref w_NOT_LIKE), .unset] []))
    refine Gl.back (fun _ k => XS.aload X249.here hx rfl (hb hby at_204) rfl rfl k) ?_
    show Gl _ _ _ _ _ _ _ (T249.setTop (mkF m 206 #[.val (.int i), .val (.ref b120), .val (.ref b201), .val (.int (10 : Int32)), .val (.ref w_NOT_LIKE), .unset] [(.ref w_NOT_LIKE)]))
    have f358 := ((((((((((((((((((((((((f166.wr W170).wr W175).wr W180).wr W185).wr W190).wr W195).wr W200).ext E201).wr W219).wr W221).wr W223).wr W225).wr W227).wr W229).wr W231).wr W233).wr W235).wr W237).wr W239).wr W241).wr W243).wr W245).wr W247).wr W249)
    have f359 := (((((((((((((((((((((((f171.wr W175).wr W180).wr W185).wr W190).wr W195).wr W200).ext E201).wr W219).wr W221).wr W223).wr W225).wr W227).wr W229).wr W231).wr W233).wr W235).wr W237).wr W239).wr W241).wr W243).wr W245).wr W247).wr W249)
    have f360 := (((((((((((((((((f212.ext E201).wr W219).wr W221).wr W223).wr W225).wr W227).wr W229).wr W231).wr W233).wr W235).wr W237).wr W239).wr W241).wr W243).wr W245).wr W247).wr W249)
    obtain ⟨cq357, kq357, q357a, q357b, q357c⟩ := isOf hZ e249 f360
    obtain ⟨_, _, ⟨T357, L357, k357, n357⟩, -, X357, ⟨Lc357, hQ357, l357, y357, z357⟩, st357⟩ := X249.virtualBack hx (y := (⟨"com/example/demi_orm/demiorm/query/Operator", "comparesText", "()Z"⟩ : MethodName)) (z := (⟨"com/example/demi_orm/demiorm/query/Operator", "comparesText", "()Z"⟩ : MethodName)) hown (mvT hZ (hw _ (List.mem_of_getElem? (i := 38) rfl))) (mvT hZ (hw _ (List.mem_of_getElem? (i := 39) rfl))) (notFace_of_selects (args := #[]) (mvT hZ (hw _ (List.mem_of_getElem? (i := 41) rfl)))) (mvT hZ (hw _ (List.mem_of_getElem? (i := 41) rfl))) (mvT hZ (hw _ (List.mem_of_getElem? (i := 40) rfl))) (by decide) (backOf (W := 0) (rm1_NOT_LIKE l Z a0 hw [] w_NOT_LIKE w_LIKE h249 n0 Z249 f358 f359 (Fld.ne F_NOT_LIKE_ordinal F_LIKE_ordinal (by decide))) hZ (hw _ (List.mem_of_getElem? (i := 42) rfl)) (hw _ (List.mem_of_getElem? (i := 3) rfl)) (by decide) (by decide)) q357a q357c (g := (mkF m 206 #[.val (.int i), .val (.ref b120), .val (.ref b201), .val (.int (10 : Int32)), .val (.ref w_NOT_LIKE), .unset] [(.ref w_NOT_LIKE)])) rfl (by rw [hml]; rfl) (Steps.refl _) (argsL := []) (rest := []) (lenOf pd___Z rfl) rfl (by show 2 * 0 + _ ≤ _; exact Nat.le_of_eq rfl) (hb hby at_206) (fun _ _ => ⟨rfl, e249, (by decide : 2 + 0 ≤ _), (by decide : 32 + 0 ≤ _)⟩)
    dsimp only [Pt.U, Pt.locs, Pt.cells, Pt.slots] at X357 l357 y357 z357 st357 hQ357
    replace l357 := Eq.symm l357
    replace y357 := Eq.symm y357
    replace z357 := Eq.symm z357
    subst l357 y357 z357
    obtain ⟨Nq357, rfl, eh357⟩ := hQ357
    have N357 := Fr.app N249 Nq357
    refine Gl.back (fun _ k => st357.trans k) ?_
    show Gl _ _ _ _ _ _ _ (T357.setTop (mkF m 209 #[.val (.int i), .val (.ref b120), .val (.ref b201), .val (.int (10 : Int32)), .val (.ref w_NOT_LIKE), .unset] [(.int (1 : Int32))]))
    refine Gl.back (fun _ k => XS.istore X357.here hx rfl (hb hby at_209) rfl (l' := #[.val (.int i), .val (.ref b120), .val (.ref b201), .val (.int (10 : Int32)), .val (.ref w_NOT_LIKE), .val (.int (1 : Int32))]) rfl k) ?_
    show Gl _ _ _ _ _ _ _ (T357.setTop (mkF m 211 #[.val (.int i), .val (.ref b120), .val (.ref b201), .val (.int (10 : Int32)), .val (.ref w_NOT_LIKE), .val (.int (1 : Int32))] []))
    refine Gl.back (fun _ k => XS.iload X357.here hx rfl (hb hby at_211) rfl k) ?_
    show Gl _ _ _ _ _ _ _ (T357.setTop (mkF m 213 #[.val (.int i), .val (.ref b120), .val (.ref b201), .val (.int (10 : Int32)), .val (.ref w_NOT_LIKE), .val (.int (1 : Int32))] [(.int (1 : Int32))]))
    refine Gl.back (fun _ k => XS.aloadN X357.here hx rfl (hb hby at_213) rfl rfl k) ?_
    show Gl _ _ _ _ _ _ _ (T357.setTop (mkF m 214 #[.val (.int i), .val (.ref b120), .val (.ref b201), .val (.int (10 : Int32)), .val (.ref w_NOT_LIKE), .val (.int (1 : Int32))] [(.ref b201), (.int (1 : Int32))]))
    refine Gl.back (fun _ k => XS.iloadN X357.here hx rfl (hb hby at_214) rfl k) ?_
    show Gl _ _ _ _ _ _ _ (T357.setTop (mkF m 215 #[.val (.int i), .val (.ref b120), .val (.ref b201), .val (.int (10 : Int32)), .val (.ref w_NOT_LIKE), .val (.int (1 : Int32))] [(.int (10 : Int32)), (.ref b201), (.int (1 : Int32))]))
    obtain ⟨cl361, Ar361, q361, Sz361, Nn361, Hs361, Gf361⟩ := id V249
    have hin361 : ¬ ((10 : Int32) < 0 ∨ cl361.slots.size ≤ ((10 : Int32)).toNatClampNeg) := inb_of Sz361 ⟨by decide, by decide⟩
    have hat361 : cl361.slots[((10 : Int32)).toNatClampNeg]? = some (.int (1 : Int32)) := Hs361.at hin361 (rfl)
    refine Gl.back (fun _ k => X357.baloadBooleans hx (j := (10 : Int32)) (v := (.int (1 : Int32))) (by rw [eh357]; exact Ar361.1) (State.isArrayOf_alike hZ.alike Ar361.2.1) Ar361.2.2 hin361 hat361 (g := (mkF m 215 #[.val (.int i), .val (.ref b120), .val (.ref b201), .val (.int (10 : Int32)), .val (.ref w_NOT_LIKE), .val (.int (1 : Int32))] [(.int (10 : Int32)), (.ref b201), (.int (1 : Int32))])) rfl rfl (hb hby at_215) _ k) ?_
    show Gl _ _ _ _ _ _ _ (T357.setTop (mkF m 216 #[.val (.int i), .val (.ref b120), .val (.ref b201), .val (.int (10 : Int32)), .val (.ref w_NOT_LIKE), .val (.int (1 : Int32))] [(.int (1 : Int32)), (.int (1 : Int32))]))
    refine Gl.back (fun _ k => XS.icmpYes X357.here hx rfl (pc0 := 216) (pc' := 221) rfl (hb hby at_216) rfl (teq (by decide : (1 : Int32) = (1 : Int32))).1 (by decide) (by decide) k) ?_
    show Gl _ _ _ _ _ _ _ (T357.setTop (mkF m 221 #[.val (.int i), .val (.ref b120), .val (.ref b201), .val (.int (10 : Int32)), .val (.ref w_NOT_LIKE), .val (.int (1 : Int32))] []))
    refine Gl.back (fun _ k => XS.iload X357.here hx rfl (hb hby at_221) rfl k) ?_
    show Gl _ _ _ _ _ _ _ (T357.setTop (mkF m 223 #[.val (.int i), .val (.ref b120), .val (.ref b201), .val (.int (10 : Int32)), .val (.ref w_NOT_LIKE), .val (.int (1 : Int32))] [(.int (1 : Int32))]))
    refine Gl.back (fun _ k => XS.ifNo X357.here hx rfl (hb hby at_223) rfl ((if0 _ _).trans (feq (by decide : ¬ (1 : Int32) = (0 : Int32))).1) k) ?_
    show Gl _ _ _ _ _ _ _ (T357.setTop (mkF m 226 #[.val (.int i), .val (.ref b120), .val (.ref b201), .val (.int (10 : Int32)), .val (.ref w_NOT_LIKE), .val (.int (1 : Int32))] []))
    refine Gl.back (fun _ k => XS.aload X357.here hx rfl (hb hby at_226) rfl rfl k) ?_
    show Gl _ _ _ _ _ _ _ (T357.setTop (mkF m 228 #[.val (.int i), .val (.ref b120), .val (.ref b201), .val (.int (10 : Int32)), .val (.ref w_NOT_LIKE), .val (.int (1 : Int32))] [(.ref w_NOT_LIKE)]))
    have f363 := ((((((((((((((((((((((((((((((((((F_NOT_LIKE_arity.ext E120).other W125 (Or.inl ne_w_NOT_LIKE_b120)).other W130 (Or.inl ne_w_NOT_LIKE_b120)).other W135 (Or.inl ne_w_NOT_LIKE_b120)).other W140 (Or.inl ne_w_NOT_LIKE_b120)).other W145 (Or.inl ne_w_NOT_LIKE_b120)).other W150 (Or.inl ne_w_NOT_LIKE_b120)).other W155 (Or.inl ne_w_NOT_LIKE_b120)).other W160 (Or.inl ne_w_NOT_LIKE_b120)).other W165 (Or.inl ne_w_NOT_LIKE_b120)).other W170 (Or.inl ne_w_NOT_LIKE_b120)).other W175 (Or.inl ne_w_NOT_LIKE_b120)).other W180 (Or.inl ne_w_NOT_LIKE_b120)).other W185 (Or.inl ne_w_NOT_LIKE_b120)).other W190 (Or.inl ne_w_NOT_LIKE_b120)).other W195 (Or.inl ne_w_NOT_LIKE_b120)).other W200 (Or.inl ne_w_NOT_LIKE_b120)).ext E201).other W219 (Or.inl ne_w_NOT_LIKE_b201)).other W221 (Or.inl ne_w_NOT_LIKE_b201)).other W223 (Or.inl ne_w_NOT_LIKE_b201)).other W225 (Or.inl ne_w_NOT_LIKE_b201)).other W227 (Or.inl ne_w_NOT_LIKE_b201)).other W229 (Or.inl ne_w_NOT_LIKE_b201)).other W231 (Or.inl ne_w_NOT_LIKE_b201)).other W233 (Or.inl ne_w_NOT_LIKE_b201)).other W235 (Or.inl ne_w_NOT_LIKE_b201)).other W237 (Or.inl ne_w_NOT_LIKE_b201)).other W239 (Or.inl ne_w_NOT_LIKE_b201)).other W241 (Or.inl ne_w_NOT_LIKE_b201)).other W243 (Or.inl ne_w_NOT_LIKE_b201)).other W245 (Or.inl ne_w_NOT_LIKE_b201)).other W247 (Or.inl ne_w_NOT_LIKE_b201)).other W249 (Or.inl ne_w_NOT_LIKE_b201))
    obtain ⟨cq362, kq362, q362a, q362b, q362c⟩ := isOf hZ eh357 f360
    obtain ⟨_, _, ⟨T362, L362, k362, n362⟩, -, X362, ⟨Lc362, hQ362, l362, y362, z362⟩, st362⟩ := X357.virtualBack hx (y := (⟨"com/example/demi_orm/demiorm/query/Operator", "arity", "()I"⟩ : MethodName)) (z := (⟨"com/example/demi_orm/demiorm/query/Operator", "arity", "()I"⟩ : MethodName)) hown (mvT hZ (hw _ (List.mem_of_getElem? (i := 48) rfl))) (mvT hZ (hw _ (List.mem_of_getElem? (i := 49) rfl))) (notFace_of_selects (args := #[]) (mvT hZ (hw _ (List.mem_of_getElem? (i := 51) rfl)))) (mvT hZ (hw _ (List.mem_of_getElem? (i := 51) rfl))) (mvT hZ (hw _ (List.mem_of_getElem? (i := 50) rfl))) (by decide) (backOf (W := 0) (rm2 l Z a0 hw [] w_NOT_LIKE (1 : Int32) h249 n0 Z249 f363) hZ (hw _ (List.mem_of_getElem? (i := 52) rfl)) (hw _ (List.mem_of_getElem? (i := 3) rfl)) (by decide) (by decide)) q362a q362c (g := (mkF m 228 #[.val (.int i), .val (.ref b120), .val (.ref b201), .val (.int (10 : Int32)), .val (.ref w_NOT_LIKE), .val (.int (1 : Int32))] [(.ref w_NOT_LIKE)])) rfl (by rw [hml]; rfl) (Steps.refl _) (argsL := []) (rest := []) (lenOf pd___I rfl) rfl (by show 2 * 0 + _ ≤ _; exact Nat.le_of_eq rfl) (hb hby at_228) (fun _ _ => ⟨rfl, eh357, (by decide : 2 + 0 ≤ _), (by decide : 32 + 0 ≤ _)⟩)
    dsimp only [Pt.U, Pt.locs, Pt.cells, Pt.slots] at X362 l362 y362 z362 st362 hQ362
    replace l362 := Eq.symm l362
    replace y362 := Eq.symm y362
    replace z362 := Eq.symm z362
    subst l362 y362 z362
    obtain ⟨Nq362, rfl, eh362⟩ := hQ362
    have N362 := Fr.app N357 Nq362
    refine Gl.back (fun _ k => st362.trans k) ?_
    show Gl _ _ _ _ _ _ _ (T362.setTop (mkF m 231 #[.val (.int i), .val (.ref b120), .val (.ref b201), .val (.int (10 : Int32)), .val (.ref w_NOT_LIKE), .val (.int (1 : Int32))] [(.int (1 : Int32))]))
    refine Gl.back (fun _ k => XS.iconst X362.here hx rfl (hb hby at_231) k) ?_
    show Gl _ _ _ _ _ _ _ (T362.setTop (mkF m 232 #[.val (.int i), .val (.ref b120), .val (.ref b201), .val (.int (10 : Int32)), .val (.ref w_NOT_LIKE), .val (.int (1 : Int32))] [(.int (1 : Int32)), (.int (1 : Int32))]))
    refine Gl.back (fun _ k => XS.icmpNo X362.here hx rfl (hb hby at_232) rfl (teq (by decide : (1 : Int32) = (1 : Int32))).2 k) ?_
    show Gl _ _ _ _ _ _ _ (T362.setTop (mkF m 235 #[.val (.int i), .val (.ref b120), .val (.ref b201), .val (.int (10 : Int32)), .val (.ref w_NOT_LIKE), .val (.int (1 : Int32))] []))
    refine Gl.back (fun _ k => XS.aload X362.here hx rfl (hb hby at_235) rfl rfl k) ?_
    show Gl _ _ _ _ _ _ _ (T362.setTop (mkF m 237 #[.val (.int i), .val (.ref b120), .val (.ref b201), .val (.int (10 : Int32)), .val (.ref w_NOT_LIKE), .val (.int (1 : Int32))] [(.ref w_NOT_LIKE)]))
    have f365 := (((((((((((((((((((f191.wr W195).wr W200).ext E201).wr W219).wr W221).wr W223).wr W225).wr W227).wr W229).wr W231).wr W233).wr W235).wr W237).wr W239).wr W241).wr W243).wr W245).wr W247).wr W249)
    have f366 := ((((((((((((((((((f196.wr W200).ext E201).wr W219).wr W221).wr W223).wr W225).wr W227).wr W229).wr W231).wr W233).wr W235).wr W237).wr W239).wr W241).wr W243).wr W245).wr W247).wr W249)
    obtain ⟨cq364, kq364, q364a, q364b, q364c⟩ := isOf hZ eh362 f360
    obtain ⟨_, _, ⟨T364, L364, k364, n364⟩, -, X364, ⟨Lc364, hQ364, l364, y364, z364⟩, st364⟩ := X362.virtualBack hx (y := (⟨"com/example/demi_orm/demiorm/query/Operator", "takesCollection", "()Z"⟩ : MethodName)) (z := (⟨"com/example/demi_orm/demiorm/query/Operator", "takesCollection", "()Z"⟩ : MethodName)) hown (mvT hZ (hw _ (List.mem_of_getElem? (i := 55) rfl))) (mvT hZ (hw _ (List.mem_of_getElem? (i := 56) rfl))) (notFace_of_selects (args := #[]) (mvT hZ (hw _ (List.mem_of_getElem? (i := 58) rfl)))) (mvT hZ (hw _ (List.mem_of_getElem? (i := 58) rfl))) (mvT hZ (hw _ (List.mem_of_getElem? (i := 57) rfl))) (by decide) (backOf (W := 0) (rm3_no l Z a0 hw [] w_NOT_LIKE w_IN w_NOT_IN h249 n0 Z249 f365 f366 (Fld.ne F_NOT_LIKE_ordinal F_IN_ordinal (by decide)) (Fld.ne F_NOT_LIKE_ordinal F_NOT_IN_ordinal (by decide))) hZ (hw _ (List.mem_of_getElem? (i := 59) rfl)) (hw _ (List.mem_of_getElem? (i := 3) rfl)) (by decide) (by decide)) q364a q364c (g := (mkF m 237 #[.val (.int i), .val (.ref b120), .val (.ref b201), .val (.int (10 : Int32)), .val (.ref w_NOT_LIKE), .val (.int (1 : Int32))] [(.ref w_NOT_LIKE)])) rfl (by rw [hml]; rfl) (Steps.refl _) (argsL := []) (rest := []) (lenOf pd___Z rfl) rfl (by show 2 * 0 + _ ≤ _; exact Nat.le_of_eq rfl) (hb hby at_237) (fun _ _ => ⟨rfl, eh362, (by decide : 2 + 0 ≤ _), (by decide : 32 + 0 ≤ _)⟩)
    dsimp only [Pt.U, Pt.locs, Pt.cells, Pt.slots] at X364 l364 y364 z364 st364 hQ364
    replace l364 := Eq.symm l364
    replace y364 := Eq.symm y364
    replace z364 := Eq.symm z364
    subst l364 y364 z364
    obtain ⟨Nq364, rfl, eh364⟩ := hQ364
    have N364 := Fr.app N362 Nq364
    refine Gl.back (fun _ k => st364.trans k) ?_
    show Gl _ _ _ _ _ _ _ (T364.setTop (mkF m 240 #[.val (.int i), .val (.ref b120), .val (.ref b201), .val (.int (10 : Int32)), .val (.ref w_NOT_LIKE), .val (.int (1 : Int32))] [(.int (0 : Int32))]))
    refine Gl.back (fun _ k => XS.ifNo X364.here hx rfl (hb hby at_240) rfl ((if0 _ _).trans (teq (by decide : (0 : Int32) = (0 : Int32))).2) k) ?_
    show Gl _ _ _ _ _ _ _ (T364.setTop (mkF m 243 #[.val (.int i), .val (.ref b120), .val (.ref b201), .val (.int (10 : Int32)), .val (.ref w_NOT_LIKE), .val (.int (1 : Int32))] []))
    refine Gl.back (fun _ k => XS.aload X364.here hx rfl (hb hby at_243) rfl rfl k) ?_
    show Gl _ _ _ _ _ _ _ (T364.setTop (mkF m 245 #[.val (.int i), .val (.ref b120), .val (.ref b201), .val (.int (10 : Int32)), .val (.ref w_NOT_LIKE), .val (.int (1 : Int32))] [(.ref w_NOT_LIKE)]))
    have f368 := (((((((((((((((((((((((((((((((((f121.wr W125).wr W130).wr W135).wr W140).wr W145).wr W150).wr W155).wr W160).wr W165).wr W170).wr W175).wr W180).wr W185).wr W190).wr W195).wr W200).ext E201).wr W219).wr W221).wr W223).wr W225).wr W227).wr W229).wr W231).wr W233).wr W235).wr W237).wr W239).wr W241).wr W243).wr W245).wr W247).wr W249)
    have f369 := ((((((((((((((((((((((((((((((((f126.wr W130).wr W135).wr W140).wr W145).wr W150).wr W155).wr W160).wr W165).wr W170).wr W175).wr W180).wr W185).wr W190).wr W195).wr W200).ext E201).wr W219).wr W221).wr W223).wr W225).wr W227).wr W229).wr W231).wr W233).wr W235).wr W237).wr W239).wr W241).wr W243).wr W245).wr W247).wr W249)
    obtain ⟨cq367, kq367, q367a, q367b, q367c⟩ := isOf hZ eh364 f360
    obtain ⟨_, _, ⟨T367, L367, k367, n367⟩, -, X367, ⟨Lc367, hQ367, l367, y367, z367⟩, st367⟩ := X364.virtualBack hx (y := (⟨"com/example/demi_orm/demiorm/query/Operator", "takesNull", "()Z"⟩ : MethodName)) (z := (⟨"com/example/demi_orm/demiorm/query/Operator", "takesNull", "()Z"⟩ : MethodName)) hown (mvT hZ (hw _ (List.mem_of_getElem? (i := 62) rfl))) (mvT hZ (hw _ (List.mem_of_getElem? (i := 63) rfl))) (notFace_of_selects (args := #[]) (mvT hZ (hw _ (List.mem_of_getElem? (i := 65) rfl)))) (mvT hZ (hw _ (List.mem_of_getElem? (i := 65) rfl))) (mvT hZ (hw _ (List.mem_of_getElem? (i := 64) rfl))) (by decide) (backOf (W := 0) (rm4_no l Z a0 hw [] w_NOT_LIKE w_EQUALS w_NOT_EQUALS h249 n0 Z249 f368 f369 (Fld.ne F_NOT_LIKE_ordinal F_EQUALS_ordinal (by decide)) (Fld.ne F_NOT_LIKE_ordinal F_NOT_EQUALS_ordinal (by decide))) hZ (hw _ (List.mem_of_getElem? (i := 66) rfl)) (hw _ (List.mem_of_getElem? (i := 3) rfl)) (by decide) (by decide)) q367a q367c (g := (mkF m 245 #[.val (.int i), .val (.ref b120), .val (.ref b201), .val (.int (10 : Int32)), .val (.ref w_NOT_LIKE), .val (.int (1 : Int32))] [(.ref w_NOT_LIKE)])) rfl (by rw [hml]; rfl) (Steps.refl _) (argsL := []) (rest := []) (lenOf pd___Z rfl) rfl (by show 2 * 0 + _ ≤ _; exact Nat.le_of_eq rfl) (hb hby at_245) (fun _ _ => ⟨rfl, eh364, (by decide : 2 + 0 ≤ _), (by decide : 32 + 0 ≤ _)⟩)
    dsimp only [Pt.U, Pt.locs, Pt.cells, Pt.slots] at X367 l367 y367 z367 st367 hQ367
    replace l367 := Eq.symm l367
    replace y367 := Eq.symm y367
    replace z367 := Eq.symm z367
    subst l367 y367 z367
    obtain ⟨Nq367, rfl, eh367⟩ := hQ367
    have N367 := Fr.app N364 Nq367
    refine Gl.back (fun _ k => st367.trans k) ?_
    show Gl _ _ _ _ _ _ _ (T367.setTop (mkF m 248 #[.val (.int i), .val (.ref b120), .val (.ref b201), .val (.int (10 : Int32)), .val (.ref w_NOT_LIKE), .val (.int (1 : Int32))] [(.int (0 : Int32))]))
    refine Gl.back (fun _ k => XS.ifNo X367.here hx rfl (hb hby at_248) rfl ((if0 _ _).trans (teq (by decide : (0 : Int32) = (0 : Int32))).2) k) ?_
    show Gl _ _ _ _ _ _ _ (T367.setTop (mkF m 251 #[.val (.int i), .val (.ref b120), .val (.ref b201), .val (.int (10 : Int32)), .val (.ref w_NOT_LIKE), .val (.int (1 : Int32))] []))
    refine Gl.back (fun _ k => XS.iconst X367.here hx rfl (hb hby at_251) k) ?_
    show Gl _ _ _ _ _ _ _ (T367.setTop (mkF m 252 #[.val (.int i), .val (.ref b120), .val (.ref b201), .val (.int (10 : Int32)), .val (.ref w_NOT_LIKE), .val (.int (1 : Int32))] [(.int (1 : Int32))]))
    refine Gl.back (fun _ k => XS.goto X367.here hx rfl (pc0 := 252) (pc' := 256) rfl (hb hby at_252) (by decide) (by decide) k) ?_
    show Gl _ _ _ _ _ _ _ (T367.setTop (mkF m 256 #[.val (.int i), .val (.ref b120), .val (.ref b201), .val (.int (10 : Int32)), .val (.ref w_NOT_LIKE), .val (.int (1 : Int32))] [(.int (1 : Int32))]))
    exact Gl.ret X367 eh367 (v := (some (.int (1 : Int32)))) (fun h => by rw [Bd.returns] at h; cases h) Bd.notSynchronized (fun fs hr => retN X367 hx (t := .boolean) (z := (1 : Int32)) Bd.returns (by simp) (hb hby at_256) hr) ⟨N367, rfl⟩ (by decide) (by decide)
  · rw [hk250]
    show Gl _ _ _ _ _ _ _ (T249.setTop (mkF m 198 #[.val (.int i), .val (.ref b120), .val (.ref b201), .unset, .unset, .unset] [(.int (11 : Int32))]))
    refine Gl.back (fun _ k => XS.istoreN X249.here hx rfl (hb hby at_198) rfl (l' := #[.val (.int i), .val (.ref b120), .val (.ref b201), .val (.int (11 : Int32)), .unset, .unset]) rfl k) ?_
    show Gl _ _ _ _ _ _ _ (T249.setTop (mkF m 199 #[.val (.int i), .val (.ref b120), .val (.ref b201), .val (.int (11 : Int32)), .unset, .unset] []))
    refine Gl.back (fun _ k => XS.aloadN X249.here hx rfl (hb hby at_199) rfl rfl k) ?_
    show Gl _ _ _ _ _ _ _ (T249.setTop (mkF m 200 #[.val (.int i), .val (.ref b120), .val (.ref b201), .val (.int (11 : Int32)), .unset, .unset] [(.ref b120)]))
    refine Gl.back (fun _ k => XS.iloadN X249.here hx rfl (hb hby at_200) rfl k) ?_
    show Gl _ _ _ _ _ _ _ (T249.setTop (mkF m 201 #[.val (.int i), .val (.ref b120), .val (.ref b201), .val (.int (11 : Int32)), .unset, .unset] [(.int (11 : Int32)), (.ref b120)]))
    have f370 := (((((((((((((((((V200.ext E201).other W219 ne_b120_b201).other W221 ne_b120_b201).other W223 ne_b120_b201).other W225 ne_b120_b201).other W227 ne_b120_b201).other W229 ne_b120_b201).other W231 ne_b120_b201).other W233 ne_b120_b201).other W235 ne_b120_b201).other W237 ne_b120_b201).other W239 ne_b120_b201).other W241 ne_b120_b201).other W243 ne_b120_b201).other W245 ne_b120_b201).other W247 ne_b120_b201).other W249 ne_b120_b201)
    obtain ⟨cl371, Ar371, q371, Sz371, Nn371, Hs371, Gf371⟩ := id f370
    have hin371 : ¬ ((11 : Int32) < 0 ∨ cl371.slots.size ≤ ((11 : Int32)).toNatClampNeg) := inb_of Sz371 ⟨by decide, by decide⟩
    have hat371 : cl371.slots[((11 : Int32)).toNatClampNeg]? = some (.ref w_STARTING_WITH) := Hs371.at hin371 (rfl)
    refine Gl.back (fun _ k => X249.aaload hx (j := (11 : Int32)) (v := (.ref w_STARTING_WITH)) (by rw [e249]; exact Ar371.1) (State.isArrayOf_alike hZ.alike Ar371.2.1) rfl Ar371.2.2 hin371 hat371 (g := (mkF m 201 #[.val (.int i), .val (.ref b120), .val (.ref b201), .val (.int (11 : Int32)), .unset, .unset] [(.int (11 : Int32)), (.ref b120)])) rfl rfl (hb hby at_201) _ k) ?_
    show Gl _ _ _ _ _ _ _ (T249.setTop (mkF m 202 #[.val (.int i), .val (.ref b120), .val (.ref b201), .val (.int (11 : Int32)), .unset, .unset] [(.ref w_STARTING_WITH)]))
    refine Gl.back (fun _ k => XS.astore X249.here hx rfl (hb hby at_202) rfl rfl (l' := #[.val (.int i), .val (.ref b120), .val (.ref b201), .val (.int (11 : Int32)), .val (.ref w_STARTING_WITH), .unset]) rfl k) ?_
    show Gl _ _ _ _ _ _ _ (T249.setTop (mkF m 204 #[.val (.int i), .val (.ref b120), .val (.ref b201), .val (.int (11 : Int32)), .val (.ref w_STARTING_WITH), .unset] []))
    refine Gl.back (fun _ k => XS.aload X249.here hx rfl (hb hby at_204) rfl rfl k) ?_
    show Gl _ _ _ _ _ _ _ (T249.setTop (mkF m 206 #[.val (.int i), .val (.ref b120), .val (.ref b201), .val (.int (11 : Int32)), .val (.ref w_STARTING_WITH), .unset] [(.ref w_STARTING_WITH)]))
    have f373 := ((((((((((((((((((((((((f166.wr W170).wr W175).wr W180).wr W185).wr W190).wr W195).wr W200).ext E201).wr W219).wr W221).wr W223).wr W225).wr W227).wr W229).wr W231).wr W233).wr W235).wr W237).wr W239).wr W241).wr W243).wr W245).wr W247).wr W249)
    have f374 := (((((((((((((((((((((((f171.wr W175).wr W180).wr W185).wr W190).wr W195).wr W200).ext E201).wr W219).wr W221).wr W223).wr W225).wr W227).wr W229).wr W231).wr W233).wr W235).wr W237).wr W239).wr W241).wr W243).wr W245).wr W247).wr W249)
    have f375 := ((((((((((((((((((((((f176.wr W180).wr W185).wr W190).wr W195).wr W200).ext E201).wr W219).wr W221).wr W223).wr W225).wr W227).wr W229).wr W231).wr W233).wr W235).wr W237).wr W239).wr W241).wr W243).wr W245).wr W247).wr W249)
    have f376 := (((((((((((((((((f213.ext E201).wr W219).wr W221).wr W223).wr W225).wr W227).wr W229).wr W231).wr W233).wr W235).wr W237).wr W239).wr W241).wr W243).wr W245).wr W247).wr W249)
    obtain ⟨cq372, kq372, q372a, q372b, q372c⟩ := isOf hZ e249 f376
    obtain ⟨_, _, ⟨T372, L372, k372, n372⟩, -, X372, ⟨Lc372, hQ372, l372, y372, z372⟩, st372⟩ := X249.virtualBack hx (y := (⟨"com/example/demi_orm/demiorm/query/Operator", "comparesText", "()Z"⟩ : MethodName)) (z := (⟨"com/example/demi_orm/demiorm/query/Operator", "comparesText", "()Z"⟩ : MethodName)) hown (mvT hZ (hw _ (List.mem_of_getElem? (i := 38) rfl))) (mvT hZ (hw _ (List.mem_of_getElem? (i := 39) rfl))) (notFace_of_selects (args := #[]) (mvT hZ (hw _ (List.mem_of_getElem? (i := 41) rfl)))) (mvT hZ (hw _ (List.mem_of_getElem? (i := 41) rfl))) (mvT hZ (hw _ (List.mem_of_getElem? (i := 40) rfl))) (by decide) (backOf (W := 0) (rm1_STARTING_WITH l Z a0 hw [] w_STARTING_WITH w_LIKE w_NOT_LIKE h249 n0 Z249 f373 f374 f375 (Fld.ne F_STARTING_WITH_ordinal F_LIKE_ordinal (by decide)) (Fld.ne F_STARTING_WITH_ordinal F_NOT_LIKE_ordinal (by decide))) hZ (hw _ (List.mem_of_getElem? (i := 42) rfl)) (hw _ (List.mem_of_getElem? (i := 3) rfl)) (by decide) (by decide)) q372a q372c (g := (mkF m 206 #[.val (.int i), .val (.ref b120), .val (.ref b201), .val (.int (11 : Int32)), .val (.ref w_STARTING_WITH), .unset] [(.ref w_STARTING_WITH)])) rfl (by rw [hml]; rfl) (Steps.refl _) (argsL := []) (rest := []) (lenOf pd___Z rfl) rfl (by show 2 * 0 + _ ≤ _; exact Nat.le_of_eq rfl) (hb hby at_206) (fun _ _ => ⟨rfl, e249, (by decide : 2 + 0 ≤ _), (by decide : 32 + 0 ≤ _)⟩)
    dsimp only [Pt.U, Pt.locs, Pt.cells, Pt.slots] at X372 l372 y372 z372 st372 hQ372
    replace l372 := Eq.symm l372
    replace y372 := Eq.symm y372
    replace z372 := Eq.symm z372
    subst l372 y372 z372
    obtain ⟨Nq372, rfl, eh372⟩ := hQ372
    have N372 := Fr.app N249 Nq372
    refine Gl.back (fun _ k => st372.trans k) ?_
    show Gl _ _ _ _ _ _ _ (T372.setTop (mkF m 209 #[.val (.int i), .val (.ref b120), .val (.ref b201), .val (.int (11 : Int32)), .val (.ref w_STARTING_WITH), .unset] [(.int (1 : Int32))]))
    refine Gl.back (fun _ k => XS.istore X372.here hx rfl (hb hby at_209) rfl (l' := #[.val (.int i), .val (.ref b120), .val (.ref b201), .val (.int (11 : Int32)), .val (.ref w_STARTING_WITH), .val (.int (1 : Int32))]) rfl k) ?_
    show Gl _ _ _ _ _ _ _ (T372.setTop (mkF m 211 #[.val (.int i), .val (.ref b120), .val (.ref b201), .val (.int (11 : Int32)), .val (.ref w_STARTING_WITH), .val (.int (1 : Int32))] []))
    refine Gl.back (fun _ k => XS.iload X372.here hx rfl (hb hby at_211) rfl k) ?_
    show Gl _ _ _ _ _ _ _ (T372.setTop (mkF m 213 #[.val (.int i), .val (.ref b120), .val (.ref b201), .val (.int (11 : Int32)), .val (.ref w_STARTING_WITH), .val (.int (1 : Int32))] [(.int (1 : Int32))]))
    refine Gl.back (fun _ k => XS.aloadN X372.here hx rfl (hb hby at_213) rfl rfl k) ?_
    show Gl _ _ _ _ _ _ _ (T372.setTop (mkF m 214 #[.val (.int i), .val (.ref b120), .val (.ref b201), .val (.int (11 : Int32)), .val (.ref w_STARTING_WITH), .val (.int (1 : Int32))] [(.ref b201), (.int (1 : Int32))]))
    refine Gl.back (fun _ k => XS.iloadN X372.here hx rfl (hb hby at_214) rfl k) ?_
    show Gl _ _ _ _ _ _ _ (T372.setTop (mkF m 215 #[.val (.int i), .val (.ref b120), .val (.ref b201), .val (.int (11 : Int32)), .val (.ref w_STARTING_WITH), .val (.int (1 : Int32))] [(.int (11 : Int32)), (.ref b201), (.int (1 : Int32))]))
    obtain ⟨cl377, Ar377, q377, Sz377, Nn377, Hs377, Gf377⟩ := id V249
    have hin377 : ¬ ((11 : Int32) < 0 ∨ cl377.slots.size ≤ ((11 : Int32)).toNatClampNeg) := inb_of Sz377 ⟨by decide, by decide⟩
    have hat377 : cl377.slots[((11 : Int32)).toNatClampNeg]? = some (.int (1 : Int32)) := Hs377.at hin377 (rfl)
    refine Gl.back (fun _ k => X372.baloadBooleans hx (j := (11 : Int32)) (v := (.int (1 : Int32))) (by rw [eh372]; exact Ar377.1) (State.isArrayOf_alike hZ.alike Ar377.2.1) Ar377.2.2 hin377 hat377 (g := (mkF m 215 #[.val (.int i), .val (.ref b120), .val (.ref b201), .val (.int (11 : Int32)), .val (.ref w_STARTING_WITH), .val (.int (1 : Int32))] [(.int (11 : Int32)), (.ref b201), (.int (1 : Int32))])) rfl rfl (hb hby at_215) _ k) ?_
    show Gl _ _ _ _ _ _ _ (T372.setTop (mkF m 216 #[.val (.int i), .val (.ref b120), .val (.ref b201), .val (.int (11 : Int32)), .val (.ref w_STARTING_WITH), .val (.int (1 : Int32))] [(.int (1 : Int32)), (.int (1 : Int32))]))
    refine Gl.back (fun _ k => XS.icmpYes X372.here hx rfl (pc0 := 216) (pc' := 221) rfl (hb hby at_216) rfl (teq (by decide : (1 : Int32) = (1 : Int32))).1 (by decide) (by decide) k) ?_
    show Gl _ _ _ _ _ _ _ (T372.setTop (mkF m 221 #[.val (.int i), .val (.ref b120), .val (.ref b201), .val (.int (11 : Int32)), .val (.ref w_STARTING_WITH), .val (.int (1 : Int32))] []))
    refine Gl.back (fun _ k => XS.iload X372.here hx rfl (hb hby at_221) rfl k) ?_
    show Gl _ _ _ _ _ _ _ (T372.setTop (mkF m 223 #[.val (.int i), .val (.ref b120), .val (.ref b201), .val (.int (11 : Int32)), .val (.ref w_STARTING_WITH), .val (.int (1 : Int32))] [(.int (1 : Int32))]))
    refine Gl.back (fun _ k => XS.ifNo X372.here hx rfl (hb hby at_223) rfl ((if0 _ _).trans (feq (by decide : ¬ (1 : Int32) = (0 : Int32))).1) k) ?_
    show Gl _ _ _ _ _ _ _ (T372.setTop (mkF m 226 #[.val (.int i), .val (.ref b120), .val (.ref b201), .val (.int (11 : Int32)), .val (.ref w_STARTING_WITH), .val (.int (1 : Int32))] []))
    refine Gl.back (fun _ k => XS.aload X372.here hx rfl (hb hby at_226) rfl rfl k) ?_
    show Gl _ _ _ _ _ _ _ (T372.setTop (mkF m 228 #[.val (.int i), .val (.ref b120), .val (.ref b201), .val (.int (11 : Int32)), .val (.ref w_STARTING_WITH), .val (.int (1 : Int32))] [(.ref w_STARTING_WITH)]))
    have f379 := ((((((((((((((((((((((((((((((((((F_STARTING_WITH_arity.ext E120).other W125 (Or.inl ne_w_STARTING_WITH_b120)).other W130 (Or.inl ne_w_STARTING_WITH_b120)).other W135 (Or.inl ne_w_STARTING_WITH_b120)).other W140 (Or.inl ne_w_STARTING_WITH_b120)).other W145 (Or.inl ne_w_STARTING_WITH_b120)).other W150 (Or.inl ne_w_STARTING_WITH_b120)).other W155 (Or.inl ne_w_STARTING_WITH_b120)).other W160 (Or.inl ne_w_STARTING_WITH_b120)).other W165 (Or.inl ne_w_STARTING_WITH_b120)).other W170 (Or.inl ne_w_STARTING_WITH_b120)).other W175 (Or.inl ne_w_STARTING_WITH_b120)).other W180 (Or.inl ne_w_STARTING_WITH_b120)).other W185 (Or.inl ne_w_STARTING_WITH_b120)).other W190 (Or.inl ne_w_STARTING_WITH_b120)).other W195 (Or.inl ne_w_STARTING_WITH_b120)).other W200 (Or.inl ne_w_STARTING_WITH_b120)).ext E201).other W219 (Or.inl ne_w_STARTING_WITH_b201)).other W221 (Or.inl ne_w_STARTING_WITH_b201)).other W223 (Or.inl ne_w_STARTING_WITH_b201)).other W225 (Or.inl ne_w_STARTING_WITH_b201)).other W227 (Or.inl ne_w_STARTING_WITH_b201)).other W229 (Or.inl ne_w_STARTING_WITH_b201)).other W231 (Or.inl ne_w_STARTING_WITH_b201)).other W233 (Or.inl ne_w_STARTING_WITH_b201)).other W235 (Or.inl ne_w_STARTING_WITH_b201)).other W237 (Or.inl ne_w_STARTING_WITH_b201)).other W239 (Or.inl ne_w_STARTING_WITH_b201)).other W241 (Or.inl ne_w_STARTING_WITH_b201)).other W243 (Or.inl ne_w_STARTING_WITH_b201)).other W245 (Or.inl ne_w_STARTING_WITH_b201)).other W247 (Or.inl ne_w_STARTING_WITH_b201)).other W249 (Or.inl ne_w_STARTING_WITH_b201))
    obtain ⟨cq378, kq378, q378a, q378b, q378c⟩ := isOf hZ eh372 f376
    obtain ⟨_, _, ⟨T378, L378, k378, n378⟩, -, X378, ⟨Lc378, hQ378, l378, y378, z378⟩, st378⟩ := X372.virtualBack hx (y := (⟨"com/example/demi_orm/demiorm/query/Operator", "arity", "()I"⟩ : MethodName)) (z := (⟨"com/example/demi_orm/demiorm/query/Operator", "arity", "()I"⟩ : MethodName)) hown (mvT hZ (hw _ (List.mem_of_getElem? (i := 48) rfl))) (mvT hZ (hw _ (List.mem_of_getElem? (i := 49) rfl))) (notFace_of_selects (args := #[]) (mvT hZ (hw _ (List.mem_of_getElem? (i := 51) rfl)))) (mvT hZ (hw _ (List.mem_of_getElem? (i := 51) rfl))) (mvT hZ (hw _ (List.mem_of_getElem? (i := 50) rfl))) (by decide) (backOf (W := 0) (rm2 l Z a0 hw [] w_STARTING_WITH (1 : Int32) h249 n0 Z249 f379) hZ (hw _ (List.mem_of_getElem? (i := 52) rfl)) (hw _ (List.mem_of_getElem? (i := 3) rfl)) (by decide) (by decide)) q378a q378c (g := (mkF m 228 #[.val (.int i), .val (.ref b120), .val (.ref b201), .val (.int (11 : Int32)), .val (.ref w_STARTING_WITH), .val (.int (1 : Int32))] [(.ref w_STARTING_WITH)])) rfl (by rw [hml]; rfl) (Steps.refl _) (argsL := []) (rest := []) (lenOf pd___I rfl) rfl (by show 2 * 0 + _ ≤ _; exact Nat.le_of_eq rfl) (hb hby at_228) (fun _ _ => ⟨rfl, eh372, (by decide : 2 + 0 ≤ _), (by decide : 32 + 0 ≤ _)⟩)
    dsimp only [Pt.U, Pt.locs, Pt.cells, Pt.slots] at X378 l378 y378 z378 st378 hQ378
    replace l378 := Eq.symm l378
    replace y378 := Eq.symm y378
    replace z378 := Eq.symm z378
    subst l378 y378 z378
    obtain ⟨Nq378, rfl, eh378⟩ := hQ378
    have N378 := Fr.app N372 Nq378
    refine Gl.back (fun _ k => st378.trans k) ?_
    show Gl _ _ _ _ _ _ _ (T378.setTop (mkF m 231 #[.val (.int i), .val (.ref b120), .val (.ref b201), .val (.int (11 : Int32)), .val (.ref w_STARTING_WITH), .val (.int (1 : Int32))] [(.int (1 : Int32))]))
    refine Gl.back (fun _ k => XS.iconst X378.here hx rfl (hb hby at_231) k) ?_
    show Gl _ _ _ _ _ _ _ (T378.setTop (mkF m 232 #[.val (.int i), .val (.ref b120), .val (.ref b201), .val (.int (11 : Int32)), .val (.ref w_STARTING_WITH), .val (.int (1 : Int32))] [(.int (1 : Int32)), (.int (1 : Int32))]))
    refine Gl.back (fun _ k => XS.icmpNo X378.here hx rfl (hb hby at_232) rfl (teq (by decide : (1 : Int32) = (1 : Int32))).2 k) ?_
    show Gl _ _ _ _ _ _ _ (T378.setTop (mkF m 235 #[.val (.int i), .val (.ref b120), .val (.ref b201), .val (.int (11 : Int32)), .val (.ref w_STARTING_WITH), .val (.int (1 : Int32))] []))
    refine Gl.back (fun _ k => XS.aload X378.here hx rfl (hb hby at_235) rfl rfl k) ?_
    show Gl _ _ _ _ _ _ _ (T378.setTop (mkF m 237 #[.val (.int i), .val (.ref b120), .val (.ref b201), .val (.int (11 : Int32)), .val (.ref w_STARTING_WITH), .val (.int (1 : Int32))] [(.ref w_STARTING_WITH)]))
    have f381 := (((((((((((((((((((f191.wr W195).wr W200).ext E201).wr W219).wr W221).wr W223).wr W225).wr W227).wr W229).wr W231).wr W233).wr W235).wr W237).wr W239).wr W241).wr W243).wr W245).wr W247).wr W249)
    have f382 := ((((((((((((((((((f196.wr W200).ext E201).wr W219).wr W221).wr W223).wr W225).wr W227).wr W229).wr W231).wr W233).wr W235).wr W237).wr W239).wr W241).wr W243).wr W245).wr W247).wr W249)
    obtain ⟨cq380, kq380, q380a, q380b, q380c⟩ := isOf hZ eh378 f376
    obtain ⟨_, _, ⟨T380, L380, k380, n380⟩, -, X380, ⟨Lc380, hQ380, l380, y380, z380⟩, st380⟩ := X378.virtualBack hx (y := (⟨"com/example/demi_orm/demiorm/query/Operator", "takesCollection", "()Z"⟩ : MethodName)) (z := (⟨"com/example/demi_orm/demiorm/query/Operator", "takesCollection", "()Z"⟩ : MethodName)) hown (mvT hZ (hw _ (List.mem_of_getElem? (i := 55) rfl))) (mvT hZ (hw _ (List.mem_of_getElem? (i := 56) rfl))) (notFace_of_selects (args := #[]) (mvT hZ (hw _ (List.mem_of_getElem? (i := 58) rfl)))) (mvT hZ (hw _ (List.mem_of_getElem? (i := 58) rfl))) (mvT hZ (hw _ (List.mem_of_getElem? (i := 57) rfl))) (by decide) (backOf (W := 0) (rm3_no l Z a0 hw [] w_STARTING_WITH w_IN w_NOT_IN h249 n0 Z249 f381 f382 (Fld.ne F_STARTING_WITH_ordinal F_IN_ordinal (by decide)) (Fld.ne F_STARTING_WITH_ordinal F_NOT_IN_ordinal (by decide))) hZ (hw _ (List.mem_of_getElem? (i := 59) rfl)) (hw _ (List.mem_of_getElem? (i := 3) rfl)) (by decide) (by decide)) q380a q380c (g := (mkF m 237 #[.val (.int i), .val (.ref b120), .val (.ref b201), .val (.int (11 : Int32)), .val (.ref w_STARTING_WITH), .val (.int (1 : Int32))] [(.ref w_STARTING_WITH)])) rfl (by rw [hml]; rfl) (Steps.refl _) (argsL := []) (rest := []) (lenOf pd___Z rfl) rfl (by show 2 * 0 + _ ≤ _; exact Nat.le_of_eq rfl) (hb hby at_237) (fun _ _ => ⟨rfl, eh378, (by decide : 2 + 0 ≤ _), (by decide : 32 + 0 ≤ _)⟩)
    dsimp only [Pt.U, Pt.locs, Pt.cells, Pt.slots] at X380 l380 y380 z380 st380 hQ380
    replace l380 := Eq.symm l380
    replace y380 := Eq.symm y380
    replace z380 := Eq.symm z380
    subst l380 y380 z380
    obtain ⟨Nq380, rfl, eh380⟩ := hQ380
    have N380 := Fr.app N378 Nq380
    refine Gl.back (fun _ k => st380.trans k) ?_
    show Gl _ _ _ _ _ _ _ (T380.setTop (mkF m 240 #[.val (.int i), .val (.ref b120), .val (.ref b201), .val (.int (11 : Int32)), .val (.ref w_STARTING_WITH), .val (.int (1 : Int32))] [(.int (0 : Int32))]))
    refine Gl.back (fun _ k => XS.ifNo X380.here hx rfl (hb hby at_240) rfl ((if0 _ _).trans (teq (by decide : (0 : Int32) = (0 : Int32))).2) k) ?_
    show Gl _ _ _ _ _ _ _ (T380.setTop (mkF m 243 #[.val (.int i), .val (.ref b120), .val (.ref b201), .val (.int (11 : Int32)), .val (.ref w_STARTING_WITH), .val (.int (1 : Int32))] []))
    refine Gl.back (fun _ k => XS.aload X380.here hx rfl (hb hby at_243) rfl rfl k) ?_
    show Gl _ _ _ _ _ _ _ (T380.setTop (mkF m 245 #[.val (.int i), .val (.ref b120), .val (.ref b201), .val (.int (11 : Int32)), .val (.ref w_STARTING_WITH), .val (.int (1 : Int32))] [(.ref w_STARTING_WITH)]))
    have f384 := (((((((((((((((((((((((((((((((((f121.wr W125).wr W130).wr W135).wr W140).wr W145).wr W150).wr W155).wr W160).wr W165).wr W170).wr W175).wr W180).wr W185).wr W190).wr W195).wr W200).ext E201).wr W219).wr W221).wr W223).wr W225).wr W227).wr W229).wr W231).wr W233).wr W235).wr W237).wr W239).wr W241).wr W243).wr W245).wr W247).wr W249)
    have f385 := ((((((((((((((((((((((((((((((((f126.wr W130).wr W135).wr W140).wr W145).wr W150).wr W155).wr W160).wr W165).wr W170).wr W175).wr W180).wr W185).wr W190).wr W195).wr W200).ext E201).wr W219).wr W221).wr W223).wr W225).wr W227).wr W229).wr W231).wr W233).wr W235).wr W237).wr W239).wr W241).wr W243).wr W245).wr W247).wr W249)
    obtain ⟨cq383, kq383, q383a, q383b, q383c⟩ := isOf hZ eh380 f376
    obtain ⟨_, _, ⟨T383, L383, k383, n383⟩, -, X383, ⟨Lc383, hQ383, l383, y383, z383⟩, st383⟩ := X380.virtualBack hx (y := (⟨"com/example/demi_orm/demiorm/query/Operator", "takesNull", "()Z"⟩ : MethodName)) (z := (⟨"com/example/demi_orm/demiorm/query/Operator", "takesNull", "()Z"⟩ : MethodName)) hown (mvT hZ (hw _ (List.mem_of_getElem? (i := 62) rfl))) (mvT hZ (hw _ (List.mem_of_getElem? (i := 63) rfl))) (notFace_of_selects (args := #[]) (mvT hZ (hw _ (List.mem_of_getElem? (i := 65) rfl)))) (mvT hZ (hw _ (List.mem_of_getElem? (i := 65) rfl))) (mvT hZ (hw _ (List.mem_of_getElem? (i := 64) rfl))) (by decide) (backOf (W := 0) (rm4_no l Z a0 hw [] w_STARTING_WITH w_EQUALS w_NOT_EQUALS h249 n0 Z249 f384 f385 (Fld.ne F_STARTING_WITH_ordinal F_EQUALS_ordinal (by decide)) (Fld.ne F_STARTING_WITH_ordinal F_NOT_EQUALS_ordinal (by decide))) hZ (hw _ (List.mem_of_getElem? (i := 66) rfl)) (hw _ (List.mem_of_getElem? (i := 3) rfl)) (by decide) (by decide)) q383a q383c (g := (mkF m 245 #[.val (.int i), .val (.ref b120), .val (.ref b201), .val (.int (11 : Int32)), .val (.ref w_STARTING_WITH), .val (.int (1 : Int32))] [(.ref w_STARTING_WITH)])) rfl (by rw [hml]; rfl) (Steps.refl _) (argsL := []) (rest := []) (lenOf pd___Z rfl) rfl (by show 2 * 0 + _ ≤ _; exact Nat.le_of_eq rfl) (hb hby at_245) (fun _ _ => ⟨rfl, eh380, (by decide : 2 + 0 ≤ _), (by decide : 32 + 0 ≤ _)⟩)
    dsimp only [Pt.U, Pt.locs, Pt.cells, Pt.slots] at X383 l383 y383 z383 st383 hQ383
    replace l383 := Eq.symm l383
    replace y383 := Eq.symm y383
    replace z383 := Eq.symm z383
    subst l383 y383 z383
    obtain ⟨Nq383, rfl, eh383⟩ := hQ383
    have N383 := Fr.app N380 Nq383
    refine Gl.back (fun _ k => st383.trans k) ?_
    show Gl _ _ _ _ _ _ _ (T383.setTop (mkF m 248 #[.val (.int i), .val (.ref b120), .val (.ref b201), .val (.int (11 : Int32)), .val (.ref w_STARTING_WITH), .val (.int (1 : Int32))] [(.int (0 : Int32))]))
    refine Gl.back (fun _ k => XS.ifNo X383.here hx rfl (hb hby at_248) rfl ((if0 _ _).trans (teq (by decide : (0 : Int32) = (0 : Int32))).2) k) ?_
    show Gl _ _ _ _ _ _ _ (T383.setTop (mkF m 251 #[.val (.int i), .val (.ref b120), .val (.ref b201), .val (.int (11 : Int32)), .val (.ref w_STARTING_WITH), .val (.int (1 : Int32))] []))
    refine Gl.back (fun _ k => XS.iconst X383.here hx rfl (hb hby at_251) k) ?_
    show Gl _ _ _ _ _ _ _ (T383.setTop (mkF m 252 #[.val (.int i), .val (.ref b120), .val (.ref b201), .val (.int (11 : Int32)), .val (.ref w_STARTING_WITH), .val (.int (1 : Int32))] [(.int (1 : Int32))]))
    refine Gl.back (fun _ k => XS.goto X383.here hx rfl (pc0 := 252) (pc' := 256) rfl (hb hby at_252) (by decide) (by decide) k) ?_
    show Gl _ _ _ _ _ _ _ (T383.setTop (mkF m 256 #[.val (.int i), .val (.ref b120), .val (.ref b201), .val (.int (11 : Int32)), .val (.ref w_STARTING_WITH), .val (.int (1 : Int32))] [(.int (1 : Int32))]))
    exact Gl.ret X383 eh383 (v := (some (.int (1 : Int32)))) (fun h => by rw [Bd.returns] at h; cases h) Bd.notSynchronized (fun fs hr => retN X383 hx (t := .boolean) (z := (1 : Int32)) Bd.returns (by simp) (hb hby at_256) hr) ⟨N383, rfl⟩ (by decide) (by decide)
  · rw [hk250]
    show Gl _ _ _ _ _ _ _ (T249.setTop (mkF m 198 #[.val (.int i), .val (.ref b120), .val (.ref b201), .unset, .unset, .unset] [(.int (12 : Int32))]))
    refine Gl.back (fun _ k => XS.istoreN X249.here hx rfl (hb hby at_198) rfl (l' := #[.val (.int i), .val (.ref b120), .val (.ref b201), .val (.int (12 : Int32)), .unset, .unset]) rfl k) ?_
    show Gl _ _ _ _ _ _ _ (T249.setTop (mkF m 199 #[.val (.int i), .val (.ref b120), .val (.ref b201), .val (.int (12 : Int32)), .unset, .unset] []))
    refine Gl.back (fun _ k => XS.aloadN X249.here hx rfl (hb hby at_199) rfl rfl k) ?_
    show Gl _ _ _ _ _ _ _ (T249.setTop (mkF m 200 #[.val (.int i), .val (.ref b120), .val (.ref b201), .val (.int (12 : Int32)), .unset, .unset] [(.ref b120)]))
    refine Gl.back (fun _ k => XS.iloadN X249.here hx rfl (hb hby at_200) rfl k) ?_
    show Gl _ _ _ _ _ _ _ (T249.setTop (mkF m 201 #[.val (.int i), .val (.ref b120), .val (.ref b201), .val (.int (12 : Int32)), .unset, .unset] [(.int (12 : Int32)), (.ref b120)]))
    have f386 := (((((((((((((((((V200.ext E201).other W219 ne_b120_b201).other W221 ne_b120_b201).other W223 ne_b120_b201).other W225 ne_b120_b201).other W227 ne_b120_b201).other W229 ne_b120_b201).other W231 ne_b120_b201).other W233 ne_b120_b201).other W235 ne_b120_b201).other W237 ne_b120_b201).other W239 ne_b120_b201).other W241 ne_b120_b201).other W243 ne_b120_b201).other W245 ne_b120_b201).other W247 ne_b120_b201).other W249 ne_b120_b201)
    obtain ⟨cl387, Ar387, q387, Sz387, Nn387, Hs387, Gf387⟩ := id f386
    have hin387 : ¬ ((12 : Int32) < 0 ∨ cl387.slots.size ≤ ((12 : Int32)).toNatClampNeg) := inb_of Sz387 ⟨by decide, by decide⟩
    have hat387 : cl387.slots[((12 : Int32)).toNatClampNeg]? = some (.ref w_ENDING_WITH) := Hs387.at hin387 (rfl)
    refine Gl.back (fun _ k => X249.aaload hx (j := (12 : Int32)) (v := (.ref w_ENDING_WITH)) (by rw [e249]; exact Ar387.1) (State.isArrayOf_alike hZ.alike Ar387.2.1) rfl Ar387.2.2 hin387 hat387 (g := (mkF m 201 #[.val (.int i), .val (.ref b120), .val (.ref b201), .val (.int (12 : Int32)), .unset, .unset] [(.int (12 : Int32)), (.ref b120)])) rfl rfl (hb hby at_201) _ k) ?_
    show Gl _ _ _ _ _ _ _ (T249.setTop (mkF m 202 #[.val (.int i), .val (.ref b120), .val (.ref b201), .val (.int (12 : Int32)), .unset, .unset] [(.ref w_ENDING_WITH)]))
    refine Gl.back (fun _ k => XS.astore X249.here hx rfl (hb hby at_202) rfl rfl (l' := #[.val (.int i), .val (.ref b120), .val (.ref b201), .val (.int (12 : Int32)), .val (.ref w_ENDING_WITH), .unset]) rfl k) ?_
    show Gl _ _ _ _ _ _ _ (T249.setTop (mkF m 204 #[.val (.int i), .val (.ref b120), .val (.ref b201), .val (.int (12 : Int32)), .val (.ref w_ENDING_WITH), .unset] []))
    refine Gl.back (fun _ k => XS.aload X249.here hx rfl (hb hby at_204) rfl rfl k) ?_
    show Gl _ _ _ _ _ _ _ (T249.setTop (mkF m 206 #[.val (.int i), .val (.ref b120), .val (.ref b201), .val (.int (12 : Int32)), .val (.ref w_ENDING_WITH), .unset] [(.ref w_ENDING_WITH)]))
    have f389 := ((((((((((((((((((((((((f166.wr W170).wr W175).wr W180).wr W185).wr W190).wr W195).wr W200).ext E201).wr W219).wr W221).wr W223).wr W225).wr W227).wr W229).wr W231).wr W233).wr W235).wr W237).wr W239).wr W241).wr W243).wr W245).wr W247).wr W249)
    have f390 := (((((((((((((((((((((((f171.wr W175).wr W180).wr W185).wr W190).wr W195).wr W200).ext E201).wr W219).wr W221).wr W223).wr W225).wr W227).wr W229).wr W231).wr W233).wr W235).wr W237).wr W239).wr W241).wr W243).wr W245).wr W247).wr W249)
    have f391 := ((((((((((((((((((((((f176.wr W180).wr W185).wr W190).wr W195).wr W200).ext E201).wr W219).wr W221).wr W223).wr W225).wr W227).wr W229).wr W231).wr W233).wr W235).wr W237).wr W239).wr W241).wr W243).wr W245).wr W247).wr W249)
    have f392 := (((((((((((((((((((((f181.wr W185).wr W190).wr W195).wr W200).ext E201).wr W219).wr W221).wr W223).wr W225).wr W227).wr W229).wr W231).wr W233).wr W235).wr W237).wr W239).wr W241).wr W243).wr W245).wr W247).wr W249)
    have f393 := (((((((((((((((((f214.ext E201).wr W219).wr W221).wr W223).wr W225).wr W227).wr W229).wr W231).wr W233).wr W235).wr W237).wr W239).wr W241).wr W243).wr W245).wr W247).wr W249)
    obtain ⟨cq388, kq388, q388a, q388b, q388c⟩ := isOf hZ e249 f393
    obtain ⟨_, _, ⟨T388, L388, k388, n388⟩, -, X388, ⟨Lc388, hQ388, l388, y388, z388⟩, st388⟩ := X249.virtualBack hx (y := (⟨"com/example/demi_orm/demiorm/query/Operator", "comparesText", "()Z"⟩ : MethodName)) (z := (⟨"com/example/demi_orm/demiorm/query/Operator", "comparesText", "()Z"⟩ : MethodName)) hown (mvT hZ (hw _ (List.mem_of_getElem? (i := 38) rfl))) (mvT hZ (hw _ (List.mem_of_getElem? (i := 39) rfl))) (notFace_of_selects (args := #[]) (mvT hZ (hw _ (List.mem_of_getElem? (i := 41) rfl)))) (mvT hZ (hw _ (List.mem_of_getElem? (i := 41) rfl))) (mvT hZ (hw _ (List.mem_of_getElem? (i := 40) rfl))) (by decide) (backOf (W := 0) (rm1_ENDING_WITH l Z a0 hw [] w_ENDING_WITH w_LIKE w_NOT_LIKE w_STARTING_WITH h249 n0 Z249 f389 f390 f391 f392 (Fld.ne F_ENDING_WITH_ordinal F_LIKE_ordinal (by decide)) (Fld.ne F_ENDING_WITH_ordinal F_NOT_LIKE_ordinal (by decide)) (Fld.ne F_ENDING_WITH_ordinal F_STARTING_WITH_ordinal (by decide))) hZ (hw _ (List.mem_of_getElem? (i := 42) rfl)) (hw _ (List.mem_of_getElem? (i := 3) rfl)) (by decide) (by decide)) q388a q388c (g := (mkF m 206 #[.val (.int i), .val (.ref b120), .val (.ref b201), .val (.int (12 : Int32)), .val (.ref w_ENDING_WITH), .unset] [(.ref w_ENDING_WITH)])) rfl (by rw [hml]; rfl) (Steps.refl _) (argsL := []) (rest := []) (lenOf pd___Z rfl) rfl (by show 2 * 0 + _ ≤ _; exact Nat.le_of_eq rfl) (hb hby at_206) (fun _ _ => ⟨rfl, e249, (by decide : 2 + 0 ≤ _), (by decide : 32 + 0 ≤ _)⟩)
    dsimp only [Pt.U, Pt.locs, Pt.cells, Pt.slots] at X388 l388 y388 z388 st388 hQ388
    replace l388 := Eq.symm l388
    replace y388 := Eq.symm y388
    replace z388 := Eq.symm z388
    subst l388 y388 z388
    obtain ⟨Nq388, rfl, eh388⟩ := hQ388
    have N388 := Fr.app N249 Nq388
    refine Gl.back (fun _ k => st388.trans k) ?_
    show Gl _ _ _ _ _ _ _ (T388.setTop (mkF m 209 #[.val (.int i), .val (.ref b120), .val (.ref b201), .val (.int (12 : Int32)), .val (.ref w_ENDING_WITH), .unset] [(.int (1 : Int32))]))
    refine Gl.back (fun _ k => XS.istore X388.here hx rfl (hb hby at_209) rfl (l' := #[.val (.int i), .val (.ref b120), .val (.ref b201), .val (.int (12 : Int32)), .val (.ref w_ENDING_WITH), .val (.int (1 : Int32))]) rfl k) ?_
    show Gl _ _ _ _ _ _ _ (T388.setTop (mkF m 211 #[.val (.int i), .val (.ref b120), .val (.ref b201), .val (.int (12 : Int32)), .val (.ref w_ENDING_WITH), .val (.int (1 : Int32))] []))
    refine Gl.back (fun _ k => XS.iload X388.here hx rfl (hb hby at_211) rfl k) ?_
    show Gl _ _ _ _ _ _ _ (T388.setTop (mkF m 213 #[.val (.int i), .val (.ref b120), .val (.ref b201), .val (.int (12 : Int32)), .val (.ref w_ENDING_WITH), .val (.int (1 : Int32))] [(.int (1 : Int32))]))
    refine Gl.back (fun _ k => XS.aloadN X388.here hx rfl (hb hby at_213) rfl rfl k) ?_
    show Gl _ _ _ _ _ _ _ (T388.setTop (mkF m 214 #[.val (.int i), .val (.ref b120), .val (.ref b201), .val (.int (12 : Int32)), .val (.ref w_ENDING_WITH), .val (.int (1 : Int32))] [(.ref b201), (.int (1 : Int32))]))
    refine Gl.back (fun _ k => XS.iloadN X388.here hx rfl (hb hby at_214) rfl k) ?_
    show Gl _ _ _ _ _ _ _ (T388.setTop (mkF m 215 #[.val (.int i), .val (.ref b120), .val (.ref b201), .val (.int (12 : Int32)), .val (.ref w_ENDING_WITH), .val (.int (1 : Int32))] [(.int (12 : Int32)), (.ref b201), (.int (1 : Int32))]))
    obtain ⟨cl394, Ar394, q394, Sz394, Nn394, Hs394, Gf394⟩ := id V249
    have hin394 : ¬ ((12 : Int32) < 0 ∨ cl394.slots.size ≤ ((12 : Int32)).toNatClampNeg) := inb_of Sz394 ⟨by decide, by decide⟩
    have hat394 : cl394.slots[((12 : Int32)).toNatClampNeg]? = some (.int (1 : Int32)) := Hs394.at hin394 (rfl)
    refine Gl.back (fun _ k => X388.baloadBooleans hx (j := (12 : Int32)) (v := (.int (1 : Int32))) (by rw [eh388]; exact Ar394.1) (State.isArrayOf_alike hZ.alike Ar394.2.1) Ar394.2.2 hin394 hat394 (g := (mkF m 215 #[.val (.int i), .val (.ref b120), .val (.ref b201), .val (.int (12 : Int32)), .val (.ref w_ENDING_WITH), .val (.int (1 : Int32))] [(.int (12 : Int32)), (.ref b201), (.int (1 : Int32))])) rfl rfl (hb hby at_215) _ k) ?_
    show Gl _ _ _ _ _ _ _ (T388.setTop (mkF m 216 #[.val (.int i), .val (.ref b120), .val (.ref b201), .val (.int (12 : Int32)), .val (.ref w_ENDING_WITH), .val (.int (1 : Int32))] [(.int (1 : Int32)), (.int (1 : Int32))]))
    refine Gl.back (fun _ k => XS.icmpYes X388.here hx rfl (pc0 := 216) (pc' := 221) rfl (hb hby at_216) rfl (teq (by decide : (1 : Int32) = (1 : Int32))).1 (by decide) (by decide) k) ?_
    show Gl _ _ _ _ _ _ _ (T388.setTop (mkF m 221 #[.val (.int i), .val (.ref b120), .val (.ref b201), .val (.int (12 : Int32)), .val (.ref w_ENDING_WITH), .val (.int (1 : Int32))] []))
    refine Gl.back (fun _ k => XS.iload X388.here hx rfl (hb hby at_221) rfl k) ?_
    show Gl _ _ _ _ _ _ _ (T388.setTop (mkF m 223 #[.val (.int i), .val (.ref b120), .val (.ref b201), .val (.int (12 : Int32)), .val (.ref w_ENDING_WITH), .val (.int (1 : Int32))] [(.int (1 : Int32))]))
    refine Gl.back (fun _ k => XS.ifNo X388.here hx rfl (hb hby at_223) rfl ((if0 _ _).trans (feq (by decide : ¬ (1 : Int32) = (0 : Int32))).1) k) ?_
    show Gl _ _ _ _ _ _ _ (T388.setTop (mkF m 226 #[.val (.int i), .val (.ref b120), .val (.ref b201), .val (.int (12 : Int32)), .val (.ref w_ENDING_WITH), .val (.int (1 : Int32))] []))
    refine Gl.back (fun _ k => XS.aload X388.here hx rfl (hb hby at_226) rfl rfl k) ?_
    show Gl _ _ _ _ _ _ _ (T388.setTop (mkF m 228 #[.val (.int i), .val (.ref b120), .val (.ref b201), .val (.int (12 : Int32)), .val (.ref w_ENDING_WITH), .val (.int (1 : Int32))] [(.ref w_ENDING_WITH)]))
    have f396 := ((((((((((((((((((((((((((((((((((F_ENDING_WITH_arity.ext E120).other W125 (Or.inl ne_w_ENDING_WITH_b120)).other W130 (Or.inl ne_w_ENDING_WITH_b120)).other W135 (Or.inl ne_w_ENDING_WITH_b120)).other W140 (Or.inl ne_w_ENDING_WITH_b120)).other W145 (Or.inl ne_w_ENDING_WITH_b120)).other W150 (Or.inl ne_w_ENDING_WITH_b120)).other W155 (Or.inl ne_w_ENDING_WITH_b120)).other W160 (Or.inl ne_w_ENDING_WITH_b120)).other W165 (Or.inl ne_w_ENDING_WITH_b120)).other W170 (Or.inl ne_w_ENDING_WITH_b120)).other W175 (Or.inl ne_w_ENDING_WITH_b120)).other W180 (Or.inl ne_w_ENDING_WITH_b120)).other W185 (Or.inl ne_w_ENDING_WITH_b120)).other W190 (Or.inl ne_w_ENDING_WITH_b120)).other W195 (Or.inl ne_w_ENDING_WITH_b120)).other W200 (Or.inl ne_w_ENDING_WITH_b120)).ext E201).other W219 (Or.inl ne_w_ENDING_WITH_b201)).other W221 (Or.inl ne_w_ENDING_WITH_b201)).other W223 (Or.inl ne_w_ENDING_WITH_b201)).other W225 (Or.inl ne_w_ENDING_WITH_b201)).other W227 (Or.inl ne_w_ENDING_WITH_b201)).other W229 (Or.inl ne_w_ENDING_WITH_b201)).other W231 (Or.inl ne_w_ENDING_WITH_b201)).other W233 (Or.inl ne_w_ENDING_WITH_b201)).other W235 (Or.inl ne_w_ENDING_WITH_b201)).other W237 (Or.inl ne_w_ENDING_WITH_b201)).other W239 (Or.inl ne_w_ENDING_WITH_b201)).other W241 (Or.inl ne_w_ENDING_WITH_b201)).other W243 (Or.inl ne_w_ENDING_WITH_b201)).other W245 (Or.inl ne_w_ENDING_WITH_b201)).other W247 (Or.inl ne_w_ENDING_WITH_b201)).other W249 (Or.inl ne_w_ENDING_WITH_b201))
    obtain ⟨cq395, kq395, q395a, q395b, q395c⟩ := isOf hZ eh388 f393
    obtain ⟨_, _, ⟨T395, L395, k395, n395⟩, -, X395, ⟨Lc395, hQ395, l395, y395, z395⟩, st395⟩ := X388.virtualBack hx (y := (⟨"com/example/demi_orm/demiorm/query/Operator", "arity", "()I"⟩ : MethodName)) (z := (⟨"com/example/demi_orm/demiorm/query/Operator", "arity", "()I"⟩ : MethodName)) hown (mvT hZ (hw _ (List.mem_of_getElem? (i := 48) rfl))) (mvT hZ (hw _ (List.mem_of_getElem? (i := 49) rfl))) (notFace_of_selects (args := #[]) (mvT hZ (hw _ (List.mem_of_getElem? (i := 51) rfl)))) (mvT hZ (hw _ (List.mem_of_getElem? (i := 51) rfl))) (mvT hZ (hw _ (List.mem_of_getElem? (i := 50) rfl))) (by decide) (backOf (W := 0) (rm2 l Z a0 hw [] w_ENDING_WITH (1 : Int32) h249 n0 Z249 f396) hZ (hw _ (List.mem_of_getElem? (i := 52) rfl)) (hw _ (List.mem_of_getElem? (i := 3) rfl)) (by decide) (by decide)) q395a q395c (g := (mkF m 228 #[.val (.int i), .val (.ref b120), .val (.ref b201), .val (.int (12 : Int32)), .val (.ref w_ENDING_WITH), .val (.int (1 : Int32))] [(.ref w_ENDING_WITH)])) rfl (by rw [hml]; rfl) (Steps.refl _) (argsL := []) (rest := []) (lenOf pd___I rfl) rfl (by show 2 * 0 + _ ≤ _; exact Nat.le_of_eq rfl) (hb hby at_228) (fun _ _ => ⟨rfl, eh388, (by decide : 2 + 0 ≤ _), (by decide : 32 + 0 ≤ _)⟩)
    dsimp only [Pt.U, Pt.locs, Pt.cells, Pt.slots] at X395 l395 y395 z395 st395 hQ395
    replace l395 := Eq.symm l395
    replace y395 := Eq.symm y395
    replace z395 := Eq.symm z395
    subst l395 y395 z395
    obtain ⟨Nq395, rfl, eh395⟩ := hQ395
    have N395 := Fr.app N388 Nq395
    refine Gl.back (fun _ k => st395.trans k) ?_
    show Gl _ _ _ _ _ _ _ (T395.setTop (mkF m 231 #[.val (.int i), .val (.ref b120), .val (.ref b201), .val (.int (12 : Int32)), .val (.ref w_ENDING_WITH), .val (.int (1 : Int32))] [(.int (1 : Int32))]))
    refine Gl.back (fun _ k => XS.iconst X395.here hx rfl (hb hby at_231) k) ?_
    show Gl _ _ _ _ _ _ _ (T395.setTop (mkF m 232 #[.val (.int i), .val (.ref b120), .val (.ref b201), .val (.int (12 : Int32)), .val (.ref w_ENDING_WITH), .val (.int (1 : Int32))] [(.int (1 : Int32)), (.int (1 : Int32))]))
    refine Gl.back (fun _ k => XS.icmpNo X395.here hx rfl (hb hby at_232) rfl (teq (by decide : (1 : Int32) = (1 : Int32))).2 k) ?_
    show Gl _ _ _ _ _ _ _ (T395.setTop (mkF m 235 #[.val (.int i), .val (.ref b120), .val (.ref b201), .val (.int (12 : Int32)), .val (.ref w_ENDING_WITH), .val (.int (1 : Int32))] []))
    refine Gl.back (fun _ k => XS.aload X395.here hx rfl (hb hby at_235) rfl rfl k) ?_
    show Gl _ _ _ _ _ _ _ (T395.setTop (mkF m 237 #[.val (.int i), .val (.ref b120), .val (.ref b201), .val (.int (12 : Int32)), .val (.ref w_ENDING_WITH), .val (.int (1 : Int32))] [(.ref w_ENDING_WITH)]))
    have f398 := (((((((((((((((((((f191.wr W195).wr W200).ext E201).wr W219).wr W221).wr W223).wr W225).wr W227).wr W229).wr W231).wr W233).wr W235).wr W237).wr W239).wr W241).wr W243).wr W245).wr W247).wr W249)
    have f399 := ((((((((((((((((((f196.wr W200).ext E201).wr W219).wr W221).wr W223).wr W225).wr W227).wr W229).wr W231).wr W233).wr W235).wr W237).wr W239).wr W241).wr W243).wr W245).wr W247).wr W249)
    obtain ⟨cq397, kq397, q397a, q397b, q397c⟩ := isOf hZ eh395 f393
    obtain ⟨_, _, ⟨T397, L397, k397, n397⟩, -, X397, ⟨Lc397, hQ397, l397, y397, z397⟩, st397⟩ := X395.virtualBack hx (y := (⟨"com/example/demi_orm/demiorm/query/Operator", "takesCollection", "()Z"⟩ : MethodName)) (z := (⟨"com/example/demi_orm/demiorm/query/Operator", "takesCollection", "()Z"⟩ : MethodName)) hown (mvT hZ (hw _ (List.mem_of_getElem? (i := 55) rfl))) (mvT hZ (hw _ (List.mem_of_getElem? (i := 56) rfl))) (notFace_of_selects (args := #[]) (mvT hZ (hw _ (List.mem_of_getElem? (i := 58) rfl)))) (mvT hZ (hw _ (List.mem_of_getElem? (i := 58) rfl))) (mvT hZ (hw _ (List.mem_of_getElem? (i := 57) rfl))) (by decide) (backOf (W := 0) (rm3_no l Z a0 hw [] w_ENDING_WITH w_IN w_NOT_IN h249 n0 Z249 f398 f399 (Fld.ne F_ENDING_WITH_ordinal F_IN_ordinal (by decide)) (Fld.ne F_ENDING_WITH_ordinal F_NOT_IN_ordinal (by decide))) hZ (hw _ (List.mem_of_getElem? (i := 59) rfl)) (hw _ (List.mem_of_getElem? (i := 3) rfl)) (by decide) (by decide)) q397a q397c (g := (mkF m 237 #[.val (.int i), .val (.ref b120), .val (.ref b201), .val (.int (12 : Int32)), .val (.ref w_ENDING_WITH), .val (.int (1 : Int32))] [(.ref w_ENDING_WITH)])) rfl (by rw [hml]; rfl) (Steps.refl _) (argsL := []) (rest := []) (lenOf pd___Z rfl) rfl (by show 2 * 0 + _ ≤ _; exact Nat.le_of_eq rfl) (hb hby at_237) (fun _ _ => ⟨rfl, eh395, (by decide : 2 + 0 ≤ _), (by decide : 32 + 0 ≤ _)⟩)
    dsimp only [Pt.U, Pt.locs, Pt.cells, Pt.slots] at X397 l397 y397 z397 st397 hQ397
    replace l397 := Eq.symm l397
    replace y397 := Eq.symm y397
    replace z397 := Eq.symm z397
    subst l397 y397 z397
    obtain ⟨Nq397, rfl, eh397⟩ := hQ397
    have N397 := Fr.app N395 Nq397
    refine Gl.back (fun _ k => st397.trans k) ?_
    show Gl _ _ _ _ _ _ _ (T397.setTop (mkF m 240 #[.val (.int i), .val (.ref b120), .val (.ref b201), .val (.int (12 : Int32)), .val (.ref w_ENDING_WITH), .val (.int (1 : Int32))] [(.int (0 : Int32))]))
    refine Gl.back (fun _ k => XS.ifNo X397.here hx rfl (hb hby at_240) rfl ((if0 _ _).trans (teq (by decide : (0 : Int32) = (0 : Int32))).2) k) ?_
    show Gl _ _ _ _ _ _ _ (T397.setTop (mkF m 243 #[.val (.int i), .val (.ref b120), .val (.ref b201), .val (.int (12 : Int32)), .val (.ref w_ENDING_WITH), .val (.int (1 : Int32))] []))
    refine Gl.back (fun _ k => XS.aload X397.here hx rfl (hb hby at_243) rfl rfl k) ?_
    show Gl _ _ _ _ _ _ _ (T397.setTop (mkF m 245 #[.val (.int i), .val (.ref b120), .val (.ref b201), .val (.int (12 : Int32)), .val (.ref w_ENDING_WITH), .val (.int (1 : Int32))] [(.ref w_ENDING_WITH)]))
    have f401 := (((((((((((((((((((((((((((((((((f121.wr W125).wr W130).wr W135).wr W140).wr W145).wr W150).wr W155).wr W160).wr W165).wr W170).wr W175).wr W180).wr W185).wr W190).wr W195).wr W200).ext E201).wr W219).wr W221).wr W223).wr W225).wr W227).wr W229).wr W231).wr W233).wr W235).wr W237).wr W239).wr W241).wr W243).wr W245).wr W247).wr W249)
    have f402 := ((((((((((((((((((((((((((((((((f126.wr W130).wr W135).wr W140).wr W145).wr W150).wr W155).wr W160).wr W165).wr W170).wr W175).wr W180).wr W185).wr W190).wr W195).wr W200).ext E201).wr W219).wr W221).wr W223).wr W225).wr W227).wr W229).wr W231).wr W233).wr W235).wr W237).wr W239).wr W241).wr W243).wr W245).wr W247).wr W249)
    obtain ⟨cq400, kq400, q400a, q400b, q400c⟩ := isOf hZ eh397 f393
    obtain ⟨_, _, ⟨T400, L400, k400, n400⟩, -, X400, ⟨Lc400, hQ400, l400, y400, z400⟩, st400⟩ := X397.virtualBack hx (y := (⟨"com/example/demi_orm/demiorm/query/Operator", "takesNull", "()Z"⟩ : MethodName)) (z := (⟨"com/example/demi_orm/demiorm/query/Operator", "takesNull", "()Z"⟩ : MethodName)) hown (mvT hZ (hw _ (List.mem_of_getElem? (i := 62) rfl))) (mvT hZ (hw _ (List.mem_of_getElem? (i := 63) rfl))) (notFace_of_selects (args := #[]) (mvT hZ (hw _ (List.mem_of_getElem? (i := 65) rfl)))) (mvT hZ (hw _ (List.mem_of_getElem? (i := 65) rfl))) (mvT hZ (hw _ (List.mem_of_getElem? (i := 64) rfl))) (by decide) (backOf (W := 0) (rm4_no l Z a0 hw [] w_ENDING_WITH w_EQUALS w_NOT_EQUALS h249 n0 Z249 f401 f402 (Fld.ne F_ENDING_WITH_ordinal F_EQUALS_ordinal (by decide)) (Fld.ne F_ENDING_WITH_ordinal F_NOT_EQUALS_ordinal (by decide))) hZ (hw _ (List.mem_of_getElem? (i := 66) rfl)) (hw _ (List.mem_of_getElem? (i := 3) rfl)) (by decide) (by decide)) q400a q400c (g := (mkF m 245 #[.val (.int i), .val (.ref b120), .val (.ref b201), .val (.int (12 : Int32)), .val (.ref w_ENDING_WITH), .val (.int (1 : Int32))] [(.ref w_ENDING_WITH)])) rfl (by rw [hml]; rfl) (Steps.refl _) (argsL := []) (rest := []) (lenOf pd___Z rfl) rfl (by show 2 * 0 + _ ≤ _; exact Nat.le_of_eq rfl) (hb hby at_245) (fun _ _ => ⟨rfl, eh397, (by decide : 2 + 0 ≤ _), (by decide : 32 + 0 ≤ _)⟩)
    dsimp only [Pt.U, Pt.locs, Pt.cells, Pt.slots] at X400 l400 y400 z400 st400 hQ400
    replace l400 := Eq.symm l400
    replace y400 := Eq.symm y400
    replace z400 := Eq.symm z400
    subst l400 y400 z400
    obtain ⟨Nq400, rfl, eh400⟩ := hQ400
    have N400 := Fr.app N397 Nq400
    refine Gl.back (fun _ k => st400.trans k) ?_
    show Gl _ _ _ _ _ _ _ (T400.setTop (mkF m 248 #[.val (.int i), .val (.ref b120), .val (.ref b201), .val (.int (12 : Int32)), .val (.ref w_ENDING_WITH), .val (.int (1 : Int32))] [(.int (0 : Int32))]))
    refine Gl.back (fun _ k => XS.ifNo X400.here hx rfl (hb hby at_248) rfl ((if0 _ _).trans (teq (by decide : (0 : Int32) = (0 : Int32))).2) k) ?_
    show Gl _ _ _ _ _ _ _ (T400.setTop (mkF m 251 #[.val (.int i), .val (.ref b120), .val (.ref b201), .val (.int (12 : Int32)), .val (.ref w_ENDING_WITH), .val (.int (1 : Int32))] []))
    refine Gl.back (fun _ k => XS.iconst X400.here hx rfl (hb hby at_251) k) ?_
    show Gl _ _ _ _ _ _ _ (T400.setTop (mkF m 252 #[.val (.int i), .val (.ref b120), .val (.ref b201), .val (.int (12 : Int32)), .val (.ref w_ENDING_WITH), .val (.int (1 : Int32))] [(.int (1 : Int32))]))
    refine Gl.back (fun _ k => XS.goto X400.here hx rfl (pc0 := 252) (pc' := 256) rfl (hb hby at_252) (by decide) (by decide) k) ?_
    show Gl _ _ _ _ _ _ _ (T400.setTop (mkF m 256 #[.val (.int i), .val (.ref b120), .val (.ref b201), .val (.int (12 : Int32)), .val (.ref w_ENDING_WITH), .val (.int (1 : Int32))] [(.int (1 : Int32))]))
    exact Gl.ret X400 eh400 (v := (some (.int (1 : Int32)))) (fun h => by rw [Bd.returns] at h; cases h) Bd.notSynchronized (fun fs hr => retN X400 hx (t := .boolean) (z := (1 : Int32)) Bd.returns (by simp) (hb hby at_256) hr) ⟨N400, rfl⟩ (by decide) (by decide)
  · rw [hk250]
    show Gl _ _ _ _ _ _ _ (T249.setTop (mkF m 198 #[.val (.int i), .val (.ref b120), .val (.ref b201), .unset, .unset, .unset] [(.int (13 : Int32))]))
    refine Gl.back (fun _ k => XS.istoreN X249.here hx rfl (hb hby at_198) rfl (l' := #[.val (.int i), .val (.ref b120), .val (.ref b201), .val (.int (13 : Int32)), .unset, .unset]) rfl k) ?_
    show Gl _ _ _ _ _ _ _ (T249.setTop (mkF m 199 #[.val (.int i), .val (.ref b120), .val (.ref b201), .val (.int (13 : Int32)), .unset, .unset] []))
    refine Gl.back (fun _ k => XS.aloadN X249.here hx rfl (hb hby at_199) rfl rfl k) ?_
    show Gl _ _ _ _ _ _ _ (T249.setTop (mkF m 200 #[.val (.int i), .val (.ref b120), .val (.ref b201), .val (.int (13 : Int32)), .unset, .unset] [(.ref b120)]))
    refine Gl.back (fun _ k => XS.iloadN X249.here hx rfl (hb hby at_200) rfl k) ?_
    show Gl _ _ _ _ _ _ _ (T249.setTop (mkF m 201 #[.val (.int i), .val (.ref b120), .val (.ref b201), .val (.int (13 : Int32)), .unset, .unset] [(.int (13 : Int32)), (.ref b120)]))
    have f403 := (((((((((((((((((V200.ext E201).other W219 ne_b120_b201).other W221 ne_b120_b201).other W223 ne_b120_b201).other W225 ne_b120_b201).other W227 ne_b120_b201).other W229 ne_b120_b201).other W231 ne_b120_b201).other W233 ne_b120_b201).other W235 ne_b120_b201).other W237 ne_b120_b201).other W239 ne_b120_b201).other W241 ne_b120_b201).other W243 ne_b120_b201).other W245 ne_b120_b201).other W247 ne_b120_b201).other W249 ne_b120_b201)
    obtain ⟨cl404, Ar404, q404, Sz404, Nn404, Hs404, Gf404⟩ := id f403
    have hin404 : ¬ ((13 : Int32) < 0 ∨ cl404.slots.size ≤ ((13 : Int32)).toNatClampNeg) := inb_of Sz404 ⟨by decide, by decide⟩
    have hat404 : cl404.slots[((13 : Int32)).toNatClampNeg]? = some (.ref w_CONTAINING) := Hs404.at hin404 (rfl)
    refine Gl.back (fun _ k => X249.aaload hx (j := (13 : Int32)) (v := (.ref w_CONTAINING)) (by rw [e249]; exact Ar404.1) (State.isArrayOf_alike hZ.alike Ar404.2.1) rfl Ar404.2.2 hin404 hat404 (g := (mkF m 201 #[.val (.int i), .val (.ref b120), .val (.ref b201), .val (.int (13 : Int32)), .unset, .unset] [(.int (13 : Int32)), (.ref b120)])) rfl rfl (hb hby at_201) _ k) ?_
    show Gl _ _ _ _ _ _ _ (T249.setTop (mkF m 202 #[.val (.int i), .val (.ref b120), .val (.ref b201), .val (.int (13 : Int32)), .unset, .unset] [(.ref w_CONTAINING)]))
    refine Gl.back (fun _ k => XS.astore X249.here hx rfl (hb hby at_202) rfl rfl (l' := #[.val (.int i), .val (.ref b120), .val (.ref b201), .val (.int (13 : Int32)), .val (.ref w_CONTAINING), .unset]) rfl k) ?_
    show Gl _ _ _ _ _ _ _ (T249.setTop (mkF m 204 #[.val (.int i), .val (.ref b120), .val (.ref b201), .val (.int (13 : Int32)), .val (.ref w_CONTAINING), .unset] []))
    refine Gl.back (fun _ k => XS.aload X249.here hx rfl (hb hby at_204) rfl rfl k) ?_
    show Gl _ _ _ _ _ _ _ (T249.setTop (mkF m 206 #[.val (.int i), .val (.ref b120), .val (.ref b201), .val (.int (13 : Int32)), .val (.ref w_CONTAINING), .unset] [(.ref w_CONTAINING)]))
    have f406 := ((((((((((((((((((((((((f166.wr W170).wr W175).wr W180).wr W185).wr W190).wr W195).wr W200).ext E201).wr W219).wr W221).wr W223).wr W225).wr W227).wr W229).wr W231).wr W233).wr W235).wr W237).wr W239).wr W241).wr W243).wr W245).wr W247).wr W249)
    have f407 := (((((((((((((((((((((((f171.wr W175).wr W180).wr W185).wr W190).wr W195).wr W200).ext E201).wr W219).wr W221).wr W223).wr W225).wr W227).wr W229).wr W231).wr W233).wr W235).wr W237).wr W239).wr W241).wr W243).wr W245).wr W247).wr W249)
    have f408 := ((((((((((((((((((((((f176.wr W180).wr W185).wr W190).wr W195).wr W200).ext E201).wr W219).wr W221).wr W223).wr W225).wr W227).wr W229).wr W231).wr W233).wr W235).wr W237).wr W239).wr W241).wr W243).wr W245).wr W247).wr W249)
    have f409 := (((((((((((((((((((((f181.wr W185).wr W190).wr W195).wr W200).ext E201).wr W219).wr W221).wr W223).wr W225).wr W227).wr W229).wr W231).wr W233).wr W235).wr W237).wr W239).wr W241).wr W243).wr W245).wr W247).wr W249)
    have f410 := ((((((((((((((((((((f186.wr W190).wr W195).wr W200).ext E201).wr W219).wr W221).wr W223).wr W225).wr W227).wr W229).wr W231).wr W233).wr W235).wr W237).wr W239).wr W241).wr W243).wr W245).wr W247).wr W249)
    have f411 := (((((((((((((((((f215.ext E201).wr W219).wr W221).wr W223).wr W225).wr W227).wr W229).wr W231).wr W233).wr W235).wr W237).wr W239).wr W241).wr W243).wr W245).wr W247).wr W249)
    obtain ⟨cq405, kq405, q405a, q405b, q405c⟩ := isOf hZ e249 f411
    obtain ⟨_, _, ⟨T405, L405, k405, n405⟩, -, X405, ⟨Lc405, hQ405, l405, y405, z405⟩, st405⟩ := X249.virtualBack hx (y := (⟨"com/example/demi_orm/demiorm/query/Operator", "comparesText", "()Z"⟩ : MethodName)) (z := (⟨"com/example/demi_orm/demiorm/query/Operator", "comparesText", "()Z"⟩ : MethodName)) hown (mvT hZ (hw _ (List.mem_of_getElem? (i := 38) rfl))) (mvT hZ (hw _ (List.mem_of_getElem? (i := 39) rfl))) (notFace_of_selects (args := #[]) (mvT hZ (hw _ (List.mem_of_getElem? (i := 41) rfl)))) (mvT hZ (hw _ (List.mem_of_getElem? (i := 41) rfl))) (mvT hZ (hw _ (List.mem_of_getElem? (i := 40) rfl))) (by decide) (backOf (W := 0) (rm1_CONTAINING l Z a0 hw [] w_CONTAINING w_LIKE w_NOT_LIKE w_STARTING_WITH w_ENDING_WITH h249 n0 Z249 f406 f407 f408 f409 f410 (Fld.ne F_CONTAINING_ordinal F_LIKE_ordinal (by decide)) (Fld.ne F_CONTAINING_ordinal F_NOT_LIKE_ordinal (by decide)) (Fld.ne F_CONTAINING_ordinal F_STARTING_WITH_ordinal (by decide)) (Fld.ne F_CONTAINING_ordinal F_ENDING_WITH_ordinal (by decide))) hZ (hw _ (List.mem_of_getElem? (i := 42) rfl)) (hw _ (List.mem_of_getElem? (i := 3) rfl)) (by decide) (by decide)) q405a q405c (g := (mkF m 206 #[.val (.int i), .val (.ref b120), .val (.ref b201), .val (.int (13 : Int32)), .val (.ref w_CONTAINING), .unset] [(.ref w_CONTAINING)])) rfl (by rw [hml]; rfl) (Steps.refl _) (argsL := []) (rest := []) (lenOf pd___Z rfl) rfl (by show 2 * 0 + _ ≤ _; exact Nat.le_of_eq rfl) (hb hby at_206) (fun _ _ => ⟨rfl, e249, (by decide : 2 + 0 ≤ _), (by decide : 32 + 0 ≤ _)⟩)
    dsimp only [Pt.U, Pt.locs, Pt.cells, Pt.slots] at X405 l405 y405 z405 st405 hQ405
    replace l405 := Eq.symm l405
    replace y405 := Eq.symm y405
    replace z405 := Eq.symm z405
    subst l405 y405 z405
    obtain ⟨Nq405, rfl, eh405⟩ := hQ405
    have N405 := Fr.app N249 Nq405
    refine Gl.back (fun _ k => st405.trans k) ?_
    show Gl _ _ _ _ _ _ _ (T405.setTop (mkF m 209 #[.val (.int i), .val (.ref b120), .val (.ref b201), .val (.int (13 : Int32)), .val (.ref w_CONTAINING), .unset] [(.int (1 : Int32))]))
    refine Gl.back (fun _ k => XS.istore X405.here hx rfl (hb hby at_209) rfl (l' := #[.val (.int i), .val (.ref b120), .val (.ref b201), .val (.int (13 : Int32)), .val (.ref w_CONTAINING), .val (.int (1 : Int32))]) rfl k) ?_
    show Gl _ _ _ _ _ _ _ (T405.setTop (mkF m 211 #[.val (.int i), .val (.ref b120), .val (.ref b201), .val (.int (13 : Int32)), .val (.ref w_CONTAINING), .val (.int (1 : Int32))] []))
    refine Gl.back (fun _ k => XS.iload X405.here hx rfl (hb hby at_211) rfl k) ?_
    show Gl _ _ _ _ _ _ _ (T405.setTop (mkF m 213 #[.val (.int i), .val (.ref b120), .val (.ref b201), .val (.int (13 : Int32)), .val (.ref w_CONTAINING), .val (.int (1 : Int32))] [(.int (1 : Int32))]))
    refine Gl.back (fun _ k => XS.aloadN X405.here hx rfl (hb hby at_213) rfl rfl k) ?_
    show Gl _ _ _ _ _ _ _ (T405.setTop (mkF m 214 #[.val (.int i), .val (.ref b120), .val (.ref b201), .val (.int (13 : Int32)), .val (.ref w_CONTAINING), .val (.int (1 : Int32))] [(.ref b201), (.int (1 : Int32))]))
    refine Gl.back (fun _ k => XS.iloadN X405.here hx rfl (hb hby at_214) rfl k) ?_
    show Gl _ _ _ _ _ _ _ (T405.setTop (mkF m 215 #[.val (.int i), .val (.ref b120), .val (.ref b201), .val (.int (13 : Int32)), .val (.ref w_CONTAINING), .val (.int (1 : Int32))] [(.int (13 : Int32)), (.ref b201), (.int (1 : Int32))]))
    obtain ⟨cl412, Ar412, q412, Sz412, Nn412, Hs412, Gf412⟩ := id V249
    have hin412 : ¬ ((13 : Int32) < 0 ∨ cl412.slots.size ≤ ((13 : Int32)).toNatClampNeg) := inb_of Sz412 ⟨by decide, by decide⟩
    have hat412 : cl412.slots[((13 : Int32)).toNatClampNeg]? = some (.int (1 : Int32)) := Hs412.at hin412 (rfl)
    refine Gl.back (fun _ k => X405.baloadBooleans hx (j := (13 : Int32)) (v := (.int (1 : Int32))) (by rw [eh405]; exact Ar412.1) (State.isArrayOf_alike hZ.alike Ar412.2.1) Ar412.2.2 hin412 hat412 (g := (mkF m 215 #[.val (.int i), .val (.ref b120), .val (.ref b201), .val (.int (13 : Int32)), .val (.ref w_CONTAINING), .val (.int (1 : Int32))] [(.int (13 : Int32)), (.ref b201), (.int (1 : Int32))])) rfl rfl (hb hby at_215) _ k) ?_
    show Gl _ _ _ _ _ _ _ (T405.setTop (mkF m 216 #[.val (.int i), .val (.ref b120), .val (.ref b201), .val (.int (13 : Int32)), .val (.ref w_CONTAINING), .val (.int (1 : Int32))] [(.int (1 : Int32)), (.int (1 : Int32))]))
    refine Gl.back (fun _ k => XS.icmpYes X405.here hx rfl (pc0 := 216) (pc' := 221) rfl (hb hby at_216) rfl (teq (by decide : (1 : Int32) = (1 : Int32))).1 (by decide) (by decide) k) ?_
    show Gl _ _ _ _ _ _ _ (T405.setTop (mkF m 221 #[.val (.int i), .val (.ref b120), .val (.ref b201), .val (.int (13 : Int32)), .val (.ref w_CONTAINING), .val (.int (1 : Int32))] []))
    refine Gl.back (fun _ k => XS.iload X405.here hx rfl (hb hby at_221) rfl k) ?_
    show Gl _ _ _ _ _ _ _ (T405.setTop (mkF m 223 #[.val (.int i), .val (.ref b120), .val (.ref b201), .val (.int (13 : Int32)), .val (.ref w_CONTAINING), .val (.int (1 : Int32))] [(.int (1 : Int32))]))
    refine Gl.back (fun _ k => XS.ifNo X405.here hx rfl (hb hby at_223) rfl ((if0 _ _).trans (feq (by decide : ¬ (1 : Int32) = (0 : Int32))).1) k) ?_
    show Gl _ _ _ _ _ _ _ (T405.setTop (mkF m 226 #[.val (.int i), .val (.ref b120), .val (.ref b201), .val (.int (13 : Int32)), .val (.ref w_CONTAINING), .val (.int (1 : Int32))] []))
    refine Gl.back (fun _ k => XS.aload X405.here hx rfl (hb hby at_226) rfl rfl k) ?_
    show Gl _ _ _ _ _ _ _ (T405.setTop (mkF m 228 #[.val (.int i), .val (.ref b120), .val (.ref b201), .val (.int (13 : Int32)), .val (.ref w_CONTAINING), .val (.int (1 : Int32))] [(.ref w_CONTAINING)]))
    have f414 := ((((((((((((((((((((((((((((((((((F_CONTAINING_arity.ext E120).other W125 (Or.inl ne_w_CONTAINING_b120)).other W130 (Or.inl ne_w_CONTAINING_b120)).other W135 (Or.inl ne_w_CONTAINING_b120)).other W140 (Or.inl ne_w_CONTAINING_b120)).other W145 (Or.inl ne_w_CONTAINING_b120)).other W150 (Or.inl ne_w_CONTAINING_b120)).other W155 (Or.inl ne_w_CONTAINING_b120)).other W160 (Or.inl ne_w_CONTAINING_b120)).other W165 (Or.inl ne_w_CONTAINING_b120)).other W170 (Or.inl ne_w_CONTAINING_b120)).other W175 (Or.inl ne_w_CONTAINING_b120)).other W180 (Or.inl ne_w_CONTAINING_b120)).other W185 (Or.inl ne_w_CONTAINING_b120)).other W190 (Or.inl ne_w_CONTAINING_b120)).other W195 (Or.inl ne_w_CONTAINING_b120)).other W200 (Or.inl ne_w_CONTAINING_b120)).ext E201).other W219 (Or.inl ne_w_CONTAINING_b201)).other W221 (Or.inl ne_w_CONTAINING_b201)).other W223 (Or.inl ne_w_CONTAINING_b201)).other W225 (Or.inl ne_w_CONTAINING_b201)).other W227 (Or.inl ne_w_CONTAINING_b201)).other W229 (Or.inl ne_w_CONTAINING_b201)).other W231 (Or.inl ne_w_CONTAINING_b201)).other W233 (Or.inl ne_w_CONTAINING_b201)).other W235 (Or.inl ne_w_CONTAINING_b201)).other W237 (Or.inl ne_w_CONTAINING_b201)).other W239 (Or.inl ne_w_CONTAINING_b201)).other W241 (Or.inl ne_w_CONTAINING_b201)).other W243 (Or.inl ne_w_CONTAINING_b201)).other W245 (Or.inl ne_w_CONTAINING_b201)).other W247 (Or.inl ne_w_CONTAINING_b201)).other W249 (Or.inl ne_w_CONTAINING_b201))
    obtain ⟨cq413, kq413, q413a, q413b, q413c⟩ := isOf hZ eh405 f411
    obtain ⟨_, _, ⟨T413, L413, k413, n413⟩, -, X413, ⟨Lc413, hQ413, l413, y413, z413⟩, st413⟩ := X405.virtualBack hx (y := (⟨"com/example/demi_orm/demiorm/query/Operator", "arity", "()I"⟩ : MethodName)) (z := (⟨"com/example/demi_orm/demiorm/query/Operator", "arity", "()I"⟩ : MethodName)) hown (mvT hZ (hw _ (List.mem_of_getElem? (i := 48) rfl))) (mvT hZ (hw _ (List.mem_of_getElem? (i := 49) rfl))) (notFace_of_selects (args := #[]) (mvT hZ (hw _ (List.mem_of_getElem? (i := 51) rfl)))) (mvT hZ (hw _ (List.mem_of_getElem? (i := 51) rfl))) (mvT hZ (hw _ (List.mem_of_getElem? (i := 50) rfl))) (by decide) (backOf (W := 0) (rm2 l Z a0 hw [] w_CONTAINING (1 : Int32) h249 n0 Z249 f414) hZ (hw _ (List.mem_of_getElem? (i := 52) rfl)) (hw _ (List.mem_of_getElem? (i := 3) rfl)) (by decide) (by decide)) q413a q413c (g := (mkF m 228 #[.val (.int i), .val (.ref b120), .val (.ref b201), .val (.int (13 : Int32)), .val (.ref w_CONTAINING), .val (.int (1 : Int32))] [(.ref w_CONTAINING)])) rfl (by rw [hml]; rfl) (Steps.refl _) (argsL := []) (rest := []) (lenOf pd___I rfl) rfl (by show 2 * 0 + _ ≤ _; exact Nat.le_of_eq rfl) (hb hby at_228) (fun _ _ => ⟨rfl, eh405, (by decide : 2 + 0 ≤ _), (by decide : 32 + 0 ≤ _)⟩)
    dsimp only [Pt.U, Pt.locs, Pt.cells, Pt.slots] at X413 l413 y413 z413 st413 hQ413
    replace l413 := Eq.symm l413
    replace y413 := Eq.symm y413
    replace z413 := Eq.symm z413
    subst l413 y413 z413
    obtain ⟨Nq413, rfl, eh413⟩ := hQ413
    have N413 := Fr.app N405 Nq413
    refine Gl.back (fun _ k => st413.trans k) ?_
    show Gl _ _ _ _ _ _ _ (T413.setTop (mkF m 231 #[.val (.int i), .val (.ref b120), .val (.ref b201), .val (.int (13 : Int32)), .val (.ref w_CONTAINING), .val (.int (1 : Int32))] [(.int (1 : Int32))]))
    refine Gl.back (fun _ k => XS.iconst X413.here hx rfl (hb hby at_231) k) ?_
    show Gl _ _ _ _ _ _ _ (T413.setTop (mkF m 232 #[.val (.int i), .val (.ref b120), .val (.ref b201), .val (.int (13 : Int32)), .val (.ref w_CONTAINING), .val (.int (1 : Int32))] [(.int (1 : Int32)), (.int (1 : Int32))]))
    refine Gl.back (fun _ k => XS.icmpNo X413.here hx rfl (hb hby at_232) rfl (teq (by decide : (1 : Int32) = (1 : Int32))).2 k) ?_
    show Gl _ _ _ _ _ _ _ (T413.setTop (mkF m 235 #[.val (.int i), .val (.ref b120), .val (.ref b201), .val (.int (13 : Int32)), .val (.ref w_CONTAINING), .val (.int (1 : Int32))] []))
    refine Gl.back (fun _ k => XS.aload X413.here hx rfl (hb hby at_235) rfl rfl k) ?_
    show Gl _ _ _ _ _ _ _ (T413.setTop (mkF m 237 #[.val (.int i), .val (.ref b120), .val (.ref b201), .val (.int (13 : Int32)), .val (.ref w_CONTAINING), .val (.int (1 : Int32))] [(.ref w_CONTAINING)]))
    have f416 := (((((((((((((((((((f191.wr W195).wr W200).ext E201).wr W219).wr W221).wr W223).wr W225).wr W227).wr W229).wr W231).wr W233).wr W235).wr W237).wr W239).wr W241).wr W243).wr W245).wr W247).wr W249)
    have f417 := ((((((((((((((((((f196.wr W200).ext E201).wr W219).wr W221).wr W223).wr W225).wr W227).wr W229).wr W231).wr W233).wr W235).wr W237).wr W239).wr W241).wr W243).wr W245).wr W247).wr W249)
    obtain ⟨cq415, kq415, q415a, q415b, q415c⟩ := isOf hZ eh413 f411
    obtain ⟨_, _, ⟨T415, L415, k415, n415⟩, -, X415, ⟨Lc415, hQ415, l415, y415, z415⟩, st415⟩ := X413.virtualBack hx (y := (⟨"com/example/demi_orm/demiorm/query/Operator", "takesCollection", "()Z"⟩ : MethodName)) (z := (⟨"com/example/demi_orm/demiorm/query/Operator", "takesCollection", "()Z"⟩ : MethodName)) hown (mvT hZ (hw _ (List.mem_of_getElem? (i := 55) rfl))) (mvT hZ (hw _ (List.mem_of_getElem? (i := 56) rfl))) (notFace_of_selects (args := #[]) (mvT hZ (hw _ (List.mem_of_getElem? (i := 58) rfl)))) (mvT hZ (hw _ (List.mem_of_getElem? (i := 58) rfl))) (mvT hZ (hw _ (List.mem_of_getElem? (i := 57) rfl))) (by decide) (backOf (W := 0) (rm3_no l Z a0 hw [] w_CONTAINING w_IN w_NOT_IN h249 n0 Z249 f416 f417 (Fld.ne F_CONTAINING_ordinal F_IN_ordinal (by decide)) (Fld.ne F_CONTAINING_ordinal F_NOT_IN_ordinal (by decide))) hZ (hw _ (List.mem_of_getElem? (i := 59) rfl)) (hw _ (List.mem_of_getElem? (i := 3) rfl)) (by decide) (by decide)) q415a q415c (g := (mkF m 237 #[.val (.int i), .val (.ref b120), .val (.ref b201), .val (.int (13 : Int32)), .val (.ref w_CONTAINING), .val (.int (1 : Int32))] [(.ref w_CONTAINING)])) rfl (by rw [hml]; rfl) (Steps.refl _) (argsL := []) (rest := []) (lenOf pd___Z rfl) rfl (by show 2 * 0 + _ ≤ _; exact Nat.le_of_eq rfl) (hb hby at_237) (fun _ _ => ⟨rfl, eh413, (by decide : 2 + 0 ≤ _), (by decide : 32 + 0 ≤ _)⟩)
    dsimp only [Pt.U, Pt.locs, Pt.cells, Pt.slots] at X415 l415 y415 z415 st415 hQ415
    replace l415 := Eq.symm l415
    replace y415 := Eq.symm y415
    replace z415 := Eq.symm z415
    subst l415 y415 z415
    obtain ⟨Nq415, rfl, eh415⟩ := hQ415
    have N415 := Fr.app N413 Nq415
    refine Gl.back (fun _ k => st415.trans k) ?_
    show Gl _ _ _ _ _ _ _ (T415.setTop (mkF m 240 #[.val (.int i), .val (.ref b120), .val (.ref b201), .val (.int (13 : Int32)), .val (.ref w_CONTAINING), .val (.int (1 : Int32))] [(.int (0 : Int32))]))
    refine Gl.back (fun _ k => XS.ifNo X415.here hx rfl (hb hby at_240) rfl ((if0 _ _).trans (teq (by decide : (0 : Int32) = (0 : Int32))).2) k) ?_
    show Gl _ _ _ _ _ _ _ (T415.setTop (mkF m 243 #[.val (.int i), .val (.ref b120), .val (.ref b201), .val (.int (13 : Int32)), .val (.ref w_CONTAINING), .val (.int (1 : Int32))] []))
    refine Gl.back (fun _ k => XS.aload X415.here hx rfl (hb hby at_243) rfl rfl k) ?_
    show Gl _ _ _ _ _ _ _ (T415.setTop (mkF m 245 #[.val (.int i), .val (.ref b120), .val (.ref b201), .val (.int (13 : Int32)), .val (.ref w_CONTAINING), .val (.int (1 : Int32))] [(.ref w_CONTAINING)]))
    have f419 := (((((((((((((((((((((((((((((((((f121.wr W125).wr W130).wr W135).wr W140).wr W145).wr W150).wr W155).wr W160).wr W165).wr W170).wr W175).wr W180).wr W185).wr W190).wr W195).wr W200).ext E201).wr W219).wr W221).wr W223).wr W225).wr W227).wr W229).wr W231).wr W233).wr W235).wr W237).wr W239).wr W241).wr W243).wr W245).wr W247).wr W249)
    have f420 := ((((((((((((((((((((((((((((((((f126.wr W130).wr W135).wr W140).wr W145).wr W150).wr W155).wr W160).wr W165).wr W170).wr W175).wr W180).wr W185).wr W190).wr W195).wr W200).ext E201).wr W219).wr W221).wr W223).wr W225).wr W227).wr W229).wr W231).wr W233).wr W235).wr W237).wr W239).wr W241).wr W243).wr W245).wr W247).wr W249)
    obtain ⟨cq418, kq418, q418a, q418b, q418c⟩ := isOf hZ eh415 f411
    obtain ⟨_, _, ⟨T418, L418, k418, n418⟩, -, X418, ⟨Lc418, hQ418, l418, y418, z418⟩, st418⟩ := X415.virtualBack hx (y := (⟨"com/example/demi_orm/demiorm/query/Operator", "takesNull", "()Z"⟩ : MethodName)) (z := (⟨"com/example/demi_orm/demiorm/query/Operator", "takesNull", "()Z"⟩ : MethodName)) hown (mvT hZ (hw _ (List.mem_of_getElem? (i := 62) rfl))) (mvT hZ (hw _ (List.mem_of_getElem? (i := 63) rfl))) (notFace_of_selects (args := #[]) (mvT hZ (hw _ (List.mem_of_getElem? (i := 65) rfl)))) (mvT hZ (hw _ (List.mem_of_getElem? (i := 65) rfl))) (mvT hZ (hw _ (List.mem_of_getElem? (i := 64) rfl))) (by decide) (backOf (W := 0) (rm4_no l Z a0 hw [] w_CONTAINING w_EQUALS w_NOT_EQUALS h249 n0 Z249 f419 f420 (Fld.ne F_CONTAINING_ordinal F_EQUALS_ordinal (by decide)) (Fld.ne F_CONTAINING_ordinal F_NOT_EQUALS_ordinal (by decide))) hZ (hw _ (List.mem_of_getElem? (i := 66) rfl)) (hw _ (List.mem_of_getElem? (i := 3) rfl)) (by decide) (by decide)) q418a q418c (g := (mkF m 245 #[.val (.int i), .val (.ref b120), .val (.ref b201), .val (.int (13 : Int32)), .val (.ref w_CONTAINING), .val (.int (1 : Int32))] [(.ref w_CONTAINING)])) rfl (by rw [hml]; rfl) (Steps.refl _) (argsL := []) (rest := []) (lenOf pd___Z rfl) rfl (by show 2 * 0 + _ ≤ _; exact Nat.le_of_eq rfl) (hb hby at_245) (fun _ _ => ⟨rfl, eh415, (by decide : 2 + 0 ≤ _), (by decide : 32 + 0 ≤ _)⟩)
    dsimp only [Pt.U, Pt.locs, Pt.cells, Pt.slots] at X418 l418 y418 z418 st418 hQ418
    replace l418 := Eq.symm l418
    replace y418 := Eq.symm y418
    replace z418 := Eq.symm z418
    subst l418 y418 z418
    obtain ⟨Nq418, rfl, eh418⟩ := hQ418
    have N418 := Fr.app N415 Nq418
    refine Gl.back (fun _ k => st418.trans k) ?_
    show Gl _ _ _ _ _ _ _ (T418.setTop (mkF m 248 #[.val (.int i), .val (.ref b120), .val (.ref b201), .val (.int (13 : Int32)), .val (.ref w_CONTAINING), .val (.int (1 : Int32))] [(.int (0 : Int32))]))
    refine Gl.back (fun _ k => XS.ifNo X418.here hx rfl (hb hby at_248) rfl ((if0 _ _).trans (teq (by decide : (0 : Int32) = (0 : Int32))).2) k) ?_
    show Gl _ _ _ _ _ _ _ (T418.setTop (mkF m 251 #[.val (.int i), .val (.ref b120), .val (.ref b201), .val (.int (13 : Int32)), .val (.ref w_CONTAINING), .val (.int (1 : Int32))] []))
    refine Gl.back (fun _ k => XS.iconst X418.here hx rfl (hb hby at_251) k) ?_
    show Gl _ _ _ _ _ _ _ (T418.setTop (mkF m 252 #[.val (.int i), .val (.ref b120), .val (.ref b201), .val (.int (13 : Int32)), .val (.ref w_CONTAINING), .val (.int (1 : Int32))] [(.int (1 : Int32))]))
    refine Gl.back (fun _ k => XS.goto X418.here hx rfl (pc0 := 252) (pc' := 256) rfl (hb hby at_252) (by decide) (by decide) k) ?_
    show Gl _ _ _ _ _ _ _ (T418.setTop (mkF m 256 #[.val (.int i), .val (.ref b120), .val (.ref b201), .val (.int (13 : Int32)), .val (.ref w_CONTAINING), .val (.int (1 : Int32))] [(.int (1 : Int32))]))
    exact Gl.ret X418 eh418 (v := (some (.int (1 : Int32)))) (fun h => by rw [Bd.returns] at h; cases h) Bd.notSynchronized (fun fs hr => retN X418 hx (t := .boolean) (z := (1 : Int32)) Bd.returns (by simp) (hb hby at_256) hr) ⟨N418, rfl⟩ (by decide) (by decide)
  · rw [hk250]
    show Gl _ _ _ _ _ _ _ (T249.setTop (mkF m 198 #[.val (.int i), .val (.ref b120), .val (.ref b201), .unset, .unset, .unset] [(.int (14 : Int32))]))
    refine Gl.back (fun _ k => XS.istoreN X249.here hx rfl (hb hby at_198) rfl (l' := #[.val (.int i), .val (.ref b120), .val (.ref b201), .val (.int (14 : Int32)), .unset, .unset]) rfl k) ?_
    show Gl _ _ _ _ _ _ _ (T249.setTop (mkF m 199 #[.val (.int i), .val (.ref b120), .val (.ref b201), .val (.int (14 : Int32)), .unset, .unset] []))
    refine Gl.back (fun _ k => XS.aloadN X249.here hx rfl (hb hby at_199) rfl rfl k) ?_
    show Gl _ _ _ _ _ _ _ (T249.setTop (mkF m 200 #[.val (.int i), .val (.ref b120), .val (.ref b201), .val (.int (14 : Int32)), .unset, .unset] [(.ref b120)]))
    refine Gl.back (fun _ k => XS.iloadN X249.here hx rfl (hb hby at_200) rfl k) ?_
    show Gl _ _ _ _ _ _ _ (T249.setTop (mkF m 201 #[.val (.int i), .val (.ref b120), .val (.ref b201), .val (.int (14 : Int32)), .unset, .unset] [(.int (14 : Int32)), (.ref b120)]))
    have f421 := (((((((((((((((((V200.ext E201).other W219 ne_b120_b201).other W221 ne_b120_b201).other W223 ne_b120_b201).other W225 ne_b120_b201).other W227 ne_b120_b201).other W229 ne_b120_b201).other W231 ne_b120_b201).other W233 ne_b120_b201).other W235 ne_b120_b201).other W237 ne_b120_b201).other W239 ne_b120_b201).other W241 ne_b120_b201).other W243 ne_b120_b201).other W245 ne_b120_b201).other W247 ne_b120_b201).other W249 ne_b120_b201)
    obtain ⟨cl422, Ar422, q422, Sz422, Nn422, Hs422, Gf422⟩ := id f421
    have hin422 : ¬ ((14 : Int32) < 0 ∨ cl422.slots.size ≤ ((14 : Int32)).toNatClampNeg) := inb_of Sz422 ⟨by decide, by decide⟩
    have hat422 : cl422.slots[((14 : Int32)).toNatClampNeg]? = some (.ref w_IN) := Hs422.at hin422 (rfl)
    refine Gl.back (fun _ k => X249.aaload hx (j := (14 : Int32)) (v := (.ref w_IN)) (by rw [e249]; exact Ar422.1) (State.isArrayOf_alike hZ.alike Ar422.2.1) rfl Ar422.2.2 hin422 hat422 (g := (mkF m 201 #[.val (.int i), .val (.ref b120), .val (.ref b201), .val (.int (14 : Int32)), .unset, .unset] [(.int (14 : Int32)), (.ref b120)])) rfl rfl (hb hby at_201) _ k) ?_
    show Gl _ _ _ _ _ _ _ (T249.setTop (mkF m 202 #[.val (.int i), .val (.ref b120), .val (.ref b201), .val (.int (14 : Int32)), .unset, .unset] [(.ref w_IN)]))
    refine Gl.back (fun _ k => XS.astore X249.here hx rfl (hb hby at_202) rfl rfl (l' := #[.val (.int i), .val (.ref b120), .val (.ref b201), .val (.int (14 : Int32)), .val (.ref w_IN), .unset]) rfl k) ?_
    show Gl _ _ _ _ _ _ _ (T249.setTop (mkF m 204 #[.val (.int i), .val (.ref b120), .val (.ref b201), .val (.int (14 : Int32)), .val (.ref w_IN), .unset] []))
    refine Gl.back (fun _ k => XS.aload X249.here hx rfl (hb hby at_204) rfl rfl k) ?_
    show Gl _ _ _ _ _ _ _ (T249.setTop (mkF m 206 #[.val (.int i), .val (.ref b120), .val (.ref b201), .val (.int (14 : Int32)), .val (.ref w_IN), .unset] [(.ref w_IN)]))
    have f424 := ((((((((((((((((((((((((f166.wr W170).wr W175).wr W180).wr W185).wr W190).wr W195).wr W200).ext E201).wr W219).wr W221).wr W223).wr W225).wr W227).wr W229).wr W231).wr W233).wr W235).wr W237).wr W239).wr W241).wr W243).wr W245).wr W247).wr W249)
    have f425 := (((((((((((((((((((((((f171.wr W175).wr W180).wr W185).wr W190).wr W195).wr W200).ext E201).wr W219).wr W221).wr W223).wr W225).wr W227).wr W229).wr W231).wr W233).wr W235).wr W237).wr W239).wr W241).wr W243).wr W245).wr W247).wr W249)
    have f426 := ((((((((((((((((((((((f176.wr W180).wr W185).wr W190).wr W195).wr W200).ext E201).wr W219).wr W221).wr W223).wr W225).wr W227).wr W229).wr W231).wr W233).wr W235).wr W237).wr W239).wr W241).wr W243).wr W245).wr W247).wr W249)
    have f427 := (((((((((((((((((((((f181.wr W185).wr W190).wr W195).wr W200).ext E201).wr W219).wr W221).wr W223).wr W225).wr W227).wr W229).wr W231).wr W233).wr W235).wr W237).wr W239).wr W241).wr W243).wr W245).wr W247).wr W249)
    have f428 := ((((((((((((((((((((f186.wr W190).wr W195).wr W200).ext E201).wr W219).wr W221).wr W223).wr W225).wr W227).wr W229).wr W231).wr W233).wr W235).wr W237).wr W239).wr W241).wr W243).wr W245).wr W247).wr W249)
    have f429 := (((((((((((((((((f216.ext E201).wr W219).wr W221).wr W223).wr W225).wr W227).wr W229).wr W231).wr W233).wr W235).wr W237).wr W239).wr W241).wr W243).wr W245).wr W247).wr W249)
    obtain ⟨cq423, kq423, q423a, q423b, q423c⟩ := isOf hZ e249 f429
    obtain ⟨_, _, ⟨T423, L423, k423, n423⟩, -, X423, ⟨Lc423, hQ423, l423, y423, z423⟩, st423⟩ := X249.virtualBack hx (y := (⟨"com/example/demi_orm/demiorm/query/Operator", "comparesText", "()Z"⟩ : MethodName)) (z := (⟨"com/example/demi_orm/demiorm/query/Operator", "comparesText", "()Z"⟩ : MethodName)) hown (mvT hZ (hw _ (List.mem_of_getElem? (i := 38) rfl))) (mvT hZ (hw _ (List.mem_of_getElem? (i := 39) rfl))) (notFace_of_selects (args := #[]) (mvT hZ (hw _ (List.mem_of_getElem? (i := 41) rfl)))) (mvT hZ (hw _ (List.mem_of_getElem? (i := 41) rfl))) (mvT hZ (hw _ (List.mem_of_getElem? (i := 40) rfl))) (by decide) (backOf (W := 0) (rm1_no l Z a0 hw [] w_IN w_LIKE w_NOT_LIKE w_STARTING_WITH w_ENDING_WITH w_CONTAINING h249 n0 Z249 f424 f425 f426 f427 f428 (Fld.ne F_IN_ordinal F_LIKE_ordinal (by decide)) (Fld.ne F_IN_ordinal F_NOT_LIKE_ordinal (by decide)) (Fld.ne F_IN_ordinal F_STARTING_WITH_ordinal (by decide)) (Fld.ne F_IN_ordinal F_ENDING_WITH_ordinal (by decide)) (Fld.ne F_IN_ordinal F_CONTAINING_ordinal (by decide))) hZ (hw _ (List.mem_of_getElem? (i := 42) rfl)) (hw _ (List.mem_of_getElem? (i := 3) rfl)) (by decide) (by decide)) q423a q423c (g := (mkF m 206 #[.val (.int i), .val (.ref b120), .val (.ref b201), .val (.int (14 : Int32)), .val (.ref w_IN), .unset] [(.ref w_IN)])) rfl (by rw [hml]; rfl) (Steps.refl _) (argsL := []) (rest := []) (lenOf pd___Z rfl) rfl (by show 2 * 0 + _ ≤ _; exact Nat.le_of_eq rfl) (hb hby at_206) (fun _ _ => ⟨rfl, e249, (by decide : 2 + 0 ≤ _), (by decide : 32 + 0 ≤ _)⟩)
    dsimp only [Pt.U, Pt.locs, Pt.cells, Pt.slots] at X423 l423 y423 z423 st423 hQ423
    replace l423 := Eq.symm l423
    replace y423 := Eq.symm y423
    replace z423 := Eq.symm z423
    subst l423 y423 z423
    obtain ⟨Nq423, rfl, eh423⟩ := hQ423
    have N423 := Fr.app N249 Nq423
    refine Gl.back (fun _ k => st423.trans k) ?_
    show Gl _ _ _ _ _ _ _ (T423.setTop (mkF m 209 #[.val (.int i), .val (.ref b120), .val (.ref b201), .val (.int (14 : Int32)), .val (.ref w_IN), .unset] [(.int (0 : Int32))]))
    refine Gl.back (fun _ k => XS.istore X423.here hx rfl (hb hby at_209) rfl (l' := #[.val (.int i), .val (.ref b120), .val (.ref b201), .val (.int (14 : Int32)), .val (.ref w_IN), .val (.int (0 : Int32))]) rfl k) ?_
    show Gl _ _ _ _ _ _ _ (T423.setTop (mkF m 211 #[.val (.int i), .val (.ref b120), .val (.ref b201), .val (.int (14 : Int32)), .val (.ref w_IN), .val (.int (0 : Int32))] []))
    refine Gl.back (fun _ k => XS.iload X423.here hx rfl (hb hby at_211) rfl k) ?_
    show Gl _ _ _ _ _ _ _ (T423.setTop (mkF m 213 #[.val (.int i), .val (.ref b120), .val (.ref b201), .val (.int (14 : Int32)), .val (.ref w_IN), .val (.int (0 : Int32))] [(.int (0 : Int32))]))
    refine Gl.back (fun _ k => XS.aloadN X423.here hx rfl (hb hby at_213) rfl rfl k) ?_
    show Gl _ _ _ _ _ _ _ (T423.setTop (mkF m 214 #[.val (.int i), .val (.ref b120), .val (.ref b201), .val (.int (14 : Int32)), .val (.ref w_IN), .val (.int (0 : Int32))] [(.ref b201), (.int (0 : Int32))]))
    refine Gl.back (fun _ k => XS.iloadN X423.here hx rfl (hb hby at_214) rfl k) ?_
    show Gl _ _ _ _ _ _ _ (T423.setTop (mkF m 215 #[.val (.int i), .val (.ref b120), .val (.ref b201), .val (.int (14 : Int32)), .val (.ref w_IN), .val (.int (0 : Int32))] [(.int (14 : Int32)), (.ref b201), (.int (0 : Int32))]))
    obtain ⟨cl430, Ar430, q430, Sz430, Nn430, Hs430, Gf430⟩ := id V249
    have hin430 : ¬ ((14 : Int32) < 0 ∨ cl430.slots.size ≤ ((14 : Int32)).toNatClampNeg) := inb_of Sz430 ⟨by decide, by decide⟩
    have hat430 : cl430.slots[((14 : Int32)).toNatClampNeg]? = some (.int (0 : Int32)) := Hs430.at hin430 (rfl)
    refine Gl.back (fun _ k => X423.baloadBooleans hx (j := (14 : Int32)) (v := (.int (0 : Int32))) (by rw [eh423]; exact Ar430.1) (State.isArrayOf_alike hZ.alike Ar430.2.1) Ar430.2.2 hin430 hat430 (g := (mkF m 215 #[.val (.int i), .val (.ref b120), .val (.ref b201), .val (.int (14 : Int32)), .val (.ref w_IN), .val (.int (0 : Int32))] [(.int (14 : Int32)), (.ref b201), (.int (0 : Int32))])) rfl rfl (hb hby at_215) _ k) ?_
    show Gl _ _ _ _ _ _ _ (T423.setTop (mkF m 216 #[.val (.int i), .val (.ref b120), .val (.ref b201), .val (.int (14 : Int32)), .val (.ref w_IN), .val (.int (0 : Int32))] [(.int (0 : Int32)), (.int (0 : Int32))]))
    refine Gl.back (fun _ k => XS.icmpYes X423.here hx rfl (pc0 := 216) (pc' := 221) rfl (hb hby at_216) rfl (teq (by decide : (0 : Int32) = (0 : Int32))).1 (by decide) (by decide) k) ?_
    show Gl _ _ _ _ _ _ _ (T423.setTop (mkF m 221 #[.val (.int i), .val (.ref b120), .val (.ref b201), .val (.int (14 : Int32)), .val (.ref w_IN), .val (.int (0 : Int32))] []))
    refine Gl.back (fun _ k => XS.iload X423.here hx rfl (hb hby at_221) rfl k) ?_
    show Gl _ _ _ _ _ _ _ (T423.setTop (mkF m 223 #[.val (.int i), .val (.ref b120), .val (.ref b201), .val (.int (14 : Int32)), .val (.ref w_IN), .val (.int (0 : Int32))] [(.int (0 : Int32))]))
    refine Gl.back (fun _ k => XS.ifYes X423.here hx rfl (pc0 := 223) (pc' := 257) rfl (hb hby at_223) rfl ((if0 _ _).trans (teq (by decide : (0 : Int32) = (0 : Int32))).1) (by decide) (by decide) k) ?_
    show Gl _ _ _ _ _ _ _ (T423.setTop (mkF m 257 #[.val (.int i), .val (.ref b120), .val (.ref b201), .val (.int (14 : Int32)), .val (.ref w_IN), .val (.int (0 : Int32))] []))
    refine Gl.back (fun _ k => XS.iconst X423.here hx rfl (hb hby at_257) k) ?_
    show Gl _ _ _ _ _ _ _ (T423.setTop (mkF m 258 #[.val (.int i), .val (.ref b120), .val (.ref b201), .val (.int (14 : Int32)), .val (.ref w_IN), .val (.int (0 : Int32))] [(.int (1 : Int32))]))
    exact Gl.ret X423 eh423 (v := (some (.int (1 : Int32)))) (fun h => by rw [Bd.returns] at h; cases h) Bd.notSynchronized (fun fs hr => retN X423 hx (t := .boolean) (z := (1 : Int32)) Bd.returns (by simp) (hb hby at_258) hr) ⟨N423, rfl⟩ (by decide) (by decide)
  · rw [hk250]
    show Gl _ _ _ _ _ _ _ (T249.setTop (mkF m 198 #[.val (.int i), .val (.ref b120), .val (.ref b201), .unset, .unset, .unset] [(.int (15 : Int32))]))
    refine Gl.back (fun _ k => XS.istoreN X249.here hx rfl (hb hby at_198) rfl (l' := #[.val (.int i), .val (.ref b120), .val (.ref b201), .val (.int (15 : Int32)), .unset, .unset]) rfl k) ?_
    show Gl _ _ _ _ _ _ _ (T249.setTop (mkF m 199 #[.val (.int i), .val (.ref b120), .val (.ref b201), .val (.int (15 : Int32)), .unset, .unset] []))
    refine Gl.back (fun _ k => XS.aloadN X249.here hx rfl (hb hby at_199) rfl rfl k) ?_
    show Gl _ _ _ _ _ _ _ (T249.setTop (mkF m 200 #[.val (.int i), .val (.ref b120), .val (.ref b201), .val (.int (15 : Int32)), .unset, .unset] [(.ref b120)]))
    refine Gl.back (fun _ k => XS.iloadN X249.here hx rfl (hb hby at_200) rfl k) ?_
    show Gl _ _ _ _ _ _ _ (T249.setTop (mkF m 201 #[.val (.int i), .val (.ref b120), .val (.ref b201), .val (.int (15 : Int32)), .unset, .unset] [(.int (15 : Int32)), (.ref b120)]))
    have f431 := (((((((((((((((((V200.ext E201).other W219 ne_b120_b201).other W221 ne_b120_b201).other W223 ne_b120_b201).other W225 ne_b120_b201).other W227 ne_b120_b201).other W229 ne_b120_b201).other W231 ne_b120_b201).other W233 ne_b120_b201).other W235 ne_b120_b201).other W237 ne_b120_b201).other W239 ne_b120_b201).other W241 ne_b120_b201).other W243 ne_b120_b201).other W245 ne_b120_b201).other W247 ne_b120_b201).other W249 ne_b120_b201)
    obtain ⟨cl432, Ar432, q432, Sz432, Nn432, Hs432, Gf432⟩ := id f431
    have hin432 : ¬ ((15 : Int32) < 0 ∨ cl432.slots.size ≤ ((15 : Int32)).toNatClampNeg) := inb_of Sz432 ⟨by decide, by decide⟩
    have hat432 : cl432.slots[((15 : Int32)).toNatClampNeg]? = some (.ref w_NOT_IN) := Hs432.at hin432 (rfl)
    refine Gl.back (fun _ k => X249.aaload hx (j := (15 : Int32)) (v := (.ref w_NOT_IN)) (by rw [e249]; exact Ar432.1) (State.isArrayOf_alike hZ.alike Ar432.2.1) rfl Ar432.2.2 hin432 hat432 (g := (mkF m 201 #[.val (.int i), .val (.ref b120), .val (.ref b201), .val (.int (15 : Int32)), .unset, .unset] [(.int (15 : Int32)), (.ref b120)])) rfl rfl (hb hby at_201) _ k) ?_
    show Gl _ _ _ _ _ _ _ (T249.setTop (mkF m 202 #[.val (.int i), .val (.ref b120), .val (.ref b201), .val (.int (15 : Int32)), .unset, .unset] [(.ref w_NOT_IN)]))
    refine Gl.back (fun _ k => XS.astore X249.here hx rfl (hb hby at_202) rfl rfl (l' := #[.val (.int i), .val (.ref b120), .val (.ref b201), .val (.int (15 : Int32)), .val (.ref w_NOT_IN), .unset]) rfl k) ?_
    show Gl _ _ _ _ _ _ _ (T249.setTop (mkF m 204 #[.val (.int i), .val (.ref b120), .val (.ref b201), .val (.int (15 : Int32)), .val (.ref w_NOT_IN), .unset] []))
    refine Gl.back (fun _ k => XS.aload X249.here hx rfl (hb hby at_204) rfl rfl k) ?_
    show Gl _ _ _ _ _ _ _ (T249.setTop (mkF m 206 #[.val (.int i), .val (.ref b120), .val (.ref b201), .val (.int (15 : Int32)), .val (.ref w_NOT_IN), .unset] [(.ref w_NOT_IN)]))
    have f434 := ((((((((((((((((((((((((f166.wr W170).wr W175).wr W180).wr W185).wr W190).wr W195).wr W200).ext E201).wr W219).wr W221).wr W223).wr W225).wr W227).wr W229).wr W231).wr W233).wr W235).wr W237).wr W239).wr W241).wr W243).wr W245).wr W247).wr W249)
    have f435 := (((((((((((((((((((((((f171.wr W175).wr W180).wr W185).wr W190).wr W195).wr W200).ext E201).wr W219).wr W221).wr W223).wr W225).wr W227).wr W229).wr W231).wr W233).wr W235).wr W237).wr W239).wr W241).wr W243).wr W245).wr W247).wr W249)
    have f436 := ((((((((((((((((((((((f176.wr W180).wr W185).wr W190).wr W195).wr W200).ext E201).wr W219).wr W221).wr W223).wr W225).wr W227).wr W229).wr W231).wr W233).wr W235).wr W237).wr W239).wr W241).wr W243).wr W245).wr W247).wr W249)
    have f437 := (((((((((((((((((((((f181.wr W185).wr W190).wr W195).wr W200).ext E201).wr W219).wr W221).wr W223).wr W225).wr W227).wr W229).wr W231).wr W233).wr W235).wr W237).wr W239).wr W241).wr W243).wr W245).wr W247).wr W249)
    have f438 := ((((((((((((((((((((f186.wr W190).wr W195).wr W200).ext E201).wr W219).wr W221).wr W223).wr W225).wr W227).wr W229).wr W231).wr W233).wr W235).wr W237).wr W239).wr W241).wr W243).wr W245).wr W247).wr W249)
    have f439 := (((((((((((((((((f217.ext E201).wr W219).wr W221).wr W223).wr W225).wr W227).wr W229).wr W231).wr W233).wr W235).wr W237).wr W239).wr W241).wr W243).wr W245).wr W247).wr W249)
    obtain ⟨cq433, kq433, q433a, q433b, q433c⟩ := isOf hZ e249 f439
    obtain ⟨_, _, ⟨T433, L433, k433, n433⟩, -, X433, ⟨Lc433, hQ433, l433, y433, z433⟩, st433⟩ := X249.virtualBack hx (y := (⟨"com/example/demi_orm/demiorm/query/Operator", "comparesText", "()Z"⟩ : MethodName)) (z := (⟨"com/example/demi_orm/demiorm/query/Operator", "comparesText", "()Z"⟩ : MethodName)) hown (mvT hZ (hw _ (List.mem_of_getElem? (i := 38) rfl))) (mvT hZ (hw _ (List.mem_of_getElem? (i := 39) rfl))) (notFace_of_selects (args := #[]) (mvT hZ (hw _ (List.mem_of_getElem? (i := 41) rfl)))) (mvT hZ (hw _ (List.mem_of_getElem? (i := 41) rfl))) (mvT hZ (hw _ (List.mem_of_getElem? (i := 40) rfl))) (by decide) (backOf (W := 0) (rm1_no l Z a0 hw [] w_NOT_IN w_LIKE w_NOT_LIKE w_STARTING_WITH w_ENDING_WITH w_CONTAINING h249 n0 Z249 f434 f435 f436 f437 f438 (Fld.ne F_NOT_IN_ordinal F_LIKE_ordinal (by decide)) (Fld.ne F_NOT_IN_ordinal F_NOT_LIKE_ordinal (by decide)) (Fld.ne F_NOT_IN_ordinal F_STARTING_WITH_ordinal (by decide)) (Fld.ne F_NOT_IN_ordinal F_ENDING_WITH_ordinal (by decide)) (Fld.ne F_NOT_IN_ordinal F_CONTAINING_ordinal (by decide))) hZ (hw _ (List.mem_of_getElem? (i := 42) rfl)) (hw _ (List.mem_of_getElem? (i := 3) rfl)) (by decide) (by decide)) q433a q433c (g := (mkF m 206 #[.val (.int i), .val (.ref b120), .val (.ref b201), .val (.int (15 : Int32)), .val (.ref w_NOT_IN), .unset] [(.ref w_NOT_IN)])) rfl (by rw [hml]; rfl) (Steps.refl _) (argsL := []) (rest := []) (lenOf pd___Z rfl) rfl (by show 2 * 0 + _ ≤ _; exact Nat.le_of_eq rfl) (hb hby at_206) (fun _ _ => ⟨rfl, e249, (by decide : 2 + 0 ≤ _), (by decide : 32 + 0 ≤ _)⟩)
    dsimp only [Pt.U, Pt.locs, Pt.cells, Pt.slots] at X433 l433 y433 z433 st433 hQ433
    replace l433 := Eq.symm l433
    replace y433 := Eq.symm y433
    replace z433 := Eq.symm z433
    subst l433 y433 z433
    obtain ⟨Nq433, rfl, eh433⟩ := hQ433
    have N433 := Fr.app N249 Nq433
    refine Gl.back (fun _ k => st433.trans k) ?_
    show Gl _ _ _ _ _ _ _ (T433.setTop (mkF m 209 #[.val (.int i), .val (.ref b120), .val (.ref b201), .val (.int (15 : Int32)), .val (.ref w_NOT_IN), .unset] [(.int (0 : Int32))]))
    refine Gl.back (fun _ k => XS.istore X433.here hx rfl (hb hby at_209) rfl (l' := #[.val (.int i), .val (.ref b120), .val (.ref b201), .val (.int (15 : Int32)), .val (.ref w_NOT_IN), .val (.int (0 : Int32))]) rfl k) ?_
    show Gl _ _ _ _ _ _ _ (T433.setTop (mkF m 211 #[.val (.int i), .val (.ref b120), .val (.ref b201), .val (.int (15 : Int32)), .val (.ref w_NOT_IN), .val (.int (0 : Int32))] []))
    refine Gl.back (fun _ k => XS.iload X433.here hx rfl (hb hby at_211) rfl k) ?_
    show Gl _ _ _ _ _ _ _ (T433.setTop (mkF m 213 #[.val (.int i), .val (.ref b120), .val (.ref b201), .val (.int (15 : Int32)), .val (.ref w_NOT_IN), .val (.int (0 : Int32))] [(.int (0 : Int32))]))
    refine Gl.back (fun _ k => XS.aloadN X433.here hx rfl (hb hby at_213) rfl rfl k) ?_
    show Gl _ _ _ _ _ _ _ (T433.setTop (mkF m 214 #[.val (.int i), .val (.ref b120), .val (.ref b201), .val (.int (15 : Int32)), .val (.ref w_NOT_IN), .val (.int (0 : Int32))] [(.ref b201), (.int (0 : Int32))]))
    refine Gl.back (fun _ k => XS.iloadN X433.here hx rfl (hb hby at_214) rfl k) ?_
    show Gl _ _ _ _ _ _ _ (T433.setTop (mkF m 215 #[.val (.int i), .val (.ref b120), .val (.ref b201), .val (.int (15 : Int32)), .val (.ref w_NOT_IN), .val (.int (0 : Int32))] [(.int (15 : Int32)), (.ref b201), (.int (0 : Int32))]))
    obtain ⟨cl440, Ar440, q440, Sz440, Nn440, Hs440, Gf440⟩ := id V249
    have hin440 : ¬ ((15 : Int32) < 0 ∨ cl440.slots.size ≤ ((15 : Int32)).toNatClampNeg) := inb_of Sz440 ⟨by decide, by decide⟩
    have hat440 : cl440.slots[((15 : Int32)).toNatClampNeg]? = some (.int (0 : Int32)) := Hs440.at hin440 (rfl)
    refine Gl.back (fun _ k => X433.baloadBooleans hx (j := (15 : Int32)) (v := (.int (0 : Int32))) (by rw [eh433]; exact Ar440.1) (State.isArrayOf_alike hZ.alike Ar440.2.1) Ar440.2.2 hin440 hat440 (g := (mkF m 215 #[.val (.int i), .val (.ref b120), .val (.ref b201), .val (.int (15 : Int32)), .val (.ref w_NOT_IN), .val (.int (0 : Int32))] [(.int (15 : Int32)), (.ref b201), (.int (0 : Int32))])) rfl rfl (hb hby at_215) _ k) ?_
    show Gl _ _ _ _ _ _ _ (T433.setTop (mkF m 216 #[.val (.int i), .val (.ref b120), .val (.ref b201), .val (.int (15 : Int32)), .val (.ref w_NOT_IN), .val (.int (0 : Int32))] [(.int (0 : Int32)), (.int (0 : Int32))]))
    refine Gl.back (fun _ k => XS.icmpYes X433.here hx rfl (pc0 := 216) (pc' := 221) rfl (hb hby at_216) rfl (teq (by decide : (0 : Int32) = (0 : Int32))).1 (by decide) (by decide) k) ?_
    show Gl _ _ _ _ _ _ _ (T433.setTop (mkF m 221 #[.val (.int i), .val (.ref b120), .val (.ref b201), .val (.int (15 : Int32)), .val (.ref w_NOT_IN), .val (.int (0 : Int32))] []))
    refine Gl.back (fun _ k => XS.iload X433.here hx rfl (hb hby at_221) rfl k) ?_
    show Gl _ _ _ _ _ _ _ (T433.setTop (mkF m 223 #[.val (.int i), .val (.ref b120), .val (.ref b201), .val (.int (15 : Int32)), .val (.ref w_NOT_IN), .val (.int (0 : Int32))] [(.int (0 : Int32))]))
    refine Gl.back (fun _ k => XS.ifYes X433.here hx rfl (pc0 := 223) (pc' := 257) rfl (hb hby at_223) rfl ((if0 _ _).trans (teq (by decide : (0 : Int32) = (0 : Int32))).1) (by decide) (by decide) k) ?_
    show Gl _ _ _ _ _ _ _ (T433.setTop (mkF m 257 #[.val (.int i), .val (.ref b120), .val (.ref b201), .val (.int (15 : Int32)), .val (.ref w_NOT_IN), .val (.int (0 : Int32))] []))
    refine Gl.back (fun _ k => XS.iconst X433.here hx rfl (hb hby at_257) k) ?_
    show Gl _ _ _ _ _ _ _ (T433.setTop (mkF m 258 #[.val (.int i), .val (.ref b120), .val (.ref b201), .val (.int (15 : Int32)), .val (.ref w_NOT_IN), .val (.int (0 : Int32))] [(.int (1 : Int32))]))
    exact Gl.ret X433 eh433 (v := (some (.int (1 : Int32)))) (fun h => by rw [Bd.returns] at h; cases h) Bd.notSynchronized (fun fs hr => retN X433 hx (t := .boolean) (z := (1 : Int32)) Bd.returns (by simp) (hb hby at_258) hr) ⟨N433, rfl⟩ (by decide) (by decide)
set_option maxRecDepth 65536 in
set_option maxHeartbeats 40000000 in
theorem comes_1 {Post : Tables → Env → Array Value → State → Outcome → State → Prop} (hpost : ∀ tb e args s v u, (limb_1_1.after args s (.returned v) u = true ∧ limb_1_2.after args s (.returned v) u = true ∧ True) → FrameEnd s (.returned v) u (Jvm.fieldLocs frame_1_writes args s ++ Jvm.arrayLocs frame_1_arrays args s ++ Jvm.staticLocs frame_1_statics s) 16 128 → Post tb e args s (.returned v) u) :
    ArmFor flags0 classFile x code maxLocals ret World_1 tables_1 room_1 Calls_1 rest_1 Pre_1 Post := by
  intro l hfl _ _ p e ha hc hk s m args below hf hA hF happ hP
  obtain ⟨hcalls, hrest, hpre⟩ := hP
  obtain ⟨-, -, -, hnamed, -, -, -, hat⟩ := (Spec.applies_iff hf).mp happ
  obtain ⟨hg, hn⟩ := and_e (Cond.before_iff.mp (show (Jvm.Cond.and given_1 narrow_1).before args s = true from hpre))
  obtain ⟨gv441, gv442⟩ := and_e hg
  obtain ⟨w0, rfl⟩ : ∃ w0 : Value, args = #[w0] := by
    have hs : args.size = 1 := by simpa [Cond.value, given_1] using gv441
    obtain ⟨L⟩ := args
    match L, hs with
    | [w0], _ => exact ⟨w0, rfl⟩
  have hw := fun d (hd : d ∈ tables_1) => atoms_spec (ws := Jvm.Cond.code x code maxLocals ret :: tables_1) hat d (List.mem_cons_of_mem _ hd)
  have hfit : Fit s := fun {y c} hc i hi => by
    obtain ⟨ha, rfl⟩ := Array.getElem?_eq_some_iff.mp hc
    have q := List.all_eq_true.mp ((Array.all_eq_true_iff_forall_mem.mp hF) _ (Array.getElem_mem ha)) i (List.mem_range.mpr hi)
    simpa [Array.getElem?_eq_getElem hi] using q
  obtain ⟨i0, ei0⟩ := is_v gv442
  obtain rfl : w0 = (.int i0) := Option.some.inj ei0
  obtain ⟨gn26, gn27⟩ := and_e hn
  obtain ⟨w_EQUALS, ev_EQUALS⟩ := exa_v gn26
  have S_EQUALS := Sta.start ev_EQUALS (Or.inr ⟨(hw _ (List.mem_of_getElem? (i := 3) rfl)), (hw _ (List.mem_of_getElem? (i := 4) rfl))⟩)
  have E_EQUALS := Exa.start ev_EQUALS gn26
  obtain ⟨gn28, gn29⟩ := and_e gn27
  obtain ⟨w_NOT_EQUALS, ev_NOT_EQUALS⟩ := exa_v gn28
  have S_NOT_EQUALS := Sta.start ev_NOT_EQUALS (Or.inr ⟨(hw _ (List.mem_of_getElem? (i := 3) rfl)), (hw _ (List.mem_of_getElem? (i := 7) rfl))⟩)
  have E_NOT_EQUALS := Exa.start ev_NOT_EQUALS gn28
  obtain ⟨gn30, gn31⟩ := and_e gn29
  obtain ⟨w_LESS_THAN, ev_LESS_THAN⟩ := exa_v gn30
  have S_LESS_THAN := Sta.start ev_LESS_THAN (Or.inr ⟨(hw _ (List.mem_of_getElem? (i := 3) rfl)), (hw _ (List.mem_of_getElem? (i := 9) rfl))⟩)
  have E_LESS_THAN := Exa.start ev_LESS_THAN gn30
  obtain ⟨gn32, gn33⟩ := and_e gn31
  obtain ⟨w_LESS_THAN_OR_EQUAL, ev_LESS_THAN_OR_EQUAL⟩ := exa_v gn32
  have S_LESS_THAN_OR_EQUAL := Sta.start ev_LESS_THAN_OR_EQUAL (Or.inr ⟨(hw _ (List.mem_of_getElem? (i := 3) rfl)), (hw _ (List.mem_of_getElem? (i := 11) rfl))⟩)
  have E_LESS_THAN_OR_EQUAL := Exa.start ev_LESS_THAN_OR_EQUAL gn32
  obtain ⟨gn34, gn35⟩ := and_e gn33
  obtain ⟨w_GREATER_THAN, ev_GREATER_THAN⟩ := exa_v gn34
  have S_GREATER_THAN := Sta.start ev_GREATER_THAN (Or.inr ⟨(hw _ (List.mem_of_getElem? (i := 3) rfl)), (hw _ (List.mem_of_getElem? (i := 13) rfl))⟩)
  have E_GREATER_THAN := Exa.start ev_GREATER_THAN gn34
  obtain ⟨gn36, gn37⟩ := and_e gn35
  obtain ⟨w_GREATER_THAN_OR_EQUAL, ev_GREATER_THAN_OR_EQUAL⟩ := exa_v gn36
  have S_GREATER_THAN_OR_EQUAL := Sta.start ev_GREATER_THAN_OR_EQUAL (Or.inr ⟨(hw _ (List.mem_of_getElem? (i := 3) rfl)), (hw _ (List.mem_of_getElem? (i := 15) rfl))⟩)
  have E_GREATER_THAN_OR_EQUAL := Exa.start ev_GREATER_THAN_OR_EQUAL gn36
  obtain ⟨gn38, gn39⟩ := and_e gn37
  obtain ⟨w_BETWEEN, ev_BETWEEN⟩ := exa_v gn38
  have S_BETWEEN := Sta.start ev_BETWEEN (Or.inr ⟨(hw _ (List.mem_of_getElem? (i := 3) rfl)), (hw _ (List.mem_of_getElem? (i := 17) rfl))⟩)
  have E_BETWEEN := Exa.start ev_BETWEEN gn38
  obtain ⟨gn40, gn41⟩ := and_e gn39
  obtain ⟨w_IS_NULL, ev_IS_NULL⟩ := exa_v gn40
  have S_IS_NULL := Sta.start ev_IS_NULL (Or.inr ⟨(hw _ (List.mem_of_getElem? (i := 3) rfl)), (hw _ (List.mem_of_getElem? (i := 19) rfl))⟩)
  have E_IS_NULL := Exa.start ev_IS_NULL gn40
  obtain ⟨gn42, gn43⟩ := and_e gn41
  obtain ⟨w_IS_NOT_NULL, ev_IS_NOT_NULL⟩ := exa_v gn42
  have S_IS_NOT_NULL := Sta.start ev_IS_NOT_NULL (Or.inr ⟨(hw _ (List.mem_of_getElem? (i := 3) rfl)), (hw _ (List.mem_of_getElem? (i := 21) rfl))⟩)
  have E_IS_NOT_NULL := Exa.start ev_IS_NOT_NULL gn42
  obtain ⟨gn44, gn45⟩ := and_e gn43
  obtain ⟨w_LIKE, ev_LIKE⟩ := exa_v gn44
  have S_LIKE := Sta.start ev_LIKE (Or.inr ⟨(hw _ (List.mem_of_getElem? (i := 3) rfl)), (hw _ (List.mem_of_getElem? (i := 23) rfl))⟩)
  have E_LIKE := Exa.start ev_LIKE gn44
  obtain ⟨gn46, gn47⟩ := and_e gn45
  obtain ⟨w_NOT_LIKE, ev_NOT_LIKE⟩ := exa_v gn46
  have S_NOT_LIKE := Sta.start ev_NOT_LIKE (Or.inr ⟨(hw _ (List.mem_of_getElem? (i := 3) rfl)), (hw _ (List.mem_of_getElem? (i := 25) rfl))⟩)
  have E_NOT_LIKE := Exa.start ev_NOT_LIKE gn46
  obtain ⟨gn48, gn49⟩ := and_e gn47
  obtain ⟨w_STARTING_WITH, ev_STARTING_WITH⟩ := exa_v gn48
  have S_STARTING_WITH := Sta.start ev_STARTING_WITH (Or.inr ⟨(hw _ (List.mem_of_getElem? (i := 3) rfl)), (hw _ (List.mem_of_getElem? (i := 27) rfl))⟩)
  have E_STARTING_WITH := Exa.start ev_STARTING_WITH gn48
  obtain ⟨gn50, gn51⟩ := and_e gn49
  obtain ⟨w_ENDING_WITH, ev_ENDING_WITH⟩ := exa_v gn50
  have S_ENDING_WITH := Sta.start ev_ENDING_WITH (Or.inr ⟨(hw _ (List.mem_of_getElem? (i := 3) rfl)), (hw _ (List.mem_of_getElem? (i := 29) rfl))⟩)
  have E_ENDING_WITH := Exa.start ev_ENDING_WITH gn50
  obtain ⟨gn52, gn53⟩ := and_e gn51
  obtain ⟨w_CONTAINING, ev_CONTAINING⟩ := exa_v gn52
  have S_CONTAINING := Sta.start ev_CONTAINING (Or.inr ⟨(hw _ (List.mem_of_getElem? (i := 3) rfl)), (hw _ (List.mem_of_getElem? (i := 31) rfl))⟩)
  have E_CONTAINING := Exa.start ev_CONTAINING gn52
  obtain ⟨gn54, gn55⟩ := and_e gn53
  obtain ⟨w_IN, ev_IN⟩ := exa_v gn54
  have S_IN := Sta.start ev_IN (Or.inr ⟨(hw _ (List.mem_of_getElem? (i := 3) rfl)), (hw _ (List.mem_of_getElem? (i := 33) rfl))⟩)
  have E_IN := Exa.start ev_IN gn54
  obtain ⟨gn56, gn57⟩ := and_e gn55
  obtain ⟨w_NOT_IN, ev_NOT_IN⟩ := exa_v gn56
  have S_NOT_IN := Sta.start ev_NOT_IN (Or.inr ⟨(hw _ (List.mem_of_getElem? (i := 3) rfl)), (hw _ (List.mem_of_getElem? (i := 35) rfl))⟩)
  have E_NOT_IN := Exa.start ev_NOT_IN gn56
  obtain ⟨gn58, gn59⟩ := and_e gn57
  obtain ⟨gn60, gn61⟩ := and_e gn59
  obtain ⟨gn62, gn63⟩ := and_e gn61
  obtain ⟨gn64, gn65⟩ := and_e gn63
  obtain ⟨gn66, gn67⟩ := and_e gn65
  obtain ⟨gn68, gn69⟩ := and_e gn67
  obtain ⟨gn70, gn71⟩ := and_e gn69
  obtain ⟨gn72, gn73⟩ := and_e gn71
  obtain ⟨gn74, gn75⟩ := and_e gn73
  obtain ⟨gn76, gn77⟩ := and_e gn75
  obtain ⟨gn78, gn79⟩ := and_e gn77
  obtain ⟨gn80, gn81⟩ := and_e gn79
  obtain ⟨gn82, gn83⟩ := and_e gn81
  obtain ⟨gn84, gn85⟩ := and_e gn83
  obtain ⟨gn86, gn87⟩ := and_e gn85
  obtain ⟨gn88, gn89⟩ := and_e gn87
  obtain ⟨gn90, gn91⟩ := and_e gn89
  obtain ⟨gn92, gn93⟩ := and_e gn91
  obtain ⟨gn94, gn95⟩ := and_e gn93
  obtain ⟨gn96, gn97⟩ := and_e gn95
  obtain ⟨gn98, gn99⟩ := and_e gn97
  obtain ⟨gn100, gn101⟩ := and_e gn99
  obtain ⟨gn102, gn103⟩ := and_e gn101
  obtain ⟨gn104, gn105⟩ := and_e gn103
  obtain ⟨gn106, gn107⟩ := and_e gn105
  obtain ⟨gn108, gn109⟩ := and_e gn107
  obtain ⟨gn110, gn111⟩ := and_e gn109
  obtain ⟨gn112, gn113⟩ := and_e gn111
  obtain ⟨gn114, gn115⟩ := and_e gn113
  obtain ⟨gn116, gn117⟩ := and_e gn115
  obtain ⟨gn118, gn119⟩ := and_e gn117
  have F_EQUALS_ordinal := own_fldI ev_EQUALS gn58
  have F_LIKE_ordinal := own_fldI ev_LIKE gn60
  have F_NOT_LIKE_ordinal := own_fldI ev_NOT_LIKE gn62
  have F_STARTING_WITH_ordinal := own_fldI ev_STARTING_WITH gn64
  have F_ENDING_WITH_ordinal := own_fldI ev_ENDING_WITH gn66
  have F_CONTAINING_ordinal := own_fldI ev_CONTAINING gn68
  have F_LESS_THAN_OR_EQUAL_ordinal := own_fldI ev_LESS_THAN_OR_EQUAL gn70
  have F_IN_ordinal := own_fldI ev_IN gn72
  have F_NOT_IN_ordinal := own_fldI ev_NOT_IN gn74
  have F_NOT_LIKE_arity := own_fldI ev_NOT_LIKE gn76
  have F_NOT_EQUALS_ordinal := own_fldI ev_NOT_EQUALS gn78
  have F_IS_NULL_ordinal := own_fldI ev_IS_NULL gn80
  have F_LESS_THAN_ordinal := own_fldI ev_LESS_THAN gn82
  have F_STARTING_WITH_arity := own_fldI ev_STARTING_WITH gn84
  have F_IS_NOT_NULL_ordinal := own_fldI ev_IS_NOT_NULL gn86
  have F_GREATER_THAN_ordinal := own_fldI ev_GREATER_THAN gn88
  have F_ENDING_WITH_arity := own_fldI ev_ENDING_WITH gn90
  have F_CONTAINING_arity := own_fldI ev_CONTAINING gn92
  have F_BETWEEN_ordinal := own_fldI ev_BETWEEN gn94
  have F_LIKE_arity := own_fldI ev_LIKE gn96
  have F_GREATER_THAN_OR_EQUAL_ordinal := own_fldI ev_GREATER_THAN_OR_EQUAL gn98
  have F_EQUALS_arity := own_fldI ev_EQUALS gn100
  have F_NOT_EQUALS_arity := own_fldI ev_NOT_EQUALS gn102
  have F_LESS_THAN_arity := own_fldI ev_LESS_THAN gn104
  have F_LESS_THAN_OR_EQUAL_arity := own_fldI ev_LESS_THAN_OR_EQUAL gn106
  have F_GREATER_THAN_arity := own_fldI ev_GREATER_THAN gn108
  have F_GREATER_THAN_OR_EQUAL_arity := own_fldI ev_GREATER_THAN_OR_EQUAL gn110
  have F_BETWEEN_arity := own_fldI ev_BETWEEN gn112
  have F_IS_NULL_arity := own_fldI ev_IS_NULL gn114
  have F_IS_NOT_NULL_arity := own_fldI ev_IS_NOT_NULL gn116
  have F_IN_arity := own_fldI ev_IN gn118
  have F_NOT_IN_arity := own_fldI ev_NOT_IN gn119
  obtain ⟨n, o, h1, h2, h3, _, L, rfl, ⟨N, rfl⟩, hq⟩ := rm0 l s _ hw tables_1 i0 w_EQUALS w_NOT_EQUALS w_LESS_THAN w_LESS_THAN_OR_EQUAL w_GREATER_THAN w_GREATER_THAN_OR_EQUAL w_BETWEEN w_IS_NULL w_IS_NOT_NULL w_LIKE w_NOT_LIKE w_STARTING_WITH w_ENDING_WITH w_CONTAINING w_IN w_NOT_IN s.heap s.heap.size (Nat.le_refl _) S_EQUALS S_NOT_EQUALS S_LESS_THAN S_LESS_THAN_OR_EQUAL S_GREATER_THAN S_GREATER_THAN_OR_EQUAL S_BETWEEN S_IS_NULL S_IS_NOT_NULL S_LIKE S_NOT_LIKE S_STARTING_WITH S_ENDING_WITH S_CONTAINING S_IN S_NOT_IN E_EQUALS E_NOT_EQUALS E_LESS_THAN E_LESS_THAN_OR_EQUAL E_GREATER_THAN E_GREATER_THAN_OR_EQUAL E_BETWEEN E_IS_NULL E_IS_NOT_NULL E_LIKE E_NOT_LIKE E_STARTING_WITH E_ENDING_WITH E_CONTAINING E_IN E_NOT_IN F_EQUALS_ordinal F_NOT_EQUALS_ordinal F_LESS_THAN_ordinal F_LESS_THAN_OR_EQUAL_ordinal F_GREATER_THAN_ordinal F_GREATER_THAN_OR_EQUAL_ordinal F_BETWEEN_ordinal F_IS_NULL_ordinal F_IS_NOT_NULL_ordinal F_LIKE_ordinal F_NOT_LIKE_ordinal F_STARTING_WITH_ordinal F_ENDING_WITH_ordinal F_CONTAINING_ordinal F_IN_ordinal F_NOT_IN_ordinal F_LIKE_arity F_NOT_LIKE_arity F_STARTING_WITH_arity F_ENDING_WITH_arity F_CONTAINING_arity p e ha hc hk s m _ below hf ((Spec.applies_iff_loose hf).mp happ).1 ⟨rfl, State.Warmed39.refl s, rfl⟩ trivial
  refine ⟨n, _, h1, h2, h3, hpost _ _ _ _ _ _ ⟨Cond.after_iff.mpr rfl, Cond.after_iff.mpr (eq_i res_at (Term.int_eval (1)) rfl), trivial⟩ ⟨hq.1, hq.2.1, (hq.2.2.sift fun y hy => Or.inr (N y hy)).mono (by decide) (by decide)⟩⟩
theorem main_1_1 : Claimed_1_1 := comes_1 fun _ _ _ _ _ _ h hF => ⟨h.1, hF⟩
theorem main_1_2 : Claimed_1_2 := comes_1 fun _ _ _ _ _ _ h hF => ⟨h.2.1, hF⟩
end Jvm.Pilot.@@N@@
namespace Jvm.Pilot.@@N@@
open Jvm Jvm.ClassFile Sem Op Lib Jvm.Free Jvm.Stand Jvm.Pilot.@@N@@.Jvm.D
/-! MADE BY PROGRAM (witnessworld.py) out of the Statement's table words and the real class files: 15 classes; the members and pool entries that the words name. The judged class is class 1, her method 1. -/
namespace start1
open Jvm.ClassFile
def u (s : String) : CpInfo := .utf8 (stringToUtf16 s)
/-- a pool by its gaps: so many unusable entries, then the entry; so many at the end -/
def gap : Nat → List CpInfo → List CpInfo
  | 0, r => r
  | n + 1, r => .unusable :: gap n r
def poolList (es : List (Nat × CpInfo)) (last : Nat) : List CpInfo := es.foldr (fun e r => gap e.1 (e.2 :: r)) (gap last [])
def pool (es : List (Nat × CpInfo)) (last : Nat) : Array CpInfo := ⟨poolList es last⟩
def fileOf (pool : Array CpInfo) (this : Nat) (attrs : Array Attribute := #[]) (ms : Array MethodInfo := #[]) (fl : Nat := 33) (sup : Nat := 0) (ifs : Array Nat := #[]) (fds : Array FieldInfo := #[]) : ClassFile where
  minorVersion := 0
  majorVersion := 65
  constantPool := pool
  accessFlags := fl
  thisClass := this
  superClass := sup
  interfaces := ifs
  fields := fds
  methods := ms
  attributes := attrs
def plain (name : String) (sup : Option ClassId) : Class where
  name := name
  kind := .ordinary
  loader := none
  accessFlags := 33
  super := sup
  interfaces := #[]
  cf := none
  fields := #[]
  methods := #[]
  instanceTypes := #[]
  staticTypes := #[]
  resolved := #[]
  callSites := []
  init := .initialized
  statics := none
  mirror := none

def pool0 : Array CpInfo := pool [(5, u "<init>"), (0, u "()V"), (1, .class_ 10), (1, u "java/lang/Object")] 113

def k0m0 : Method := { name := "<init>", desc := "()V", sig := { parameters := [], returnType := none }, accessFlags := 1, code := none }
/-- java/lang/Object -/
def k0 : Class := { plain "java/lang/Object" none with
  accessFlags := 33
  interfaces := #[]
  cf := some (fileOf pool0 8 #[] #[{ accessFlags := 1, nameIndex := 5, descriptorIndex := 6, attributes := #[] }] 33 0 #[] #[])
  fields := #[]
  methods := #[k0m0]
  instanceTypes := #[]
  staticTypes := #[]
  resolved := Array.replicate 124 none
  statics := none }

def pool1 : Array CpInfo := pool [(2, .class_ 4), (1, u "java/lang/Object"), (0, u "<init>"), (0, u "()V"), (0, .class_ 8), (0, u "com/example/demi_orm/demiorm/query/Operator"), (0, .fieldref 7 10), (0, .nameAndType 11 12), (0, u "EQUALS"), (0, u "Lcom/example/demi_orm/demiorm/query/Operator;"), (0, .fieldref 7 14), (0, .nameAndType 15 12), (0, u "NOT_EQUALS"), (0, .fieldref 7 17), (0, .nameAndType 18 12), (0, u "LESS_THAN"), (0, .fieldref 7 20), (0, .nameAndType 21 12), (0, u "LESS_THAN_OR_EQUAL"), (0, .fieldref 7 23), (0, .nameAndType 24 12), (0, u "GREATER_THAN"), (0, .fieldref 7 26), (0, .nameAndType 27 12), (0, u "GREATER_THAN_OR_EQUAL"), (0, .fieldref 7 29), (0, .nameAndType 30 12), (0, u "BETWEEN"), (0, .fieldref 7 32), (0, .nameAndType 33 12), (0, u "IS_NULL"), (0, .fieldref 7 35), (0, .nameAndType 36 12), (0, u "IS_NOT_NULL"), (0, .fieldref 7 38), (0, .nameAndType 39 12), (0, u "LIKE"), (0, .fieldref 7 41), (0, .nameAndType 42 12), (0, u "NOT_LIKE"), (0, .fieldref 7 44), (0, .nameAndType 45 12), (0, u "STARTING_WITH"), (0, .fieldref 7 47), (0, .nameAndType 48 12), (0, u "ENDING_WITH"), (0, .fieldref 7 50), (0, .nameAndType 51 12), (0, u "CONTAINING"), (0, .fieldref 7 53), (0, .nameAndType 54 12), (0, u "IN"), (0, .fieldref 7 56), (0, .nameAndType 57 12), (0, u "NOT_IN"), (0, .integer 2147483647), (0, .methodref 7 60), (0, .nameAndType 61 62), (0, u "comparesText"), (0, u "()Z"), (0, .methodref 7 64), (0, .nameAndType 65 66), (0, u "arity"), (0, u "()I"), (0, .methodref 7 68), (0, .nameAndType 69 62), (0, u "takesCollection"), (0, .methodref 7 71), (0, .nameAndType 72 62), (0, u "takesNull"), (0, .class_ 74), (0, u "com/example/demi_orm/demiorm/query/OperatorComparesTextPinLaw"), (2, u "law"), (0, u "(I)Z")] 7

def k1m0 : Method := { name := "<init>", desc := "()V", sig := { parameters := [], returnType := none }, accessFlags := 1, code := none }
def k1c1 : Code := { maxStack := 4, maxLocals := 6, code := code, exceptionTable := #[], attributes := #[] }
def k1m1 : Method := { name := "law", desc := "(I)Z", sig := { parameters := [.int], returnType := some .boolean }, accessFlags := 9, code := some k1c1 }
/-- com/example/demi_orm/demiorm/query/OperatorComparesTextPinLaw -/
def k1 : Class := { plain "com/example/demi_orm/demiorm/query/OperatorComparesTextPinLaw" (some 0) with
  accessFlags := 49
  interfaces := #[]
  cf := some (fileOf pool1 73 #[] #[{ accessFlags := 1, nameIndex := 5, descriptorIndex := 6, attributes := #[] }, { accessFlags := 9, nameIndex := 77, descriptorIndex := 78, attributes := #[] }] 49 2 #[] #[])
  fields := #[]
  methods := #[k1m0, k1m1]
  instanceTypes := #[]
  staticTypes := #[]
  resolved := Array.replicate 86 none
  statics := none }

def pool2 : Array CpInfo := pool [(1, .class_ 2), (0, u "java/lang/constant/Constable"), (0, .class_ 4), (0, u "java/lang/Object")] 6

/-- java/lang/constant/Constable -/
def k2 : Class := { plain "java/lang/constant/Constable" (some 0) with
  accessFlags := 1537
  interfaces := #[]
  cf := some (fileOf pool2 1 #[] #[] 1537 3 #[] #[])
  fields := #[]
  methods := #[]
  instanceTypes := #[]
  staticTypes := #[]
  resolved := Array.replicate 11 none
  statics := none }

def pool3 : Array CpInfo := pool [(1, .class_ 2), (0, u "java/lang/Comparable"), (0, .class_ 4), (0, u "java/lang/Object")] 7

/-- java/lang/Comparable -/
def k3 : Class := { plain "java/lang/Comparable" (some 0) with
  accessFlags := 1537
  interfaces := #[]
  cf := some (fileOf pool3 1 #[] #[] 1537 3 #[] #[])
  fields := #[]
  methods := #[]
  instanceTypes := #[]
  staticTypes := #[]
  resolved := Array.replicate 12 none
  statics := none }

def pool4 : Array CpInfo := pool [(1, .class_ 2), (0, u "java/io/Serializable"), (0, .class_ 4), (0, u "java/lang/Object")] 2

/-- java/io/Serializable -/
def k4 : Class := { plain "java/io/Serializable" (some 0) with
  accessFlags := 1537
  interfaces := #[]
  cf := some (fileOf pool4 1 #[] #[] 1537 3 #[] #[])
  fields := #[]
  methods := #[]
  instanceTypes := #[]
  staticTypes := #[]
  resolved := Array.replicate 7 none
  statics := none }

def pool5 : Array CpInfo := pool [(2, .class_ 4), (1, u "java/lang/Enum"), (0, u "name"), (0, u "Ljava/lang/String;"), (2, u "ordinal"), (0, u "I"), (1, .class_ 14), (1, u "java/lang/Object"), (4, u "hash"), (86, .class_ 108), (1, u "java/lang/Enum$EnumDesc"), (2, .class_ 112), (0, u "java/lang/constant/Constable"), (0, .class_ 114), (0, u "java/lang/Comparable"), (0, .class_ 116), (0, u "java/io/Serializable")] 87

/-- java/lang/Enum -/
def k5 : Class := { plain "java/lang/Enum" (some 0) with
  accessFlags := 1057
  interfaces := #[2, 3, 4]
  cf := some (fileOf pool5 2 #[.nestMembers #[106]] #[] 1057 12 #[111, 113, 115] #[{ accessFlags := 18, nameIndex := 5, descriptorIndex := 6, attributes := #[] }, { accessFlags := 18, nameIndex := 9, descriptorIndex := 10, attributes := #[] }, { accessFlags := 2, nameIndex := 19, descriptorIndex := 10, attributes := #[] }])
  fields := #[{ name := "name", type := (.object "java/lang/String"), accessFlags := 18, slot := 0, constantValue := 0 }, { name := "ordinal", type := .int, accessFlags := 18, slot := 1, constantValue := 0 }, { name := "hash", type := .int, accessFlags := 2, slot := 2, constantValue := 0 }]
  methods := #[]
  instanceTypes := #[(.object "java/lang/String"), .int, .int]
  staticTypes := #[]
  resolved := Array.replicate 204 none
  statics := none }

def pool6 : Array CpInfo := pool [(1, .class_ 2), (0, u "com/example/demi_orm/demiorm/query/Operator"), (0, .fieldref 1 4), (0, .nameAndType 5 6), (0, u "EQUALS"), (0, u "Lcom/example/demi_orm/demiorm/query/Operator;"), (0, .fieldref 1 8), (0, .nameAndType 9 6), (0, u "NOT_EQUALS"), (2, u "LESS_THAN"), (2, u "LESS_THAN_OR_EQUAL"), (2, u "GREATER_THAN"), (2, u "GREATER_THAN_OR_EQUAL"), (2, u "BETWEEN"), (2, u "IS_NULL"), (2, u "IS_NOT_NULL"), (0, .fieldref 1 32), (0, .nameAndType 33 6), (0, u "LIKE"), (0, .fieldref 1 35), (0, .nameAndType 36 6), (0, u "NOT_LIKE"), (0, .fieldref 1 38), (0, .nameAndType 39 6), (0, u "STARTING_WITH"), (0, .fieldref 1 41), (0, .nameAndType 42 6), (0, u "ENDING_WITH"), (0, .fieldref 1 44), (0, .nameAndType 45 6), (0, u "CONTAINING"), (0, .fieldref 1 47), (0, .nameAndType 48 6), (0, u "IN"), (0, .fieldref 1 50), (0, .nameAndType 51 6), (0, u "NOT_IN"), (2, u "$VALUES"), (0, u "[Lcom/example/demi_orm/demiorm/query/Operator;"), (6, .class_ 64), (1, u "java/lang/Enum"), (6, .fieldref 1 72), (0, .nameAndType 73 74), (0, u "arity"), (0, u "I"), (8, u "keywords"), (0, u "Ljava/util/List;"), (71, u "()I"), (2, u "comparesText"), (0, u "()Z"), (1, u "takesCollection"), (0, u "takesNull")] 5

def k6c0 : Code := { maxStack := 1, maxLocals := 1, code := prog_15_method_4_code, exceptionTable := #[], attributes := #[] }
def k6m0 : Method := { name := "arity", desc := "()I", sig := { parameters := [], returnType := some .int }, accessFlags := 1, code := some k6c0 }
def k6c1 : Code := { maxStack := 2, maxLocals := 1, code := prog_15_method_6_code, exceptionTable := #[], attributes := #[] }
def k6m1 : Method := { name := "comparesText", desc := "()Z", sig := { parameters := [], returnType := some .boolean }, accessFlags := 1, code := some k6c1 }
def k6c2 : Code := { maxStack := 2, maxLocals := 1, code := prog_15_method_7_code, exceptionTable := #[], attributes := #[] }
def k6m2 : Method := { name := "takesCollection", desc := "()Z", sig := { parameters := [], returnType := some .boolean }, accessFlags := 1, code := some k6c2 }
def k6c3 : Code := { maxStack := 2, maxLocals := 1, code := prog_15_method_8_code, exceptionTable := #[], attributes := #[] }
def k6m3 : Method := { name := "takesNull", desc := "()Z", sig := { parameters := [], returnType := some .boolean }, accessFlags := 1, code := some k6c3 }
/-- com/example/demi_orm/demiorm/query/Operator -/
def k6 : Class := { plain "com/example/demi_orm/demiorm/query/Operator" (some 5) with
  accessFlags := 16433
  interfaces := #[]
  cf := some (fileOf pool6 1 #[] #[{ accessFlags := 1, nameIndex := 73, descriptorIndex := 156, attributes := #[] }, { accessFlags := 1, nameIndex := 159, descriptorIndex := 160, attributes := #[] }, { accessFlags := 1, nameIndex := 162, descriptorIndex := 160, attributes := #[] }, { accessFlags := 1, nameIndex := 163, descriptorIndex := 160, attributes := #[] }] 16433 62 #[] #[{ accessFlags := 16409, nameIndex := 5, descriptorIndex := 6, attributes := #[] }, { accessFlags := 16409, nameIndex := 9, descriptorIndex := 6, attributes := #[] }, { accessFlags := 16409, nameIndex := 12, descriptorIndex := 6, attributes := #[] }, { accessFlags := 16409, nameIndex := 15, descriptorIndex := 6, attributes := #[] }, { accessFlags := 16409, nameIndex := 18, descriptorIndex := 6, attributes := #[] }, { accessFlags := 16409, nameIndex := 21, descriptorIndex := 6, attributes := #[] }, { accessFlags := 16409, nameIndex := 24, descriptorIndex := 6, attributes := #[] }, { accessFlags := 16409, nameIndex := 27, descriptorIndex := 6, attributes := #[] }, { accessFlags := 16409, nameIndex := 30, descriptorIndex := 6, attributes := #[] }, { accessFlags := 16409, nameIndex := 33, descriptorIndex := 6, attributes := #[] }, { accessFlags := 16409, nameIndex := 36, descriptorIndex := 6, attributes := #[] }, { accessFlags := 16409, nameIndex := 39, descriptorIndex := 6, attributes := #[] }, { accessFlags := 16409, nameIndex := 42, descriptorIndex := 6, attributes := #[] }, { accessFlags := 16409, nameIndex := 45, descriptorIndex := 6, attributes := #[] }, { accessFlags := 16409, nameIndex := 48, descriptorIndex := 6, attributes := #[] }, { accessFlags := 16409, nameIndex := 51, descriptorIndex := 6, attributes := #[] }, { accessFlags := 18, nameIndex := 73, descriptorIndex := 74, attributes := #[] }, { accessFlags := 18, nameIndex := 83, descriptorIndex := 84, attributes := #[] }, { accessFlags := 4122, nameIndex := 54, descriptorIndex := 55, attributes := #[] }])
  fields := #[{ name := "EQUALS", type := (.object "com/example/demi_orm/demiorm/query/Operator"), accessFlags := 16409, slot := 0, constantValue := 0 }, { name := "NOT_EQUALS", type := (.object "com/example/demi_orm/demiorm/query/Operator"), accessFlags := 16409, slot := 1, constantValue := 0 }, { name := "LESS_THAN", type := (.object "com/example/demi_orm/demiorm/query/Operator"), accessFlags := 16409, slot := 2, constantValue := 0 }, { name := "LESS_THAN_OR_EQUAL", type := (.object "com/example/demi_orm/demiorm/query/Operator"), accessFlags := 16409, slot := 3, constantValue := 0 }, { name := "GREATER_THAN", type := (.object "com/example/demi_orm/demiorm/query/Operator"), accessFlags := 16409, slot := 4, constantValue := 0 }, { name := "GREATER_THAN_OR_EQUAL", type := (.object "com/example/demi_orm/demiorm/query/Operator"), accessFlags := 16409, slot := 5, constantValue := 0 }, { name := "BETWEEN", type := (.object "com/example/demi_orm/demiorm/query/Operator"), accessFlags := 16409, slot := 6, constantValue := 0 }, { name := "IS_NULL", type := (.object "com/example/demi_orm/demiorm/query/Operator"), accessFlags := 16409, slot := 7, constantValue := 0 }, { name := "IS_NOT_NULL", type := (.object "com/example/demi_orm/demiorm/query/Operator"), accessFlags := 16409, slot := 8, constantValue := 0 }, { name := "LIKE", type := (.object "com/example/demi_orm/demiorm/query/Operator"), accessFlags := 16409, slot := 9, constantValue := 0 }, { name := "NOT_LIKE", type := (.object "com/example/demi_orm/demiorm/query/Operator"), accessFlags := 16409, slot := 10, constantValue := 0 }, { name := "STARTING_WITH", type := (.object "com/example/demi_orm/demiorm/query/Operator"), accessFlags := 16409, slot := 11, constantValue := 0 }, { name := "ENDING_WITH", type := (.object "com/example/demi_orm/demiorm/query/Operator"), accessFlags := 16409, slot := 12, constantValue := 0 }, { name := "CONTAINING", type := (.object "com/example/demi_orm/demiorm/query/Operator"), accessFlags := 16409, slot := 13, constantValue := 0 }, { name := "IN", type := (.object "com/example/demi_orm/demiorm/query/Operator"), accessFlags := 16409, slot := 14, constantValue := 0 }, { name := "NOT_IN", type := (.object "com/example/demi_orm/demiorm/query/Operator"), accessFlags := 16409, slot := 15, constantValue := 0 }, { name := "arity", type := .int, accessFlags := 18, slot := 3, constantValue := 0 }, { name := "keywords", type := (.object "java/util/List"), accessFlags := 18, slot := 4, constantValue := 0 }, { name := "$VALUES", type := (.array (.object "com/example/demi_orm/demiorm/query/Operator")), accessFlags := 4122, slot := 16, constantValue := 0 }]
  methods := #[k6m0, k6m1, k6m2, k6m3]
  instanceTypes := #[(.object "java/lang/String"), .int, .int, .int, (.object "java/util/List")]
  staticTypes := #[(.object "com/example/demi_orm/demiorm/query/Operator"), (.object "com/example/demi_orm/demiorm/query/Operator"), (.object "com/example/demi_orm/demiorm/query/Operator"), (.object "com/example/demi_orm/demiorm/query/Operator"), (.object "com/example/demi_orm/demiorm/query/Operator"), (.object "com/example/demi_orm/demiorm/query/Operator"), (.object "com/example/demi_orm/demiorm/query/Operator"), (.object "com/example/demi_orm/demiorm/query/Operator"), (.object "com/example/demi_orm/demiorm/query/Operator"), (.object "com/example/demi_orm/demiorm/query/Operator"), (.object "com/example/demi_orm/demiorm/query/Operator"), (.object "com/example/demi_orm/demiorm/query/Operator"), (.object "com/example/demi_orm/demiorm/query/Operator"), (.object "com/example/demi_orm/demiorm/query/Operator"), (.object "com/example/demi_orm/demiorm/query/Operator"), (.object "com/example/demi_orm/demiorm/query/Operator"), (.array (.object "com/example/demi_orm/demiorm/query/Operator"))]
  resolved := Array.replicate 169 none
  statics := some 0 }

def pool7 : Array CpInfo := pool [(1, u "java/lang/Cloneable"), (0, .class_ 1), (0, u "java/lang/Object"), (0, .class_ 3)] 3

/-- java/lang/Cloneable -/
def k7 : Class := { plain "java/lang/Cloneable" (some 0) with
  accessFlags := 1537
  interfaces := #[]
  cf := some (fileOf pool7 2 #[] #[] 1537 4 #[] #[])
  fields := #[]
  methods := #[]
  instanceTypes := #[]
  staticTypes := #[]
  resolved := Array.replicate 8 none
  statics := none }

/-- the primitive boolean -/
def k8 : Class := { plain "boolean" none with kind := .primitive 'Z', accessFlags := 0x411 }
/-- [Z -/
def k9 : Class := { plain "[Z" (some 0) with kind := .array 8 .boolean, interfaces := #[7, 4], accessFlags := 1041 }

/-- the primitive byte -/
def k10 : Class := { plain "byte" none with kind := .primitive 'B', accessFlags := 0x411 }
/-- [B -/
def k11 : Class := { plain "[B" (some 0) with kind := .array 10 .byte, interfaces := #[7, 4], accessFlags := 1041 }

/-- the primitive int -/
def k12 : Class := { plain "int" none with kind := .primitive 'I', accessFlags := 0x411 }
/-- [I -/
def k13 : Class := { plain "[I" (some 0) with kind := .array 12 .int, interfaces := #[7, 4], accessFlags := 1041 }

/-- [Lcom/example/demi_orm/demiorm/query/Operator; -/
def k14 : Class := { plain "[Lcom/example/demi_orm/demiorm/query/Operator;" (some 0) with kind := .array 6 (.object "com/example/demi_orm/demiorm/query/Operator"), interfaces := #[7, 4], accessFlags := 1041 }

def heap : Heap := #[{ cls := 6, slots := #[.ref 1, .ref 2, .ref 3, .ref 4, .ref 5, .ref 6, .ref 7, .ref 8, .ref 9, .ref 10, .ref 11, .ref 12, .ref 13, .ref 14, .ref 15, .ref 16, .null], vm := .statics 6 },
  { cls := 6, slots := #[.null, .int 0, .int 0, .int 1, .null], vm := .none },
  { cls := 6, slots := #[.null, .int 1, .int 0, .int 1, .null], vm := .none },
  { cls := 6, slots := #[.null, .int 2, .int 0, .int 1, .null], vm := .none },
  { cls := 6, slots := #[.null, .int 3, .int 0, .int 1, .null], vm := .none },
  { cls := 6, slots := #[.null, .int 4, .int 0, .int 1, .null], vm := .none },
  { cls := 6, slots := #[.null, .int 5, .int 0, .int 1, .null], vm := .none },
  { cls := 6, slots := #[.null, .int 6, .int 0, .int 2, .null], vm := .none },
  { cls := 6, slots := #[.null, .int 7, .int 0, .int 0, .null], vm := .none },
  { cls := 6, slots := #[.null, .int 8, .int 0, .int 0, .null], vm := .none },
  { cls := 6, slots := #[.null, .int 9, .int 0, .int 1, .null], vm := .none },
  { cls := 6, slots := #[.null, .int 10, .int 0, .int 1, .null], vm := .none },
  { cls := 6, slots := #[.null, .int 11, .int 0, .int 1, .null], vm := .none },
  { cls := 6, slots := #[.null, .int 12, .int 0, .int 1, .null], vm := .none },
  { cls := 6, slots := #[.null, .int 13, .int 0, .int 1, .null], vm := .none },
  { cls := 6, slots := #[.null, .int 14, .int 0, .int 1, .null], vm := .none },
  { cls := 6, slots := #[.null, .int 15, .int 0, .int 1, .null], vm := .none }]
def classes : Array Class := #[k0, k1, k2, k3, k4, k5, k6, k7, k8, k9, k10, k11, k12, k13, k14]
def interned : List (Array UInt16 × Addr) := []
def slotsUsed : Nat := 97
def theMethod : MethodId := ⟨1, 1⟩
def args0 : Array Value := #[.int 5]
def aboutOver (below : List Frame) : State where
  vm := { classes := classes, interned := interned.toArray }
  heap := heap
  slotsUsed := slotsUsed
  threads := #[{ frames := .invoking theMethod args0 :: below }]
def below0 : List Frame := [.native { method := ⟨0, 0⟩, args := #[] }]
def about1 : State := aboutOver below0
def p0 : Program := .bare "" "" ""
def e0 : Env := launch0.env 0 0 0
theorem w_frames : about1.frames = Frame.invoking theMethod args0 :: below0 := rfl
set_option maxRecDepth 65536 in
theorem w_args : argsFit about1.vm theMethod args0 = true := by decide +kernel
set_option maxRecDepth 65536 in
theorem w_heap : heapFits about1 = true := by decide +kernel
set_option maxRecDepth 65536 in
theorem w_runnable : about1.curStatus? = some .runnable := by decide +kernel
set_option maxRecDepth 65536 in
theorem w_alone : about1.alone = true := by decide +kernel
set_option maxRecDepth 65536 in
theorem w_named : about1.methodNamed? x = some theMethod := by decide +kernel
set_option maxRecDepth 65536 in
theorem w_hears : about1.hears theMethod below0 = true := by decide +kernel
set_option maxRecDepth 65536 in
theorem w_ripe : about1.ripe theMethod args0 below0 = true := by decide +kernel
theorem w_running : about1.status = .running := rfl
set_option maxRecDepth 65536 in
theorem w_room : about1.hasRoom e0.platform room_1 = true :=
  launch0.hasRoom_least _ room_1 (by decide +kernel) (by decide +kernel) (by decide +kernel) (by decide +kernel) (by decide +kernel) (by decide +kernel)
theorem allAtoms_all (ts : List Jvm.Cond) (a : Array Jvm.Value) (st : Jvm.State) : (allAtoms ts).before a st = ts.all (fun c => c.before a st) := by
  induction ts with
  | nil => rfl
  | cons c t ih =>
    show (Jvm.Cond.and c (allAtoms t)).before a st = _
    rw [Jvm.Cond.before_and, ih, List.all_cons]
def words1 : List Jvm.Cond := Jvm.Cond.code x code maxLocals ret :: tables_1
/-- a 'code' word, met by the world's own term for the bytes: nothing is compared byte by byte -/
theorem code_word {y : MethodName} {bytes : ByteArray} {mx : Nat} {rt : Option FieldType} {a : Array Value} {s : State} {m : MethodId} {meth : Method} {c : Code} (h1 : s.methodNamed? y = some m) (h2 : s.vm.method? m = some meth) (h3 : meth.code = some c) (h4 : c.code = bytes)
    (h5 : (c.maxLocals == mx && c.exceptionTable.isEmpty && decide (c.maxStack ≤ mostOperands) && decide (meth.sig.returnType = rt) && !meth.locks && decide (parseMethodDescriptor y.desc = some meth.sig)) = true) : (Jvm.Cond.code y bytes mx rt).before a s = true := by
  simp only [Bool.and_eq_true, beq_iff_eq, Bool.not_eq_true', decide_eq_true_eq] at h5
  obtain ⟨⟨⟨⟨⟨g1, g2⟩, g3⟩, g4⟩, g5⟩, g6⟩ := h5
  simp [Cond.before, Cond.holds, Cond.value, h1, h2, h3, h4, g1, g2, g3, g4, g5, g6]
def isCode : Jvm.Cond → Bool
  | .code _ _ _ _ => true
  | _ => false
theorem all_split {L : List Jvm.Cond} {P : Jvm.Cond → Bool} (h1 : L.all (fun c => isCode c || P c) = true) (h2 : ∀ c ∈ L.filter isCode, P c = true) : L.all P = true := by
  refine List.all_eq_true.mpr fun c hc => ?_
  have h := List.all_eq_true.mp h1 c hc
  rcases Bool.eq_false_or_eq_true (isCode c) with hi | hi
  · exact h2 c (List.mem_filter.mpr ⟨hc, hi⟩)
  · simpa [hi] using h
set_option maxRecDepth 65536 in
theorem w_c0 : (Jvm.Cond.code x code maxLocals ret).before args0 about1 = true := code_word (m := ⟨1, 1⟩) (meth := k1m1) (c := k1c1) (by decide +kernel) rfl rfl rfl (by decide +kernel)
set_option maxRecDepth 65536 in
theorem w_c1 : (Jvm.Cond.code ({ cls := "com/example/demi_orm/demiorm/query/Operator", name := "comparesText", desc := "()Z" } : Jvm.MethodName) prog_15_method_6_code (1 : Nat) (Option.some Jvm.ClassFile.FieldType.boolean)).before args0 about1 = true := code_word (m := ⟨6, 1⟩) (meth := k6m1) (c := k6c1) (by decide +kernel) rfl rfl rfl (by decide +kernel)
set_option maxRecDepth 65536 in
theorem w_c2 : (Jvm.Cond.code ({ cls := "com/example/demi_orm/demiorm/query/Operator", name := "arity", desc := "()I" } : Jvm.MethodName) prog_15_method_4_code (1 : Nat) (Option.some Jvm.ClassFile.FieldType.int)).before args0 about1 = true := code_word (m := ⟨6, 0⟩) (meth := k6m0) (c := k6c0) (by decide +kernel) rfl rfl rfl (by decide +kernel)
set_option maxRecDepth 65536 in
theorem w_c3 : (Jvm.Cond.code ({ cls := "com/example/demi_orm/demiorm/query/Operator", name := "takesCollection", desc := "()Z" } : Jvm.MethodName) prog_15_method_7_code (1 : Nat) (Option.some Jvm.ClassFile.FieldType.boolean)).before args0 about1 = true := code_word (m := ⟨6, 2⟩) (meth := k6m2) (c := k6c2) (by decide +kernel) rfl rfl rfl (by decide +kernel)
set_option maxRecDepth 65536 in
theorem w_c4 : (Jvm.Cond.code ({ cls := "com/example/demi_orm/demiorm/query/Operator", name := "takesNull", desc := "()Z" } : Jvm.MethodName) prog_15_method_8_code (1 : Nat) (Option.some Jvm.ClassFile.FieldType.boolean)).before args0 about1 = true := code_word (m := ⟨6, 3⟩) (meth := k6m3) (c := k6c3) (by decide +kernel) rfl rfl rfl (by decide +kernel)
def codes1 : List Jvm.Cond := [Jvm.Cond.code x code maxLocals ret, Jvm.Cond.code ({ cls := "com/example/demi_orm/demiorm/query/Operator", name := "comparesText", desc := "()Z" } : Jvm.MethodName) prog_15_method_6_code (1 : Nat) (Option.some Jvm.ClassFile.FieldType.boolean), Jvm.Cond.code ({ cls := "com/example/demi_orm/demiorm/query/Operator", name := "arity", desc := "()I" } : Jvm.MethodName) prog_15_method_4_code (1 : Nat) (Option.some Jvm.ClassFile.FieldType.int), Jvm.Cond.code ({ cls := "com/example/demi_orm/demiorm/query/Operator", name := "takesCollection", desc := "()Z" } : Jvm.MethodName) prog_15_method_7_code (1 : Nat) (Option.some Jvm.ClassFile.FieldType.boolean), Jvm.Cond.code ({ cls := "com/example/demi_orm/demiorm/query/Operator", name := "takesNull", desc := "()Z" } : Jvm.MethodName) prog_15_method_8_code (1 : Nat) (Option.some Jvm.ClassFile.FieldType.boolean)]
set_option maxRecDepth 65536 in
theorem codes_eq : words1.filter isCode = codes1 := rfl
theorem w_codes : ∀ c ∈ words1.filter isCode, c.before args0 about1 = true := by
  rw [codes_eq]
  intro c hc
  simp only [codes1, List.mem_cons, List.not_mem_nil, or_false] at hc
  rcases hc with rfl | rfl | rfl | rfl | rfl
  · exact w_c0
  · exact w_c1
  · exact w_c2
  · exact w_c3
  · exact w_c4
set_option maxRecDepth 65536 in
theorem w_t1 : (words1.take 24).all (fun c => isCode c || c.before args0 about1) = true := by decide +kernel
set_option maxRecDepth 65536 in
theorem w_t2 : ((words1.drop 24).take 24).all (fun c => isCode c || c.before args0 about1) = true := by decide +kernel
set_option maxRecDepth 65536 in
theorem w_t3 : ((words1.drop 24).drop 24).all (fun c => isCode c || c.before args0 about1) = true := by decide +kernel
theorem w_tables : (allAtoms (Jvm.Cond.code x code maxLocals ret :: tables_1)).before args0 about1 = true := by
  rw [allAtoms_all]
  show words1.all (fun c => c.before args0 about1) = true
  refine all_split ?_ w_codes
  rw [← List.take_append_drop 24 words1, List.all_append, w_t1, ← List.take_append_drop 24 (words1.drop 24), List.all_append, w_t2, w_t3]
  rfl
set_option maxRecDepth 65536 in
theorem w_case : (Jvm.Cond.and given_1 narrow_1).before args0 about1 = true := by decide +kernel
theorem w_applies : (headSpec (Jvm.Cond.code x code maxLocals ret :: tables_1) room_1).applies x e0.platform about1 = true :=
  (Spec.applies_iff w_frames).mpr ⟨w_running, w_runnable, w_alone, w_named, w_hears, w_ripe, w_room, w_tables⟩
theorem atStart : AtStart classFile x code maxLocals ret World_1 tables_1 room_1 Calls_1 rest_1 Pre_1 launch0 p0 e0 about1 theMethod args0 below0 :=
  ⟨lists_1, trivial, launch0.admits_env _ _ _, launch0.least_env, fairChoices_fair.cas, fairChoices_fair.clock, w_frames, w_args, w_heap, w_applies, trivial, trivial, w_case⟩
end start1
theorem witness_1 : WitnessClaimed_1 := ⟨start1.p0, start1.e0, start1.about1, start1.theMethod, start1.args0, start1.below0, start1.atStart⟩
end Jvm.Pilot.@@N@@
