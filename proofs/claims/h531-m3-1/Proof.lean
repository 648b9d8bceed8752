import JvmDerived
import JvmDerived.Pilot.@@N@@Statement
import JvmDerived.Pilot.@@N@@Code
set_option linter.unusedVariables false
set_option linter.unusedSimpArgs false
@@BLOCK:NumsL.lean.txt@@
namespace Jvm.Pilot.@@N@@
open Jvm Jvm.ClassFile Sem Op Lib Jvm.Free Jvm.Stand Jvm.LawKit Jvm.RoadKit Bundle Jvm.Pilot.@@N@@.Jvm.D
/-! the goal of a body's walk, closed under steps that lead to where it holds -/
def Gl (p : Program) (e : Env) (below : List Frame) (s : State) (Q : Option Value → Heap → List Loc → Prop) (k n : Nat) (S0 : State) : Prop :=
  ∃ s₂ o, Steps p.tables e below S0 s₂ ∧ s₂.status = .running ∧ Ended s₂ below o ∧ ∃ v L, o = .returned v ∧ Q v s₂.heap L ∧ FrameEnd s o s₂ L k n
theorem Gl.back {p : Program} {e : Env} {below : List Frame} {s : State} {Q : Option Value → Heap → List Loc → Prop} {k n : Nat} {S0 S1 : State} (h : ∀ t, Steps p.tables e below S1 t → Steps p.tables e below S0 t) (g : Gl p e below s Q k n S1) : Gl p e below s Q k n S0 := by
  obtain ⟨s₂, o, h1, r⟩ := g; exact ⟨s₂, o, h _ h1, r⟩
theorem Gl.ret {p : Program} {l : Launch} {e : Env} {R : Room} {s : State} {m : MethodId} {args : Array Value} {below : List Frame} {meth : Method} {c : Code} {T : State} {locs : List Loc} {cells slots : Nat} (X : Stand p l e R s m args below meth c T locs cells slots) {h : Heap} (eT : T.heap = h)
    {v : Option Value} (hv : meth.sig.returnType = none → v = none) (hlocks : meth.locks = false) {S0 : State} (st : ∀ fs, (∀ (f : JFrame) (acts : List Action), f.method = m → f.locked = none → f.entered = [] → (doReturn e (T.setTop f) acts v).1 = T.setFrames fs) → Steps p.tables e below S0 (T.setFrames fs))
    {Q : Option Value → Heap → List Loc → Prop} {k n : Nat} (hQ : Q v h locs) (hk : cells ≤ k) (hn : slots ≤ n) : Gl p e below s Q k n S0 := by
  obtain ⟨fs, hr, hrun, hended, hW, hsame⟩ := X.leave (v := v) hv hlocks
  exact ⟨_, _, st fs hr, hrun, hended, v, locs, rfl, eT ▸ hQ, ⟨_, rfl⟩, hW, hsame.mono hk hn⟩
def GlW (p : Program) (e : Env) (below : List Frame) (s : State) (Q : Option Value → Heap → List Loc → Prop) (k n : Nat) (S0 : State) : Prop :=
  ∃ s₂ o, Steps p.tables e below S0 s₂ ∧ s₂.status = .running ∧ Ended s₂ below o ∧ ∃ v L, o = .returned v ∧ Q v s₂.heap L ∧ ReturnedEndW s o s₂ L k n
theorem GlW.back {p : Program} {e : Env} {below : List Frame} {s : State} {Q : Option Value → Heap → List Loc → Prop} {k n : Nat} {S0 S1 : State} (h : ∀ t, Steps p.tables e below S1 t → Steps p.tables e below S0 t) (g : GlW p e below s Q k n S1) : GlW p e below s Q k n S0 := by
  obtain ⟨s₂, o, h1, r⟩ := g; exact ⟨s₂, o, h _ h1, r⟩
theorem GlW.ret {p : Program} {l : Launch} {e : Env} {R : Room} {s : State} {vm0 : Vm} {m : MethodId} {args : Array Value} {below : List Frame} {meth : Method} {c : Code} {T : State} {locs : List Loc} {cells slots : Nat} (X : Stand p l e R (s.setVm vm0) m args below meth c T locs cells slots) {h : Heap} (eT : T.heap = h)
    {k0 : Nat} (hS : s.Since vm0 k0) (hk0 : k0 ≤ h.size) {v : Option Value} (hv : meth.sig.returnType = none → v = none) (hlocks : meth.locks = false) {S0 : State} (st : ∀ fs, (∀ (f : JFrame) (acts : List Action), f.method = m → f.locked = none → f.entered = [] → (doReturn e (T.setTop f) acts v).1 = T.setFrames fs) → Steps p.tables e below S0 (T.setFrames fs))
    {Q : Option Value → Heap → List Loc → Prop} {k n : Nat} (hQ : Q v h locs) (hk : cells ≤ k) (hn : slots ≤ n) : GlW p e below s Q k n S0 := by
  obtain ⟨fs, hr, hrun, hended, hE⟩ := X.leaveW hS (by rw [eT]; exact hk0) (v := v) hv hlocks
  exact ⟨_, _, st fs hr, hrun, hended, v, locs, rfl, eT ▸ hQ, hE.1, hE.2.1, hE.2.2.1, hE.2.2.2.mono hk hn⟩
theorem own_lcL {x y : Int64} (h : x < y) : lcmpW x y < 0 := by rw [lcW]; exact (lc_lt x y).mpr h
theorem own_lcLn {x y : Int64} (h : ¬ x < y) : ¬ lcmpW x y < 0 := by rw [lcW]; exact fun q => h ((lc_lt x y).mp q)
theorem own_lcG {x y : Int64} (h : y < x) : 0 < lcmpW x y := by rw [lcW]; exact (lc_gt x y).mpr h
theorem own_lcGn {x y : Int64} (h : ¬ y < x) : ¬ 0 < lcmpW x y := by rw [lcW]; exact fun q => h ((lc_gt x y).mp q)
theorem own_lcE {x y : Int64} (h : x = y) : lcmpW x y = 0 := by rw [lcW]; exact (lc_eq x y).mpr h
theorem own_lcEn {x y : Int64} (h : ¬ x = y) : ¬ lcmpW x y = 0 := by rw [lcW]; exact fun q => h ((lc_eq x y).mp q)
theorem own_and3 (x : Int32) : x &&& (3 : Int32) = 0 ∨ x &&& (3 : Int32) = 1 ∨ x &&& (3 : Int32) = 2 ∨ x &&& (3 : Int32) = 3 := by
  have h := Jvm.Kit.i32_mask x 3 (k := 2) (by decide) (by decide)
  have e : ∀ y : Int32, (x &&& (3 : Int32)).toInt = y.toInt → x &&& (3 : Int32) = y := fun y => Int32.toInt_inj.mp
  have hx : (x &&& (3 : Int32)).toInt = 0 ∨ (x &&& (3 : Int32)).toInt = 1 ∨ (x &&& (3 : Int32)).toInt = 2 ∨ (x &&& (3 : Int32)).toInt = 3 := by omega
  rcases hx with q | q | q | q
  · exact Or.inl (e 0 q)
  · exact Or.inr (Or.inl (e 1 q))
  · exact Or.inr (Or.inr (Or.inl (e 2 q)))
  · exact Or.inr (Or.inr (Or.inr (e 3 q)))
theorem own_len {args : Array Value} {s : State} {t : Term} {z : Int32} (h : (Term.length t).eval args s none [] s = some (.int z)) : ∃ (b : Addr) (cl : Cell), t.eval args s none [] s = some (.ref b) ∧ s.arrayAt? b = some cl ∧ cl.slots.size < 2 ^ 31 ∧ cl.slots.size.toInt32 = z := by
  obtain ⟨b, e⟩ := len_v h
  simp only [Term.eval, e] at h
  cases ha : s.arrayAt? b with
  | none => simp [ha] at h
  | some cl =>
    by_cases q : cl.slots.size < 2 ^ 31
    · simp [ha, q] at h
      exact ⟨b, cl, e, ha, q, h⟩
    · simp [ha, q] at h
theorem own_irr {x : Int64} : ¬ x < x := by rw [Int64.lt_iff_toInt_lt]; omega
theorem own_asym {x y : Int64} (h : x < y) : ¬ y < x := by rw [Int64.lt_iff_toInt_lt] at h ⊢; omega
theorem own_fldJ {args : Array Value} {s : State} {t : Term} {C n d : String} {k : Int64} {a : Addr} (ev : t.eval args s none [] s = some (.ref a)) (h : (Jvm.Cond.eq (Term.field t C n d) (Term.long k)).value args s none s [] = some true) : Fld s s.heap a C n d (.long k) := by
  have e := fld_at (C := C) (n := n) (dd := d) ev
  obtain ⟨x, y, h1, h2, k1, k2⟩ := cmp_v (Or.inl h)
  obtain rfl : Value.long k = y := Option.some.inj h2
  obtain ⟨z, rfl⟩ := k2
  have q := eq_L h1 h2
  obtain rfl : z = k := gotT q h
  exact Fld.start (e ▸ h1)
theorem own_arr0 {args : Array Value} {s : State} {t : Term} {ty : FieldType} {a : Addr} (hf : Fit s) (ev : t.eval args s none [] s = some (.ref a)) (h : (Jvm.Cond.arrayOf t ty).value args s none s [] = some true) (hl : (Jvm.Cond.eq (Term.length t) (Term.int 0)).value args s none s [] = some true) (dv : Value) : ∃ k, Arv s s.heap a k ty 0 [] dv := by
  obtain ⟨c, A⟩ := Arr.start ev h
  obtain ⟨x, y, h1, h2, k1, k2⟩ := cmp_v (Or.inl hl)
  obtain rfl : Value.int 0 = y := Option.some.inj h2
  obtain ⟨z, rfl⟩ := k2
  obtain rfl : z = 0 := gotT (Jvm.Cond.eq_ints h1 h2) hl
  have hAt : s.arrayAt? a = some c := A.fin (Vm.Alike.refl _)
  obtain ⟨b, cl, e1, e2, e3, e4⟩ := own_len h1
  cases ev.symm.trans e1
  cases hAt.symm.trans e2
  have hz : c.slots.size = 0 := by
    have q := congrArg Int32.toInt e4
    rw [len_toInt e3] at q
    have : (0 : Int32).toInt = 0 := by decide
    omega
  exact ⟨c.cls, Arv.start hf A e3 e4 (by decide) (by decide) trivial⟩
theorem d2_0 : decode jdk_30_method_1_code 0 = .ok (.aload_n 0, 1) := by decide +kernel
theorem d2_1 : decode jdk_30_method_1_code 1 = .ok (.invokespecial 1, 3) := by decide +kernel
theorem d2_4 : decode jdk_30_method_1_code 4 = .ok (.return_, 1) := by decide +kernel
theorem pn_java_lang_Record : plainName "java/lang/Record" = true := by first | (simp [plainName, overriddenIn]; done) | decide +kernel
theorem ef_rec (m : MethodId) (x0 : Addr) : entryFrame m #[(.ref x0)] 1 = mkF m 0 #[.val (.ref x0)] [] := by first | (simp [entryFrame, mkF, argsToLocals, Value.category]; done) | rfl
def Qrec (Z : State) (a : Addr) (h0 : Heap) (n0 : Nat) (v : Option Value) (h : Heap) (L : List Loc) : Prop := Fr n0 L ∧ (v = none ∧ h = h0)
set_option maxRecDepth 65536 in
set_option maxHeartbeats 40000000 in
theorem rmrec (l : Launch) (Z : State) (a0 : Array Value) (hw : ∀ d ∈ tables_1, d.before a0 Z = true) (ws : List Jvm.Cond) (a : Addr) (h0 : Heap) (n0 : Nat) (Z0 : n0 ≤ h0.size) :
    MetFree l (⟨"java/lang/Record", "<init>", "()V"⟩ : MethodName) (head1 (Jvm.Cond.code (⟨"java/lang/Record", "<init>", "()V"⟩ : MethodName) jdk_30_method_1_code 1 none :: ws) ({ frames := 1, cells := 0, slots := 0, locals := 12 } : Room)) (fun as0 U => as0 = #[(.ref a)] ∧ Z.Warmed39 U.vm ∧ U.heap = h0) (fun _ _ _ _ _ => True) (fun _ U oc0 U' => ∃ v L, oc0 = .returned v ∧ Qrec Z a h0 n0 v U'.heap L ∧ FrameEnd U oc0 U' L ({ frames := 1, cells := 0, slots := 0, locals := 12 } : Room).cells ({ frames := 1, cells := 0, slots := 0, locals := 12 } : Room).slots) := by
  refine MetFree.of_bodySF (plainFor_of_name pn_java_lang_Record) hisR ?_
  intro p e s m args below meth c s₁ Bd hml0 hP hK
  obtain ⟨rfl, hZ, hh⟩ := hP
  have hx := Bd.exec
  have hby := Bd.bytes
  have hml : c.maxLocals = 1 := hml0
  have hown : s.vm.findClass "java/lang/Record" = some m.cls := findClass_of_methodNamed Bd.named
  have hnm := (name_of_methodNamed Bd.named Bd.method).1
  have X0 : Stand p l e ({ frames := 1, cells := 0, slots := 0, locals := 12 } : Room) s m #[(.ref a)] below meth c s₁ [] 0 0 := Stand.of_body Bd
  have e0 : s₁.heap = h0 := by rw [← hh, Bd.state]; rfl
  have N0 := Fr.nil n0
  show Gl p e below s (Qrec Z a h0 n0) ({ frames := 1, cells := 0, slots := 0, locals := 12 } : Room).cells ({ frames := 1, cells := 0, slots := 0, locals := 12 } : Room).slots (s₁.setTop (entryFrame m #[(.ref a)] 1))
  refine Gl.back (fun _ k => castTop (ef_rec m a) k) ?_
  show Gl _ _ _ _ _ _ _ (s₁.setTop (mkF m 0 #[.val (.ref a)] []))
  refine Gl.back (fun _ k => XS.aloadN X0.here hx rfl (hb hby d2_0) rfl rfl k) ?_
  show Gl _ _ _ _ _ _ _ (s₁.setTop (mkF m 1 #[.val (.ref a)] [(.ref a)]))
  obtain ⟨T1, X1, e1, st1⟩ := initO X0 hx hZ hown (hw _ (List.mem_of_getElem? (i := 14) rfl)) (hw _ (List.mem_of_getElem? (i := 15) rfl)) (hw _ (List.mem_of_getElem? (i := 16) rfl)) e0 (g := (mkF m 1 #[.val (.ref a)] [(.ref a)])) rfl (by rw [hml]; rfl) rfl (hb hby d2_1) (by decide) (W := 0) (by show 2 * 0 + _ ≤ _; exact Nat.le_of_eq rfl) (by decide)
  refine Gl.back (fun _ k => st1 _ k) ?_
  show Gl _ _ _ _ _ _ _ (T1.setTop (mkF m 4 #[.val (.ref a)] []))
  exact Gl.ret X1 e1 (v := none) (fun _ => rfl) Bd.notSynchronized (fun fs hr => X1.returnOut hx Bd.returns (hb hby d2_4) hr) ⟨N0, rfl, rfl⟩ (by decide) (by decide)
theorem d7_0 : decode jdk_22_method_1_code 0 = .ok (.aload_n 0, 1) := by decide +kernel
theorem d7_1 : decode jdk_22_method_1_code 1 = .ok (.invokespecial 1, 3) := by decide +kernel
theorem d7_4 : decode jdk_22_method_1_code 4 = .ok (.return_, 1) := by decide +kernel
theorem pn_java_util_AbstractCollection : plainName "java/util/AbstractCollection" = true := by first | (simp [plainName, overriddenIn]; done) | decide +kernel
theorem ef_abc (m : MethodId) (x0 : Addr) : entryFrame m #[(.ref x0)] 1 = mkF m 0 #[.val (.ref x0)] [] := by first | (simp [entryFrame, mkF, argsToLocals, Value.category]; done) | rfl
def Qabc (Z : State) (a : Addr) (h0 : Heap) (n0 : Nat) (v : Option Value) (h : Heap) (L : List Loc) : Prop := Fr n0 L ∧ (v = none ∧ h = h0)
set_option maxRecDepth 65536 in
set_option maxHeartbeats 40000000 in
theorem rmabc (l : Launch) (Z : State) (a0 : Array Value) (hw : ∀ d ∈ tables_1, d.before a0 Z = true) (ws : List Jvm.Cond) (a : Addr) (h0 : Heap) (n0 : Nat) (Z0 : n0 ≤ h0.size) :
    MetFree l (⟨"java/util/AbstractCollection", "<init>", "()V"⟩ : MethodName) (head1 (Jvm.Cond.code (⟨"java/util/AbstractCollection", "<init>", "()V"⟩ : MethodName) jdk_22_method_1_code 1 none :: ws) ({ frames := 1, cells := 0, slots := 0, locals := 12 } : Room)) (fun as0 U => as0 = #[(.ref a)] ∧ Z.Warmed39 U.vm ∧ U.heap = h0) (fun _ _ _ _ _ => True) (fun _ U oc0 U' => ∃ v L, oc0 = .returned v ∧ Qabc Z a h0 n0 v U'.heap L ∧ FrameEnd U oc0 U' L ({ frames := 1, cells := 0, slots := 0, locals := 12 } : Room).cells ({ frames := 1, cells := 0, slots := 0, locals := 12 } : Room).slots) := by
  refine MetFree.of_bodySF (plainFor_of_name pn_java_util_AbstractCollection) hisR ?_
  intro p e s m args below meth c s₁ Bd hml0 hP hK
  obtain ⟨rfl, hZ, hh⟩ := hP
  have hx := Bd.exec
  have hby := Bd.bytes
  have hml : c.maxLocals = 1 := hml0
  have hown : s.vm.findClass "java/util/AbstractCollection" = some m.cls := findClass_of_methodNamed Bd.named
  have hnm := (name_of_methodNamed Bd.named Bd.method).1
  have X0 : Stand p l e ({ frames := 1, cells := 0, slots := 0, locals := 12 } : Room) s m #[(.ref a)] below meth c s₁ [] 0 0 := Stand.of_body Bd
  have e0 : s₁.heap = h0 := by rw [← hh, Bd.state]; rfl
  have N0 := Fr.nil n0
  show Gl p e below s (Qabc Z a h0 n0) ({ frames := 1, cells := 0, slots := 0, locals := 12 } : Room).cells ({ frames := 1, cells := 0, slots := 0, locals := 12 } : Room).slots (s₁.setTop (entryFrame m #[(.ref a)] 1))
  refine Gl.back (fun _ k => castTop (ef_abc m a) k) ?_
  show Gl _ _ _ _ _ _ _ (s₁.setTop (mkF m 0 #[.val (.ref a)] []))
  refine Gl.back (fun _ k => XS.aloadN X0.here hx rfl (hb hby d7_0) rfl rfl k) ?_
  show Gl _ _ _ _ _ _ _ (s₁.setTop (mkF m 1 #[.val (.ref a)] [(.ref a)]))
  obtain ⟨T2, X2, e2, st2⟩ := initO X0 hx hZ hown (hw _ (List.mem_of_getElem? (i := 41) rfl)) (hw _ (List.mem_of_getElem? (i := 15) rfl)) (hw _ (List.mem_of_getElem? (i := 16) rfl)) e0 (g := (mkF m 1 #[.val (.ref a)] [(.ref a)])) rfl (by rw [hml]; rfl) rfl (hb hby d7_1) (by decide) (W := 0) (by show 2 * 0 + _ ≤ _; exact Nat.le_of_eq rfl) (by decide)
  refine Gl.back (fun _ k => st2 _ k) ?_
  show Gl _ _ _ _ _ _ _ (T2.setTop (mkF m 4 #[.val (.ref a)] []))
  exact Gl.ret X2 e2 (v := none) (fun _ => rfl) Bd.notSynchronized (fun fs hr => X2.returnOut hx Bd.returns (hb hby d7_4) hr) ⟨N0, rfl, rfl⟩ (by decide) (by decide)
theorem d1_0 : decode prog_40_method_1_code 0 = .ok (.aload_n 0, 1) := by decide +kernel
theorem d1_1 : decode prog_40_method_1_code 1 = .ok (.invokespecial 1, 3) := by decide +kernel
theorem pd___V : parseMethodDescriptor "()V" = some ⟨[], none⟩ := by decide +kernel
theorem d1_4 : decode prog_40_method_1_code 4 = .ok (.aload_n 0, 1) := by decide +kernel
theorem d1_5 : decode prog_40_method_1_code 5 = .ok (.lload_n 1, 1) := by decide +kernel
theorem d1_6 : decode prog_40_method_1_code 6 = .ok (.putfield 7, 3) := by decide +kernel
theorem d1_9 : decode prog_40_method_1_code 9 = .ok (.return_, 1) := by decide +kernel
theorem pn_com_example_gavelwatch_gavelwatch_model_Money : plainName "com/example/gavelwatch/gavelwatch/model/Money" = true := by first | (simp [plainName, overriddenIn]; done) | decide +kernel
theorem ef_money (m : MethodId) (x0 : Addr) (x1 : Int64) : entryFrame m #[(.ref x0), (.long x1)] 3 = mkF m 0 #[.val (.ref x0), .val (.long x1), .second] [] := by first | (simp [entryFrame, mkF, argsToLocals, Value.category]; done) | rfl
def Qmoney (Z : State) (a : Addr) (x : Int64) (h0 : Heap) (n0 : Nat) (v : Option Value) (h : Heap) (L : List Loc) : Prop := Fr n0 L ∧ (v = none ∧ Keep h0 h [a] ∧ Fld Z h a "com/example/gavelwatch/gavelwatch/model/Money" "cents" "J" (.long x))
set_option maxRecDepth 65536 in
set_option maxHeartbeats 40000000 in
theorem rmmoney (l : Launch) (Z : State) (a0 : Array Value) (hw : ∀ d ∈ tables_1, d.before a0 Z = true) (ws : List Jvm.Cond) (a : Addr) (x : Int64) (h0 : Heap) (n0 : Nat) (Z0 : n0 ≤ h0.size) (g_a : n0 ≤ a) (E_a : Exa Z h0 a "com/example/gavelwatch/gavelwatch/model/Money") (F_a_cents : Fld Z h0 a "com/example/gavelwatch/gavelwatch/model/Money" "cents" "J" (.long (0 : Int64))) :
    MetFree l (⟨"com/example/gavelwatch/gavelwatch/model/Money", "<init>", "(J)V"⟩ : MethodName) (head1 (Jvm.Cond.code (⟨"com/example/gavelwatch/gavelwatch/model/Money", "<init>", "(J)V"⟩ : MethodName) prog_40_method_1_code 3 none :: ws) ({ frames := 2, cells := 0, slots := 0, locals := 24 } : Room)) (fun as0 U => as0 = #[(.ref a), (.long x)] ∧ Z.Warmed39 U.vm ∧ U.heap = h0) (fun _ _ _ _ _ => True) (fun _ U oc0 U' => ∃ v L, oc0 = .returned v ∧ Qmoney Z a x h0 n0 v U'.heap L ∧ FrameEnd U oc0 U' L ({ frames := 2, cells := 0, slots := 0, locals := 24 } : Room).cells ({ frames := 2, cells := 0, slots := 0, locals := 24 } : Room).slots) := by
  refine MetFree.of_bodySF (plainFor_of_name pn_com_example_gavelwatch_gavelwatch_model_Money) hisR ?_
  intro p e s m args below meth c s₁ Bd hml0 hP hK
  obtain ⟨rfl, hZ, hh⟩ := hP
  have hx := Bd.exec
  have hby := Bd.bytes
  have hml : c.maxLocals = 3 := hml0
  have hown : s.vm.findClass "com/example/gavelwatch/gavelwatch/model/Money" = some m.cls := findClass_of_methodNamed Bd.named
  have hnm := (name_of_methodNamed Bd.named Bd.method).1
  have X0 : Stand p l e ({ frames := 2, cells := 0, slots := 0, locals := 24 } : Room) s m #[(.ref a), (.long x)] below meth c s₁ [] 0 0 := Stand.of_body Bd
  have e0 : s₁.heap = h0 := by rw [← hh, Bd.state]; rfl
  have N0 := Fr.nil n0
  show Gl p e below s (Qmoney Z a x h0 n0) ({ frames := 2, cells := 0, slots := 0, locals := 24 } : Room).cells ({ frames := 2, cells := 0, slots := 0, locals := 24 } : Room).slots (s₁.setTop (entryFrame m #[(.ref a), (.long x)] 3))
  refine Gl.back (fun _ k => castTop (ef_money m a x) k) ?_
  show Gl _ _ _ _ _ _ _ (s₁.setTop (mkF m 0 #[.val (.ref a), .val (.long x), .second] []))
  refine Gl.back (fun _ k => XS.aloadN X0.here hx rfl (hb hby d1_0) rfl rfl k) ?_
  show Gl _ _ _ _ _ _ _ (s₁.setTop (mkF m 1 #[.val (.ref a), .val (.long x), .second] [(.ref a)]))
  obtain ⟨_, _, ⟨T3, L3, k3, n3⟩, -, X3, ⟨Lc3, hQ3, l3, y3, z3⟩, st3⟩ := X0.specialBack hx (y := (⟨"java/lang/Record", "<init>", "()V"⟩ : MethodName)) rfl hown (mvT hZ (hw _ (List.mem_of_getElem? (i := 9) rfl))) (mvT hZ (hw _ (List.mem_of_getElem? (i := 10) rfl))) (mvT hZ (hw _ (List.mem_of_getElem? (i := 13) rfl))) (by decide) (backOf (W := 0) (rmrec l Z a0 hw [] a  h0 n0 Z0 ) hZ (hw _ (List.mem_of_getElem? (i := 13) rfl)) (hw _ (List.mem_of_getElem? (i := 12) rfl)) (by decide) (by decide)) (g := (mkF m 1 #[.val (.ref a), .val (.long x), .second] [(.ref a)])) rfl (by rw [hml]; rfl) (Steps.refl _) (a := a) (argsL := []) (rest := []) (lenOf pd___V rfl) rfl (by show 2 * 0 + _ ≤ _; exact Nat.le_of_eq rfl) (hb hby d1_1) (fun _ _ => ⟨rfl, e0, (by decide : 0 + 0 ≤ _), (by decide : 0 + 0 ≤ _)⟩)
  dsimp only [Pt.U, Pt.locs, Pt.cells, Pt.slots] at X3 l3 y3 z3 st3 hQ3
  subst l3 y3 z3
  obtain ⟨Nq3, rfl, eh3⟩ := hQ3
  have N3 := Fr.app N0 Nq3
  refine Gl.back (fun _ k => st3.trans k) ?_
  show Gl _ _ _ _ _ _ _ (T3.setTop (mkF m 4 #[.val (.ref a), .val (.long x), .second] []))
  refine Gl.back (fun _ k => XS.aloadN X3.here hx rfl (hb hby d1_4) rfl rfl k) ?_
  show Gl _ _ _ _ _ _ _ (T3.setTop (mkF m 5 #[.val (.ref a), .val (.long x), .second] [(.ref a)]))
  refine Gl.back (fun _ k => XS.lloadN X3.here hx rfl (hb hby d1_5) rfl k) ?_
  show Gl _ _ _ _ _ _ _ (T3.setTop (mkF m 6 #[.val (.ref a), .val (.long x), .second] [(.long x), (.ref a)]))
  obtain ⟨T4, h4, X4, e4, W4, st4⟩ := putF X3 hx hZ hown (host := "") (Or.inl (hw _ (List.mem_of_getElem? (i := 17) rfl))) Via.refl eh3 F_a_cents E_a (Or.inr ⟨(hw _ (List.mem_of_getElem? (i := 18) rfl)), rfl, hnm⟩) (hw _ (List.mem_of_getElem? (i := 4) rfl)) (ty := .long) (by decide) rfl rfl (g := (mkF m 6 #[.val (.ref a), .val (.long x), .second] [(.long x), (.ref a)])) rfl rfl (hb hby d1_6)
  have Fw4 := F_a_cents.same W4
  have K4 := Keep.wr (Keep.refl h0 [a]) W4 (Or.inl (List.mem_of_getElem? (i := 0) rfl))
  have Z4 : n0 ≤ h4.size := Nat.le_trans Z0 (Keep.of_wr W4).1
  have N4 := Fr.snoc X4 N3 g_a
  refine Gl.back (fun _ k => st4 _ k) ?_
  show Gl _ _ _ _ _ _ _ (T4.setTop (mkF m 9 #[.val (.ref a), .val (.long x), .second] []))
  exact Gl.ret X4 e4 (v := none) (fun _ => rfl) Bd.notSynchronized (fun fs hr => X4.returnOut hx Bd.returns (hb hby d1_9) hr) ⟨N4, rfl, K4, Fw4⟩ (by decide) (by decide)
theorem d6_0 : decode jdk_39_method_1_code 0 = .ok (.aload_n 0, 1) := by decide +kernel
theorem d6_1 : decode jdk_39_method_1_code 1 = .ok (.invokespecial 1, 3) := by decide +kernel
theorem d6_4 : decode jdk_39_method_1_code 4 = .ok (.aload_n 0, 1) := by decide +kernel
theorem d6_5 : decode jdk_39_method_1_code 5 = .ok (.iconst 0, 1) := by decide +kernel
theorem d6_6 : decode jdk_39_method_1_code 6 = .ok (.putfield 7, 3) := by decide +kernel
theorem d6_9 : decode jdk_39_method_1_code 9 = .ok (.return_, 1) := by decide +kernel
theorem pn_java_util_AbstractList : plainName "java/util/AbstractList" = true := by first | (simp [plainName, overriddenIn]; done) | decide +kernel
theorem ef_abl (m : MethodId) (x0 : Addr) : entryFrame m #[(.ref x0)] 1 = mkF m 0 #[.val (.ref x0)] [] := by first | (simp [entryFrame, mkF, argsToLocals, Value.category]; done) | rfl
def Qabl (Z : State) (a : Addr) (h0 : Heap) (n0 : Nat) (v : Option Value) (h : Heap) (L : List Loc) : Prop := Fr n0 L ∧ (v = none ∧ Keep h0 h [a] ∧ Fld Z h a "java/util/AbstractList" "modCount" "I" (.int (0 : Int32)) ∧ Fld Z h a "java/util/ArrayList" "elementData" "[Ljava/lang/Object;" .null ∧ Fld Z h a "java/util/ArrayList" "size" "I" (.int (0 : Int32)))
set_option maxRecDepth 65536 in
set_option maxHeartbeats 40000000 in
theorem rmabl (l : Launch) (Z : State) (a0 : Array Value) (hw : ∀ d ∈ tables_1, d.before a0 Z = true) (ws : List Jvm.Cond) (a : Addr) (h0 : Heap) (n0 : Nat) (Z0 : n0 ≤ h0.size) (g_a : n0 ≤ a) (E_a : Exa Z h0 a "java/util/ArrayList") (F_a_modCount : Fld Z h0 a "java/util/AbstractList" "modCount" "I" (.int (0 : Int32))) (F_a_elementData : Fld Z h0 a "java/util/ArrayList" "elementData" "[Ljava/lang/Object;" .null) (F_a_size : Fld Z h0 a "java/util/ArrayList" "size" "I" (.int (0 : Int32))) :
    MetFree l (⟨"java/util/AbstractList", "<init>", "()V"⟩ : MethodName) (head1 (Jvm.Cond.code (⟨"java/util/AbstractList", "<init>", "()V"⟩ : MethodName) jdk_39_method_1_code 1 none :: ws) ({ frames := 2, cells := 0, slots := 0, locals := 24 } : Room)) (fun as0 U => as0 = #[(.ref a)] ∧ Z.Warmed39 U.vm ∧ U.heap = h0) (fun _ _ _ _ _ => True) (fun _ U oc0 U' => ∃ v L, oc0 = .returned v ∧ Qabl Z a h0 n0 v U'.heap L ∧ FrameEnd U oc0 U' L ({ frames := 2, cells := 0, slots := 0, locals := 24 } : Room).cells ({ frames := 2, cells := 0, slots := 0, locals := 24 } : Room).slots) := by
  refine MetFree.of_bodySF (plainFor_of_name pn_java_util_AbstractList) hisR ?_
  intro p e s m args below meth c s₁ Bd hml0 hP hK
  obtain ⟨rfl, hZ, hh⟩ := hP
  have hx := Bd.exec
  have hby := Bd.bytes
  have hml : c.maxLocals = 1 := hml0
  have hown : s.vm.findClass "java/util/AbstractList" = some m.cls := findClass_of_methodNamed Bd.named
  have hnm := (name_of_methodNamed Bd.named Bd.method).1
  have X0 : Stand p l e ({ frames := 2, cells := 0, slots := 0, locals := 24 } : Room) s m #[(.ref a)] below meth c s₁ [] 0 0 := Stand.of_body Bd
  have e0 : s₁.heap = h0 := by rw [← hh, Bd.state]; rfl
  have N0 := Fr.nil n0
  show Gl p e below s (Qabl Z a h0 n0) ({ frames := 2, cells := 0, slots := 0, locals := 24 } : Room).cells ({ frames := 2, cells := 0, slots := 0, locals := 24 } : Room).slots (s₁.setTop (entryFrame m #[(.ref a)] 1))
  refine Gl.back (fun _ k => castTop (ef_abl m a) k) ?_
  show Gl _ _ _ _ _ _ _ (s₁.setTop (mkF m 0 #[.val (.ref a)] []))
  refine Gl.back (fun _ k => XS.aloadN X0.here hx rfl (hb hby d6_0) rfl rfl k) ?_
  show Gl _ _ _ _ _ _ _ (s₁.setTop (mkF m 1 #[.val (.ref a)] [(.ref a)]))
  obtain ⟨_, _, ⟨T5, L5, k5, n5⟩, -, X5, ⟨Lc5, hQ5, l5, y5, z5⟩, st5⟩ := X0.specialBack hx (y := (⟨"java/util/AbstractCollection", "<init>", "()V"⟩ : MethodName)) rfl hown (mvT hZ (hw _ (List.mem_of_getElem? (i := 35) rfl))) (mvT hZ (hw _ (List.mem_of_getElem? (i := 36) rfl))) (mvT hZ (hw _ (List.mem_of_getElem? (i := 40) rfl))) (by decide) (backOf (W := 0) (rmabc l Z a0 hw [] a  h0 n0 Z0 ) hZ (hw _ (List.mem_of_getElem? (i := 40) rfl)) (hw _ (List.mem_of_getElem? (i := 39) rfl)) (by decide) (by decide)) (g := (mkF m 1 #[.val (.ref a)] [(.ref a)])) rfl (by rw [hml]; rfl) (Steps.refl _) (a := a) (argsL := []) (rest := []) (lenOf pd___V rfl) rfl (by show 2 * 0 + _ ≤ _; exact Nat.le_of_eq rfl) (hb hby d6_1) (fun _ _ => ⟨rfl, e0, (by decide : 0 + 0 ≤ _), (by decide : 0 + 0 ≤ _)⟩)
  dsimp only [Pt.U, Pt.locs, Pt.cells, Pt.slots] at X5 l5 y5 z5 st5 hQ5
  subst l5 y5 z5
  obtain ⟨Nq5, rfl, eh5⟩ := hQ5
  have N5 := Fr.app N0 Nq5
  refine Gl.back (fun _ k => st5.trans k) ?_
  show Gl _ _ _ _ _ _ _ (T5.setTop (mkF m 4 #[.val (.ref a)] []))
  refine Gl.back (fun _ k => XS.aloadN X5.here hx rfl (hb hby d6_4) rfl rfl k) ?_
  show Gl _ _ _ _ _ _ _ (T5.setTop (mkF m 5 #[.val (.ref a)] [(.ref a)]))
  refine Gl.back (fun _ k => XS.iconst X5.here hx rfl (hb hby d6_5) k) ?_
  show Gl _ _ _ _ _ _ _ (T5.setTop (mkF m 6 #[.val (.ref a)] [(.int (0 : Int32)), (.ref a)]))
  obtain ⟨T6, h6, X6, e6, W6, st6⟩ := putF X5 hx hZ hown (host := "") (Or.inl (hw _ (List.mem_of_getElem? (i := 42) rfl))) Via.refl eh5 F_a_modCount E_a (Or.inl (hw _ (List.mem_of_getElem? (i := 43) rfl))) (hw _ (List.mem_of_getElem? (i := 24) rfl)) (ty := .int) (by decide) rfl rfl (g := (mkF m 6 #[.val (.ref a)] [(.int (0 : Int32)), (.ref a)])) rfl rfl (hb hby d6_6)
  have Fw6 := F_a_modCount.same W6
  have K6 := Keep.wr (Keep.refl h0 [a]) W6 (Or.inl (List.mem_of_getElem? (i := 0) rfl))
  have Z6 : n0 ≤ h6.size := Nat.le_trans Z0 (Keep.of_wr W6).1
  have N6 := Fr.snoc X6 N5 g_a
  refine Gl.back (fun _ k => st6 _ k) ?_
  show Gl _ _ _ _ _ _ _ (T6.setTop (mkF m 9 #[.val (.ref a)] []))
  have f7 := (F_a_elementData.other W6 (Or.inr (slot_ne (Or.inl (hw _ (List.mem_of_getElem? (i := 46) rfl))) (Or.inl (hw _ (List.mem_of_getElem? (i := 43) rfl))) (by decide) (t := (.array (.object "java/lang/Object"))) (t' := .int) (by decide) (by decide))))
  have f8 := (F_a_size.other W6 (Or.inr (slot_ne (Or.inl (hw _ (List.mem_of_getElem? (i := 142) rfl))) (Or.inl (hw _ (List.mem_of_getElem? (i := 43) rfl))) (by decide) (t := .int) (t' := .int) (by decide) (by decide))))
  exact Gl.ret X6 e6 (v := none) (fun _ => rfl) Bd.notSynchronized (fun fs hr => X6.returnOut hx Bd.returns (hb hby d6_9) hr) ⟨N6, rfl, K6, Fw6, f7, f8⟩ (by decide) (by decide)
theorem d5_0 : decode jdk_38_method_2_code 0 = .ok (.aload_n 0, 1) := by decide +kernel
theorem d5_1 : decode jdk_38_method_2_code 1 = .ok (.invokespecial 1, 3) := by decide +kernel
theorem d5_4 : decode jdk_38_method_2_code 4 = .ok (.aload_n 0, 1) := by decide +kernel
theorem d5_5 : decode jdk_38_method_2_code 5 = .ok (.getstatic 39, 3) := by decide +kernel
theorem d5_8 : decode jdk_38_method_2_code 8 = .ok (.putfield 9, 3) := by decide +kernel
theorem d5_11 : decode jdk_38_method_2_code 11 = .ok (.return_, 1) := by decide +kernel
theorem pn_java_util_ArrayList : plainName "java/util/ArrayList" = true := by first | (simp [plainName, overriddenIn]; done) | decide +kernel
theorem ef_ali (m : MethodId) (x0 : Addr) : entryFrame m #[(.ref x0)] 1 = mkF m 0 #[.val (.ref x0)] [] := by first | (simp [entryFrame, mkF, argsToLocals, Value.category]; done) | rfl
def Qali (Z : State) (a : Addr) (wD : Addr) (h0 : Heap) (n0 : Nat) (v : Option Value) (h : Heap) (L : List Loc) : Prop := Fr n0 L ∧ (v = none ∧ Keep h0 h [a] ∧ Fld Z h a "java/util/AbstractList" "modCount" "I" (.int (0 : Int32)) ∧ Fld Z h a "java/util/ArrayList" "elementData" "[Ljava/lang/Object;" (.ref wD) ∧ Fld Z h a "java/util/ArrayList" "size" "I" (.int (0 : Int32)))
set_option maxRecDepth 65536 in
set_option maxHeartbeats 40000000 in
theorem rmali (l : Launch) (Z : State) (a0 : Array Value) (hw : ∀ d ∈ tables_1, d.before a0 Z = true) (ws : List Jvm.Cond) (a : Addr) (wD : Addr) (h0 : Heap) (n0 : Nat) (Z0 : n0 ≤ h0.size) (O0 : Old Z n0 h0) (g_a : n0 ≤ a) (E_a : Exa Z h0 a "java/util/ArrayList") (F_a_modCount : Fld Z h0 a "java/util/AbstractList" "modCount" "I" (.int (0 : Int32))) (F_a_elementData : Fld Z h0 a "java/util/ArrayList" "elementData" "[Ljava/lang/Object;" .null) (F_a_size : Fld Z h0 a "java/util/ArrayList" "size" "I" (.int (0 : Int32))) (S_DEFAULTCAPACITY_EMPTY_ELEMENTDATA : Sta Z Z.heap "java/util/ArrayList" "DEFAULTCAPACITY_EMPTY_ELEMENTDATA" "[Ljava/lang/Object;" (.ref wD)) :
    MetFree l (⟨"java/util/ArrayList", "<init>", "()V"⟩ : MethodName) (head1 (Jvm.Cond.code (⟨"java/util/ArrayList", "<init>", "()V"⟩ : MethodName) jdk_38_method_2_code 1 none :: ws) ({ frames := 3, cells := 0, slots := 0, locals := 36 } : Room)) (fun as0 U => as0 = #[(.ref a)] ∧ Z.Warmed39 U.vm ∧ U.heap = h0) (fun _ _ _ _ _ => True) (fun _ U oc0 U' => ∃ v L, oc0 = .returned v ∧ Qali Z a wD h0 n0 v U'.heap L ∧ FrameEnd U oc0 U' L ({ frames := 3, cells := 0, slots := 0, locals := 36 } : Room).cells ({ frames := 3, cells := 0, slots := 0, locals := 36 } : Room).slots) := by
  refine MetFree.of_bodySF (plainFor_of_name pn_java_util_ArrayList) hisR ?_
  intro p e s m args below meth c s₁ Bd hml0 hP hK
  obtain ⟨rfl, hZ, hh⟩ := hP
  have hx := Bd.exec
  have hby := Bd.bytes
  have hml : c.maxLocals = 1 := hml0
  have hown : s.vm.findClass "java/util/ArrayList" = some m.cls := findClass_of_methodNamed Bd.named
  have hnm := (name_of_methodNamed Bd.named Bd.method).1
  have X0 : Stand p l e ({ frames := 3, cells := 0, slots := 0, locals := 36 } : Room) s m #[(.ref a)] below meth c s₁ [] 0 0 := Stand.of_body Bd
  have e0 : s₁.heap = h0 := by rw [← hh, Bd.state]; rfl
  have N0 := Fr.nil n0
  show Gl p e below s (Qali Z a wD h0 n0) ({ frames := 3, cells := 0, slots := 0, locals := 36 } : Room).cells ({ frames := 3, cells := 0, slots := 0, locals := 36 } : Room).slots (s₁.setTop (entryFrame m #[(.ref a)] 1))
  refine Gl.back (fun _ k => castTop (ef_ali m a) k) ?_
  show Gl _ _ _ _ _ _ _ (s₁.setTop (mkF m 0 #[.val (.ref a)] []))
  refine Gl.back (fun _ k => XS.aloadN X0.here hx rfl (hb hby d5_0) rfl rfl k) ?_
  show Gl _ _ _ _ _ _ _ (s₁.setTop (mkF m 1 #[.val (.ref a)] [(.ref a)]))
  obtain ⟨_, _, ⟨T9, L9, k9, n9⟩, -, X9, ⟨Lc9, hQ9, l9, y9, z9⟩, st9⟩ := X0.specialBack hx (y := (⟨"java/util/AbstractList", "<init>", "()V"⟩ : MethodName)) rfl hown (mvT hZ (hw _ (List.mem_of_getElem? (i := 29) rfl))) (mvT hZ (hw _ (List.mem_of_getElem? (i := 30) rfl))) (mvT hZ (hw _ (List.mem_of_getElem? (i := 34) rfl))) (by decide) (backOf (W := 0) (rmabl l Z a0 hw [] a  h0 n0 Z0 g_a E_a F_a_modCount F_a_elementData F_a_size) hZ (hw _ (List.mem_of_getElem? (i := 34) rfl)) (hw _ (List.mem_of_getElem? (i := 33) rfl)) (by decide) (by decide)) (g := (mkF m 1 #[.val (.ref a)] [(.ref a)])) rfl (by rw [hml]; rfl) (Steps.refl _) (a := a) (argsL := []) (rest := []) (lenOf pd___V rfl) rfl (by show 2 * 0 + _ ≤ _; exact Nat.le_of_eq rfl) (hb hby d5_1) (fun _ _ => ⟨rfl, e0, (by decide : 0 + 0 ≤ _), (by decide : 0 + 0 ≤ _)⟩)
  dsimp only [Pt.U, Pt.locs, Pt.cells, Pt.slots] at X9 l9 y9 z9 st9 hQ9
  subst l9 y9 z9
  obtain ⟨Nq9, rfl, Kq9, Fm9, Fe9, Fs9⟩ := hQ9
  have N9 := Fr.app N0 Nq9
  have Kc9 := Keep.trans (Keep.refl h0 [a]) Kq9 (allS (Or.inl (List.mem_of_getElem? (i := 0) rfl)) all0)
  have Zc9 : n0 ≤ T9.heap.size := Nat.le_trans Z0 Kq9.1
  have Oc9 := Old.keep O0 Kq9 (allS g_a all0)
  refine Gl.back (fun _ k => st9.trans k) ?_
  show Gl _ _ _ _ _ _ _ (T9.setTop (mkF m 4 #[.val (.ref a)] []))
  refine Gl.back (fun _ k => XS.aloadN X9.here hx rfl (hb hby d5_4) rfl rfl k) ?_
  show Gl _ _ _ _ _ _ _ (T9.setTop (mkF m 5 #[.val (.ref a)] [(.ref a)]))
  obtain ⟨T10, X10, e10, st10⟩ := getS2 X9 hx hZ hown (host := "") (Or.inl (hw _ (List.mem_of_getElem? (i := 44) rfl))) Via.refl rfl (S_DEFAULTCAPACITY_EMPTY_ELEMENTDATA.ext Oc9.2) (g := (mkF m 5 #[.val (.ref a)] [(.ref a)])) rfl (hb hby d5_5)
  refine Gl.back (fun _ k => st10 _ k) ?_
  show Gl _ _ _ _ _ _ _ (T10.setTop (mkF m 8 #[.val (.ref a)] [(.ref wD), (.ref a)]))
  have f11 := (E_a.keep Kq9)
  obtain ⟨T12, h12, X12, e12, W12, st12⟩ := putF X10 hx hZ hown (host := "") (Or.inl (hw _ (List.mem_of_getElem? (i := 45) rfl))) Via.refl e10 Fe9 f11 (Or.inl (hw _ (List.mem_of_getElem? (i := 46) rfl))) (hw _ (List.mem_of_getElem? (i := 24) rfl)) (ty := (.array (.object "java/lang/Object"))) (by decide) rfl rfl (g := (mkF m 8 #[.val (.ref a)] [(.ref wD), (.ref a)])) rfl rfl (hb hby d5_8)
  have Fw12 := Fe9.same W12
  have K12 := Keep.wr Kc9 W12 (Or.inl (List.mem_of_getElem? (i := 0) rfl))
  have O12 := Old.wr Oc9 W12 g_a
  have Z12 : n0 ≤ h12.size := Nat.le_trans Zc9 (Keep.of_wr W12).1
  have N12 := Fr.snoc X12 N9 g_a
  refine Gl.back (fun _ k => st12 _ k) ?_
  show Gl _ _ _ _ _ _ _ (T12.setTop (mkF m 11 #[.val (.ref a)] []))
  have f13 := (Fm9.other W12 (Or.inr (slot_ne (Or.inl (hw _ (List.mem_of_getElem? (i := 43) rfl))) (Or.inl (hw _ (List.mem_of_getElem? (i := 46) rfl))) (by decide) (t := .int) (t' := (.array (.object "java/lang/Object"))) (by decide) (by decide))))
  have f14 := (Fs9.other W12 (Or.inr (slot_ne (Or.inl (hw _ (List.mem_of_getElem? (i := 142) rfl))) (Or.inl (hw _ (List.mem_of_getElem? (i := 46) rfl))) (by decide) (t := .int) (t' := (.array (.object "java/lang/Object"))) (by decide) (by decide))))
  exact Gl.ret X12 e12 (v := none) (fun _ => rfl) Bd.notSynchronized (fun fs hr => X12.returnOut hx Bd.returns (hb hby d5_11) hr) ⟨N12, rfl, K12, f13, Fw12, f14⟩ (by decide) (by decide)
theorem d4_0 : decode prog_50_method_1_code 0 = .ok (.aload_n 0, 1) := by decide +kernel
theorem d4_1 : decode prog_50_method_1_code 1 = .ok (.invokespecial 1, 3) := by decide +kernel
theorem d4_4 : decode prog_50_method_1_code 4 = .ok (.aload_n 0, 1) := by decide +kernel
theorem d4_5 : decode prog_50_method_1_code 5 = .ok (.new 7, 3) := by decide +kernel
theorem d4_8 : decode prog_50_method_1_code 8 = .ok (.dup, 1) := by decide +kernel
theorem d4_9 : decode prog_50_method_1_code 9 = .ok (.invokespecial 9, 3) := by decide +kernel
theorem d4_12 : decode prog_50_method_1_code 12 = .ok (.putfield 10, 3) := by decide +kernel
theorem d4_15 : decode prog_50_method_1_code 15 = .ok (.aload_n 0, 1) := by decide +kernel
theorem d4_16 : decode prog_50_method_1_code 16 = .ok (.aload_n 1, 1) := by decide +kernel
theorem d4_17 : decode prog_50_method_1_code 17 = .ok (.putfield 16, 3) := by decide +kernel
theorem d4_20 : decode prog_50_method_1_code 20 = .ok (.return_, 1) := by decide +kernel
theorem pn_com_example_gavelwatch_gavelwatch_sim_RunningAuction : plainName "com/example/gavelwatch/gavelwatch/sim/RunningAuction" = true := by first | (simp [plainName, overriddenIn]; done) | decide +kernel
theorem ef_rai (m : MethodId) (x0 : Addr) (x1 : Addr) : entryFrame m #[(.ref x0), (.ref x1)] 2 = mkF m 0 #[.val (.ref x0), .val (.ref x1)] [] := by first | (simp [entryFrame, mkF, argsToLocals, Value.category]; done) | rfl
def Qrai (Z : State) (a : Addr) (m1 : Addr) (wD : Addr) (h0 : Heap) (n0 : Nat) (v : Option Value) (h : Heap) (L : List Loc) : Prop := Fr n0 L ∧ (v = none ∧ Keep h0 h [a] ∧ ∃ l : Addr, h0.size ≤ l ∧ n0 ≤ l ∧ Exa Z h l "java/util/ArrayList" ∧ Fld Z h a "com/example/gavelwatch/gavelwatch/sim/RunningAuction" "bids" "Ljava/util/List;" (.ref l) ∧ Fld Z h a "com/example/gavelwatch/gavelwatch/sim/RunningAuction" "openingBid" "Lcom/example/gavelwatch/gavelwatch/model/Money;" (.ref m1) ∧ Fld Z h a "com/example/gavelwatch/gavelwatch/sim/RunningAuction" "highest" "Lcom/example/gavelwatch/gavelwatch/model/Bid;" .null ∧ Fld Z h l "java/util/AbstractList" "modCount" "I" (.int (0 : Int32)) ∧ Fld Z h l "java/util/ArrayList" "elementData" "[Ljava/lang/Object;" (.ref wD) ∧ Fld Z h l "java/util/ArrayList" "size" "I" (.int (0 : Int32)))
set_option maxRecDepth 65536 in
set_option maxHeartbeats 40000000 in
theorem rmrai (l : Launch) (Z : State) (a0 : Array Value) (hw : ∀ d ∈ tables_1, d.before a0 Z = true) (ws : List Jvm.Cond) (a : Addr) (m1 : Addr) (wD : Addr) (h0 : Heap) (n0 : Nat) (Z0 : n0 ≤ h0.size) (O0 : Old Z n0 h0) (g_a : n0 ≤ a) (E_a : Exa Z h0 a "com/example/gavelwatch/gavelwatch/sim/RunningAuction") (F_a_bids : Fld Z h0 a "com/example/gavelwatch/gavelwatch/sim/RunningAuction" "bids" "Ljava/util/List;" .null) (F_a_openingBid : Fld Z h0 a "com/example/gavelwatch/gavelwatch/sim/RunningAuction" "openingBid" "Lcom/example/gavelwatch/gavelwatch/model/Money;" .null) (F_a_highest : Fld Z h0 a "com/example/gavelwatch/gavelwatch/sim/RunningAuction" "highest" "Lcom/example/gavelwatch/gavelwatch/model/Bid;" .null) (S_DEFAULTCAPACITY_EMPTY_ELEMENTDATA : Sta Z Z.heap "java/util/ArrayList" "DEFAULTCAPACITY_EMPTY_ELEMENTDATA" "[Ljava/lang/Object;" (.ref wD)) :
    MetFree l (⟨"com/example/gavelwatch/gavelwatch/sim/RunningAuction", "<init>", "(Lcom/example/gavelwatch/gavelwatch/model/Money;)V"⟩ : MethodName) (head1 (Jvm.Cond.code (⟨"com/example/gavelwatch/gavelwatch/sim/RunningAuction", "<init>", "(Lcom/example/gavelwatch/gavelwatch/model/Money;)V"⟩ : MethodName) prog_50_method_1_code 2 none :: ws) ({ frames := 4, cells := 1, slots := 3, locals := 50 } : Room)) (fun as0 U => as0 = #[(.ref a), (.ref m1)] ∧ Z.Warmed39 U.vm ∧ U.heap = h0) (fun _ _ _ _ _ => True) (fun _ U oc0 U' => ∃ v L, oc0 = .returned v ∧ Qrai Z a m1 wD h0 n0 v U'.heap L ∧ FrameEnd U oc0 U' L ({ frames := 4, cells := 1, slots := 3, locals := 50 } : Room).cells ({ frames := 4, cells := 1, slots := 3, locals := 50 } : Room).slots) := by
  refine MetFree.of_bodySF (plainFor_of_name pn_com_example_gavelwatch_gavelwatch_sim_RunningAuction) hisR ?_
  intro p e s m args below meth c s₁ Bd hml0 hP hK
  obtain ⟨rfl, hZ, hh⟩ := hP
  have hx := Bd.exec
  have hby := Bd.bytes
  have hml : c.maxLocals = 2 := hml0
  have hown : s.vm.findClass "com/example/gavelwatch/gavelwatch/sim/RunningAuction" = some m.cls := findClass_of_methodNamed Bd.named
  have hnm := (name_of_methodNamed Bd.named Bd.method).1
  have X0 : Stand p l e ({ frames := 4, cells := 1, slots := 3, locals := 50 } : Room) s m #[(.ref a), (.ref m1)] below meth c s₁ [] 0 0 := Stand.of_body Bd
  have e0 : s₁.heap = h0 := by rw [← hh, Bd.state]; rfl
  have N0 := Fr.nil n0
  show Gl p e below s (Qrai Z a m1 wD h0 n0) ({ frames := 4, cells := 1, slots := 3, locals := 50 } : Room).cells ({ frames := 4, cells := 1, slots := 3, locals := 50 } : Room).slots (s₁.setTop (entryFrame m #[(.ref a), (.ref m1)] 2))
  refine Gl.back (fun _ k => castTop (ef_rai m a m1) k) ?_
  show Gl _ _ _ _ _ _ _ (s₁.setTop (mkF m 0 #[.val (.ref a), .val (.ref m1)] []))
  refine Gl.back (fun _ k => XS.aloadN X0.here hx rfl (hb hby d4_0) rfl rfl k) ?_
  show Gl _ _ _ _ _ _ _ (s₁.setTop (mkF m 1 #[.val (.ref a), .val (.ref m1)] [(.ref a)]))
  obtain ⟨T15, X15, e15, st15⟩ := initO X0 hx hZ hown (hw _ (List.mem_of_getElem? (i := 22) rfl)) (hw _ (List.mem_of_getElem? (i := 15) rfl)) (hw _ (List.mem_of_getElem? (i := 16) rfl)) e0 (g := (mkF m 1 #[.val (.ref a), .val (.ref m1)] [(.ref a)])) rfl (by rw [hml]; rfl) rfl (hb hby d4_1) (by decide) (W := 0) (by show 2 * 0 + _ ≤ _; exact Nat.le_of_eq rfl) (by decide)
  refine Gl.back (fun _ k => st15 _ k) ?_
  show Gl _ _ _ _ _ _ _ (T15.setTop (mkF m 4 #[.val (.ref a), .val (.ref m1)] []))
  refine Gl.back (fun _ k => XS.aloadN X15.here hx rfl (hb hby d4_4) rfl rfl k) ?_
  show Gl _ _ _ _ _ _ _ (T15.setTop (mkF m 5 #[.val (.ref a), .val (.ref m1)] [(.ref a)]))
  obtain ⟨T16, h16, X16, e16, E16, A16, D16, -, st16⟩ := newO X15 hx hZ hown (hw _ (List.mem_of_getElem? (i := 23) rfl)) (hw _ (List.mem_of_getElem? (i := 24) rfl)) (hw _ (List.mem_of_getElem? (i := 25) rfl)) e15 (g := (mkF m 5 #[.val (.ref a), .val (.ref m1)] [(.ref a)])) rfl (hb hby d4_5) (by decide) (by decide)
  obtain ⟨b16, g16⟩ : ∃ z, z = h0.size := ⟨_, rfl⟩
  rw [← g16] at A16 D16 st16
  have ne_a_b16 : a ≠ b16 := Nat.ne_of_lt (Nat.lt_of_lt_of_le E_a.lt (Nat.le_of_eq g16.symm))
  have g_b16 : n0 ≤ b16 := Nat.le_trans Z0 (Nat.le_of_eq g16.symm)
  have sz_b16 : h0.size ≤ b16 := Nat.le_trans (Keep.refl h0 [a]).1 (Nat.le_of_eq g16.symm)
  have Z16 : n0 ≤ h16.size := Nat.le_trans Z0 E16.1
  have K16 := Keep.ext (Keep.refl h0 [a]) E16
  have O16 := Old.ext O0 E16
  have F16_modCount : Fld Z h16 b16 "java/util/AbstractList" "modCount" "I" (.int (0 : Int32)) := D16 (Or.inl (hw _ (List.mem_of_getElem? (i := 43) rfl))) (ty := .int) (by decide)
  have F16_elementData : Fld Z h16 b16 "java/util/ArrayList" "elementData" "[Ljava/lang/Object;" .null := D16 (Or.inl (hw _ (List.mem_of_getElem? (i := 46) rfl))) (ty := (.array (.object "java/lang/Object"))) (by decide)
  have F16_size : Fld Z h16 b16 "java/util/ArrayList" "size" "I" (.int (0 : Int32)) := D16 (Or.inl (hw _ (List.mem_of_getElem? (i := 142) rfl))) (ty := .int) (by decide)
  refine Gl.back (fun _ k => st16 _ k) ?_
  show Gl _ _ _ _ _ _ _ (T16.setTop (mkF m 8 #[.val (.ref a), .val (.ref m1)] [(.ref b16), (.ref a)]))
  refine Gl.back (fun _ k => XS.dup X16.here hx rfl (hb hby d4_8) rfl rfl k) ?_
  show Gl _ _ _ _ _ _ _ (T16.setTop (mkF m 9 #[.val (.ref a), .val (.ref m1)] [(.ref b16), (.ref b16), (.ref a)]))
  obtain ⟨_, _, ⟨T17, L17, k17, n17⟩, -, X17, ⟨Lc17, hQ17, l17, y17, z17⟩, st17⟩ := X16.specialBack hx (y := (⟨"java/util/ArrayList", "<init>", "()V"⟩ : MethodName)) rfl hown (mvT hZ (hw _ (List.mem_of_getElem? (i := 26) rfl))) (mvT hZ (hw _ (List.mem_of_getElem? (i := 27) rfl))) (mvT hZ (hw _ (List.mem_of_getElem? (i := 28) rfl))) (by decide) (backOf (W := 2) (rmali l Z a0 hw [] b16 wD h16 n0 Z16 O16 g_b16 A16 F16_modCount F16_elementData F16_size S_DEFAULTCAPACITY_EMPTY_ELEMENTDATA) hZ (hw _ (List.mem_of_getElem? (i := 28) rfl)) (hw _ (List.mem_of_getElem? (i := 25) rfl)) (by decide) (by decide)) (g := (mkF m 9 #[.val (.ref a), .val (.ref m1)] [(.ref b16), (.ref b16), (.ref a)])) rfl (by rw [hml]; rfl) (Steps.refl _) (a := b16) (argsL := []) (rest := [(.ref b16), (.ref a)]) (lenOf pd___V rfl) rfl (by show 2 * 0 + _ ≤ _; exact Nat.le_of_eq rfl) (hb hby d4_9) (fun _ _ => ⟨rfl, e16, (by decide : 1 + 0 ≤ _), (by decide : 3 + 0 ≤ _)⟩)
  dsimp only [Pt.U, Pt.locs, Pt.cells, Pt.slots] at X17 l17 y17 z17 st17 hQ17
  subst l17 y17 z17
  obtain ⟨Nq17, rfl, Kq17, Fm17, Fe17, Fs17⟩ := hQ17
  have N17 := Fr.app N0 Nq17
  have Kc17 := Keep.trans K16 Kq17 (allS (Or.inr sz_b16) all0)
  have Zc17 : n0 ≤ T17.heap.size := Nat.le_trans Z16 Kq17.1
  have Oc17 := Old.keep O16 Kq17 (allS g_b16 all0)
  refine Gl.back (fun _ k => st17.trans k) ?_
  show Gl _ _ _ _ _ _ _ (T17.setTop (mkF m 12 #[.val (.ref a), .val (.ref m1)] [(.ref b16), (.ref a)]))
  have f18 := ((E_a.ext E16).keep Kq17)
  have f19 := ((F_a_bids.ext E16).keep Kq17 (ninS ne_a_b16 nin0))
  obtain ⟨T20, h20, X20, e20, W20, st20⟩ := putF X17 hx hZ hown (host := "") (Or.inl (hw _ (List.mem_of_getElem? (i := 47) rfl))) Via.refl rfl f19 f18 (Or.inr ⟨(hw _ (List.mem_of_getElem? (i := 48) rfl)), rfl, hnm⟩) (hw _ (List.mem_of_getElem? (i := 1) rfl)) (ty := (.object "java/util/List")) (by decide) rfl rfl (g := (mkF m 12 #[.val (.ref a), .val (.ref m1)] [(.ref b16), (.ref a)])) rfl rfl (hb hby d4_12)
  have Fw20 := f19.same W20
  have K20 := Keep.wr Kc17 W20 (Or.inl (List.mem_of_getElem? (i := 0) rfl))
  have O20 := Old.wr Oc17 W20 g_a
  have Z20 : n0 ≤ h20.size := Nat.le_trans Zc17 (Keep.of_wr W20).1
  have N20 := Fr.snoc X20 N17 g_a
  refine Gl.back (fun _ k => st20 _ k) ?_
  show Gl _ _ _ _ _ _ _ (T20.setTop (mkF m 15 #[.val (.ref a), .val (.ref m1)] []))
  refine Gl.back (fun _ k => XS.aloadN X20.here hx rfl (hb hby d4_15) rfl rfl k) ?_
  show Gl _ _ _ _ _ _ _ (T20.setTop (mkF m 16 #[.val (.ref a), .val (.ref m1)] [(.ref a)]))
  refine Gl.back (fun _ k => XS.aloadN X20.here hx rfl (hb hby d4_16) rfl rfl k) ?_
  show Gl _ _ _ _ _ _ _ (T20.setTop (mkF m 17 #[.val (.ref a), .val (.ref m1)] [(.ref m1), (.ref a)]))
  have f21 := (f18.wr W20)
  have f22 := (((F_a_openingBid.ext E16).keep Kq17 (ninS ne_a_b16 nin0)).other W20 (Or.inr (slot_ne (Or.inr (hw _ (List.mem_of_getElem? (i := 50) rfl))) (Or.inr (hw _ (List.mem_of_getElem? (i := 48) rfl))) (by decide) (t := (.object "com/example/gavelwatch/gavelwatch/model/Money")) (t' := (.object "java/util/List")) (by decide) (by decide))))
  obtain ⟨T23, h23, X23, e23, W23, st23⟩ := putF X20 hx hZ hown (host := "") (Or.inl (hw _ (List.mem_of_getElem? (i := 49) rfl))) Via.refl e20 f22 f21 (Or.inr ⟨(hw _ (List.mem_of_getElem? (i := 50) rfl)), rfl, hnm⟩) (hw _ (List.mem_of_getElem? (i := 1) rfl)) (ty := (.object "com/example/gavelwatch/gavelwatch/model/Money")) (by decide) rfl rfl (g := (mkF m 17 #[.val (.ref a), .val (.ref m1)] [(.ref m1), (.ref a)])) rfl rfl (hb hby d4_17)
  have Fw23 := f22.same W23
  have K23 := Keep.wr K20 W23 (Or.inl (List.mem_of_getElem? (i := 0) rfl))
  have O23 := Old.wr O20 W23 g_a
  have Z23 : n0 ≤ h23.size := Nat.le_trans Z20 (Keep.of_wr W23).1
  have N23 := Fr.snoc X23 N20 g_a
  refine Gl.back (fun _ k => st23 _ k) ?_
  show Gl _ _ _ _ _ _ _ (T23.setTop (mkF m 20 #[.val (.ref a), .val (.ref m1)] []))
  have f24 := (((A16.keep Kq17).wr W20).wr W23)
  have f25 := (Fw20.other W23 (Or.inr (slot_ne (Or.inr (hw _ (List.mem_of_getElem? (i := 48) rfl))) (Or.inr (hw _ (List.mem_of_getElem? (i := 50) rfl))) (by decide) (t := (.object "java/util/List")) (t' := (.object "com/example/gavelwatch/gavelwatch/model/Money")) (by decide) (by decide))))
  have f26 := ((((F_a_highest.ext E16).keep Kq17 (ninS ne_a_b16 nin0)).other W20 (Or.inr (slot_ne (Or.inl (hw _ (List.mem_of_getElem? (i := 62) rfl))) (Or.inr (hw _ (List.mem_of_getElem? (i := 48) rfl))) (by decide) (t := (.object "com/example/gavelwatch/gavelwatch/model/Bid")) (t' := (.object "java/util/List")) (by decide) (by decide)))).other W23 (Or.inr (slot_ne (Or.inl (hw _ (List.mem_of_getElem? (i := 62) rfl))) (Or.inr (hw _ (List.mem_of_getElem? (i := 50) rfl))) (by decide) (t := (.object "com/example/gavelwatch/gavelwatch/model/Bid")) (t' := (.object "com/example/gavelwatch/gavelwatch/model/Money")) (by decide) (by decide))))
  have f27 := ((Fm17.other W20 (Or.inl (Ne.symm ne_a_b16))).other W23 (Or.inl (Ne.symm ne_a_b16)))
  have f28 := ((Fe17.other W20 (Or.inl (Ne.symm ne_a_b16))).other W23 (Or.inl (Ne.symm ne_a_b16)))
  have f29 := ((Fs17.other W20 (Or.inl (Ne.symm ne_a_b16))).other W23 (Or.inl (Ne.symm ne_a_b16)))
  exact Gl.ret X23 e23 (v := none) (fun _ => rfl) Bd.notSynchronized (fun fs hr => X23.returnOut hx Bd.returns (hb hby d4_20) hr) ⟨N23, rfl, K23, b16, sz_b16, g_b16, f24, f25, Fw23, f26, f27, f28, f29⟩ (by decide) (by decide)
theorem d9_0 : decode prog_50_method_2_code 0 = .ok (.aload_n 0, 1) := by decide +kernel
theorem d9_1 : decode prog_50_method_2_code 1 = .ok (.getfield 20, 3) := by decide +kernel
theorem d9_4 : decode prog_50_method_2_code 4 = .ok (.ifnull 7, 3) := by decide +kernel
theorem d9_11 : decode prog_50_method_2_code 11 = .ok (.iconst 0, 1) := by decide +kernel
theorem d9_12 : decode prog_50_method_2_code 12 = .ok (.ireturn, 1) := by decide +kernel
theorem ef_has0 (m : MethodId) (x0 : Addr) : entryFrame m #[(.ref x0)] 1 = mkF m 0 #[.val (.ref x0)] [] := by first | (simp [entryFrame, mkF, argsToLocals, Value.category]; done) | rfl
def Qhas0 (Z : State) (a : Addr) (h0 : Heap) (n0 : Nat) (v : Option Value) (h : Heap) (L : List Loc) : Prop := Fr n0 L ∧ (v = some (.int 0) ∧ h = h0)
set_option maxRecDepth 65536 in
set_option maxHeartbeats 40000000 in
theorem rmhas0 (l : Launch) (Z : State) (a0 : Array Value) (hw : ∀ d ∈ tables_1, d.before a0 Z = true) (ws : List Jvm.Cond) (a : Addr) (h0 : Heap) (n0 : Nat) (Z0 : n0 ≤ h0.size) (F_a_highest : Fld Z h0 a "com/example/gavelwatch/gavelwatch/sim/RunningAuction" "highest" "Lcom/example/gavelwatch/gavelwatch/model/Bid;" .null) :
    MetFree l (⟨"com/example/gavelwatch/gavelwatch/sim/RunningAuction", "hasBids", "()Z"⟩ : MethodName) (head1 (Jvm.Cond.code (⟨"com/example/gavelwatch/gavelwatch/sim/RunningAuction", "hasBids", "()Z"⟩ : MethodName) prog_50_method_2_code 1 (some .boolean) :: ws) ({ frames := 0, cells := 0, slots := 0, locals := 0 } : Room)) (fun as0 U => as0 = #[(.ref a)] ∧ Z.Warmed39 U.vm ∧ U.heap = h0) (fun _ _ _ _ _ => True) (fun _ U oc0 U' => ∃ v L, oc0 = .returned v ∧ Qhas0 Z a h0 n0 v U'.heap L ∧ FrameEnd U oc0 U' L ({ frames := 0, cells := 0, slots := 0, locals := 0 } : Room).cells ({ frames := 0, cells := 0, slots := 0, locals := 0 } : Room).slots) := by
  refine MetFree.of_bodySF (plainFor_of_name pn_com_example_gavelwatch_gavelwatch_sim_RunningAuction) hisR ?_
  intro p e s m args below meth c s₁ Bd hml0 hP hK
  obtain ⟨rfl, hZ, hh⟩ := hP
  have hx := Bd.exec
  have hby := Bd.bytes
  have hml : c.maxLocals = 1 := hml0
  have hown : s.vm.findClass "com/example/gavelwatch/gavelwatch/sim/RunningAuction" = some m.cls := findClass_of_methodNamed Bd.named
  have hnm := (name_of_methodNamed Bd.named Bd.method).1
  have X0 : Stand p l e ({ frames := 0, cells := 0, slots := 0, locals := 0 } : Room) s m #[(.ref a)] below meth c s₁ [] 0 0 := Stand.of_body Bd
  have e0 : s₁.heap = h0 := by rw [← hh, Bd.state]; rfl
  have N0 := Fr.nil n0
  show Gl p e below s (Qhas0 Z a h0 n0) ({ frames := 0, cells := 0, slots := 0, locals := 0 } : Room).cells ({ frames := 0, cells := 0, slots := 0, locals := 0 } : Room).slots (s₁.setTop (entryFrame m #[(.ref a)] 1))
  refine Gl.back (fun _ k => castTop (ef_has0 m a) k) ?_
  show Gl _ _ _ _ _ _ _ (s₁.setTop (mkF m 0 #[.val (.ref a)] []))
  refine Gl.back (fun _ k => XS.aloadN X0.here hx rfl (hb hby d9_0) rfl rfl k) ?_
  show Gl _ _ _ _ _ _ _ (s₁.setTop (mkF m 1 #[.val (.ref a)] [(.ref a)]))
  obtain ⟨T30, X30, e30, st30⟩ := getF X0 hx hZ hown (host := "") (Or.inl (hw _ (List.mem_of_getElem? (i := 61) rfl))) Via.refl e0 F_a_highest (g := (mkF m 1 #[.val (.ref a)] [(.ref a)])) rfl rfl (hb hby d9_1)
  refine Gl.back (fun _ k => st30 _ k) ?_
  show Gl _ _ _ _ _ _ _ (T30.setTop (mkF m 4 #[.val (.ref a)] [.null]))
  refine Gl.back (fun _ k => XS.ifnullYes X30.here hx rfl (pc0 := 4) (pc' := 11) rfl (hb hby d9_4) rfl (by decide) (by decide) k) ?_
  show Gl _ _ _ _ _ _ _ (T30.setTop (mkF m 11 #[.val (.ref a)] []))
  refine Gl.back (fun _ k => XS.iconst X30.here hx rfl (hb hby d9_11) k) ?_
  show Gl _ _ _ _ _ _ _ (T30.setTop (mkF m 12 #[.val (.ref a)] [(.int (0 : Int32))]))
  exact Gl.ret X30 e30 (v := (some (.int (0 : Int32)))) (fun h => by rw [Bd.returns] at h; cases h) Bd.notSynchronized (fun fs hr => retN X30 hx (t := .boolean) (z := (0 : Int32)) Bd.returns (by simp) (hb hby d9_12) hr) ⟨N0, rfl, rfl⟩ (by decide) (by decide)
theorem d9_7 : decode prog_50_method_2_code 7 = .ok (.iconst 1, 1) := by decide +kernel
theorem d9_8 : decode prog_50_method_2_code 8 = .ok (.goto 4, 3) := by decide +kernel
theorem ef_has1 (m : MethodId) (x0 : Addr) : entryFrame m #[(.ref x0)] 1 = mkF m 0 #[.val (.ref x0)] [] := by first | (simp [entryFrame, mkF, argsToLocals, Value.category]; done) | rfl
def Qhas1 (Z : State) (a : Addr) (b : Addr) (h0 : Heap) (n0 : Nat) (v : Option Value) (h : Heap) (L : List Loc) : Prop := Fr n0 L ∧ (v = some (.int 1) ∧ h = h0)
set_option maxRecDepth 65536 in
set_option maxHeartbeats 40000000 in
theorem rmhas1 (l : Launch) (Z : State) (a0 : Array Value) (hw : ∀ d ∈ tables_1, d.before a0 Z = true) (ws : List Jvm.Cond) (a : Addr) (b : Addr) (h0 : Heap) (n0 : Nat) (Z0 : n0 ≤ h0.size) (F_a_highest : Fld Z h0 a "com/example/gavelwatch/gavelwatch/sim/RunningAuction" "highest" "Lcom/example/gavelwatch/gavelwatch/model/Bid;" (.ref b)) :
    MetFree l (⟨"com/example/gavelwatch/gavelwatch/sim/RunningAuction", "hasBids", "()Z"⟩ : MethodName) (head1 (Jvm.Cond.code (⟨"com/example/gavelwatch/gavelwatch/sim/RunningAuction", "hasBids", "()Z"⟩ : MethodName) prog_50_method_2_code 1 (some .boolean) :: ws) ({ frames := 0, cells := 0, slots := 0, locals := 0 } : Room)) (fun as0 U => as0 = #[(.ref a)] ∧ Z.Warmed39 U.vm ∧ U.heap = h0) (fun _ _ _ _ _ => True) (fun _ U oc0 U' => ∃ v L, oc0 = .returned v ∧ Qhas1 Z a b h0 n0 v U'.heap L ∧ FrameEnd U oc0 U' L ({ frames := 0, cells := 0, slots := 0, locals := 0 } : Room).cells ({ frames := 0, cells := 0, slots := 0, locals := 0 } : Room).slots) := by
  refine MetFree.of_bodySF (plainFor_of_name pn_com_example_gavelwatch_gavelwatch_sim_RunningAuction) hisR ?_
  intro p e s m args below meth c s₁ Bd hml0 hP hK
  obtain ⟨rfl, hZ, hh⟩ := hP
  have hx := Bd.exec
  have hby := Bd.bytes
  have hml : c.maxLocals = 1 := hml0
  have hown : s.vm.findClass "com/example/gavelwatch/gavelwatch/sim/RunningAuction" = some m.cls := findClass_of_methodNamed Bd.named
  have hnm := (name_of_methodNamed Bd.named Bd.method).1
  have X0 : Stand p l e ({ frames := 0, cells := 0, slots := 0, locals := 0 } : Room) s m #[(.ref a)] below meth c s₁ [] 0 0 := Stand.of_body Bd
  have e0 : s₁.heap = h0 := by rw [← hh, Bd.state]; rfl
  have N0 := Fr.nil n0
  show Gl p e below s (Qhas1 Z a b h0 n0) ({ frames := 0, cells := 0, slots := 0, locals := 0 } : Room).cells ({ frames := 0, cells := 0, slots := 0, locals := 0 } : Room).slots (s₁.setTop (entryFrame m #[(.ref a)] 1))
  refine Gl.back (fun _ k => castTop (ef_has1 m a) k) ?_
  show Gl _ _ _ _ _ _ _ (s₁.setTop (mkF m 0 #[.val (.ref a)] []))
  refine Gl.back (fun _ k => XS.aloadN X0.here hx rfl (hb hby d9_0) rfl rfl k) ?_
  show Gl _ _ _ _ _ _ _ (s₁.setTop (mkF m 1 #[.val (.ref a)] [(.ref a)]))
  obtain ⟨T31, X31, e31, st31⟩ := getF X0 hx hZ hown (host := "") (Or.inl (hw _ (List.mem_of_getElem? (i := 61) rfl))) Via.refl e0 F_a_highest (g := (mkF m 1 #[.val (.ref a)] [(.ref a)])) rfl rfl (hb hby d9_1)
  refine Gl.back (fun _ k => st31 _ k) ?_
  show Gl _ _ _ _ _ _ _ (T31.setTop (mkF m 4 #[.val (.ref a)] [(.ref b)]))
  refine Gl.back (fun _ k => XS.ifnullNo X31.here hx rfl (hb hby d9_4) rfl k) ?_
  show Gl _ _ _ _ _ _ _ (T31.setTop (mkF m 7 #[.val (.ref a)] []))
  refine Gl.back (fun _ k => XS.iconst X31.here hx rfl (hb hby d9_7) k) ?_
  show Gl _ _ _ _ _ _ _ (T31.setTop (mkF m 8 #[.val (.ref a)] [(.int (1 : Int32))]))
  refine Gl.back (fun _ k => XS.goto X31.here hx rfl (pc0 := 8) (pc' := 12) rfl (hb hby d9_8) (by decide) (by decide) k) ?_
  show Gl _ _ _ _ _ _ _ (T31.setTop (mkF m 12 #[.val (.ref a)] [(.int (1 : Int32))]))
  exact Gl.ret X31 e31 (v := (some (.int (1 : Int32)))) (fun h => by rw [Bd.returns] at h; cases h) Bd.notSynchronized (fun fs hr => retN X31 hx (t := .boolean) (z := (1 : Int32)) Bd.returns (by simp) (hb hby d9_12) hr) ⟨N0, rfl, rfl⟩ (by decide) (by decide)
theorem d24_0 : decode prog_28_method_6_code 0 = .ok (.aload_n 0, 1) := by decide +kernel
theorem d24_1 : decode prog_28_method_6_code 1 = .ok (.getfield 22, 3) := by decide +kernel
theorem d24_4 : decode prog_28_method_6_code 4 = .ok (.areturn, 1) := by decide +kernel
theorem pn_com_example_gavelwatch_gavelwatch_model_Bid : plainName "com/example/gavelwatch/gavelwatch/model/Bid" = true := by first | (simp [plainName, overriddenIn]; done) | decide +kernel
theorem ef_amount (m : MethodId) (x0 : Addr) : entryFrame m #[(.ref x0)] 1 = mkF m 0 #[.val (.ref x0)] [] := by first | (simp [entryFrame, mkF, argsToLocals, Value.category]; done) | rfl
def Qamount (Z : State) (a : Addr) (o : Addr) (h0 : Heap) (n0 : Nat) (v : Option Value) (h : Heap) (L : List Loc) : Prop := Fr n0 L ∧ (v = some (.ref o) ∧ h = h0)
set_option maxRecDepth 65536 in
set_option maxHeartbeats 40000000 in
theorem rmamount (l : Launch) (Z : State) (a0 : Array Value) (hw : ∀ d ∈ tables_1, d.before a0 Z = true) (ws : List Jvm.Cond) (a : Addr) (o : Addr) (h0 : Heap) (n0 : Nat) (Z0 : n0 ≤ h0.size) (F_a_amount : Fld Z h0 a "com/example/gavelwatch/gavelwatch/model/Bid" "amount" "Lcom/example/gavelwatch/gavelwatch/model/Money;" (.ref o)) :
    MetFree l (⟨"com/example/gavelwatch/gavelwatch/model/Bid", "amount", "()Lcom/example/gavelwatch/gavelwatch/model/Money;"⟩ : MethodName) (head1 (Jvm.Cond.code (⟨"com/example/gavelwatch/gavelwatch/model/Bid", "amount", "()Lcom/example/gavelwatch/gavelwatch/model/Money;"⟩ : MethodName) prog_28_method_6_code 1 (some (.object "com/example/gavelwatch/gavelwatch/model/Money")) :: ws) ({ frames := 0, cells := 0, slots := 0, locals := 0 } : Room)) (fun as0 U => as0 = #[(.ref a)] ∧ Z.Warmed39 U.vm ∧ U.heap = h0) (fun _ _ _ _ _ => True) (fun _ U oc0 U' => ∃ v L, oc0 = .returned v ∧ Qamount Z a o h0 n0 v U'.heap L ∧ FrameEnd U oc0 U' L ({ frames := 0, cells := 0, slots := 0, locals := 0 } : Room).cells ({ frames := 0, cells := 0, slots := 0, locals := 0 } : Room).slots) := by
  refine MetFree.of_bodySF (plainFor_of_name pn_com_example_gavelwatch_gavelwatch_model_Bid) hisR ?_
  intro p e s m args below meth c s₁ Bd hml0 hP hK
  obtain ⟨rfl, hZ, hh⟩ := hP
  have hx := Bd.exec
  have hby := Bd.bytes
  have hml : c.maxLocals = 1 := hml0
  have hown : s.vm.findClass "com/example/gavelwatch/gavelwatch/model/Bid" = some m.cls := findClass_of_methodNamed Bd.named
  have hnm := (name_of_methodNamed Bd.named Bd.method).1
  have X0 : Stand p l e ({ frames := 0, cells := 0, slots := 0, locals := 0 } : Room) s m #[(.ref a)] below meth c s₁ [] 0 0 := Stand.of_body Bd
  have e0 : s₁.heap = h0 := by rw [← hh, Bd.state]; rfl
  have N0 := Fr.nil n0
  show Gl p e below s (Qamount Z a o h0 n0) ({ frames := 0, cells := 0, slots := 0, locals := 0 } : Room).cells ({ frames := 0, cells := 0, slots := 0, locals := 0 } : Room).slots (s₁.setTop (entryFrame m #[(.ref a)] 1))
  refine Gl.back (fun _ k => castTop (ef_amount m a) k) ?_
  show Gl _ _ _ _ _ _ _ (s₁.setTop (mkF m 0 #[.val (.ref a)] []))
  refine Gl.back (fun _ k => XS.aloadN X0.here hx rfl (hb hby d24_0) rfl rfl k) ?_
  show Gl _ _ _ _ _ _ _ (s₁.setTop (mkF m 1 #[.val (.ref a)] [(.ref a)]))
  obtain ⟨T32, X32, e32, st32⟩ := getF X0 hx hZ hown (host := "") (Or.inl (hw _ (List.mem_of_getElem? (i := 126) rfl))) Via.refl e0 F_a_amount (g := (mkF m 1 #[.val (.ref a)] [(.ref a)])) rfl rfl (hb hby d24_1)
  refine Gl.back (fun _ k => st32 _ k) ?_
  show Gl _ _ _ _ _ _ _ (T32.setTop (mkF m 4 #[.val (.ref a)] [(.ref o)]))
  exact Gl.ret X32 e32 (v := (some (.ref o))) (fun h => by rw [Bd.returns] at h; cases h) Bd.notSynchronized (fun fs hr => retOut X32 hx (w := (.ref o)) Bd.returns rfl (Or.inr (Or.inr (Or.inr (Or.inr ⟨rfl, rfl, rfl⟩)))) (hb hby d24_4) hr) ⟨N0, rfl, rfl⟩ (by decide) (by decide)
theorem d10_0 : decode prog_40_method_11_code 0 = .ok (.aload_n 0, 1) := by decide +kernel
theorem d10_1 : decode prog_40_method_11_code 1 = .ok (.getfield 7, 3) := by decide +kernel
theorem d10_4 : decode prog_40_method_11_code 4 = .ok (.lreturn, 1) := by decide +kernel
theorem ef_cents (m : MethodId) (x0 : Addr) : entryFrame m #[(.ref x0)] 1 = mkF m 0 #[.val (.ref x0)] [] := by first | (simp [entryFrame, mkF, argsToLocals, Value.category]; done) | rfl
def Qcents (Z : State) (a : Addr) (x : Int64) (h0 : Heap) (n0 : Nat) (v : Option Value) (h : Heap) (L : List Loc) : Prop := Fr n0 L ∧ (v = some (.long x) ∧ h = h0)
set_option maxRecDepth 65536 in
set_option maxHeartbeats 40000000 in
theorem rmcents (l : Launch) (Z : State) (a0 : Array Value) (hw : ∀ d ∈ tables_1, d.before a0 Z = true) (ws : List Jvm.Cond) (a : Addr) (x : Int64) (h0 : Heap) (n0 : Nat) (Z0 : n0 ≤ h0.size) (F_a_cents : Fld Z h0 a "com/example/gavelwatch/gavelwatch/model/Money" "cents" "J" (.long x)) :
    MetFree l (⟨"com/example/gavelwatch/gavelwatch/model/Money", "cents", "()J"⟩ : MethodName) (head1 (Jvm.Cond.code (⟨"com/example/gavelwatch/gavelwatch/model/Money", "cents", "()J"⟩ : MethodName) prog_40_method_11_code 1 (some .long) :: ws) ({ frames := 0, cells := 0, slots := 0, locals := 0 } : Room)) (fun as0 U => as0 = #[(.ref a)] ∧ Z.Warmed39 U.vm ∧ U.heap = h0) (fun _ _ _ _ _ => True) (fun _ U oc0 U' => ∃ v L, oc0 = .returned v ∧ Qcents Z a x h0 n0 v U'.heap L ∧ FrameEnd U oc0 U' L ({ frames := 0, cells := 0, slots := 0, locals := 0 } : Room).cells ({ frames := 0, cells := 0, slots := 0, locals := 0 } : Room).slots) := by
  refine MetFree.of_bodySF (plainFor_of_name pn_com_example_gavelwatch_gavelwatch_model_Money) hisR ?_
  intro p e s m args below meth c s₁ Bd hml0 hP hK
  obtain ⟨rfl, hZ, hh⟩ := hP
  have hx := Bd.exec
  have hby := Bd.bytes
  have hml : c.maxLocals = 1 := hml0
  have hown : s.vm.findClass "com/example/gavelwatch/gavelwatch/model/Money" = some m.cls := findClass_of_methodNamed Bd.named
  have hnm := (name_of_methodNamed Bd.named Bd.method).1
  have X0 : Stand p l e ({ frames := 0, cells := 0, slots := 0, locals := 0 } : Room) s m #[(.ref a)] below meth c s₁ [] 0 0 := Stand.of_body Bd
  have e0 : s₁.heap = h0 := by rw [← hh, Bd.state]; rfl
  have N0 := Fr.nil n0
  show Gl p e below s (Qcents Z a x h0 n0) ({ frames := 0, cells := 0, slots := 0, locals := 0 } : Room).cells ({ frames := 0, cells := 0, slots := 0, locals := 0 } : Room).slots (s₁.setTop (entryFrame m #[(.ref a)] 1))
  refine Gl.back (fun _ k => castTop (ef_cents m a) k) ?_
  show Gl _ _ _ _ _ _ _ (s₁.setTop (mkF m 0 #[.val (.ref a)] []))
  refine Gl.back (fun _ k => XS.aloadN X0.here hx rfl (hb hby d10_0) rfl rfl k) ?_
  show Gl _ _ _ _ _ _ _ (s₁.setTop (mkF m 1 #[.val (.ref a)] [(.ref a)]))
  obtain ⟨T33, X33, e33, st33⟩ := getF X0 hx hZ hown (host := "") (Or.inl (hw _ (List.mem_of_getElem? (i := 17) rfl))) Via.refl e0 F_a_cents (g := (mkF m 1 #[.val (.ref a)] [(.ref a)])) rfl rfl (hb hby d10_1)
  refine Gl.back (fun _ k => st33 _ k) ?_
  show Gl _ _ _ _ _ _ _ (T33.setTop (mkF m 4 #[.val (.ref a)] [(.long x)]))
  exact Gl.ret X33 e33 (v := (some (.long x))) (fun h => by rw [Bd.returns] at h; cases h) Bd.notSynchronized (fun fs hr => retOut X33 hx (w := (.long x)) Bd.returns rfl (Or.inr (Or.inl ⟨rfl, rfl, _, rfl⟩)) (hb hby d10_4) hr) ⟨N0, rfl, rfl⟩ (by decide) (by decide)
theorem d8_0 : decode prog_50_method_3_code 0 = .ok (.aload_n 0, 1) := by decide +kernel
theorem d8_1 : decode prog_50_method_3_code 1 = .ok (.invokevirtual 24, 3) := by decide +kernel
theorem pd___Z : parseMethodDescriptor "()Z" = some ⟨[], some .boolean⟩ := by decide +kernel
theorem d8_4 : decode prog_50_method_3_code 4 = .ok (.ifCond .eq 13, 3) := by decide +kernel
theorem d8_17 : decode prog_50_method_3_code 17 = .ok (.aload_n 0, 1) := by decide +kernel
theorem d8_18 : decode prog_50_method_3_code 18 = .ok (.getfield 16, 3) := by decide +kernel
theorem d8_21 : decode prog_50_method_3_code 21 = .ok (.areturn, 1) := by decide +kernel
theorem ef_price0 (m : MethodId) (x0 : Addr) : entryFrame m #[(.ref x0)] 1 = mkF m 0 #[.val (.ref x0)] [] := by first | (simp [entryFrame, mkF, argsToLocals, Value.category]; done) | rfl
def Qprice0 (Z : State) (a : Addr) (o : Addr) (h0 : Heap) (n0 : Nat) (v : Option Value) (h : Heap) (L : List Loc) : Prop := Fr n0 L ∧ (v = some (.ref o) ∧ h = h0)
set_option maxRecDepth 65536 in
set_option maxHeartbeats 40000000 in
theorem rmprice0 (l : Launch) (Z : State) (a0 : Array Value) (hw : ∀ d ∈ tables_1, d.before a0 Z = true) (ws : List Jvm.Cond) (a : Addr) (o : Addr) (h0 : Heap) (n0 : Nat) (Z0 : n0 ≤ h0.size) (E_a : Exa Z h0 a "com/example/gavelwatch/gavelwatch/sim/RunningAuction") (F_a_highest : Fld Z h0 a "com/example/gavelwatch/gavelwatch/sim/RunningAuction" "highest" "Lcom/example/gavelwatch/gavelwatch/model/Bid;" .null) (F_a_openingBid : Fld Z h0 a "com/example/gavelwatch/gavelwatch/sim/RunningAuction" "openingBid" "Lcom/example/gavelwatch/gavelwatch/model/Money;" (.ref o)) :
    MetFree l (⟨"com/example/gavelwatch/gavelwatch/sim/RunningAuction", "price", "()Lcom/example/gavelwatch/gavelwatch/model/Money;"⟩ : MethodName) (head1 (Jvm.Cond.code (⟨"com/example/gavelwatch/gavelwatch/sim/RunningAuction", "price", "()Lcom/example/gavelwatch/gavelwatch/model/Money;"⟩ : MethodName) prog_50_method_3_code 1 (some (.object "com/example/gavelwatch/gavelwatch/model/Money")) :: ws) ({ frames := 1, cells := 0, slots := 0, locals := 12 } : Room)) (fun as0 U => as0 = #[(.ref a)] ∧ Z.Warmed39 U.vm ∧ U.heap = h0) (fun _ _ _ _ _ => True) (fun _ U oc0 U' => ∃ v L, oc0 = .returned v ∧ Qprice0 Z a o h0 n0 v U'.heap L ∧ FrameEnd U oc0 U' L ({ frames := 1, cells := 0, slots := 0, locals := 12 } : Room).cells ({ frames := 1, cells := 0, slots := 0, locals := 12 } : Room).slots) := by
  refine MetFree.of_bodySF (plainFor_of_name pn_com_example_gavelwatch_gavelwatch_sim_RunningAuction) hisR ?_
  intro p e s m args below meth c s₁ Bd hml0 hP hK
  obtain ⟨rfl, hZ, hh⟩ := hP
  have hx := Bd.exec
  have hby := Bd.bytes
  have hml : c.maxLocals = 1 := hml0
  have hown : s.vm.findClass "com/example/gavelwatch/gavelwatch/sim/RunningAuction" = some m.cls := findClass_of_methodNamed Bd.named
  have hnm := (name_of_methodNamed Bd.named Bd.method).1
  have X0 : Stand p l e ({ frames := 1, cells := 0, slots := 0, locals := 12 } : Room) s m #[(.ref a)] below meth c s₁ [] 0 0 := Stand.of_body Bd
  have e0 : s₁.heap = h0 := by rw [← hh, Bd.state]; rfl
  have N0 := Fr.nil n0
  show Gl p e below s (Qprice0 Z a o h0 n0) ({ frames := 1, cells := 0, slots := 0, locals := 12 } : Room).cells ({ frames := 1, cells := 0, slots := 0, locals := 12 } : Room).slots (s₁.setTop (entryFrame m #[(.ref a)] 1))
  refine Gl.back (fun _ k => castTop (ef_price0 m a) k) ?_
  show Gl _ _ _ _ _ _ _ (s₁.setTop (mkF m 0 #[.val (.ref a)] []))
  refine Gl.back (fun _ k => XS.aloadN X0.here hx rfl (hb hby d8_0) rfl rfl k) ?_
  show Gl _ _ _ _ _ _ _ (s₁.setTop (mkF m 1 #[.val (.ref a)] [(.ref a)]))
  obtain ⟨cq34, kq34, q34a, q34b, q34c⟩ := isOf hZ e0 E_a
  obtain ⟨_, _, ⟨T34, L34, k34, n34⟩, -, X34, ⟨Lc34, hQ34, l34, y34, z34⟩, st34⟩ := X0.virtualBack hx (y := (⟨"com/example/gavelwatch/gavelwatch/sim/RunningAuction", "hasBids", "()Z"⟩ : MethodName)) (z := (⟨"com/example/gavelwatch/gavelwatch/sim/RunningAuction", "hasBids", "()Z"⟩ : MethodName)) hown (mvT hZ (hw _ (List.mem_of_getElem? (i := 56) rfl))) (mvT hZ (hw _ (List.mem_of_getElem? (i := 57) rfl))) (notFace_of_selects (args := #[]) (mvT hZ (hw _ (List.mem_of_getElem? (i := 59) rfl)))) (mvT hZ (hw _ (List.mem_of_getElem? (i := 59) rfl))) (mvT hZ (hw _ (List.mem_of_getElem? (i := 58) rfl))) (by decide) (backOf (W := 0) (rmhas0 l Z a0 hw [] a  h0 n0 Z0 F_a_highest) hZ (hw _ (List.mem_of_getElem? (i := 60) rfl)) (hw _ (List.mem_of_getElem? (i := 2) rfl)) (by decide) (by decide)) q34a q34c (g := (mkF m 1 #[.val (.ref a)] [(.ref a)])) rfl (by rw [hml]; rfl) (Steps.refl _) (argsL := []) (rest := []) (lenOf pd___Z rfl) rfl (by show 2 * 0 + _ ≤ _; exact Nat.le_of_eq rfl) (hb hby d8_1) (fun _ _ => ⟨rfl, e0, (by decide : 0 + 0 ≤ _), (by decide : 0 + 0 ≤ _)⟩)
  dsimp only [Pt.U, Pt.locs, Pt.cells, Pt.slots] at X34 l34 y34 z34 st34 hQ34
  subst l34 y34 z34
  obtain ⟨Nq34, rfl, eh34⟩ := hQ34
  have N34 := Fr.app N0 Nq34
  refine Gl.back (fun _ k => st34.trans k) ?_
  show Gl _ _ _ _ _ _ _ (T34.setTop (mkF m 4 #[.val (.ref a)] [(.int (0 : Int32))]))
  refine Gl.back (fun _ k => XS.ifYes X34.here hx rfl (pc0 := 4) (pc' := 17) rfl (hb hby d8_4) rfl ((if0 _ _).trans (teq (by decide : (0 : Int32) = (0 : Int32))).1) (by decide) (by decide) k) ?_
  show Gl _ _ _ _ _ _ _ (T34.setTop (mkF m 17 #[.val (.ref a)] []))
  refine Gl.back (fun _ k => XS.aloadN X34.here hx rfl (hb hby d8_17) rfl rfl k) ?_
  show Gl _ _ _ _ _ _ _ (T34.setTop (mkF m 18 #[.val (.ref a)] [(.ref a)]))
  obtain ⟨T35, X35, e35, st35⟩ := getF X34 hx hZ hown (host := "") (Or.inl (hw _ (List.mem_of_getElem? (i := 49) rfl))) Via.refl eh34 F_a_openingBid (g := (mkF m 18 #[.val (.ref a)] [(.ref a)])) rfl rfl (hb hby d8_18)
  refine Gl.back (fun _ k => st35 _ k) ?_
  show Gl _ _ _ _ _ _ _ (T35.setTop (mkF m 21 #[.val (.ref a)] [(.ref o)]))
  exact Gl.ret X35 e35 (v := (some (.ref o))) (fun h => by rw [Bd.returns] at h; cases h) Bd.notSynchronized (fun fs hr => retOut X35 hx (w := (.ref o)) Bd.returns rfl (Or.inr (Or.inr (Or.inr (Or.inr ⟨rfl, rfl, rfl⟩)))) (hb hby d8_21) hr) ⟨N34, rfl, rfl⟩ (by decide) (by decide)
theorem d8_7 : decode prog_50_method_3_code 7 = .ok (.aload_n 0, 1) := by decide +kernel
theorem d8_8 : decode prog_50_method_3_code 8 = .ok (.getfield 20, 3) := by decide +kernel
theorem d8_11 : decode prog_50_method_3_code 11 = .ok (.invokevirtual 28, 3) := by decide +kernel
theorem pd___Lcom_example_gavelwatch_gavelwatch_model_Money_ : parseMethodDescriptor "()Lcom/example/gavelwatch/gavelwatch/model/Money;" = some ⟨[], some (.object "com/example/gavelwatch/gavelwatch/model/Money")⟩ := by decide +kernel
theorem d8_14 : decode prog_50_method_3_code 14 = .ok (.goto 7, 3) := by decide +kernel
theorem ef_price1 (m : MethodId) (x0 : Addr) : entryFrame m #[(.ref x0)] 1 = mkF m 0 #[.val (.ref x0)] [] := by first | (simp [entryFrame, mkF, argsToLocals, Value.category]; done) | rfl
def Qprice1 (Z : State) (a : Addr) (b o : Addr) (h0 : Heap) (n0 : Nat) (v : Option Value) (h : Heap) (L : List Loc) : Prop := Fr n0 L ∧ (v = some (.ref o) ∧ h = h0)
set_option maxRecDepth 65536 in
set_option maxHeartbeats 40000000 in
theorem rmprice1 (l : Launch) (Z : State) (a0 : Array Value) (hw : ∀ d ∈ tables_1, d.before a0 Z = true) (ws : List Jvm.Cond) (a : Addr) (b o : Addr) (h0 : Heap) (n0 : Nat) (Z0 : n0 ≤ h0.size) (E_a : Exa Z h0 a "com/example/gavelwatch/gavelwatch/sim/RunningAuction") (F_a_highest : Fld Z h0 a "com/example/gavelwatch/gavelwatch/sim/RunningAuction" "highest" "Lcom/example/gavelwatch/gavelwatch/model/Bid;" (.ref b)) (E_b : Exa Z h0 b "com/example/gavelwatch/gavelwatch/model/Bid") (F_b_amount : Fld Z h0 b "com/example/gavelwatch/gavelwatch/model/Bid" "amount" "Lcom/example/gavelwatch/gavelwatch/model/Money;" (.ref o)) :
    MetFree l (⟨"com/example/gavelwatch/gavelwatch/sim/RunningAuction", "price", "()Lcom/example/gavelwatch/gavelwatch/model/Money;"⟩ : MethodName) (head1 (Jvm.Cond.code (⟨"com/example/gavelwatch/gavelwatch/sim/RunningAuction", "price", "()Lcom/example/gavelwatch/gavelwatch/model/Money;"⟩ : MethodName) prog_50_method_3_code 1 (some (.object "com/example/gavelwatch/gavelwatch/model/Money")) :: ws) ({ frames := 1, cells := 0, slots := 0, locals := 12 } : Room)) (fun as0 U => as0 = #[(.ref a)] ∧ Z.Warmed39 U.vm ∧ U.heap = h0) (fun _ _ _ _ _ => True) (fun _ U oc0 U' => ∃ v L, oc0 = .returned v ∧ Qprice1 Z a b o h0 n0 v U'.heap L ∧ FrameEnd U oc0 U' L ({ frames := 1, cells := 0, slots := 0, locals := 12 } : Room).cells ({ frames := 1, cells := 0, slots := 0, locals := 12 } : Room).slots) := by
  refine MetFree.of_bodySF (plainFor_of_name pn_com_example_gavelwatch_gavelwatch_sim_RunningAuction) hisR ?_
  intro p e s m args below meth c s₁ Bd hml0 hP hK
  obtain ⟨rfl, hZ, hh⟩ := hP
  have hx := Bd.exec
  have hby := Bd.bytes
  have hml : c.maxLocals = 1 := hml0
  have hown : s.vm.findClass "com/example/gavelwatch/gavelwatch/sim/RunningAuction" = some m.cls := findClass_of_methodNamed Bd.named
  have hnm := (name_of_methodNamed Bd.named Bd.method).1
  have X0 : Stand p l e ({ frames := 1, cells := 0, slots := 0, locals := 12 } : Room) s m #[(.ref a)] below meth c s₁ [] 0 0 := Stand.of_body Bd
  have e0 : s₁.heap = h0 := by rw [← hh, Bd.state]; rfl
  have N0 := Fr.nil n0
  show Gl p e below s (Qprice1 Z a b o h0 n0) ({ frames := 1, cells := 0, slots := 0, locals := 12 } : Room).cells ({ frames := 1, cells := 0, slots := 0, locals := 12 } : Room).slots (s₁.setTop (entryFrame m #[(.ref a)] 1))
  refine Gl.back (fun _ k => castTop (ef_price1 m a) k) ?_
  show Gl _ _ _ _ _ _ _ (s₁.setTop (mkF m 0 #[.val (.ref a)] []))
  refine Gl.back (fun _ k => XS.aloadN X0.here hx rfl (hb hby d8_0) rfl rfl k) ?_
  show Gl _ _ _ _ _ _ _ (s₁.setTop (mkF m 1 #[.val (.ref a)] [(.ref a)]))
  obtain ⟨cq36, kq36, q36a, q36b, q36c⟩ := isOf hZ e0 E_a
  obtain ⟨_, _, ⟨T36, L36, k36, n36⟩, -, X36, ⟨Lc36, hQ36, l36, y36, z36⟩, st36⟩ := X0.virtualBack hx (y := (⟨"com/example/gavelwatch/gavelwatch/sim/RunningAuction", "hasBids", "()Z"⟩ : MethodName)) (z := (⟨"com/example/gavelwatch/gavelwatch/sim/RunningAuction", "hasBids", "()Z"⟩ : MethodName)) hown (mvT hZ (hw _ (List.mem_of_getElem? (i := 56) rfl))) (mvT hZ (hw _ (List.mem_of_getElem? (i := 57) rfl))) (notFace_of_selects (args := #[]) (mvT hZ (hw _ (List.mem_of_getElem? (i := 59) rfl)))) (mvT hZ (hw _ (List.mem_of_getElem? (i := 59) rfl))) (mvT hZ (hw _ (List.mem_of_getElem? (i := 58) rfl))) (by decide) (backOf (W := 0) (rmhas1 l Z a0 hw [] a b h0 n0 Z0 F_a_highest) hZ (hw _ (List.mem_of_getElem? (i := 60) rfl)) (hw _ (List.mem_of_getElem? (i := 2) rfl)) (by decide) (by decide)) q36a q36c (g := (mkF m 1 #[.val (.ref a)] [(.ref a)])) rfl (by rw [hml]; rfl) (Steps.refl _) (argsL := []) (rest := []) (lenOf pd___Z rfl) rfl (by show 2 * 0 + _ ≤ _; exact Nat.le_of_eq rfl) (hb hby d8_1) (fun _ _ => ⟨rfl, e0, (by decide : 0 + 0 ≤ _), (by decide : 0 + 0 ≤ _)⟩)
  dsimp only [Pt.U, Pt.locs, Pt.cells, Pt.slots] at X36 l36 y36 z36 st36 hQ36
  subst l36 y36 z36
  obtain ⟨Nq36, rfl, eh36⟩ := hQ36
  have N36 := Fr.app N0 Nq36
  refine Gl.back (fun _ k => st36.trans k) ?_
  show Gl _ _ _ _ _ _ _ (T36.setTop (mkF m 4 #[.val (.ref a)] [(.int (1 : Int32))]))
  refine Gl.back (fun _ k => XS.ifNo X36.here hx rfl (hb hby d8_4) rfl ((if0 _ _).trans (feq (by decide : ¬ (1 : Int32) = (0 : Int32))).1) k) ?_
  show Gl _ _ _ _ _ _ _ (T36.setTop (mkF m 7 #[.val (.ref a)] []))
  refine Gl.back (fun _ k => XS.aloadN X36.here hx rfl (hb hby d8_7) rfl rfl k) ?_
  show Gl _ _ _ _ _ _ _ (T36.setTop (mkF m 8 #[.val (.ref a)] [(.ref a)]))
  obtain ⟨T37, X37, e37, st37⟩ := getF X36 hx hZ hown (host := "") (Or.inl (hw _ (List.mem_of_getElem? (i := 61) rfl))) Via.refl eh36 F_a_highest (g := (mkF m 8 #[.val (.ref a)] [(.ref a)])) rfl rfl (hb hby d8_8)
  refine Gl.back (fun _ k => st37 _ k) ?_
  show Gl _ _ _ _ _ _ _ (T37.setTop (mkF m 11 #[.val (.ref a)] [(.ref b)]))
  obtain ⟨cq38, kq38, q38a, q38b, q38c⟩ := isOf hZ e37 E_b
  obtain ⟨_, _, ⟨T38, L38, k38, n38⟩, -, X38, ⟨Lc38, hQ38, l38, y38, z38⟩, st38⟩ := X37.virtualBack hx (y := (⟨"com/example/gavelwatch/gavelwatch/model/Bid", "amount", "()Lcom/example/gavelwatch/gavelwatch/model/Money;"⟩ : MethodName)) (z := (⟨"com/example/gavelwatch/gavelwatch/model/Bid", "amount", "()Lcom/example/gavelwatch/gavelwatch/model/Money;"⟩ : MethodName)) hown (mvT hZ (hw _ (List.mem_of_getElem? (i := 164) rfl))) (mvT hZ (hw _ (List.mem_of_getElem? (i := 165) rfl))) (notFace_of_selects (args := #[]) (mvT hZ (hw _ (List.mem_of_getElem? (i := 167) rfl)))) (mvT hZ (hw _ (List.mem_of_getElem? (i := 167) rfl))) (mvT hZ (hw _ (List.mem_of_getElem? (i := 166) rfl))) (by decide) (backOf (W := 0) (rmamount l Z a0 hw [] b o h0 n0 Z0 F_b_amount) hZ (hw _ (List.mem_of_getElem? (i := 168) rfl)) (hw _ (List.mem_of_getElem? (i := 113) rfl)) (by decide) (by decide)) q38a q38c (g := (mkF m 11 #[.val (.ref a)] [(.ref b)])) rfl (by rw [hml]; rfl) (Steps.refl _) (argsL := []) (rest := []) (lenOf pd___Lcom_example_gavelwatch_gavelwatch_model_Money_ rfl) rfl (by show 2 * 0 + _ ≤ _; exact Nat.le_of_eq rfl) (hb hby d8_11) (fun _ _ => ⟨rfl, e37, (by decide : 0 + 0 ≤ _), (by decide : 0 + 0 ≤ _)⟩)
  dsimp only [Pt.U, Pt.locs, Pt.cells, Pt.slots] at X38 l38 y38 z38 st38 hQ38
  subst l38 y38 z38
  obtain ⟨Nq38, rfl, eh38⟩ := hQ38
  have N38 := Fr.app N36 Nq38
  refine Gl.back (fun _ k => st38.trans k) ?_
  show Gl _ _ _ _ _ _ _ (T38.setTop (mkF m 14 #[.val (.ref a)] [(.ref o)]))
  refine Gl.back (fun _ k => XS.goto X38.here hx rfl (pc0 := 14) (pc' := 21) rfl (hb hby d8_14) (by decide) (by decide) k) ?_
  show Gl _ _ _ _ _ _ _ (T38.setTop (mkF m 21 #[.val (.ref a)] [(.ref o)]))
  exact Gl.ret X38 eh38 (v := (some (.ref o))) (fun h => by rw [Bd.returns] at h; cases h) Bd.notSynchronized (fun fs hr => retOut X38 hx (w := (.ref o)) Bd.returns rfl (Or.inr (Or.inr (Or.inr (Or.inr ⟨rfl, rfl, rfl⟩)))) (hb hby d8_21) hr) ⟨N38, rfl, rfl⟩ (by decide) (by decide)
theorem d11_0 : decode jdk_29_method_66_code 0 = .ok (.lload_n 0, 1) := by decide +kernel
theorem d11_1 : decode jdk_29_method_66_code 1 = .ok (.lload_n 2, 1) := by decide +kernel
theorem d11_2 : decode jdk_29_method_66_code 2 = .ok (.lcmp, 1) := by decide +kernel
theorem d11_3 : decode jdk_29_method_66_code 3 = .ok (.ifCond .lt 7, 3) := by decide +kernel
theorem d11_10 : decode jdk_29_method_66_code 10 = .ok (.lload_n 2, 1) := by decide +kernel
theorem d11_11 : decode jdk_29_method_66_code 11 = .ok (.lreturn, 1) := by decide +kernel
theorem d11_6 : decode jdk_29_method_66_code 6 = .ok (.lload_n 0, 1) := by decide +kernel
theorem d11_7 : decode jdk_29_method_66_code 7 = .ok (.goto 4, 3) := by decide +kernel
theorem ef_maxJ (m : MethodId) (x0 : Int64) (x1 : Int64) : entryFrame m #[(.long x0), (.long x1)] 4 = mkF m 0 #[.val (.long x0), .second, .val (.long x1), .second] [] := by first | (simp [entryFrame, mkF, argsToLocals, Value.category]; done) | rfl
def QmaxJ (Z : State) (q0 : Int64) (q1 : Int64) (h0 : Heap) (n0 : Nat) (v : Option Value) (h : Heap) (L : List Loc) : Prop := Fr n0 L ∧ (∃ r : Int64, v = some (.long r) ∧ ¬ r < q0 ∧ ¬ r < q1 ∧ h = h0)
set_option maxRecDepth 65536 in
set_option maxHeartbeats 40000000 in
theorem rmmaxJ (l : Launch) (Z : State) (a0 : Array Value) (hw : ∀ d ∈ tables_1, d.before a0 Z = true) (ws : List Jvm.Cond) (q0 : Int64) (q1 : Int64) (h0 : Heap) (n0 : Nat) (Z0 : n0 ≤ h0.size) :
    MetFree l (⟨"java/lang/Math", "max", "(JJ)J"⟩ : MethodName) (head1 (Jvm.Cond.code (⟨"java/lang/Math", "max", "(JJ)J"⟩ : MethodName) jdk_29_method_66_code 4 (some .long) :: ws) ({ frames := 0, cells := 0, slots := 0, locals := 0 } : Room)) (fun as0 U => as0 = #[(.long q0), (.long q1)] ∧ Z.Warmed39 U.vm ∧ U.heap = h0) (fun _ _ _ _ _ => True) (fun _ U oc0 U' => ∃ v L, oc0 = .returned v ∧ QmaxJ Z q0 q1 h0 n0 v U'.heap L ∧ FrameEnd U oc0 U' L ({ frames := 0, cells := 0, slots := 0, locals := 0 } : Room).cells ({ frames := 0, cells := 0, slots := 0, locals := 0 } : Room).slots) := by
  refine MetFree.of_bodySF (Jvm.Free.JP.mathPlain rfl (by decide +kernel)) hisR ?_
  intro p e s m args below meth c s₁ Bd hml0 hP hK
  obtain ⟨rfl, hZ, hh⟩ := hP
  have hx := Bd.exec
  have hby := Bd.bytes
  have hml : c.maxLocals = 4 := hml0
  have hown : s.vm.findClass "java/lang/Math" = some m.cls := findClass_of_methodNamed Bd.named
  have hnm := (name_of_methodNamed Bd.named Bd.method).1
  have X0 : Stand p l e ({ frames := 0, cells := 0, slots := 0, locals := 0 } : Room) s m #[(.long q0), (.long q1)] below meth c s₁ [] 0 0 := Stand.of_body Bd
  have e0 : s₁.heap = h0 := by rw [← hh, Bd.state]; rfl
  have N0 := Fr.nil n0
  show Gl p e below s (QmaxJ Z q0 q1 h0 n0) ({ frames := 0, cells := 0, slots := 0, locals := 0 } : Room).cells ({ frames := 0, cells := 0, slots := 0, locals := 0 } : Room).slots (s₁.setTop (entryFrame m #[(.long q0), (.long q1)] 4))
  refine Gl.back (fun _ k => castTop (ef_maxJ m q0 q1) k) ?_
  show Gl _ _ _ _ _ _ _ (s₁.setTop (mkF m 0 #[.val (.long q0), .second, .val (.long q1), .second] []))
  refine Gl.back (fun _ k => XS.lloadN X0.here hx rfl (hb hby d11_0) rfl k) ?_
  show Gl _ _ _ _ _ _ _ (s₁.setTop (mkF m 1 #[.val (.long q0), .second, .val (.long q1), .second] [(.long q0)]))
  refine Gl.back (fun _ k => XS.lloadN X0.here hx rfl (hb hby d11_1) rfl k) ?_
  show Gl _ _ _ _ _ _ _ (s₁.setTop (mkF m 2 #[.val (.long q0), .second, .val (.long q1), .second] [(.long q1), (.long q0)]))
  refine Gl.back (fun _ k => XS.lcmp X0.here hx rfl (hb hby d11_2) rfl k) ?_
  show Gl _ _ _ _ _ _ _ (s₁.setTop (mkF m 3 #[.val (.long q0), .second, .val (.long q1), .second] [(.int (lcmpW q0 q1))]))
  by_cases hc3_39 : q0 < q1
  · refine Gl.back (fun _ k => XS.ifYes X0.here hx rfl (pc0 := 3) (pc' := 10) rfl (hb hby d11_3) rfl ((if0 _ _).trans (tlt (own_lcL hc3_39)).1) (by decide) (by decide) k) ?_
    show Gl _ _ _ _ _ _ _ (s₁.setTop (mkF m 10 #[.val (.long q0), .second, .val (.long q1), .second] []))
    refine Gl.back (fun _ k => XS.lloadN X0.here hx rfl (hb hby d11_10) rfl k) ?_
    show Gl _ _ _ _ _ _ _ (s₁.setTop (mkF m 11 #[.val (.long q0), .second, .val (.long q1), .second] [(.long q1)]))
    exact Gl.ret X0 e0 (v := (some (.long q1))) (fun h => by rw [Bd.returns] at h; cases h) Bd.notSynchronized (fun fs hr => retOut X0 hx (w := (.long q1)) Bd.returns rfl (Or.inr (Or.inl ⟨rfl, rfl, _, rfl⟩)) (hb hby d11_11) hr) ⟨N0, q1, rfl, own_asym hc3_39, own_irr, rfl⟩ (by decide) (by decide)
  · refine Gl.back (fun _ k => XS.ifNo X0.here hx rfl (hb hby d11_3) rfl ((if0 _ _).trans (flt (own_lcLn hc3_39)).1) k) ?_
    show Gl _ _ _ _ _ _ _ (s₁.setTop (mkF m 6 #[.val (.long q0), .second, .val (.long q1), .second] []))
    refine Gl.back (fun _ k => XS.lloadN X0.here hx rfl (hb hby d11_6) rfl k) ?_
    show Gl _ _ _ _ _ _ _ (s₁.setTop (mkF m 7 #[.val (.long q0), .second, .val (.long q1), .second] [(.long q0)]))
    refine Gl.back (fun _ k => XS.goto X0.here hx rfl (pc0 := 7) (pc' := 11) rfl (hb hby d11_7) (by decide) (by decide) k) ?_
    show Gl _ _ _ _ _ _ _ (s₁.setTop (mkF m 11 #[.val (.long q0), .second, .val (.long q1), .second] [(.long q0)]))
    exact Gl.ret X0 e0 (v := (some (.long q0))) (fun h => by rw [Bd.returns] at h; cases h) Bd.notSynchronized (fun fs hr => retOut X0 hx (w := (.long q0)) Bd.returns rfl (Or.inr (Or.inl ⟨rfl, rfl, _, rfl⟩)) (hb hby d11_11) hr) ⟨N0, q0, rfl, own_irr, hc3_39, rfl⟩ (by decide) (by decide)
theorem d16_0 : decode jdk_35_method_42_code 0 = .ok (.lload_n 0, 1) := by decide +kernel
theorem d16_1 : decode jdk_35_method_42_code 1 = .ok (.lload_n 2, 1) := by decide +kernel
theorem d16_2 : decode jdk_35_method_42_code 2 = .ok (.lcmp, 1) := by decide +kernel
theorem d16_3 : decode jdk_35_method_42_code 3 = .ok (.ifCond .ge 7, 3) := by decide +kernel
theorem d16_6 : decode jdk_35_method_42_code 6 = .ok (.iconst (-1), 1) := by decide +kernel
theorem d16_7 : decode jdk_35_method_42_code 7 = .ok (.goto 14, 3) := by decide +kernel
theorem d16_21 : decode jdk_35_method_42_code 21 = .ok (.ireturn, 1) := by decide +kernel
theorem d16_10 : decode jdk_35_method_42_code 10 = .ok (.lload_n 0, 1) := by decide +kernel
theorem d16_11 : decode jdk_35_method_42_code 11 = .ok (.lload_n 2, 1) := by decide +kernel
theorem d16_12 : decode jdk_35_method_42_code 12 = .ok (.lcmp, 1) := by decide +kernel
theorem d16_13 : decode jdk_35_method_42_code 13 = .ok (.ifCond .ne 7, 3) := by decide +kernel
theorem d16_16 : decode jdk_35_method_42_code 16 = .ok (.iconst 0, 1) := by decide +kernel
theorem d16_17 : decode jdk_35_method_42_code 17 = .ok (.goto 4, 3) := by decide +kernel
theorem d16_20 : decode jdk_35_method_42_code 20 = .ok (.iconst 1, 1) := by decide +kernel
theorem pn_java_lang_Long : plainName "java/lang/Long" = true := by first | (simp [plainName, overriddenIn]; done) | decide +kernel
theorem ef_lcomp (m : MethodId) (x0 : Int64) (x1 : Int64) : entryFrame m #[(.long x0), (.long x1)] 4 = mkF m 0 #[.val (.long x0), .second, .val (.long x1), .second] [] := by first | (simp [entryFrame, mkF, argsToLocals, Value.category]; done) | rfl
def Qlcomp (Z : State) (x : Int64) (y : Int64) (h0 : Heap) (n0 : Nat) (v : Option Value) (h : Heap) (L : List Loc) : Prop := Fr n0 L ∧ ((v = some (.int (-1)) ∧ h = h0 ∧ x < y) ∨ (v = some (.int 0) ∧ h = h0 ∧ ¬ x < y ∧ x = y) ∨ (v = some (.int 1) ∧ h = h0 ∧ ¬ x < y ∧ ¬ x = y))
set_option maxRecDepth 65536 in
set_option maxHeartbeats 40000000 in
theorem rmlcomp (l : Launch) (Z : State) (a0 : Array Value) (hw : ∀ d ∈ tables_1, d.before a0 Z = true) (ws : List Jvm.Cond) (x : Int64) (y : Int64) (h0 : Heap) (n0 : Nat) (Z0 : n0 ≤ h0.size) :
    MetFree l (⟨"java/lang/Long", "compare", "(JJ)I"⟩ : MethodName) (head1 (Jvm.Cond.code (⟨"java/lang/Long", "compare", "(JJ)I"⟩ : MethodName) jdk_35_method_42_code 4 (some .int) :: ws) ({ frames := 0, cells := 0, slots := 0, locals := 0 } : Room)) (fun as0 U => as0 = #[(.long x), (.long y)] ∧ Z.Warmed39 U.vm ∧ U.heap = h0) (fun _ _ _ _ _ => True) (fun _ U oc0 U' => ∃ v L, oc0 = .returned v ∧ Qlcomp Z x y h0 n0 v U'.heap L ∧ FrameEnd U oc0 U' L ({ frames := 0, cells := 0, slots := 0, locals := 0 } : Room).cells ({ frames := 0, cells := 0, slots := 0, locals := 0 } : Room).slots) := by
  refine MetFree.of_bodySF (plainFor_of_name pn_java_lang_Long) hisR ?_
  intro p e s m args below meth c s₁ Bd hml0 hP hK
  obtain ⟨rfl, hZ, hh⟩ := hP
  have hx := Bd.exec
  have hby := Bd.bytes
  have hml : c.maxLocals = 4 := hml0
  have hown : s.vm.findClass "java/lang/Long" = some m.cls := findClass_of_methodNamed Bd.named
  have hnm := (name_of_methodNamed Bd.named Bd.method).1
  have X0 : Stand p l e ({ frames := 0, cells := 0, slots := 0, locals := 0 } : Room) s m #[(.long x), (.long y)] below meth c s₁ [] 0 0 := Stand.of_body Bd
  have e0 : s₁.heap = h0 := by rw [← hh, Bd.state]; rfl
  have N0 := Fr.nil n0
  show Gl p e below s (Qlcomp Z x y h0 n0) ({ frames := 0, cells := 0, slots := 0, locals := 0 } : Room).cells ({ frames := 0, cells := 0, slots := 0, locals := 0 } : Room).slots (s₁.setTop (entryFrame m #[(.long x), (.long y)] 4))
  refine Gl.back (fun _ k => castTop (ef_lcomp m x y) k) ?_
  show Gl _ _ _ _ _ _ _ (s₁.setTop (mkF m 0 #[.val (.long x), .second, .val (.long y), .second] []))
  refine Gl.back (fun _ k => XS.lloadN X0.here hx rfl (hb hby d16_0) rfl k) ?_
  show Gl _ _ _ _ _ _ _ (s₁.setTop (mkF m 1 #[.val (.long x), .second, .val (.long y), .second] [(.long x)]))
  refine Gl.back (fun _ k => XS.lloadN X0.here hx rfl (hb hby d16_1) rfl k) ?_
  show Gl _ _ _ _ _ _ _ (s₁.setTop (mkF m 2 #[.val (.long x), .second, .val (.long y), .second] [(.long y), (.long x)]))
  refine Gl.back (fun _ k => XS.lcmp X0.here hx rfl (hb hby d16_2) rfl k) ?_
  show Gl _ _ _ _ _ _ _ (s₁.setTop (mkF m 3 #[.val (.long x), .second, .val (.long y), .second] [(.int (lcmpW x y))]))
  by_cases hc3_40 : x < y
  · refine Gl.back (fun _ k => XS.ifNo X0.here hx rfl (hb hby d16_3) rfl ((if0 _ _).trans (tlt (own_lcL hc3_40)).2.1) k) ?_
    show Gl _ _ _ _ _ _ _ (s₁.setTop (mkF m 6 #[.val (.long x), .second, .val (.long y), .second] []))
    refine Gl.back (fun _ k => XS.iconst X0.here hx rfl (hb hby d16_6) k) ?_
    show Gl _ _ _ _ _ _ _ (s₁.setTop (mkF m 7 #[.val (.long x), .second, .val (.long y), .second] [(.int (-1 : Int32))]))
    refine Gl.back (fun _ k => XS.goto X0.here hx rfl (pc0 := 7) (pc' := 21) rfl (hb hby d16_7) (by decide) (by decide) k) ?_
    show Gl _ _ _ _ _ _ _ (s₁.setTop (mkF m 21 #[.val (.long x), .second, .val (.long y), .second] [(.int (-1 : Int32))]))
    exact Gl.ret X0 e0 (v := (some (.int (-1 : Int32)))) (fun h => by rw [Bd.returns] at h; cases h) Bd.notSynchronized (fun fs hr => retOut X0 hx (w := (.int (-1 : Int32))) Bd.returns rfl (Or.inl ⟨rfl, Or.inl rfl, _, rfl⟩) (hb hby d16_21) hr) ⟨N0, Or.inl ⟨rfl, rfl, hc3_40⟩⟩ (by decide) (by decide)
  · refine Gl.back (fun _ k => XS.ifYes X0.here hx rfl (pc0 := 3) (pc' := 10) rfl (hb hby d16_3) rfl ((if0 _ _).trans (flt (own_lcLn hc3_40)).2.1) (by decide) (by decide) k) ?_
    show Gl _ _ _ _ _ _ _ (s₁.setTop (mkF m 10 #[.val (.long x), .second, .val (.long y), .second] []))
    refine Gl.back (fun _ k => XS.lloadN X0.here hx rfl (hb hby d16_10) rfl k) ?_
    show Gl _ _ _ _ _ _ _ (s₁.setTop (mkF m 11 #[.val (.long x), .second, .val (.long y), .second] [(.long x)]))
    refine Gl.back (fun _ k => XS.lloadN X0.here hx rfl (hb hby d16_11) rfl k) ?_
    show Gl _ _ _ _ _ _ _ (s₁.setTop (mkF m 12 #[.val (.long x), .second, .val (.long y), .second] [(.long y), (.long x)]))
    refine Gl.back (fun _ k => XS.lcmp X0.here hx rfl (hb hby d16_12) rfl k) ?_
    show Gl _ _ _ _ _ _ _ (s₁.setTop (mkF m 13 #[.val (.long x), .second, .val (.long y), .second] [(.int (lcmpW x y))]))
    by_cases hc13_41 : x = y
    · refine Gl.back (fun _ k => XS.ifNo X0.here hx rfl (hb hby d16_13) rfl ((if0 _ _).trans (teq (own_lcE hc13_41)).2) k) ?_
      show Gl _ _ _ _ _ _ _ (s₁.setTop (mkF m 16 #[.val (.long x), .second, .val (.long y), .second] []))
      refine Gl.back (fun _ k => XS.iconst X0.here hx rfl (hb hby d16_16) k) ?_
      show Gl _ _ _ _ _ _ _ (s₁.setTop (mkF m 17 #[.val (.long x), .second, .val (.long y), .second] [(.int (0 : Int32))]))
      refine Gl.back (fun _ k => XS.goto X0.here hx rfl (pc0 := 17) (pc' := 21) rfl (hb hby d16_17) (by decide) (by decide) k) ?_
      show Gl _ _ _ _ _ _ _ (s₁.setTop (mkF m 21 #[.val (.long x), .second, .val (.long y), .second] [(.int (0 : Int32))]))
      exact Gl.ret X0 e0 (v := (some (.int (0 : Int32)))) (fun h => by rw [Bd.returns] at h; cases h) Bd.notSynchronized (fun fs hr => retOut X0 hx (w := (.int (0 : Int32))) Bd.returns rfl (Or.inl ⟨rfl, Or.inl rfl, _, rfl⟩) (hb hby d16_21) hr) ⟨N0, Or.inr (Or.inl ⟨rfl, rfl, hc3_40, hc13_41⟩)⟩ (by decide) (by decide)
    · refine Gl.back (fun _ k => XS.ifYes X0.here hx rfl (pc0 := 13) (pc' := 20) rfl (hb hby d16_13) rfl ((if0 _ _).trans (feq (own_lcEn hc13_41)).2) (by decide) (by decide) k) ?_
      show Gl _ _ _ _ _ _ _ (s₁.setTop (mkF m 20 #[.val (.long x), .second, .val (.long y), .second] []))
      refine Gl.back (fun _ k => XS.iconst X0.here hx rfl (hb hby d16_20) k) ?_
      show Gl _ _ _ _ _ _ _ (s₁.setTop (mkF m 21 #[.val (.long x), .second, .val (.long y), .second] [(.int (1 : Int32))]))
      exact Gl.ret X0 e0 (v := (some (.int (1 : Int32)))) (fun h => by rw [Bd.returns] at h; cases h) Bd.notSynchronized (fun fs hr => retOut X0 hx (w := (.int (1 : Int32))) Bd.returns rfl (Or.inl ⟨rfl, Or.inl rfl, _, rfl⟩) (hb hby d16_21) hr) ⟨N0, Or.inr (Or.inr ⟨rfl, rfl, hc3_40, hc13_41⟩)⟩ (by decide) (by decide)
theorem d15_0 : decode prog_40_method_4_code 0 = .ok (.aload_n 0, 1) := by decide +kernel
theorem d15_1 : decode prog_40_method_4_code 1 = .ok (.getfield 7, 3) := by decide +kernel
theorem d15_4 : decode prog_40_method_4_code 4 = .ok (.aload_n 1, 1) := by decide +kernel
theorem d15_5 : decode prog_40_method_4_code 5 = .ok (.getfield 7, 3) := by decide +kernel
theorem d15_8 : decode prog_40_method_4_code 8 = .ok (.invokestatic 54, 3) := by decide +kernel
theorem pd__JJ_I : parseMethodDescriptor "(JJ)I" = some ⟨[.long, .long], some .int⟩ := by decide +kernel
theorem d15_11 : decode prog_40_method_4_code 11 = .ok (.ireturn, 1) := by decide +kernel
theorem ef_cmp (m : MethodId) (x0 : Addr) (x1 : Addr) : entryFrame m #[(.ref x0), (.ref x1)] 2 = mkF m 0 #[.val (.ref x0), .val (.ref x1)] [] := by first | (simp [entryFrame, mkF, argsToLocals, Value.category]; done) | rfl
def Qcmp (Z : State) (a : Addr) (b : Addr) (x y : Int64) (h0 : Heap) (n0 : Nat) (v : Option Value) (h : Heap) (L : List Loc) : Prop := Fr n0 L ∧ ((v = some (.int (-1)) ∧ h = h0 ∧ x < y) ∨ (v = some (.int 0) ∧ h = h0 ∧ ¬ x < y ∧ x = y) ∨ (v = some (.int 1) ∧ h = h0 ∧ ¬ x < y ∧ ¬ x = y))
set_option maxRecDepth 65536 in
set_option maxHeartbeats 40000000 in
theorem rmcmp (l : Launch) (Z : State) (a0 : Array Value) (hw : ∀ d ∈ tables_1, d.before a0 Z = true) (ws : List Jvm.Cond) (a : Addr) (b : Addr) (x y : Int64) (h0 : Heap) (n0 : Nat) (Z0 : n0 ≤ h0.size) (F_a_cents : Fld Z h0 a "com/example/gavelwatch/gavelwatch/model/Money" "cents" "J" (.long x)) (F_b_cents : Fld Z h0 b "com/example/gavelwatch/gavelwatch/model/Money" "cents" "J" (.long y)) :
    MetFree l (⟨"com/example/gavelwatch/gavelwatch/model/Money", "compareTo", "(Lcom/example/gavelwatch/gavelwatch/model/Money;)I"⟩ : MethodName) (head1 (Jvm.Cond.code (⟨"com/example/gavelwatch/gavelwatch/model/Money", "compareTo", "(Lcom/example/gavelwatch/gavelwatch/model/Money;)I"⟩ : MethodName) prog_40_method_4_code 2 (some .int) :: ws) ({ frames := 1, cells := 0, slots := 0, locals := 15 } : Room)) (fun as0 U => as0 = #[(.ref a), (.ref b)] ∧ Z.Warmed39 U.vm ∧ U.heap = h0) (fun _ _ _ _ _ => True) (fun _ U oc0 U' => ∃ v L, oc0 = .returned v ∧ Qcmp Z a b x y h0 n0 v U'.heap L ∧ FrameEnd U oc0 U' L ({ frames := 1, cells := 0, slots := 0, locals := 15 } : Room).cells ({ frames := 1, cells := 0, slots := 0, locals := 15 } : Room).slots) := by
  refine MetFree.of_bodySF (plainFor_of_name pn_com_example_gavelwatch_gavelwatch_model_Money) hisR ?_
  intro p e s m args below meth c s₁ Bd hml0 hP hK
  obtain ⟨rfl, hZ, hh⟩ := hP
  have hx := Bd.exec
  have hby := Bd.bytes
  have hml : c.maxLocals = 2 := hml0
  have hown : s.vm.findClass "com/example/gavelwatch/gavelwatch/model/Money" = some m.cls := findClass_of_methodNamed Bd.named
  have hnm := (name_of_methodNamed Bd.named Bd.method).1
  have X0 : Stand p l e ({ frames := 1, cells := 0, slots := 0, locals := 15 } : Room) s m #[(.ref a), (.ref b)] below meth c s₁ [] 0 0 := Stand.of_body Bd
  have e0 : s₁.heap = h0 := by rw [← hh, Bd.state]; rfl
  have N0 := Fr.nil n0
  show Gl p e below s (Qcmp Z a b x y h0 n0) ({ frames := 1, cells := 0, slots := 0, locals := 15 } : Room).cells ({ frames := 1, cells := 0, slots := 0, locals := 15 } : Room).slots (s₁.setTop (entryFrame m #[(.ref a), (.ref b)] 2))
  refine Gl.back (fun _ k => castTop (ef_cmp m a b) k) ?_
  show Gl _ _ _ _ _ _ _ (s₁.setTop (mkF m 0 #[.val (.ref a), .val (.ref b)] []))
  refine Gl.back (fun _ k => XS.aloadN X0.here hx rfl (hb hby d15_0) rfl rfl k) ?_
  show Gl _ _ _ _ _ _ _ (s₁.setTop (mkF m 1 #[.val (.ref a), .val (.ref b)] [(.ref a)]))
  obtain ⟨T42, X42, e42, st42⟩ := getF X0 hx hZ hown (host := "") (Or.inl (hw _ (List.mem_of_getElem? (i := 17) rfl))) Via.refl e0 F_a_cents (g := (mkF m 1 #[.val (.ref a), .val (.ref b)] [(.ref a)])) rfl rfl (hb hby d15_1)
  refine Gl.back (fun _ k => st42 _ k) ?_
  show Gl _ _ _ _ _ _ _ (T42.setTop (mkF m 4 #[.val (.ref a), .val (.ref b)] [(.long x)]))
  refine Gl.back (fun _ k => XS.aloadN X42.here hx rfl (hb hby d15_4) rfl rfl k) ?_
  show Gl _ _ _ _ _ _ _ (T42.setTop (mkF m 5 #[.val (.ref a), .val (.ref b)] [(.ref b), (.long x)]))
  obtain ⟨T43, X43, e43, st43⟩ := getF X42 hx hZ hown (host := "") (Or.inl (hw _ (List.mem_of_getElem? (i := 17) rfl))) Via.refl e42 F_b_cents (g := (mkF m 5 #[.val (.ref a), .val (.ref b)] [(.ref b), (.long x)])) rfl rfl (hb hby d15_5)
  refine Gl.back (fun _ k => st43 _ k) ?_
  show Gl _ _ _ _ _ _ _ (T43.setTop (mkF m 8 #[.val (.ref a), .val (.ref b)] [(.long y), (.long x)]))
  obtain ⟨_, _, ⟨T44, L44, k44, n44⟩, -, X44, ⟨Lc44, hQ44, l44, y44, z44⟩, st44⟩ := Jvm.LawKit.callS X43 hx (y := (⟨"java/lang/Long", "compare", "(JJ)I"⟩ : MethodName)) hown (mvT hZ (hw _ (List.mem_of_getElem? (i := 107) rfl))) (mvT hZ (hw _ (List.mem_of_getElem? (i := 108) rfl))) (mvT hZ (hw _ (List.mem_of_getElem? (i := 109) rfl))) (mvT hZ (hw _ (List.mem_of_getElem? (i := 110) rfl))) (by decide) (backOf (W := 0) (rmlcomp l Z a0 hw [] x y  h0 n0 Z0 ) hZ (hw _ (List.mem_of_getElem? (i := 110) rfl)) (hw _ (List.mem_of_getElem? (i := 109) rfl)) (by decide) (by decide)) (g := (mkF m 8 #[.val (.ref a), .val (.ref b)] [(.long y), (.long x)])) rfl (by rw [hml]; rfl) (argsL := [(.long x), (.long y)]) (rest := []) (lenOf pd__JJ_I rfl) rfl (by show 2 * 0 + _ ≤ _; exact Nat.le_of_eq rfl) (hb hby d15_8) (fun _ _ => ⟨rfl, e43, (by decide : 0 + 0 ≤ _), (by decide : 0 + 0 ≤ _)⟩)
  dsimp only [Pt.U, Pt.locs, Pt.cells, Pt.slots] at X44 l44 y44 z44 st44 hQ44
  subst l44 y44 z44
  obtain ⟨Nq44, hQ44⟩ := hQ44
  rcases hQ44 with ⟨rfl, eh44, hA44⟩ | ⟨rfl, eh44, hA44, hB44⟩ | ⟨rfl, eh44, hA44, hB44⟩
  · have N44 := Fr.app N0 Nq44
    refine Gl.back (fun _ k => st44 _ k) ?_
    show Gl _ _ _ _ _ _ _ (T44.setTop (mkF m 11 #[.val (.ref a), .val (.ref b)] [(.int (-1 : Int32))]))
    exact Gl.ret X44 eh44 (v := (some (.int (-1 : Int32)))) (fun h => by rw [Bd.returns] at h; cases h) Bd.notSynchronized (fun fs hr => retOut X44 hx (w := (.int (-1 : Int32))) Bd.returns rfl (Or.inl ⟨rfl, Or.inl rfl, _, rfl⟩) (hb hby d15_11) hr) ⟨N44, Or.inl ⟨rfl, rfl, hA44⟩⟩ (by decide) (by decide)
  · have N44 := Fr.app N0 Nq44
    refine Gl.back (fun _ k => st44 _ k) ?_
    show Gl _ _ _ _ _ _ _ (T44.setTop (mkF m 11 #[.val (.ref a), .val (.ref b)] [(.int (0 : Int32))]))
    exact Gl.ret X44 eh44 (v := (some (.int (0 : Int32)))) (fun h => by rw [Bd.returns] at h; cases h) Bd.notSynchronized (fun fs hr => retOut X44 hx (w := (.int (0 : Int32))) Bd.returns rfl (Or.inl ⟨rfl, Or.inl rfl, _, rfl⟩) (hb hby d15_11) hr) ⟨N44, Or.inr (Or.inl ⟨rfl, rfl, hA44, hB44⟩)⟩ (by decide) (by decide)
  · have N44 := Fr.app N0 Nq44
    refine Gl.back (fun _ k => st44 _ k) ?_
    show Gl _ _ _ _ _ _ _ (T44.setTop (mkF m 11 #[.val (.ref a), .val (.ref b)] [(.int (1 : Int32))]))
    exact Gl.ret X44 eh44 (v := (some (.int (1 : Int32)))) (fun h => by rw [Bd.returns] at h; cases h) Bd.notSynchronized (fun fs hr => retOut X44 hx (w := (.int (1 : Int32))) Bd.returns rfl (Or.inl ⟨rfl, Or.inl rfl, _, rfl⟩) (hb hby d15_11) hr) ⟨N44, Or.inr (Or.inr ⟨rfl, rfl, hA44, hB44⟩)⟩ (by decide) (by decide)
theorem d14_0 : decode prog_50_method_4_code 0 = .ok (.aload_n 1, 1) := by decide +kernel
theorem d14_1 : decode prog_50_method_4_code 1 = .ok (.aload_n 0, 1) := by decide +kernel
theorem d14_2 : decode prog_50_method_4_code 2 = .ok (.invokevirtual 34, 3) := by decide +kernel
theorem d14_5 : decode prog_50_method_4_code 5 = .ok (.invokevirtual 37, 3) := by decide +kernel
theorem pd__Lcom_example_gavelwatch_gavelwatch_model_Money__I : parseMethodDescriptor "(Lcom/example/gavelwatch/gavelwatch/model/Money;)I" = some ⟨[(.object "com/example/gavelwatch/gavelwatch/model/Money")], some .int⟩ := by decide +kernel
theorem d14_8 : decode prog_50_method_4_code 8 = .ok (.istore_n 2, 1) := by decide +kernel
theorem d14_9 : decode prog_50_method_4_code 9 = .ok (.aload_n 0, 1) := by decide +kernel
theorem d14_10 : decode prog_50_method_4_code 10 = .ok (.invokevirtual 24, 3) := by decide +kernel
theorem d14_13 : decode prog_50_method_4_code 13 = .ok (.ifCond .eq 15, 3) := by decide +kernel
theorem d14_28 : decode prog_50_method_4_code 28 = .ok (.iload_n 2, 1) := by decide +kernel
theorem d14_29 : decode prog_50_method_4_code 29 = .ok (.ifCond .lt 7, 3) := by decide +kernel
theorem d14_32 : decode prog_50_method_4_code 32 = .ok (.iconst 1, 1) := by decide +kernel
theorem d14_33 : decode prog_50_method_4_code 33 = .ok (.goto 4, 3) := by decide +kernel
theorem d14_37 : decode prog_50_method_4_code 37 = .ok (.ireturn, 1) := by decide +kernel
theorem ef_acc0 (m : MethodId) (x0 : Addr) (x1 : Addr) : entryFrame m #[(.ref x0), (.ref x1)] 3 = mkF m 0 #[.val (.ref x0), .val (.ref x1), .unset] [] := by first | (simp [entryFrame, mkF, argsToLocals, Value.category]; done) | rfl
def Qacc0 (Z : State) (a : Addr) (m1 : Addr) (o : Addr) (x y : Int64) (h0 : Heap) (n0 : Nat) (v : Option Value) (h : Heap) (L : List Loc) : Prop := Fr n0 L ∧ (v = some (.int 1) ∧ h = h0)
set_option maxRecDepth 65536 in
set_option maxHeartbeats 40000000 in
theorem rmacc0 (l : Launch) (Z : State) (a0 : Array Value) (hw : ∀ d ∈ tables_1, d.before a0 Z = true) (ws : List Jvm.Cond) (a : Addr) (m1 : Addr) (o : Addr) (x y : Int64) (h0 : Heap) (n0 : Nat) (Z0 : n0 ≤ h0.size) (E_a : Exa Z h0 a "com/example/gavelwatch/gavelwatch/sim/RunningAuction") (F_a_highest : Fld Z h0 a "com/example/gavelwatch/gavelwatch/sim/RunningAuction" "highest" "Lcom/example/gavelwatch/gavelwatch/model/Bid;" .null) (F_a_openingBid : Fld Z h0 a "com/example/gavelwatch/gavelwatch/sim/RunningAuction" "openingBid" "Lcom/example/gavelwatch/gavelwatch/model/Money;" (.ref o)) (E_o : Exa Z h0 o "com/example/gavelwatch/gavelwatch/model/Money") (F_o_cents : Fld Z h0 o "com/example/gavelwatch/gavelwatch/model/Money" "cents" "J" (.long y)) (E_m1 : Exa Z h0 m1 "com/example/gavelwatch/gavelwatch/model/Money") (F_m1_cents : Fld Z h0 m1 "com/example/gavelwatch/gavelwatch/model/Money" "cents" "J" (.long x)) (hge : ¬ x < y) :
    MetFree l (⟨"com/example/gavelwatch/gavelwatch/sim/RunningAuction", "accepts", "(Lcom/example/gavelwatch/gavelwatch/model/Money;)Z"⟩ : MethodName) (head1 (Jvm.Cond.code (⟨"com/example/gavelwatch/gavelwatch/sim/RunningAuction", "accepts", "(Lcom/example/gavelwatch/gavelwatch/model/Money;)Z"⟩ : MethodName) prog_50_method_4_code 3 (some .boolean) :: ws) ({ frames := 2, cells := 0, slots := 0, locals := 28 } : Room)) (fun as0 U => as0 = #[(.ref a), (.ref m1)] ∧ Z.Warmed39 U.vm ∧ U.heap = h0) (fun _ _ _ _ _ => True) (fun _ U oc0 U' => ∃ v L, oc0 = .returned v ∧ Qacc0 Z a m1 o x y h0 n0 v U'.heap L ∧ FrameEnd U oc0 U' L ({ frames := 2, cells := 0, slots := 0, locals := 28 } : Room).cells ({ frames := 2, cells := 0, slots := 0, locals := 28 } : Room).slots) := by
  refine MetFree.of_bodySF (plainFor_of_name pn_com_example_gavelwatch_gavelwatch_sim_RunningAuction) hisR ?_
  intro p e s m args below meth c s₁ Bd hml0 hP hK
  obtain ⟨rfl, hZ, hh⟩ := hP
  have hx := Bd.exec
  have hby := Bd.bytes
  have hml : c.maxLocals = 3 := hml0
  have hown : s.vm.findClass "com/example/gavelwatch/gavelwatch/sim/RunningAuction" = some m.cls := findClass_of_methodNamed Bd.named
  have hnm := (name_of_methodNamed Bd.named Bd.method).1
  have X0 : Stand p l e ({ frames := 2, cells := 0, slots := 0, locals := 28 } : Room) s m #[(.ref a), (.ref m1)] below meth c s₁ [] 0 0 := Stand.of_body Bd
  have e0 : s₁.heap = h0 := by rw [← hh, Bd.state]; rfl
  have N0 := Fr.nil n0
  show Gl p e below s (Qacc0 Z a m1 o x y h0 n0) ({ frames := 2, cells := 0, slots := 0, locals := 28 } : Room).cells ({ frames := 2, cells := 0, slots := 0, locals := 28 } : Room).slots (s₁.setTop (entryFrame m #[(.ref a), (.ref m1)] 3))
  refine Gl.back (fun _ k => castTop (ef_acc0 m a m1) k) ?_
  show Gl _ _ _ _ _ _ _ (s₁.setTop (mkF m 0 #[.val (.ref a), .val (.ref m1), .unset] []))
  refine Gl.back (fun _ k => XS.aloadN X0.here hx rfl (hb hby d14_0) rfl rfl k) ?_
  show Gl _ _ _ _ _ _ _ (s₁.setTop (mkF m 1 #[.val (.ref a), .val (.ref m1), .unset] [(.ref m1)]))
  refine Gl.back (fun _ k => XS.aloadN X0.here hx rfl (hb hby d14_1) rfl rfl k) ?_
  show Gl _ _ _ _ _ _ _ (s₁.setTop (mkF m 2 #[.val (.ref a), .val (.ref m1), .unset] [(.ref a), (.ref m1)]))
  obtain ⟨cq45, kq45, q45a, q45b, q45c⟩ := isOf hZ e0 E_a
  obtain ⟨_, _, ⟨T45, L45, k45, n45⟩, -, X45, ⟨Lc45, hQ45, l45, y45, z45⟩, st45⟩ := X0.virtualBack hx (y := (⟨"com/example/gavelwatch/gavelwatch/sim/RunningAuction", "price", "()Lcom/example/gavelwatch/gavelwatch/model/Money;"⟩ : MethodName)) (z := (⟨"com/example/gavelwatch/gavelwatch/sim/RunningAuction", "price", "()Lcom/example/gavelwatch/gavelwatch/model/Money;"⟩ : MethodName)) hown (mvT hZ (hw _ (List.mem_of_getElem? (i := 101) rfl))) (mvT hZ (hw _ (List.mem_of_getElem? (i := 52) rfl))) (notFace_of_selects (args := #[]) (mvT hZ (hw _ (List.mem_of_getElem? (i := 54) rfl)))) (mvT hZ (hw _ (List.mem_of_getElem? (i := 54) rfl))) (mvT hZ (hw _ (List.mem_of_getElem? (i := 53) rfl))) (by decide) (backOf (W := 1) (rmprice0 l Z a0 hw [] a o h0 n0 Z0 E_a F_a_highest F_a_openingBid) hZ (hw _ (List.mem_of_getElem? (i := 55) rfl)) (hw _ (List.mem_of_getElem? (i := 2) rfl)) (by decide) (by decide)) q45a q45c (g := (mkF m 2 #[.val (.ref a), .val (.ref m1), .unset] [(.ref a), (.ref m1)])) rfl (by rw [hml]; rfl) (Steps.refl _) (argsL := []) (rest := [(.ref m1)]) (lenOf pd___Lcom_example_gavelwatch_gavelwatch_model_Money_ rfl) rfl (by show 2 * 0 + _ ≤ _; exact Nat.le_of_eq rfl) (hb hby d14_2) (fun _ _ => ⟨rfl, e0, (by decide : 0 + 0 ≤ _), (by decide : 0 + 0 ≤ _)⟩)
  dsimp only [Pt.U, Pt.locs, Pt.cells, Pt.slots] at X45 l45 y45 z45 st45 hQ45
  subst l45 y45 z45
  obtain ⟨Nq45, rfl, eh45⟩ := hQ45
  have N45 := Fr.app N0 Nq45
  refine Gl.back (fun _ k => st45.trans k) ?_
  show Gl _ _ _ _ _ _ _ (T45.setTop (mkF m 5 #[.val (.ref a), .val (.ref m1), .unset] [(.ref o), (.ref m1)]))
  obtain ⟨cq46, kq46, q46a, q46b, q46c⟩ := isOf hZ eh45 E_m1
  obtain ⟨_, _, ⟨T46, L46, k46, n46⟩, -, X46, ⟨Lc46, hQ46, l46, y46, z46⟩, st46⟩ := X45.virtualBack hx (y := (⟨"com/example/gavelwatch/gavelwatch/model/Money", "compareTo", "(Lcom/example/gavelwatch/gavelwatch/model/Money;)I"⟩ : MethodName)) (z := (⟨"com/example/gavelwatch/gavelwatch/model/Money", "compareTo", "(Lcom/example/gavelwatch/gavelwatch/model/Money;)I"⟩ : MethodName)) hown (mvT hZ (hw _ (List.mem_of_getElem? (i := 102) rfl))) (mvT hZ (hw _ (List.mem_of_getElem? (i := 103) rfl))) (notFace_of_selects (args := #[]) (mvT hZ (hw _ (List.mem_of_getElem? (i := 105) rfl)))) (mvT hZ (hw _ (List.mem_of_getElem? (i := 105) rfl))) (mvT hZ (hw _ (List.mem_of_getElem? (i := 104) rfl))) (by decide) (backOf (W := 0) (rmcmp l Z a0 hw [] m1 o x y h0 n0 Z0 F_m1_cents F_o_cents) hZ (hw _ (List.mem_of_getElem? (i := 106) rfl)) (hw _ (List.mem_of_getElem? (i := 5) rfl)) (by decide) (by decide)) q46a q46c (g := (mkF m 5 #[.val (.ref a), .val (.ref m1), .unset] [(.ref o), (.ref m1)])) rfl (by rw [hml]; rfl) (Steps.refl _) (argsL := [(.ref o)]) (rest := []) (lenOf pd__Lcom_example_gavelwatch_gavelwatch_model_Money__I rfl) rfl (by show 2 * 0 + _ ≤ _; exact Nat.le_of_eq rfl) (hb hby d14_5) (fun _ _ => ⟨rfl, eh45, (by decide : 0 + 0 ≤ _), (by decide : 0 + 0 ≤ _)⟩)
  dsimp only [Pt.U, Pt.locs, Pt.cells, Pt.slots] at X46 l46 y46 z46 st46 hQ46
  subst l46 y46 z46
  obtain ⟨Nq46, hQ46⟩ := hQ46
  rcases hQ46 with ⟨rfl, eh46, hA46⟩ | ⟨rfl, eh46, hA46, hB46⟩ | ⟨rfl, eh46, hA46, hB46⟩
  · exact absurd hA46 hge
  · have N46 := Fr.app N45 Nq46
    refine Gl.back (fun _ k => st46.trans k) ?_
    show Gl _ _ _ _ _ _ _ (T46.setTop (mkF m 8 #[.val (.ref a), .val (.ref m1), .unset] [(.int (0 : Int32))]))
    refine Gl.back (fun _ k => XS.istoreN X46.here hx rfl (hb hby d14_8) rfl (l' := #[.val (.ref a), .val (.ref m1), .val (.int (0 : Int32))]) rfl k) ?_
    show Gl _ _ _ _ _ _ _ (T46.setTop (mkF m 9 #[.val (.ref a), .val (.ref m1), .val (.int (0 : Int32))] []))
    refine Gl.back (fun _ k => XS.aloadN X46.here hx rfl (hb hby d14_9) rfl rfl k) ?_
    show Gl _ _ _ _ _ _ _ (T46.setTop (mkF m 10 #[.val (.ref a), .val (.ref m1), .val (.int (0 : Int32))] [(.ref a)]))
    obtain ⟨cq47, kq47, q47a, q47b, q47c⟩ := isOf hZ eh46 E_a
    obtain ⟨_, _, ⟨T47, L47, k47, n47⟩, -, X47, ⟨Lc47, hQ47, l47, y47, z47⟩, st47⟩ := X46.virtualBack hx (y := (⟨"com/example/gavelwatch/gavelwatch/sim/RunningAuction", "hasBids", "()Z"⟩ : MethodName)) (z := (⟨"com/example/gavelwatch/gavelwatch/sim/RunningAuction", "hasBids", "()Z"⟩ : MethodName)) hown (mvT hZ (hw _ (List.mem_of_getElem? (i := 56) rfl))) (mvT hZ (hw _ (List.mem_of_getElem? (i := 57) rfl))) (notFace_of_selects (args := #[]) (mvT hZ (hw _ (List.mem_of_getElem? (i := 59) rfl)))) (mvT hZ (hw _ (List.mem_of_getElem? (i := 59) rfl))) (mvT hZ (hw _ (List.mem_of_getElem? (i := 58) rfl))) (by decide) (backOf (W := 0) (rmhas0 l Z a0 hw [] a  h0 n0 Z0 F_a_highest) hZ (hw _ (List.mem_of_getElem? (i := 60) rfl)) (hw _ (List.mem_of_getElem? (i := 2) rfl)) (by decide) (by decide)) q47a q47c (g := (mkF m 10 #[.val (.ref a), .val (.ref m1), .val (.int (0 : Int32))] [(.ref a)])) rfl (by rw [hml]; rfl) (Steps.refl _) (argsL := []) (rest := []) (lenOf pd___Z rfl) rfl (by show 2 * 0 + _ ≤ _; exact Nat.le_of_eq rfl) (hb hby d14_10) (fun _ _ => ⟨rfl, eh46, (by decide : 0 + 0 ≤ _), (by decide : 0 + 0 ≤ _)⟩)
    dsimp only [Pt.U, Pt.locs, Pt.cells, Pt.slots] at X47 l47 y47 z47 st47 hQ47
    subst l47 y47 z47
    obtain ⟨Nq47, rfl, eh47⟩ := hQ47
    have N47 := Fr.app N46 Nq47
    refine Gl.back (fun _ k => st47.trans k) ?_
    show Gl _ _ _ _ _ _ _ (T47.setTop (mkF m 13 #[.val (.ref a), .val (.ref m1), .val (.int (0 : Int32))] [(.int (0 : Int32))]))
    refine Gl.back (fun _ k => XS.ifYes X47.here hx rfl (pc0 := 13) (pc' := 28) rfl (hb hby d14_13) rfl ((if0 _ _).trans (teq (by decide : (0 : Int32) = (0 : Int32))).1) (by decide) (by decide) k) ?_
    show Gl _ _ _ _ _ _ _ (T47.setTop (mkF m 28 #[.val (.ref a), .val (.ref m1), .val (.int (0 : Int32))] []))
    refine Gl.back (fun _ k => XS.iloadN X47.here hx rfl (hb hby d14_28) rfl k) ?_
    show Gl _ _ _ _ _ _ _ (T47.setTop (mkF m 29 #[.val (.ref a), .val (.ref m1), .val (.int (0 : Int32))] [(.int (0 : Int32))]))
    refine Gl.back (fun _ k => XS.ifNo X47.here hx rfl (hb hby d14_29) rfl ((if0 _ _).trans (flt (by decide : ¬ (0 : Int32) < (0 : Int32))).1) k) ?_
    show Gl _ _ _ _ _ _ _ (T47.setTop (mkF m 32 #[.val (.ref a), .val (.ref m1), .val (.int (0 : Int32))] []))
    refine Gl.back (fun _ k => XS.iconst X47.here hx rfl (hb hby d14_32) k) ?_
    show Gl _ _ _ _ _ _ _ (T47.setTop (mkF m 33 #[.val (.ref a), .val (.ref m1), .val (.int (0 : Int32))] [(.int (1 : Int32))]))
    refine Gl.back (fun _ k => XS.goto X47.here hx rfl (pc0 := 33) (pc' := 37) rfl (hb hby d14_33) (by decide) (by decide) k) ?_
    show Gl _ _ _ _ _ _ _ (T47.setTop (mkF m 37 #[.val (.ref a), .val (.ref m1), .val (.int (0 : Int32))] [(.int (1 : Int32))]))
    exact Gl.ret X47 eh47 (v := (some (.int (1 : Int32)))) (fun h => by rw [Bd.returns] at h; cases h) Bd.notSynchronized (fun fs hr => retN X47 hx (t := .boolean) (z := (1 : Int32)) Bd.returns (by simp) (hb hby d14_37) hr) ⟨N47, rfl, rfl⟩ (by decide) (by decide)
  · have N46 := Fr.app N45 Nq46
    refine Gl.back (fun _ k => st46.trans k) ?_
    show Gl _ _ _ _ _ _ _ (T46.setTop (mkF m 8 #[.val (.ref a), .val (.ref m1), .unset] [(.int (1 : Int32))]))
    refine Gl.back (fun _ k => XS.istoreN X46.here hx rfl (hb hby d14_8) rfl (l' := #[.val (.ref a), .val (.ref m1), .val (.int (1 : Int32))]) rfl k) ?_
    show Gl _ _ _ _ _ _ _ (T46.setTop (mkF m 9 #[.val (.ref a), .val (.ref m1), .val (.int (1 : Int32))] []))
    refine Gl.back (fun _ k => XS.aloadN X46.here hx rfl (hb hby d14_9) rfl rfl k) ?_
    show Gl _ _ _ _ _ _ _ (T46.setTop (mkF m 10 #[.val (.ref a), .val (.ref m1), .val (.int (1 : Int32))] [(.ref a)]))
    obtain ⟨cq48, kq48, q48a, q48b, q48c⟩ := isOf hZ eh46 E_a
    obtain ⟨_, _, ⟨T48, L48, k48, n48⟩, -, X48, ⟨Lc48, hQ48, l48, y48, z48⟩, st48⟩ := X46.virtualBack hx (y := (⟨"com/example/gavelwatch/gavelwatch/sim/RunningAuction", "hasBids", "()Z"⟩ : MethodName)) (z := (⟨"com/example/gavelwatch/gavelwatch/sim/RunningAuction", "hasBids", "()Z"⟩ : MethodName)) hown (mvT hZ (hw _ (List.mem_of_getElem? (i := 56) rfl))) (mvT hZ (hw _ (List.mem_of_getElem? (i := 57) rfl))) (notFace_of_selects (args := #[]) (mvT hZ (hw _ (List.mem_of_getElem? (i := 59) rfl)))) (mvT hZ (hw _ (List.mem_of_getElem? (i := 59) rfl))) (mvT hZ (hw _ (List.mem_of_getElem? (i := 58) rfl))) (by decide) (backOf (W := 0) (rmhas0 l Z a0 hw [] a  h0 n0 Z0 F_a_highest) hZ (hw _ (List.mem_of_getElem? (i := 60) rfl)) (hw _ (List.mem_of_getElem? (i := 2) rfl)) (by decide) (by decide)) q48a q48c (g := (mkF m 10 #[.val (.ref a), .val (.ref m1), .val (.int (1 : Int32))] [(.ref a)])) rfl (by rw [hml]; rfl) (Steps.refl _) (argsL := []) (rest := []) (lenOf pd___Z rfl) rfl (by show 2 * 0 + _ ≤ _; exact Nat.le_of_eq rfl) (hb hby d14_10) (fun _ _ => ⟨rfl, eh46, (by decide : 0 + 0 ≤ _), (by decide : 0 + 0 ≤ _)⟩)
    dsimp only [Pt.U, Pt.locs, Pt.cells, Pt.slots] at X48 l48 y48 z48 st48 hQ48
    subst l48 y48 z48
    obtain ⟨Nq48, rfl, eh48⟩ := hQ48
    have N48 := Fr.app N46 Nq48
    refine Gl.back (fun _ k => st48.trans k) ?_
    show Gl _ _ _ _ _ _ _ (T48.setTop (mkF m 13 #[.val (.ref a), .val (.ref m1), .val (.int (1 : Int32))] [(.int (0 : Int32))]))
    refine Gl.back (fun _ k => XS.ifYes X48.here hx rfl (pc0 := 13) (pc' := 28) rfl (hb hby d14_13) rfl ((if0 _ _).trans (teq (by decide : (0 : Int32) = (0 : Int32))).1) (by decide) (by decide) k) ?_
    show Gl _ _ _ _ _ _ _ (T48.setTop (mkF m 28 #[.val (.ref a), .val (.ref m1), .val (.int (1 : Int32))] []))
    refine Gl.back (fun _ k => XS.iloadN X48.here hx rfl (hb hby d14_28) rfl k) ?_
    show Gl _ _ _ _ _ _ _ (T48.setTop (mkF m 29 #[.val (.ref a), .val (.ref m1), .val (.int (1 : Int32))] [(.int (1 : Int32))]))
    refine Gl.back (fun _ k => XS.ifNo X48.here hx rfl (hb hby d14_29) rfl ((if0 _ _).trans (flt (by decide : ¬ (1 : Int32) < (0 : Int32))).1) k) ?_
    show Gl _ _ _ _ _ _ _ (T48.setTop (mkF m 32 #[.val (.ref a), .val (.ref m1), .val (.int (1 : Int32))] []))
    refine Gl.back (fun _ k => XS.iconst X48.here hx rfl (hb hby d14_32) k) ?_
    show Gl _ _ _ _ _ _ _ (T48.setTop (mkF m 33 #[.val (.ref a), .val (.ref m1), .val (.int (1 : Int32))] [(.int (1 : Int32))]))
    refine Gl.back (fun _ k => XS.goto X48.here hx rfl (pc0 := 33) (pc' := 37) rfl (hb hby d14_33) (by decide) (by decide) k) ?_
    show Gl _ _ _ _ _ _ _ (T48.setTop (mkF m 37 #[.val (.ref a), .val (.ref m1), .val (.int (1 : Int32))] [(.int (1 : Int32))]))
    exact Gl.ret X48 eh48 (v := (some (.int (1 : Int32)))) (fun h => by rw [Bd.returns] at h; cases h) Bd.notSynchronized (fun fs hr => retN X48 hx (t := .boolean) (z := (1 : Int32)) Bd.returns (by simp) (hb hby d14_37) hr) ⟨N48, rfl, rfl⟩ (by decide) (by decide)
theorem d14_16 : decode prog_50_method_4_code 16 = .ok (.iload_n 2, 1) := by decide +kernel
theorem d14_17 : decode prog_50_method_4_code 17 = .ok (.ifCond .le 7, 3) := by decide +kernel
theorem d14_20 : decode prog_50_method_4_code 20 = .ok (.iconst 1, 1) := by decide +kernel
theorem d14_21 : decode prog_50_method_4_code 21 = .ok (.goto 16, 3) := by decide +kernel
theorem ef_acc1 (m : MethodId) (x0 : Addr) (x1 : Addr) : entryFrame m #[(.ref x0), (.ref x1)] 3 = mkF m 0 #[.val (.ref x0), .val (.ref x1), .unset] [] := by first | (simp [entryFrame, mkF, argsToLocals, Value.category]; done) | rfl
def Qacc1 (Z : State) (a : Addr) (m1 : Addr) (b o : Addr) (x y : Int64) (h0 : Heap) (n0 : Nat) (v : Option Value) (h : Heap) (L : List Loc) : Prop := Fr n0 L ∧ (v = some (.int 1) ∧ h = h0)
set_option maxRecDepth 65536 in
set_option maxHeartbeats 40000000 in
theorem rmacc1 (l : Launch) (Z : State) (a0 : Array Value) (hw : ∀ d ∈ tables_1, d.before a0 Z = true) (ws : List Jvm.Cond) (a : Addr) (m1 : Addr) (b o : Addr) (x y : Int64) (h0 : Heap) (n0 : Nat) (Z0 : n0 ≤ h0.size) (E_a : Exa Z h0 a "com/example/gavelwatch/gavelwatch/sim/RunningAuction") (F_a_highest : Fld Z h0 a "com/example/gavelwatch/gavelwatch/sim/RunningAuction" "highest" "Lcom/example/gavelwatch/gavelwatch/model/Bid;" (.ref b)) (E_b : Exa Z h0 b "com/example/gavelwatch/gavelwatch/model/Bid") (F_b_amount : Fld Z h0 b "com/example/gavelwatch/gavelwatch/model/Bid" "amount" "Lcom/example/gavelwatch/gavelwatch/model/Money;" (.ref o)) (E_o : Exa Z h0 o "com/example/gavelwatch/gavelwatch/model/Money") (F_o_cents : Fld Z h0 o "com/example/gavelwatch/gavelwatch/model/Money" "cents" "J" (.long y)) (E_m1 : Exa Z h0 m1 "com/example/gavelwatch/gavelwatch/model/Money") (F_m1_cents : Fld Z h0 m1 "com/example/gavelwatch/gavelwatch/model/Money" "cents" "J" (.long x)) (hlt : y < x) :
    MetFree l (⟨"com/example/gavelwatch/gavelwatch/sim/RunningAuction", "accepts", "(Lcom/example/gavelwatch/gavelwatch/model/Money;)Z"⟩ : MethodName) (head1 (Jvm.Cond.code (⟨"com/example/gavelwatch/gavelwatch/sim/RunningAuction", "accepts", "(Lcom/example/gavelwatch/gavelwatch/model/Money;)Z"⟩ : MethodName) prog_50_method_4_code 3 (some .boolean) :: ws) ({ frames := 2, cells := 0, slots := 0, locals := 28 } : Room)) (fun as0 U => as0 = #[(.ref a), (.ref m1)] ∧ Z.Warmed39 U.vm ∧ U.heap = h0) (fun _ _ _ _ _ => True) (fun _ U oc0 U' => ∃ v L, oc0 = .returned v ∧ Qacc1 Z a m1 b o x y h0 n0 v U'.heap L ∧ FrameEnd U oc0 U' L ({ frames := 2, cells := 0, slots := 0, locals := 28 } : Room).cells ({ frames := 2, cells := 0, slots := 0, locals := 28 } : Room).slots) := by
  refine MetFree.of_bodySF (plainFor_of_name pn_com_example_gavelwatch_gavelwatch_sim_RunningAuction) hisR ?_
  intro p e s m args below meth c s₁ Bd hml0 hP hK
  obtain ⟨rfl, hZ, hh⟩ := hP
  have hx := Bd.exec
  have hby := Bd.bytes
  have hml : c.maxLocals = 3 := hml0
  have hown : s.vm.findClass "com/example/gavelwatch/gavelwatch/sim/RunningAuction" = some m.cls := findClass_of_methodNamed Bd.named
  have hnm := (name_of_methodNamed Bd.named Bd.method).1
  have X0 : Stand p l e ({ frames := 2, cells := 0, slots := 0, locals := 28 } : Room) s m #[(.ref a), (.ref m1)] below meth c s₁ [] 0 0 := Stand.of_body Bd
  have e0 : s₁.heap = h0 := by rw [← hh, Bd.state]; rfl
  have N0 := Fr.nil n0
  show Gl p e below s (Qacc1 Z a m1 b o x y h0 n0) ({ frames := 2, cells := 0, slots := 0, locals := 28 } : Room).cells ({ frames := 2, cells := 0, slots := 0, locals := 28 } : Room).slots (s₁.setTop (entryFrame m #[(.ref a), (.ref m1)] 3))
  refine Gl.back (fun _ k => castTop (ef_acc1 m a m1) k) ?_
  show Gl _ _ _ _ _ _ _ (s₁.setTop (mkF m 0 #[.val (.ref a), .val (.ref m1), .unset] []))
  refine Gl.back (fun _ k => XS.aloadN X0.here hx rfl (hb hby d14_0) rfl rfl k) ?_
  show Gl _ _ _ _ _ _ _ (s₁.setTop (mkF m 1 #[.val (.ref a), .val (.ref m1), .unset] [(.ref m1)]))
  refine Gl.back (fun _ k => XS.aloadN X0.here hx rfl (hb hby d14_1) rfl rfl k) ?_
  show Gl _ _ _ _ _ _ _ (s₁.setTop (mkF m 2 #[.val (.ref a), .val (.ref m1), .unset] [(.ref a), (.ref m1)]))
  obtain ⟨cq49, kq49, q49a, q49b, q49c⟩ := isOf hZ e0 E_a
  obtain ⟨_, _, ⟨T49, L49, k49, n49⟩, -, X49, ⟨Lc49, hQ49, l49, y49, z49⟩, st49⟩ := X0.virtualBack hx (y := (⟨"com/example/gavelwatch/gavelwatch/sim/RunningAuction", "price", "()Lcom/example/gavelwatch/gavelwatch/model/Money;"⟩ : MethodName)) (z := (⟨"com/example/gavelwatch/gavelwatch/sim/RunningAuction", "price", "()Lcom/example/gavelwatch/gavelwatch/model/Money;"⟩ : MethodName)) hown (mvT hZ (hw _ (List.mem_of_getElem? (i := 101) rfl))) (mvT hZ (hw _ (List.mem_of_getElem? (i := 52) rfl))) (notFace_of_selects (args := #[]) (mvT hZ (hw _ (List.mem_of_getElem? (i := 54) rfl)))) (mvT hZ (hw _ (List.mem_of_getElem? (i := 54) rfl))) (mvT hZ (hw _ (List.mem_of_getElem? (i := 53) rfl))) (by decide) (backOf (W := 1) (rmprice1 l Z a0 hw [] a b o h0 n0 Z0 E_a F_a_highest E_b F_b_amount) hZ (hw _ (List.mem_of_getElem? (i := 55) rfl)) (hw _ (List.mem_of_getElem? (i := 2) rfl)) (by decide) (by decide)) q49a q49c (g := (mkF m 2 #[.val (.ref a), .val (.ref m1), .unset] [(.ref a), (.ref m1)])) rfl (by rw [hml]; rfl) (Steps.refl _) (argsL := []) (rest := [(.ref m1)]) (lenOf pd___Lcom_example_gavelwatch_gavelwatch_model_Money_ rfl) rfl (by show 2 * 0 + _ ≤ _; exact Nat.le_of_eq rfl) (hb hby d14_2) (fun _ _ => ⟨rfl, e0, (by decide : 0 + 0 ≤ _), (by decide : 0 + 0 ≤ _)⟩)
  dsimp only [Pt.U, Pt.locs, Pt.cells, Pt.slots] at X49 l49 y49 z49 st49 hQ49
  subst l49 y49 z49
  obtain ⟨Nq49, rfl, eh49⟩ := hQ49
  have N49 := Fr.app N0 Nq49
  refine Gl.back (fun _ k => st49.trans k) ?_
  show Gl _ _ _ _ _ _ _ (T49.setTop (mkF m 5 #[.val (.ref a), .val (.ref m1), .unset] [(.ref o), (.ref m1)]))
  obtain ⟨cq50, kq50, q50a, q50b, q50c⟩ := isOf hZ eh49 E_m1
  obtain ⟨_, _, ⟨T50, L50, k50, n50⟩, -, X50, ⟨Lc50, hQ50, l50, y50, z50⟩, st50⟩ := X49.virtualBack hx (y := (⟨"com/example/gavelwatch/gavelwatch/model/Money", "compareTo", "(Lcom/example/gavelwatch/gavelwatch/model/Money;)I"⟩ : MethodName)) (z := (⟨"com/example/gavelwatch/gavelwatch/model/Money", "compareTo", "(Lcom/example/gavelwatch/gavelwatch/model/Money;)I"⟩ : MethodName)) hown (mvT hZ (hw _ (List.mem_of_getElem? (i := 102) rfl))) (mvT hZ (hw _ (List.mem_of_getElem? (i := 103) rfl))) (notFace_of_selects (args := #[]) (mvT hZ (hw _ (List.mem_of_getElem? (i := 105) rfl)))) (mvT hZ (hw _ (List.mem_of_getElem? (i := 105) rfl))) (mvT hZ (hw _ (List.mem_of_getElem? (i := 104) rfl))) (by decide) (backOf (W := 0) (rmcmp l Z a0 hw [] m1 o x y h0 n0 Z0 F_m1_cents F_o_cents) hZ (hw _ (List.mem_of_getElem? (i := 106) rfl)) (hw _ (List.mem_of_getElem? (i := 5) rfl)) (by decide) (by decide)) q50a q50c (g := (mkF m 5 #[.val (.ref a), .val (.ref m1), .unset] [(.ref o), (.ref m1)])) rfl (by rw [hml]; rfl) (Steps.refl _) (argsL := [(.ref o)]) (rest := []) (lenOf pd__Lcom_example_gavelwatch_gavelwatch_model_Money__I rfl) rfl (by show 2 * 0 + _ ≤ _; exact Nat.le_of_eq rfl) (hb hby d14_5) (fun _ _ => ⟨rfl, eh49, (by decide : 0 + 0 ≤ _), (by decide : 0 + 0 ≤ _)⟩)
  dsimp only [Pt.U, Pt.locs, Pt.cells, Pt.slots] at X50 l50 y50 z50 st50 hQ50
  subst l50 y50 z50
  obtain ⟨Nq50, hQ50⟩ := hQ50
  rcases hQ50 with ⟨rfl, eh50, hA50⟩ | ⟨rfl, eh50, hA50, hB50⟩ | ⟨rfl, eh50, hA50, hB50⟩
  · exact absurd hA50 (own_asym hlt)
  · exact absurd (hB50 ▸ hlt) own_irr
  · have N50 := Fr.app N49 Nq50
    refine Gl.back (fun _ k => st50.trans k) ?_
    show Gl _ _ _ _ _ _ _ (T50.setTop (mkF m 8 #[.val (.ref a), .val (.ref m1), .unset] [(.int (1 : Int32))]))
    refine Gl.back (fun _ k => XS.istoreN X50.here hx rfl (hb hby d14_8) rfl (l' := #[.val (.ref a), .val (.ref m1), .val (.int (1 : Int32))]) rfl k) ?_
    show Gl _ _ _ _ _ _ _ (T50.setTop (mkF m 9 #[.val (.ref a), .val (.ref m1), .val (.int (1 : Int32))] []))
    refine Gl.back (fun _ k => XS.aloadN X50.here hx rfl (hb hby d14_9) rfl rfl k) ?_
    show Gl _ _ _ _ _ _ _ (T50.setTop (mkF m 10 #[.val (.ref a), .val (.ref m1), .val (.int (1 : Int32))] [(.ref a)]))
    obtain ⟨cq51, kq51, q51a, q51b, q51c⟩ := isOf hZ eh50 E_a
    obtain ⟨_, _, ⟨T51, L51, k51, n51⟩, -, X51, ⟨Lc51, hQ51, l51, y51, z51⟩, st51⟩ := X50.virtualBack hx (y := (⟨"com/example/gavelwatch/gavelwatch/sim/RunningAuction", "hasBids", "()Z"⟩ : MethodName)) (z := (⟨"com/example/gavelwatch/gavelwatch/sim/RunningAuction", "hasBids", "()Z"⟩ : MethodName)) hown (mvT hZ (hw _ (List.mem_of_getElem? (i := 56) rfl))) (mvT hZ (hw _ (List.mem_of_getElem? (i := 57) rfl))) (notFace_of_selects (args := #[]) (mvT hZ (hw _ (List.mem_of_getElem? (i := 59) rfl)))) (mvT hZ (hw _ (List.mem_of_getElem? (i := 59) rfl))) (mvT hZ (hw _ (List.mem_of_getElem? (i := 58) rfl))) (by decide) (backOf (W := 0) (rmhas1 l Z a0 hw [] a b h0 n0 Z0 F_a_highest) hZ (hw _ (List.mem_of_getElem? (i := 60) rfl)) (hw _ (List.mem_of_getElem? (i := 2) rfl)) (by decide) (by decide)) q51a q51c (g := (mkF m 10 #[.val (.ref a), .val (.ref m1), .val (.int (1 : Int32))] [(.ref a)])) rfl (by rw [hml]; rfl) (Steps.refl _) (argsL := []) (rest := []) (lenOf pd___Z rfl) rfl (by show 2 * 0 + _ ≤ _; exact Nat.le_of_eq rfl) (hb hby d14_10) (fun _ _ => ⟨rfl, eh50, (by decide : 0 + 0 ≤ _), (by decide : 0 + 0 ≤ _)⟩)
    dsimp only [Pt.U, Pt.locs, Pt.cells, Pt.slots] at X51 l51 y51 z51 st51 hQ51
    subst l51 y51 z51
    obtain ⟨Nq51, rfl, eh51⟩ := hQ51
    have N51 := Fr.app N50 Nq51
    refine Gl.back (fun _ k => st51.trans k) ?_
    show Gl _ _ _ _ _ _ _ (T51.setTop (mkF m 13 #[.val (.ref a), .val (.ref m1), .val (.int (1 : Int32))] [(.int (1 : Int32))]))
    refine Gl.back (fun _ k => XS.ifNo X51.here hx rfl (hb hby d14_13) rfl ((if0 _ _).trans (feq (by decide : ¬ (1 : Int32) = (0 : Int32))).1) k) ?_
    show Gl _ _ _ _ _ _ _ (T51.setTop (mkF m 16 #[.val (.ref a), .val (.ref m1), .val (.int (1 : Int32))] []))
    refine Gl.back (fun _ k => XS.iloadN X51.here hx rfl (hb hby d14_16) rfl k) ?_
    show Gl _ _ _ _ _ _ _ (T51.setTop (mkF m 17 #[.val (.ref a), .val (.ref m1), .val (.int (1 : Int32))] [(.int (1 : Int32))]))
    refine Gl.back (fun _ k => XS.ifNo X51.here hx rfl (hb hby d14_17) rfl ((if0 _ _).trans (tlt (by decide : (0 : Int32) < (1 : Int32))).2.2.2) k) ?_
    show Gl _ _ _ _ _ _ _ (T51.setTop (mkF m 20 #[.val (.ref a), .val (.ref m1), .val (.int (1 : Int32))] []))
    refine Gl.back (fun _ k => XS.iconst X51.here hx rfl (hb hby d14_20) k) ?_
    show Gl _ _ _ _ _ _ _ (T51.setTop (mkF m 21 #[.val (.ref a), .val (.ref m1), .val (.int (1 : Int32))] [(.int (1 : Int32))]))
    refine Gl.back (fun _ k => XS.goto X51.here hx rfl (pc0 := 21) (pc' := 37) rfl (hb hby d14_21) (by decide) (by decide) k) ?_
    show Gl _ _ _ _ _ _ _ (T51.setTop (mkF m 37 #[.val (.ref a), .val (.ref m1), .val (.int (1 : Int32))] [(.int (1 : Int32))]))
    exact Gl.ret X51 eh51 (v := (some (.int (1 : Int32)))) (fun h => by rw [Bd.returns] at h; cases h) Bd.notSynchronized (fun fs hr => retN X51 hx (t := .boolean) (z := (1 : Int32)) Bd.returns (by simp) (hb hby d14_37) hr) ⟨N51, rfl, rfl⟩ (by decide) (by decide)
theorem d18_0 : decode jdk_31_method_11_code 0 = .ok (.aload_n 0, 1) := by decide +kernel
theorem d18_1 : decode jdk_31_method_11_code 1 = .ok (.ifnonnull 12, 3) := by decide +kernel
theorem d18_13 : decode jdk_31_method_11_code 13 = .ok (.aload_n 0, 1) := by decide +kernel
theorem d18_14 : decode jdk_31_method_11_code 14 = .ok (.areturn, 1) := by decide +kernel
theorem pn_java_util_Objects : plainName "java/util/Objects" = true := by first | (simp [plainName, overriddenIn]; done) | decide +kernel
theorem ef_rnn (m : MethodId) (x0 : Addr) (x1 : Addr) : entryFrame m #[(.ref x0), (.ref x1)] 2 = mkF m 0 #[.val (.ref x0), .val (.ref x1)] [] := by first | (simp [entryFrame, mkF, argsToLocals, Value.category]; done) | rfl
def Qrnn (Z : State) (a : Addr) (b : Addr) (h0 : Heap) (n0 : Nat) (v : Option Value) (h : Heap) (L : List Loc) : Prop := Fr n0 L ∧ (v = some (.ref a) ∧ h = h0)
set_option maxRecDepth 65536 in
set_option maxHeartbeats 40000000 in
theorem rmrnn (l : Launch) (Z : State) (a0 : Array Value) (hw : ∀ d ∈ tables_1, d.before a0 Z = true) (ws : List Jvm.Cond) (a : Addr) (b : Addr) (h0 : Heap) (n0 : Nat) (Z0 : n0 ≤ h0.size) :
    MetFree l (⟨"java/util/Objects", "requireNonNull", "(Ljava/lang/Object;Ljava/lang/String;)Ljava/lang/Object;"⟩ : MethodName) (head1 (Jvm.Cond.code (⟨"java/util/Objects", "requireNonNull", "(Ljava/lang/Object;Ljava/lang/String;)Ljava/lang/Object;"⟩ : MethodName) jdk_31_method_11_code 2 (some (.object "java/lang/Object")) :: ws) ({ frames := 0, cells := 0, slots := 0, locals := 0 } : Room)) (fun as0 U => as0 = #[(.ref a), (.ref b)] ∧ Z.Warmed39 U.vm ∧ U.heap = h0) (fun _ _ _ _ _ => True) (fun _ U oc0 U' => ∃ v L, oc0 = .returned v ∧ Qrnn Z a b h0 n0 v U'.heap L ∧ FrameEnd U oc0 U' L ({ frames := 0, cells := 0, slots := 0, locals := 0 } : Room).cells ({ frames := 0, cells := 0, slots := 0, locals := 0 } : Room).slots) := by
  refine MetFree.of_bodySF (plainFor_of_name pn_java_util_Objects) hisR ?_
  intro p e s m args below meth c s₁ Bd hml0 hP hK
  obtain ⟨rfl, hZ, hh⟩ := hP
  have hx := Bd.exec
  have hby := Bd.bytes
  have hml : c.maxLocals = 2 := hml0
  have hown : s.vm.findClass "java/util/Objects" = some m.cls := findClass_of_methodNamed Bd.named
  have hnm := (name_of_methodNamed Bd.named Bd.method).1
  have X0 : Stand p l e ({ frames := 0, cells := 0, slots := 0, locals := 0 } : Room) s m #[(.ref a), (.ref b)] below meth c s₁ [] 0 0 := Stand.of_body Bd
  have e0 : s₁.heap = h0 := by rw [← hh, Bd.state]; rfl
  have N0 := Fr.nil n0
  show Gl p e below s (Qrnn Z a b h0 n0) ({ frames := 0, cells := 0, slots := 0, locals := 0 } : Room).cells ({ frames := 0, cells := 0, slots := 0, locals := 0 } : Room).slots (s₁.setTop (entryFrame m #[(.ref a), (.ref b)] 2))
  refine Gl.back (fun _ k => castTop (ef_rnn m a b) k) ?_
  show Gl _ _ _ _ _ _ _ (s₁.setTop (mkF m 0 #[.val (.ref a), .val (.ref b)] []))
  refine Gl.back (fun _ k => XS.aloadN X0.here hx rfl (hb hby d18_0) rfl rfl k) ?_
  show Gl _ _ _ _ _ _ _ (s₁.setTop (mkF m 1 #[.val (.ref a), .val (.ref b)] [(.ref a)]))
  refine Gl.back (fun _ k => XS.ifnonnullYes X0.here hx rfl (pc0 := 1) (pc' := 13) rfl (hb hby d18_1) rfl (by decide) (by decide) k) ?_
  show Gl _ _ _ _ _ _ _ (s₁.setTop (mkF m 13 #[.val (.ref a), .val (.ref b)] []))
  refine Gl.back (fun _ k => XS.aloadN X0.here hx rfl (hb hby d18_13) rfl rfl k) ?_
  show Gl _ _ _ _ _ _ _ (s₁.setTop (mkF m 14 #[.val (.ref a), .val (.ref b)] [(.ref a)]))
  exact Gl.ret X0 e0 (v := (some (.ref a))) (fun h => by rw [Bd.returns] at h; cases h) Bd.notSynchronized (fun fs hr => retOut X0 hx (w := (.ref a)) Bd.returns rfl (Or.inr (Or.inr (Or.inr (Or.inr ⟨rfl, rfl, rfl⟩)))) (hb hby d18_14) hr) ⟨N0, rfl, rfl⟩ (by decide) (by decide)
theorem d17_0 : decode prog_28_method_1_code 0 = .ok (.aload_n 0, 1) := by decide +kernel
theorem d17_1 : decode prog_28_method_1_code 1 = .ok (.invokespecial 1, 3) := by decide +kernel
theorem d17_4 : decode prog_28_method_1_code 4 = .ok (.aload_n 1, 1) := by decide +kernel
theorem d17_5 : decode prog_28_method_1_code 5 = .ok (.ldc 7, 2) := by decide +kernel
theorem d17_7 : decode prog_28_method_1_code 7 = .ok (.invokestatic 9, 3) := by decide +kernel
theorem pd__Ljava_lang_Object_Ljava_lang_String__Ljava_lang_Object_ : parseMethodDescriptor "(Ljava/lang/Object;Ljava/lang/String;)Ljava/lang/Object;" = some ⟨[(.object "java/lang/Object"), (.object "java/lang/String")], some (.object "java/lang/Object")⟩ := by decide +kernel
theorem d17_10 : decode prog_28_method_1_code 10 = .ok (.pop, 1) := by decide +kernel
theorem d17_11 : decode prog_28_method_1_code 11 = .ok (.aload_n 2, 1) := by decide +kernel
theorem d17_12 : decode prog_28_method_1_code 12 = .ok (.ldc 15, 2) := by decide +kernel
theorem d17_14 : decode prog_28_method_1_code 14 = .ok (.invokestatic 9, 3) := by decide +kernel
theorem d17_17 : decode prog_28_method_1_code 17 = .ok (.pop, 1) := by decide +kernel
theorem d17_18 : decode prog_28_method_1_code 18 = .ok (.aload_n 0, 1) := by decide +kernel
theorem d17_19 : decode prog_28_method_1_code 19 = .ok (.aload_n 1, 1) := by decide +kernel
theorem d17_20 : decode prog_28_method_1_code 20 = .ok (.putfield 17, 3) := by decide +kernel
theorem d17_23 : decode prog_28_method_1_code 23 = .ok (.aload_n 0, 1) := by decide +kernel
theorem d17_24 : decode prog_28_method_1_code 24 = .ok (.aload_n 2, 1) := by decide +kernel
theorem d17_25 : decode prog_28_method_1_code 25 = .ok (.putfield 22, 3) := by decide +kernel
theorem d17_28 : decode prog_28_method_1_code 28 = .ok (.aload_n 0, 1) := by decide +kernel
theorem d17_29 : decode prog_28_method_1_code 29 = .ok (.lload_n 3, 1) := by decide +kernel
theorem d17_30 : decode prog_28_method_1_code 30 = .ok (.putfield 25, 3) := by decide +kernel
theorem d17_33 : decode prog_28_method_1_code 33 = .ok (.return_, 1) := by decide +kernel
theorem ef_bidi (m : MethodId) (x0 : Addr) (x1 : Addr) (x2 : Addr) (x3 : Int64) : entryFrame m #[(.ref x0), (.ref x1), (.ref x2), (.long x3)] 5 = mkF m 0 #[.val (.ref x0), .val (.ref x1), .val (.ref x2), .val (.long x3), .second] [] := by first | (simp [entryFrame, mkF, argsToLocals, Value.category]; done) | rfl
def Qbidi (Z : State) (a : Addr) (b1 : Addr) (m1 : Addr) (t1 : Int64) (h0 : Heap) (n0 : Nat) (v : Option Value) (h : Heap) (L : List Loc) : Prop := Fr n0 L ∧ (v = none ∧ Keep h0 h [a] ∧ Fld Z h a "com/example/gavelwatch/gavelwatch/model/Bid" "amount" "Lcom/example/gavelwatch/gavelwatch/model/Money;" (.ref m1))
set_option maxRecDepth 65536 in
set_option maxHeartbeats 40000000 in
theorem rmbidi (l : Launch) (Z : State) (a0 : Array Value) (hw : ∀ d ∈ tables_1, d.before a0 Z = true) (ws : List Jvm.Cond) (a : Addr) (b1 : Addr) (m1 : Addr) (t1 : Int64) (h0 : Heap) (n0 : Nat) (Z0 : n0 ≤ h0.size) (g_a : n0 ≤ a) (E_a : Exa Z h0 a "com/example/gavelwatch/gavelwatch/model/Bid") (F_a_bidder : Fld Z h0 a "com/example/gavelwatch/gavelwatch/model/Bid" "bidder" "Ljava/lang/String;" .null) (F_a_amount : Fld Z h0 a "com/example/gavelwatch/gavelwatch/model/Bid" "amount" "Lcom/example/gavelwatch/gavelwatch/model/Money;" .null) (F_a_time : Fld Z h0 a "com/example/gavelwatch/gavelwatch/model/Bid" "time" "J" (.long (0 : Int64))) :
    MetFree l (⟨"com/example/gavelwatch/gavelwatch/model/Bid", "<init>", "(Ljava/lang/String;Lcom/example/gavelwatch/gavelwatch/model/Money;J)V"⟩ : MethodName) (head1 (Jvm.Cond.code (⟨"com/example/gavelwatch/gavelwatch/model/Bid", "<init>", "(Ljava/lang/String;Lcom/example/gavelwatch/gavelwatch/model/Money;J)V"⟩ : MethodName) prog_28_method_1_code 5 none :: ws) ({ frames := 2, cells := 4, slots := 56, locals := 24 } : Room)) (fun as0 U => as0 = #[(.ref a), (.ref b1), (.ref m1), (.long t1)] ∧ Z.Warmed39 U.vm ∧ U.heap = h0) (fun _ _ _ _ _ => True) (fun _ U oc0 U' => ∃ v L, oc0 = .returned v ∧ Qbidi Z a b1 m1 t1 h0 n0 v U'.heap L ∧ ReturnedEndW U oc0 U' L ({ frames := 2, cells := 4, slots := 56, locals := 24 } : Room).cells ({ frames := 2, cells := 4, slots := 56, locals := 24 } : Room).slots) := by
  refine MetFree.of_bodySF (plainFor_of_name pn_com_example_gavelwatch_gavelwatch_model_Bid) hisR ?_
  intro p e s m args below meth c s₁ Bd hml0 hP hK
  obtain ⟨rfl, hZ, hh⟩ := hP
  have hx := Bd.exec
  have hby := Bd.bytes
  have hml : c.maxLocals = 5 := hml0
  have hown : s.vm.findClass "com/example/gavelwatch/gavelwatch/model/Bid" = some m.cls := findClass_of_methodNamed Bd.named
  have hnm := (name_of_methodNamed Bd.named Bd.method).1
  have X0 : Stand p l e ({ frames := 2, cells := 4, slots := 56, locals := 24 } : Room) (s.setVm s.vm) m #[(.ref a), (.ref b1), (.ref m1), (.long t1)] below meth c s₁ [] 0 0 := Stand.of_body Bd
  have e0 : s₁.heap = h0 := by rw [← hh, Bd.state]; rfl
  have N0 := Fr.nil n0
  have hZ0 : Z.Warmed39 (s.setVm s.vm).vm := hZ
  have hown0 : (s.setVm s.vm).vm.findClass "com/example/gavelwatch/gavelwatch/model/Bid" = some m.cls := hown
  have hS0 : s.Since s.vm 0 := (State.WarmedH.refl s).since 0
  have SK0 : 0 ≤ h0.size := Nat.zero_le _
  show GlW p e below s (Qbidi Z a b1 m1 t1 h0 n0) ({ frames := 2, cells := 4, slots := 56, locals := 24 } : Room).cells ({ frames := 2, cells := 4, slots := 56, locals := 24 } : Room).slots (s₁.setTop (entryFrame m #[(.ref a), (.ref b1), (.ref m1), (.long t1)] 5))
  refine GlW.back (fun _ k => castTop (ef_bidi m a b1 m1 t1) k) ?_
  show GlW _ _ _ _ _ _ _ (s₁.setTop (mkF m 0 #[.val (.ref a), .val (.ref b1), .val (.ref m1), .val (.long t1), .second] []))
  refine GlW.back (fun _ k => XS.aloadN X0.here hx rfl (hb hby d17_0) rfl rfl k) ?_
  show GlW _ _ _ _ _ _ _ (s₁.setTop (mkF m 1 #[.val (.ref a), .val (.ref b1), .val (.ref m1), .val (.long t1), .second] [(.ref a)]))
  obtain ⟨_, _, ⟨T52, L52, k52, n52⟩, -, X52, ⟨Lc52, hQ52, l52, y52, z52⟩, st52⟩ := X0.specialBack hx (y := (⟨"java/lang/Record", "<init>", "()V"⟩ : MethodName)) rfl hown0 (mvT hZ0 (hw _ (List.mem_of_getElem? (i := 117) rfl))) (mvT hZ0 (hw _ (List.mem_of_getElem? (i := 10) rfl))) (mvT hZ0 (hw _ (List.mem_of_getElem? (i := 13) rfl))) (by decide) (backOf (W := 0) (rmrec l Z a0 hw [] a  h0 n0 Z0 ) hZ0 (hw _ (List.mem_of_getElem? (i := 13) rfl)) (hw _ (List.mem_of_getElem? (i := 12) rfl)) (by decide) (by decide)) (g := (mkF m 1 #[.val (.ref a), .val (.ref b1), .val (.ref m1), .val (.long t1), .second] [(.ref a)])) rfl (by rw [hml]; rfl) (Steps.refl _) (a := a) (argsL := []) (rest := []) (lenOf pd___V rfl) rfl (by show 2 * 0 + _ ≤ _; exact Nat.le_of_eq rfl) (hb hby d17_1) (fun _ _ => ⟨rfl, e0, (by decide : 0 + 0 ≤ _), (by decide : 0 + 0 ≤ _)⟩)
  dsimp only [Pt.U, Pt.locs, Pt.cells, Pt.slots] at X52 l52 y52 z52 st52 hQ52
  subst l52 y52 z52
  obtain ⟨Nq52, rfl, eh52⟩ := hQ52
  have N52 := Fr.app N0 Nq52
  refine GlW.back (fun _ k => st52.trans k) ?_
  show GlW _ _ _ _ _ _ _ (T52.setTop (mkF m 4 #[.val (.ref a), .val (.ref b1), .val (.ref m1), .val (.long t1), .second] []))
  refine GlW.back (fun _ k => XS.aloadN X52.here hx rfl (hb hby d17_4) rfl rfl k) ?_
  show GlW _ _ _ _ _ _ _ (T52.setTop (mkF m 5 #[.val (.ref a), .val (.ref b1), .val (.ref m1), .val (.long t1), .second] [(.ref b1)]))
  have wS : ∀ d ∈ Bundle.stringAtoms, d.before a0 Z = true := fun d hd => hw d ((by decide +kernel : ∀ d ∈ Bundle.stringAtoms, d ∈ tables_1) d hd)
  obtain ⟨b53, T53, h53, k153, X53, e53, E53, hS53, SK53, hZ53, hown53, st53⟩ := ldcS X52 hx hZ0 hown0 (hw _ (List.mem_of_getElem? (i := 118) rfl)) wS eh52 hS0 SK0 (g := (mkF m 5 #[.val (.ref a), .val (.ref b1), .val (.ref m1), .val (.long t1), .second] [(.ref b1)])) rfl (hb hby d17_5) (n := 24) (by decide +kernel) (by decide) (by decide) (by decide)
  have Z53 : n0 ≤ h53.size := Nat.le_trans Z0 E53.1
  have K53 := Keep.ext (Keep.refl h0 [a]) E53
  refine GlW.back (fun _ k => st53 _ k) ?_
  show GlW _ _ _ _ _ _ _ (T53.setTop (mkF m 7 #[.val (.ref a), .val (.ref b1), .val (.ref m1), .val (.long t1), .second] [(.ref b53), (.ref b1)]))
  obtain ⟨_, _, ⟨T54, L54, k54, n54⟩, -, X54, ⟨Lc54, hQ54, l54, y54, z54⟩, st54⟩ := Jvm.LawKit.callS X53 hx (y := (⟨"java/util/Objects", "requireNonNull", "(Ljava/lang/Object;Ljava/lang/String;)Ljava/lang/Object;"⟩ : MethodName)) hown53 (mvT hZ53 (hw _ (List.mem_of_getElem? (i := 119) rfl))) (mvT hZ53 (hw _ (List.mem_of_getElem? (i := 120) rfl))) (mvT hZ53 (hw _ (List.mem_of_getElem? (i := 121) rfl))) (mvT hZ53 (hw _ (List.mem_of_getElem? (i := 122) rfl))) (by decide) (backOf (W := 0) (rmrnn l Z a0 hw [] b1 b53  h53 n0 Z53 ) hZ53 (hw _ (List.mem_of_getElem? (i := 122) rfl)) (hw _ (List.mem_of_getElem? (i := 121) rfl)) (by decide) (by decide)) (g := (mkF m 7 #[.val (.ref a), .val (.ref b1), .val (.ref m1), .val (.long t1), .second] [(.ref b53), (.ref b1)])) rfl (by rw [hml]; rfl) (argsL := [(.ref b1), (.ref b53)]) (rest := []) (lenOf pd__Ljava_lang_Object_Ljava_lang_String__Ljava_lang_Object_ rfl) rfl (by show 2 * 0 + _ ≤ _; exact Nat.le_of_eq rfl) (hb hby d17_7) (fun _ _ => ⟨rfl, e53, (by decide : 2 + 0 ≤ _), (by decide : 28 + 0 ≤ _)⟩)
  dsimp only [Pt.U, Pt.locs, Pt.cells, Pt.slots] at X54 l54 y54 z54 st54 hQ54
  subst l54 y54 z54
  obtain ⟨Nq54, rfl, eh54⟩ := hQ54
  have N54 := Fr.app N52 Nq54
  refine GlW.back (fun _ k => st54 _ k) ?_
  show GlW _ _ _ _ _ _ _ (T54.setTop (mkF m 10 #[.val (.ref a), .val (.ref b1), .val (.ref m1), .val (.long t1), .second] [(.ref b1)]))
  refine GlW.back (fun _ k => XS.pop X54.here hx rfl (hb hby d17_10) rfl rfl k) ?_
  show GlW _ _ _ _ _ _ _ (T54.setTop (mkF m 11 #[.val (.ref a), .val (.ref b1), .val (.ref m1), .val (.long t1), .second] []))
  refine GlW.back (fun _ k => XS.aloadN X54.here hx rfl (hb hby d17_11) rfl rfl k) ?_
  show GlW _ _ _ _ _ _ _ (T54.setTop (mkF m 12 #[.val (.ref a), .val (.ref b1), .val (.ref m1), .val (.long t1), .second] [(.ref m1)]))
  have wS : ∀ d ∈ Bundle.stringAtoms, d.before a0 Z = true := fun d hd => hw d ((by decide +kernel : ∀ d ∈ Bundle.stringAtoms, d ∈ tables_1) d hd)
  obtain ⟨b55, T55, h55, k155, X55, e55, E55, hS55, SK55, hZ55, hown55, st55⟩ := ldcS X54 hx hZ53 hown53 (hw _ (List.mem_of_getElem? (i := 123) rfl)) wS eh54 hS53 SK53 (g := (mkF m 12 #[.val (.ref a), .val (.ref b1), .val (.ref m1), .val (.long t1), .second] [(.ref m1)])) rfl (hb hby d17_12) (n := 24) (by decide +kernel) (by decide) (by decide) (by decide)
  have Z55 : n0 ≤ h55.size := Nat.le_trans Z53 E55.1
  have K55 := Keep.ext K53 E55
  refine GlW.back (fun _ k => st55 _ k) ?_
  show GlW _ _ _ _ _ _ _ (T55.setTop (mkF m 14 #[.val (.ref a), .val (.ref b1), .val (.ref m1), .val (.long t1), .second] [(.ref b55), (.ref m1)]))
  obtain ⟨_, _, ⟨T56, L56, k56, n56⟩, -, X56, ⟨Lc56, hQ56, l56, y56, z56⟩, st56⟩ := Jvm.LawKit.callS X55 hx (y := (⟨"java/util/Objects", "requireNonNull", "(Ljava/lang/Object;Ljava/lang/String;)Ljava/lang/Object;"⟩ : MethodName)) hown55 (mvT hZ55 (hw _ (List.mem_of_getElem? (i := 119) rfl))) (mvT hZ55 (hw _ (List.mem_of_getElem? (i := 120) rfl))) (mvT hZ55 (hw _ (List.mem_of_getElem? (i := 121) rfl))) (mvT hZ55 (hw _ (List.mem_of_getElem? (i := 122) rfl))) (by decide) (backOf (W := 0) (rmrnn l Z a0 hw [] m1 b55  h55 n0 Z55 ) hZ55 (hw _ (List.mem_of_getElem? (i := 122) rfl)) (hw _ (List.mem_of_getElem? (i := 121) rfl)) (by decide) (by decide)) (g := (mkF m 14 #[.val (.ref a), .val (.ref b1), .val (.ref m1), .val (.long t1), .second] [(.ref b55), (.ref m1)])) rfl (by rw [hml]; rfl) (argsL := [(.ref m1), (.ref b55)]) (rest := []) (lenOf pd__Ljava_lang_Object_Ljava_lang_String__Ljava_lang_Object_ rfl) rfl (by show 2 * 0 + _ ≤ _; exact Nat.le_of_eq rfl) (hb hby d17_14) (fun _ _ => ⟨rfl, e55, (by decide : 4 + 0 ≤ _), (by decide : 56 + 0 ≤ _)⟩)
  dsimp only [Pt.U, Pt.locs, Pt.cells, Pt.slots] at X56 l56 y56 z56 st56 hQ56
  subst l56 y56 z56
  obtain ⟨Nq56, rfl, eh56⟩ := hQ56
  have N56 := Fr.app N54 Nq56
  refine GlW.back (fun _ k => st56 _ k) ?_
  show GlW _ _ _ _ _ _ _ (T56.setTop (mkF m 17 #[.val (.ref a), .val (.ref b1), .val (.ref m1), .val (.long t1), .second] [(.ref m1)]))
  refine GlW.back (fun _ k => XS.pop X56.here hx rfl (hb hby d17_17) rfl rfl k) ?_
  show GlW _ _ _ _ _ _ _ (T56.setTop (mkF m 18 #[.val (.ref a), .val (.ref b1), .val (.ref m1), .val (.long t1), .second] []))
  refine GlW.back (fun _ k => XS.aloadN X56.here hx rfl (hb hby d17_18) rfl rfl k) ?_
  show GlW _ _ _ _ _ _ _ (T56.setTop (mkF m 19 #[.val (.ref a), .val (.ref b1), .val (.ref m1), .val (.long t1), .second] [(.ref a)]))
  refine GlW.back (fun _ k => XS.aloadN X56.here hx rfl (hb hby d17_19) rfl rfl k) ?_
  show GlW _ _ _ _ _ _ _ (T56.setTop (mkF m 20 #[.val (.ref a), .val (.ref b1), .val (.ref m1), .val (.long t1), .second] [(.ref b1), (.ref a)]))
  have f57 := ((E_a.ext E53).ext E55)
  have f58 := ((F_a_bidder.ext E53).ext E55)
  obtain ⟨T59, h59, X59, e59, W59, st59⟩ := putF X56 hx hZ55 hown55 (host := "") (Or.inl (hw _ (List.mem_of_getElem? (i := 124) rfl))) Via.refl eh56 f58 f57 (Or.inr ⟨(hw _ (List.mem_of_getElem? (i := 125) rfl)), rfl, hnm⟩) (hw _ (List.mem_of_getElem? (i := 112) rfl)) (ty := (.object "java/lang/String")) (by decide) rfl rfl (g := (mkF m 20 #[.val (.ref a), .val (.ref b1), .val (.ref m1), .val (.long t1), .second] [(.ref b1), (.ref a)])) rfl rfl (hb hby d17_20)
  have Fw59 := f58.same W59
  have K59 := Keep.wr K55 W59 (Or.inl (List.mem_of_getElem? (i := 0) rfl))
  have Z59 : n0 ≤ h59.size := Nat.le_trans Z55 (Keep.of_wr W59).1
  have SK59 := Nat.le_trans SK55 (Keep.of_wr W59).1
  have N59 := Fr.snoc X59 N56 g_a
  refine GlW.back (fun _ k => st59 _ k) ?_
  show GlW _ _ _ _ _ _ _ (T59.setTop (mkF m 23 #[.val (.ref a), .val (.ref b1), .val (.ref m1), .val (.long t1), .second] []))
  refine GlW.back (fun _ k => XS.aloadN X59.here hx rfl (hb hby d17_23) rfl rfl k) ?_
  show GlW _ _ _ _ _ _ _ (T59.setTop (mkF m 24 #[.val (.ref a), .val (.ref b1), .val (.ref m1), .val (.long t1), .second] [(.ref a)]))
  refine GlW.back (fun _ k => XS.aloadN X59.here hx rfl (hb hby d17_24) rfl rfl k) ?_
  show GlW _ _ _ _ _ _ _ (T59.setTop (mkF m 25 #[.val (.ref a), .val (.ref b1), .val (.ref m1), .val (.long t1), .second] [(.ref m1), (.ref a)]))
  have f60 := (f57.wr W59)
  have f61 := (((F_a_amount.ext E53).ext E55).other W59 (Or.inr (slot_ne (Or.inr (hw _ (List.mem_of_getElem? (i := 127) rfl))) (Or.inr (hw _ (List.mem_of_getElem? (i := 125) rfl))) (by decide) (t := (.object "com/example/gavelwatch/gavelwatch/model/Money")) (t' := (.object "java/lang/String")) (by decide) (by decide))))
  obtain ⟨T62, h62, X62, e62, W62, st62⟩ := putF X59 hx hZ55 hown55 (host := "") (Or.inl (hw _ (List.mem_of_getElem? (i := 126) rfl))) Via.refl e59 f61 f60 (Or.inr ⟨(hw _ (List.mem_of_getElem? (i := 127) rfl)), rfl, hnm⟩) (hw _ (List.mem_of_getElem? (i := 112) rfl)) (ty := (.object "com/example/gavelwatch/gavelwatch/model/Money")) (by decide) rfl rfl (g := (mkF m 25 #[.val (.ref a), .val (.ref b1), .val (.ref m1), .val (.long t1), .second] [(.ref m1), (.ref a)])) rfl rfl (hb hby d17_25)
  have Fw62 := f61.same W62
  have K62 := Keep.wr K59 W62 (Or.inl (List.mem_of_getElem? (i := 0) rfl))
  have Z62 : n0 ≤ h62.size := Nat.le_trans Z59 (Keep.of_wr W62).1
  have SK62 := Nat.le_trans SK59 (Keep.of_wr W62).1
  have N62 := Fr.snoc X62 N59 g_a
  refine GlW.back (fun _ k => st62 _ k) ?_
  show GlW _ _ _ _ _ _ _ (T62.setTop (mkF m 28 #[.val (.ref a), .val (.ref b1), .val (.ref m1), .val (.long t1), .second] []))
  refine GlW.back (fun _ k => XS.aloadN X62.here hx rfl (hb hby d17_28) rfl rfl k) ?_
  show GlW _ _ _ _ _ _ _ (T62.setTop (mkF m 29 #[.val (.ref a), .val (.ref b1), .val (.ref m1), .val (.long t1), .second] [(.ref a)]))
  refine GlW.back (fun _ k => XS.lloadN X62.here hx rfl (hb hby d17_29) rfl k) ?_
  show GlW _ _ _ _ _ _ _ (T62.setTop (mkF m 30 #[.val (.ref a), .val (.ref b1), .val (.ref m1), .val (.long t1), .second] [(.long t1), (.ref a)]))
  have f63 := (f60.wr W62)
  have f64 := ((((F_a_time.ext E53).ext E55).other W59 (Or.inr (slot_ne (Or.inr (hw _ (List.mem_of_getElem? (i := 129) rfl))) (Or.inr (hw _ (List.mem_of_getElem? (i := 125) rfl))) (by decide) (t := .long) (t' := (.object "java/lang/String")) (by decide) (by decide)))).other W62 (Or.inr (slot_ne (Or.inr (hw _ (List.mem_of_getElem? (i := 129) rfl))) (Or.inr (hw _ (List.mem_of_getElem? (i := 127) rfl))) (by decide) (t := .long) (t' := (.object "com/example/gavelwatch/gavelwatch/model/Money")) (by decide) (by decide))))
  obtain ⟨T65, h65, X65, e65, W65, st65⟩ := putF X62 hx hZ55 hown55 (host := "") (Or.inl (hw _ (List.mem_of_getElem? (i := 128) rfl))) Via.refl e62 f64 f63 (Or.inr ⟨(hw _ (List.mem_of_getElem? (i := 129) rfl)), rfl, hnm⟩) (hw _ (List.mem_of_getElem? (i := 112) rfl)) (ty := .long) (by decide) rfl rfl (g := (mkF m 30 #[.val (.ref a), .val (.ref b1), .val (.ref m1), .val (.long t1), .second] [(.long t1), (.ref a)])) rfl rfl (hb hby d17_30)
  have Fw65 := f64.same W65
  have K65 := Keep.wr K62 W65 (Or.inl (List.mem_of_getElem? (i := 0) rfl))
  have Z65 : n0 ≤ h65.size := Nat.le_trans Z62 (Keep.of_wr W65).1
  have SK65 := Nat.le_trans SK62 (Keep.of_wr W65).1
  have N65 := Fr.snoc X65 N62 g_a
  refine GlW.back (fun _ k => st65 _ k) ?_
  show GlW _ _ _ _ _ _ _ (T65.setTop (mkF m 33 #[.val (.ref a), .val (.ref b1), .val (.ref m1), .val (.long t1), .second] []))
  have f66 := (Fw62.other W65 (Or.inr (slot_ne (Or.inr (hw _ (List.mem_of_getElem? (i := 127) rfl))) (Or.inr (hw _ (List.mem_of_getElem? (i := 129) rfl))) (by decide) (t := (.object "com/example/gavelwatch/gavelwatch/model/Money")) (t' := .long) (by decide) (by decide))))
  exact GlW.ret X65 e65 hS55 SK65 (v := none) (fun _ => rfl) Bd.notSynchronized (fun fs hr => X65.returnOut hx Bd.returns (hb hby d17_33) hr) ⟨N65, rfl, K65, f66⟩ (by decide) (by decide)
theorem d13_0 : decode jdk_2799_method_7_code 0 = .ok (.aload_n 0, 1) := by decide +kernel
theorem d13_1 : decode jdk_2799_method_7_code 1 = .ok (.getfield 44, 3) := by decide +kernel
theorem d13_4 : decode jdk_2799_method_7_code 4 = .ok (.dup2, 1) := by decide +kernel
theorem d13_5 : decode jdk_2799_method_7_code 5 = .ok (.lstore_n 3, 1) := by decide +kernel
theorem d13_6 : decode jdk_2799_method_7_code 6 = .ok (.lconst 1, 1) := by decide +kernel
theorem d13_7 : decode jdk_2799_method_7_code 7 = .ok (.lcmp, 1) := by decide +kernel
theorem d13_8 : decode jdk_2799_method_7_code 8 = .ok (.ifCond .ne 5, 3) := by decide +kernel
theorem d13_13 : decode jdk_2799_method_7_code 13 = .ok (.lload_n 1, 1) := by decide +kernel
theorem d13_14 : decode jdk_2799_method_7_code 14 = .ok (.aload_n 0, 1) := by decide +kernel
theorem d13_15 : decode jdk_2799_method_7_code 15 = .ok (.getfield 52, 3) := by decide +kernel
theorem d13_18 : decode jdk_2799_method_7_code 18 = .ok (.dup2, 1) := by decide +kernel
theorem d13_19 : decode jdk_2799_method_7_code 19 = .ok (.lstore 5, 2) := by decide +kernel
theorem d13_21 : decode jdk_2799_method_7_code 21 = .ok (.lcmp, 1) := by decide +kernel
theorem d13_22 : decode jdk_2799_method_7_code 22 = .ok (.ifCond .le 7, 3) := by decide +kernel
theorem d13_29 : decode jdk_2799_method_7_code 29 = .ok (.lload_n 1, 1) := by decide +kernel
theorem d13_30 : decode jdk_2799_method_7_code 30 = .ok (.lload 5, 2) := by decide +kernel
theorem d13_32 : decode jdk_2799_method_7_code 32 = .ok (.lneg, 1) := by decide +kernel
theorem d13_33 : decode jdk_2799_method_7_code 33 = .ok (.lcmp, 1) := by decide +kernel
theorem d13_34 : decode jdk_2799_method_7_code 34 = .ok (.ifCond .ge 7, 3) := by decide +kernel
theorem d13_41 : decode jdk_2799_method_7_code 41 = .ok (.lload_n 1, 1) := by decide +kernel
theorem d13_42 : decode jdk_2799_method_7_code 42 = .ok (.lload_n 3, 1) := by decide +kernel
theorem d13_43 : decode jdk_2799_method_7_code 43 = .ok (.lmul, 1) := by decide +kernel
theorem d13_44 : decode jdk_2799_method_7_code 44 = .ok (.lreturn, 1) := by decide +kernel
theorem pn_java_util_concurrent_TimeUnit : plainName "java/util/concurrent/TimeUnit" = true := by first | (simp [plainName, overriddenIn]; done) | decide +kernel
theorem ef_nano (m : MethodId) (x0 : Addr) (x1 : Int64) : entryFrame m #[(.ref x0), (.long x1)] 7 = mkF m 0 #[.val (.ref x0), .val (.long x1), .second, .unset, .unset, .unset, .unset] [] := by first | (simp [entryFrame, mkF, argsToLocals, Value.category]; done) | rfl
def Qnano (Z : State) (u : Addr) (t1 : Int64) (h0 : Heap) (n0 : Nat) (v : Option Value) (h : Heap) (L : List Loc) : Prop := Fr n0 L ∧ (∃ r : Int64, v = some (.long r) ∧ h = h0)
set_option maxRecDepth 65536 in
set_option maxHeartbeats 40000000 in
theorem rmnano (l : Launch) (Z : State) (a0 : Array Value) (hw : ∀ d ∈ tables_1, d.before a0 Z = true) (ws : List Jvm.Cond) (u : Addr) (t1 : Int64) (h0 : Heap) (n0 : Nat) (Z0 : n0 ≤ h0.size) (O0 : Old Z n0 h0) (E_u : Exa Z Z.heap u "java/util/concurrent/TimeUnit") (F_u_scale : Fld Z Z.heap u "java/util/concurrent/TimeUnit" "scale" "J" (.long (1000000000 : Int64))) (F_u_maxNanos : Fld Z Z.heap u "java/util/concurrent/TimeUnit" "maxNanos" "J" (.long (9223372036 : Int64))) (hn1 : ¬ (9223372036 : Int64) < t1) (hn2 : ¬ t1 < (-(9223372036 : Int64))) :
    MetFree l (⟨"java/util/concurrent/TimeUnit", "toNanos", "(J)J"⟩ : MethodName) (head1 (Jvm.Cond.code (⟨"java/util/concurrent/TimeUnit", "toNanos", "(J)J"⟩ : MethodName) jdk_2799_method_7_code 7 (some .long) :: ws) ({ frames := 0, cells := 0, slots := 0, locals := 0 } : Room)) (fun as0 U => as0 = #[(.ref u), (.long t1)] ∧ Z.Warmed39 U.vm ∧ U.heap = h0) (fun _ _ _ _ _ => True) (fun _ U oc0 U' => ∃ v L, oc0 = .returned v ∧ Qnano Z u t1 h0 n0 v U'.heap L ∧ FrameEnd U oc0 U' L ({ frames := 0, cells := 0, slots := 0, locals := 0 } : Room).cells ({ frames := 0, cells := 0, slots := 0, locals := 0 } : Room).slots) := by
  refine MetFree.of_bodySF (plainFor_of_name pn_java_util_concurrent_TimeUnit) hisR ?_
  intro p e s m args below meth c s₁ Bd hml0 hP hK
  obtain ⟨rfl, hZ, hh⟩ := hP
  have hx := Bd.exec
  have hby := Bd.bytes
  have hml : c.maxLocals = 7 := hml0
  have hown : s.vm.findClass "java/util/concurrent/TimeUnit" = some m.cls := findClass_of_methodNamed Bd.named
  have hnm := (name_of_methodNamed Bd.named Bd.method).1
  have X0 : Stand p l e ({ frames := 0, cells := 0, slots := 0, locals := 0 } : Room) s m #[(.ref u), (.long t1)] below meth c s₁ [] 0 0 := Stand.of_body Bd
  have e0 : s₁.heap = h0 := by rw [← hh, Bd.state]; rfl
  have N0 := Fr.nil n0
  show Gl p e below s (Qnano Z u t1 h0 n0) ({ frames := 0, cells := 0, slots := 0, locals := 0 } : Room).cells ({ frames := 0, cells := 0, slots := 0, locals := 0 } : Room).slots (s₁.setTop (entryFrame m #[(.ref u), (.long t1)] 7))
  refine Gl.back (fun _ k => castTop (ef_nano m u t1) k) ?_
  show Gl _ _ _ _ _ _ _ (s₁.setTop (mkF m 0 #[.val (.ref u), .val (.long t1), .second, .unset, .unset, .unset, .unset] []))
  refine Gl.back (fun _ k => XS.aloadN X0.here hx rfl (hb hby d13_0) rfl rfl k) ?_
  show Gl _ _ _ _ _ _ _ (s₁.setTop (mkF m 1 #[.val (.ref u), .val (.long t1), .second, .unset, .unset, .unset, .unset] [(.ref u)]))
  obtain ⟨T67, X67, e67, st67⟩ := getF X0 hx hZ hown (host := "") (Or.inl (hw _ (List.mem_of_getElem? (i := 92) rfl))) Via.refl e0 (F_u_scale.ext O0.2) (g := (mkF m 1 #[.val (.ref u), .val (.long t1), .second, .unset, .unset, .unset, .unset] [(.ref u)])) rfl rfl (hb hby d13_1)
  refine Gl.back (fun _ k => st67 _ k) ?_
  show Gl _ _ _ _ _ _ _ (T67.setTop (mkF m 4 #[.val (.ref u), .val (.long t1), .second, .unset, .unset, .unset, .unset] [(.long (1000000000 : Int64))]))
  refine Gl.back (S1 := T67.setTop (mkF m 5 #[.val (.ref u), .val (.long t1), .second, .unset, .unset, .unset, .unset] [(.long (1000000000 : Int64)), (.long (1000000000 : Int64))])) (fun _ k => by jvm_step X67.here [X67.here.top, hx, (hb hby d13_4), Value.category]; exact k) ?_
  show Gl _ _ _ _ _ _ _ (T67.setTop (mkF m 5 #[.val (.ref u), .val (.long t1), .second, .unset, .unset, .unset, .unset] [(.long (1000000000 : Int64)), (.long (1000000000 : Int64))]))
  refine Gl.back (fun _ k => XS.lstoreN X67.here hx rfl (hb hby d13_5) rfl (l' := #[.val (.ref u), .val (.long t1), .second, .val (.long (1000000000 : Int64)), .second, .unset, .unset]) rfl k) ?_
  show Gl _ _ _ _ _ _ _ (T67.setTop (mkF m 6 #[.val (.ref u), .val (.long t1), .second, .val (.long (1000000000 : Int64)), .second, .unset, .unset] [(.long (1000000000 : Int64))]))
  refine Gl.back (fun _ k => XS.lconst X67.here hx rfl (hb hby d13_6) k) ?_
  show Gl _ _ _ _ _ _ _ (T67.setTop (mkF m 7 #[.val (.ref u), .val (.long t1), .second, .val (.long (1000000000 : Int64)), .second, .unset, .unset] [(.long (1 : Int64)), (.long (1000000000 : Int64))]))
  refine Gl.back (fun _ k => XS.lcmp X67.here hx rfl (hb hby d13_7) rfl k) ?_
  show Gl _ _ _ _ _ _ _ (T67.setTop (mkF m 8 #[.val (.ref u), .val (.long t1), .second, .val (.long (1000000000 : Int64)), .second, .unset, .unset] [(.int (lcmpW (1000000000 : Int64) (1 : Int64)))]))
  refine Gl.back (fun _ k => XS.ifYes X67.here hx rfl (pc0 := 8) (pc' := 13) rfl (hb hby d13_8) rfl ((if0 _ _).trans (feq (own_lcEn (by decide : ¬ (1000000000 : Int64) = (1 : Int64)))).2) (by decide) (by decide) k) ?_
  show Gl _ _ _ _ _ _ _ (T67.setTop (mkF m 13 #[.val (.ref u), .val (.long t1), .second, .val (.long (1000000000 : Int64)), .second, .unset, .unset] []))
  refine Gl.back (fun _ k => XS.lloadN X67.here hx rfl (hb hby d13_13) rfl k) ?_
  show Gl _ _ _ _ _ _ _ (T67.setTop (mkF m 14 #[.val (.ref u), .val (.long t1), .second, .val (.long (1000000000 : Int64)), .second, .unset, .unset] [(.long t1)]))
  refine Gl.back (fun _ k => XS.aloadN X67.here hx rfl (hb hby d13_14) rfl rfl k) ?_
  show Gl _ _ _ _ _ _ _ (T67.setTop (mkF m 15 #[.val (.ref u), .val (.long t1), .second, .val (.long (1000000000 : Int64)), .second, .unset, .unset] [(.ref u), (.long t1)]))
  obtain ⟨T68, X68, e68, st68⟩ := getF X67 hx hZ hown (host := "") (Or.inl (hw _ (List.mem_of_getElem? (i := 94) rfl))) Via.refl e67 (F_u_maxNanos.ext O0.2) (g := (mkF m 15 #[.val (.ref u), .val (.long t1), .second, .val (.long (1000000000 : Int64)), .second, .unset, .unset] [(.ref u), (.long t1)])) rfl rfl (hb hby d13_15)
  refine Gl.back (fun _ k => st68 _ k) ?_
  show Gl _ _ _ _ _ _ _ (T68.setTop (mkF m 18 #[.val (.ref u), .val (.long t1), .second, .val (.long (1000000000 : Int64)), .second, .unset, .unset] [(.long (9223372036 : Int64)), (.long t1)]))
  refine Gl.back (S1 := T68.setTop (mkF m 19 #[.val (.ref u), .val (.long t1), .second, .val (.long (1000000000 : Int64)), .second, .unset, .unset] [(.long (9223372036 : Int64)), (.long (9223372036 : Int64)), (.long t1)])) (fun _ k => by jvm_step X68.here [X68.here.top, hx, (hb hby d13_18), Value.category]; exact k) ?_
  show Gl _ _ _ _ _ _ _ (T68.setTop (mkF m 19 #[.val (.ref u), .val (.long t1), .second, .val (.long (1000000000 : Int64)), .second, .unset, .unset] [(.long (9223372036 : Int64)), (.long (9223372036 : Int64)), (.long t1)]))
  refine Gl.back (fun _ k => XS.lstore X68.here hx rfl (hb hby d13_19) rfl (l' := #[.val (.ref u), .val (.long t1), .second, .val (.long (1000000000 : Int64)), .second, .val (.long (9223372036 : Int64)), .second]) rfl k) ?_
  show Gl _ _ _ _ _ _ _ (T68.setTop (mkF m 21 #[.val (.ref u), .val (.long t1), .second, .val (.long (1000000000 : Int64)), .second, .val (.long (9223372036 : Int64)), .second] [(.long (9223372036 : Int64)), (.long t1)]))
  refine Gl.back (fun _ k => XS.lcmp X68.here hx rfl (hb hby d13_21) rfl k) ?_
  show Gl _ _ _ _ _ _ _ (T68.setTop (mkF m 22 #[.val (.ref u), .val (.long t1), .second, .val (.long (1000000000 : Int64)), .second, .val (.long (9223372036 : Int64)), .second] [(.int (lcmpW t1 (9223372036 : Int64)))]))
  refine Gl.back (fun _ k => XS.ifYes X68.here hx rfl (pc0 := 22) (pc' := 29) rfl (hb hby d13_22) rfl ((if0 _ _).trans (flt (own_lcGn (hn1 : ¬ (9223372036 : Int64) < t1))).2.2.2) (by decide) (by decide) k) ?_
  show Gl _ _ _ _ _ _ _ (T68.setTop (mkF m 29 #[.val (.ref u), .val (.long t1), .second, .val (.long (1000000000 : Int64)), .second, .val (.long (9223372036 : Int64)), .second] []))
  refine Gl.back (fun _ k => XS.lloadN X68.here hx rfl (hb hby d13_29) rfl k) ?_
  show Gl _ _ _ _ _ _ _ (T68.setTop (mkF m 30 #[.val (.ref u), .val (.long t1), .second, .val (.long (1000000000 : Int64)), .second, .val (.long (9223372036 : Int64)), .second] [(.long t1)]))
  refine Gl.back (fun _ k => XS.lload X68.here hx rfl (hb hby d13_30) rfl k) ?_
  show Gl _ _ _ _ _ _ _ (T68.setTop (mkF m 32 #[.val (.ref u), .val (.long t1), .second, .val (.long (1000000000 : Int64)), .second, .val (.long (9223372036 : Int64)), .second] [(.long (9223372036 : Int64)), (.long t1)]))
  refine Gl.back (fun _ k => XS.lneg X68.here hx rfl (hb hby d13_32) rfl k) ?_
  show Gl _ _ _ _ _ _ _ (T68.setTop (mkF m 33 #[.val (.ref u), .val (.long t1), .second, .val (.long (1000000000 : Int64)), .second, .val (.long (9223372036 : Int64)), .second] [(.long (-(9223372036 : Int64))), (.long t1)]))
  refine Gl.back (fun _ k => XS.lcmp X68.here hx rfl (hb hby d13_33) rfl k) ?_
  show Gl _ _ _ _ _ _ _ (T68.setTop (mkF m 34 #[.val (.ref u), .val (.long t1), .second, .val (.long (1000000000 : Int64)), .second, .val (.long (9223372036 : Int64)), .second] [(.int (lcmpW t1 (-(9223372036 : Int64))))]))
  refine Gl.back (fun _ k => XS.ifYes X68.here hx rfl (pc0 := 34) (pc' := 41) rfl (hb hby d13_34) rfl ((if0 _ _).trans (flt (own_lcLn (hn2 : ¬ t1 < (-(9223372036 : Int64))))).2.1) (by decide) (by decide) k) ?_
  show Gl _ _ _ _ _ _ _ (T68.setTop (mkF m 41 #[.val (.ref u), .val (.long t1), .second, .val (.long (1000000000 : Int64)), .second, .val (.long (9223372036 : Int64)), .second] []))
  refine Gl.back (fun _ k => XS.lloadN X68.here hx rfl (hb hby d13_41) rfl k) ?_
  show Gl _ _ _ _ _ _ _ (T68.setTop (mkF m 42 #[.val (.ref u), .val (.long t1), .second, .val (.long (1000000000 : Int64)), .second, .val (.long (9223372036 : Int64)), .second] [(.long t1)]))
  refine Gl.back (fun _ k => XS.lloadN X68.here hx rfl (hb hby d13_42) rfl k) ?_
  show Gl _ _ _ _ _ _ _ (T68.setTop (mkF m 43 #[.val (.ref u), .val (.long t1), .second, .val (.long (1000000000 : Int64)), .second, .val (.long (9223372036 : Int64)), .second] [(.long (1000000000 : Int64)), (.long t1)]))
  refine Gl.back (fun _ k => XS.lmul X68.here hx rfl (hb hby d13_43) rfl k) ?_
  show Gl _ _ _ _ _ _ _ (T68.setTop (mkF m 44 #[.val (.ref u), .val (.long t1), .second, .val (.long (1000000000 : Int64)), .second, .val (.long (9223372036 : Int64)), .second] [(.long (t1 * (1000000000 : Int64)))]))
  exact Gl.ret X68 e68 (v := (some (.long (t1 * (1000000000 : Int64))))) (fun h => by rw [Bd.returns] at h; cases h) Bd.notSynchronized (fun fs hr => retOut X68 hx (w := (.long (t1 * (1000000000 : Int64)))) Bd.returns rfl (Or.inr (Or.inl ⟨rfl, rfl, _, rfl⟩)) (hb hby d13_44) hr) ⟨N0, _, rfl, rfl⟩ (by decide) (by decide)
theorem d23_0 : decode jdk_29_method_65_code 0 = .ok (.iload_n 0, 1) := by decide +kernel
theorem d23_1 : decode jdk_29_method_65_code 1 = .ok (.iload_n 1, 1) := by decide +kernel
theorem d23_2 : decode jdk_29_method_65_code 2 = .ok (.if_icmp .lt 7, 3) := by decide +kernel
theorem d23_5 : decode jdk_29_method_65_code 5 = .ok (.iload_n 0, 1) := by decide +kernel
theorem d23_6 : decode jdk_29_method_65_code 6 = .ok (.goto 4, 3) := by decide +kernel
theorem d23_10 : decode jdk_29_method_65_code 10 = .ok (.ireturn, 1) := by decide +kernel
theorem ef_maxI (m : MethodId)  : entryFrame m #[(.int (10 : Int32)), (.int (1 : Int32))] 2 = mkF m 0 #[.val (.int (10 : Int32)), .val (.int (1 : Int32))] [] := by first | (simp [entryFrame, mkF, argsToLocals, Value.category]; done) | rfl
def QmaxI (Z : State)  (h0 : Heap) (n0 : Nat) (v : Option Value) (h : Heap) (L : List Loc) : Prop := Fr n0 L ∧ (v = some (.int 10) ∧ h = h0)
set_option maxRecDepth 65536 in
set_option maxHeartbeats 40000000 in
theorem rmmaxI (l : Launch) (Z : State) (a0 : Array Value) (hw : ∀ d ∈ tables_1, d.before a0 Z = true) (ws : List Jvm.Cond)  (h0 : Heap) (n0 : Nat) (Z0 : n0 ≤ h0.size) :
    MetFree l (⟨"java/lang/Math", "max", "(II)I"⟩ : MethodName) (head1 (Jvm.Cond.code (⟨"java/lang/Math", "max", "(II)I"⟩ : MethodName) jdk_29_method_65_code 2 (some .int) :: ws) ({ frames := 0, cells := 0, slots := 0, locals := 0 } : Room)) (fun as0 U => as0 = #[(.int (10 : Int32)), (.int (1 : Int32))] ∧ Z.Warmed39 U.vm ∧ U.heap = h0) (fun _ _ _ _ _ => True) (fun _ U oc0 U' => ∃ v L, oc0 = .returned v ∧ QmaxI Z  h0 n0 v U'.heap L ∧ FrameEnd U oc0 U' L ({ frames := 0, cells := 0, slots := 0, locals := 0 } : Room).cells ({ frames := 0, cells := 0, slots := 0, locals := 0 } : Room).slots) := by
  refine MetFree.of_bodySF (Jvm.Free.JP.mathPlain rfl (by decide +kernel)) hisR ?_
  intro p e s m args below meth c s₁ Bd hml0 hP hK
  obtain ⟨rfl, hZ, hh⟩ := hP
  have hx := Bd.exec
  have hby := Bd.bytes
  have hml : c.maxLocals = 2 := hml0
  have hown : s.vm.findClass "java/lang/Math" = some m.cls := findClass_of_methodNamed Bd.named
  have hnm := (name_of_methodNamed Bd.named Bd.method).1
  have X0 : Stand p l e ({ frames := 0, cells := 0, slots := 0, locals := 0 } : Room) s m #[(.int (10 : Int32)), (.int (1 : Int32))] below meth c s₁ [] 0 0 := Stand.of_body Bd
  have e0 : s₁.heap = h0 := by rw [← hh, Bd.state]; rfl
  have N0 := Fr.nil n0
  show Gl p e below s (QmaxI Z  h0 n0) ({ frames := 0, cells := 0, slots := 0, locals := 0 } : Room).cells ({ frames := 0, cells := 0, slots := 0, locals := 0 } : Room).slots (s₁.setTop (entryFrame m #[(.int (10 : Int32)), (.int (1 : Int32))] 2))
  refine Gl.back (fun _ k => castTop (ef_maxI m ) k) ?_
  show Gl _ _ _ _ _ _ _ (s₁.setTop (mkF m 0 #[.val (.int (10 : Int32)), .val (.int (1 : Int32))] []))
  refine Gl.back (fun _ k => XS.iloadN X0.here hx rfl (hb hby d23_0) rfl k) ?_
  show Gl _ _ _ _ _ _ _ (s₁.setTop (mkF m 1 #[.val (.int (10 : Int32)), .val (.int (1 : Int32))] [(.int (10 : Int32))]))
  refine Gl.back (fun _ k => XS.iloadN X0.here hx rfl (hb hby d23_1) rfl k) ?_
  show Gl _ _ _ _ _ _ _ (s₁.setTop (mkF m 2 #[.val (.int (10 : Int32)), .val (.int (1 : Int32))] [(.int (1 : Int32)), (.int (10 : Int32))]))
  refine Gl.back (fun _ k => XS.icmpNo X0.here hx rfl (hb hby d23_2) rfl (flt (by decide : ¬ (10 : Int32) < (1 : Int32))).1 k) ?_
  show Gl _ _ _ _ _ _ _ (s₁.setTop (mkF m 5 #[.val (.int (10 : Int32)), .val (.int (1 : Int32))] []))
  refine Gl.back (fun _ k => XS.iloadN X0.here hx rfl (hb hby d23_5) rfl k) ?_
  show Gl _ _ _ _ _ _ _ (s₁.setTop (mkF m 6 #[.val (.int (10 : Int32)), .val (.int (1 : Int32))] [(.int (10 : Int32))]))
  refine Gl.back (fun _ k => XS.goto X0.here hx rfl (pc0 := 6) (pc' := 10) rfl (hb hby d23_6) (by decide) (by decide) k) ?_
  show Gl _ _ _ _ _ _ _ (s₁.setTop (mkF m 10 #[.val (.int (10 : Int32)), .val (.int (1 : Int32))] [(.int (10 : Int32))]))
  exact Gl.ret X0 e0 (v := (some (.int (10 : Int32)))) (fun h => by rw [Bd.returns] at h; cases h) Bd.notSynchronized (fun fs hr => retOut X0 hx (w := (.int (10 : Int32))) Bd.returns rfl (Or.inl ⟨rfl, Or.inl rfl, _, rfl⟩) (hb hby d23_10) hr) ⟨N0, rfl, rfl⟩ (by decide) (by decide)
theorem d22_0 : decode jdk_38_method_6_code 0 = .ok (.aload_n 0, 1) := by decide +kernel
theorem d22_1 : decode jdk_38_method_6_code 1 = .ok (.getfield 9, 3) := by decide +kernel
theorem d22_4 : decode jdk_38_method_6_code 4 = .ok (.arraylength, 1) := by decide +kernel
theorem d22_5 : decode jdk_38_method_6_code 5 = .ok (.istore_n 2, 1) := by decide +kernel
theorem d22_6 : decode jdk_38_method_6_code 6 = .ok (.iload_n 2, 1) := by decide +kernel
theorem d22_7 : decode jdk_38_method_6_code 7 = .ok (.ifCond .gt 13, 3) := by decide +kernel
theorem d22_10 : decode jdk_38_method_6_code 10 = .ok (.aload_n 0, 1) := by decide +kernel
theorem d22_11 : decode jdk_38_method_6_code 11 = .ok (.getfield 9, 3) := by decide +kernel
theorem d22_14 : decode jdk_38_method_6_code 14 = .ok (.getstatic 39, 3) := by decide +kernel
theorem d22_17 : decode jdk_38_method_6_code 17 = .ok (.if_acmp .eq 28, 3) := by decide +kernel
theorem d22_45 : decode jdk_38_method_6_code 45 = .ok (.aload_n 0, 1) := by decide +kernel
theorem d22_46 : decode jdk_38_method_6_code 46 = .ok (.bipush 10, 2) := by decide +kernel
theorem d22_48 : decode jdk_38_method_6_code 48 = .ok (.iload_n 1, 1) := by decide +kernel
theorem d22_49 : decode jdk_38_method_6_code 49 = .ok (.invokestatic 79, 3) := by decide +kernel
theorem pd__II_I : parseMethodDescriptor "(II)I" = some ⟨[.int, .int], some .int⟩ := by decide +kernel
theorem d22_52 : decode jdk_38_method_6_code 52 = .ok (.anewarray 7, 3) := by decide +kernel
theorem d22_55 : decode jdk_38_method_6_code 55 = .ok (.dup_x1, 1) := by decide +kernel
theorem d22_56 : decode jdk_38_method_6_code 56 = .ok (.putfield 9, 3) := by decide +kernel
theorem d22_59 : decode jdk_38_method_6_code 59 = .ok (.areturn, 1) := by decide +kernel
theorem ef_growI (m : MethodId) (x0 : Addr) : entryFrame m #[(.ref x0), (.int (1 : Int32))] 4 = mkF m 0 #[.val (.ref x0), .val (.int (1 : Int32)), .unset, .unset] [] := by first | (simp [entryFrame, mkF, argsToLocals, Value.category]; done) | rfl
def QgrowI (Z : State) (a : Addr) (wD : Addr) (kD : ClassId) (mc : Int32) (h0 : Heap) (n0 : Nat) (v : Option Value) (h : Heap) (L : List Loc) : Prop := Fr n0 L ∧ (∃ (t : Addr) (k : ClassId), v = some (.ref t) ∧ Keep h0 h [a] ∧ h0.size ≤ t ∧ n0 ≤ t ∧ Fld Z h a "java/util/ArrayList" "elementData" "[Ljava/lang/Object;" (.ref t) ∧ Fld Z h a "java/util/ArrayList" "size" "I" (.int (0 : Int32)) ∧ Fld Z h a "java/util/AbstractList" "modCount" "I" (.int mc) ∧ Arv Z h t k (.object "java/lang/Object") (10 : Int32) [.null, .null, .null, .null, .null, .null, .null, .null, .null, .null] .null ∧ Ovr Z k "java/lang/Object")
set_option maxRecDepth 65536 in
set_option maxHeartbeats 40000000 in
theorem rmgrowI (l : Launch) (Z : State) (a0 : Array Value) (hw : ∀ d ∈ tables_1, d.before a0 Z = true) (ws : List Jvm.Cond) (a : Addr) (wD : Addr) (kD : ClassId) (mc : Int32) (h0 : Heap) (n0 : Nat) (Z0 : n0 ≤ h0.size) (O0 : Old Z n0 h0) (g_a : n0 ≤ a) (E_a : Exa Z h0 a "java/util/ArrayList") (F_a_modCount : Fld Z h0 a "java/util/AbstractList" "modCount" "I" (.int mc)) (F_a_elementData : Fld Z h0 a "java/util/ArrayList" "elementData" "[Ljava/lang/Object;" (.ref wD)) (F_a_size : Fld Z h0 a "java/util/ArrayList" "size" "I" (.int (0 : Int32))) (S_DEFAULTCAPACITY_EMPTY_ELEMENTDATA : Sta Z Z.heap "java/util/ArrayList" "DEFAULTCAPACITY_EMPTY_ELEMENTDATA" "[Ljava/lang/Object;" (.ref wD)) (V_wD : Arv Z Z.heap wD kD (.object "java/lang/Object") (0 : Int32) [] .null) :
    MetFree l (⟨"java/util/ArrayList", "grow", "(I)[Ljava/lang/Object;"⟩ : MethodName) (head1 (Jvm.Cond.code (⟨"java/util/ArrayList", "grow", "(I)[Ljava/lang/Object;"⟩ : MethodName) jdk_38_method_6_code 4 (some (.array (.object "java/lang/Object"))) :: ws) ({ frames := 1, cells := 1, slots := 10, locals := 14 } : Room)) (fun as0 U => as0 = #[(.ref a), (.int (1 : Int32))] ∧ Z.Warmed39 U.vm ∧ U.heap = h0) (fun _ _ _ _ _ => True) (fun _ U oc0 U' => ∃ v L, oc0 = .returned v ∧ QgrowI Z a wD kD mc h0 n0 v U'.heap L ∧ FrameEnd U oc0 U' L ({ frames := 1, cells := 1, slots := 10, locals := 14 } : Room).cells ({ frames := 1, cells := 1, slots := 10, locals := 14 } : Room).slots) := by
  refine MetFree.of_bodySF (plainFor_of_name pn_java_util_ArrayList) hisR ?_
  intro p e s m args below meth c s₁ Bd hml0 hP hK
  obtain ⟨rfl, hZ, hh⟩ := hP
  have hx := Bd.exec
  have hby := Bd.bytes
  have hml : c.maxLocals = 4 := hml0
  have hown : s.vm.findClass "java/util/ArrayList" = some m.cls := findClass_of_methodNamed Bd.named
  have hnm := (name_of_methodNamed Bd.named Bd.method).1
  have X0 : Stand p l e ({ frames := 1, cells := 1, slots := 10, locals := 14 } : Room) s m #[(.ref a), (.int (1 : Int32))] below meth c s₁ [] 0 0 := Stand.of_body Bd
  have e0 : s₁.heap = h0 := by rw [← hh, Bd.state]; rfl
  have N0 := Fr.nil n0
  show Gl p e below s (QgrowI Z a wD kD mc h0 n0) ({ frames := 1, cells := 1, slots := 10, locals := 14 } : Room).cells ({ frames := 1, cells := 1, slots := 10, locals := 14 } : Room).slots (s₁.setTop (entryFrame m #[(.ref a), (.int (1 : Int32))] 4))
  refine Gl.back (fun _ k => castTop (ef_growI m a) k) ?_
  show Gl _ _ _ _ _ _ _ (s₁.setTop (mkF m 0 #[.val (.ref a), .val (.int (1 : Int32)), .unset, .unset] []))
  refine Gl.back (fun _ k => XS.aloadN X0.here hx rfl (hb hby d22_0) rfl rfl k) ?_
  show Gl _ _ _ _ _ _ _ (s₁.setTop (mkF m 1 #[.val (.ref a), .val (.int (1 : Int32)), .unset, .unset] [(.ref a)]))
  obtain ⟨T69, X69, e69, st69⟩ := getF X0 hx hZ hown (host := "") (Or.inl (hw _ (List.mem_of_getElem? (i := 45) rfl))) Via.refl e0 F_a_elementData (g := (mkF m 1 #[.val (.ref a), .val (.int (1 : Int32)), .unset, .unset] [(.ref a)])) rfl rfl (hb hby d22_1)
  refine Gl.back (fun _ k => st69 _ k) ?_
  show Gl _ _ _ _ _ _ _ (T69.setTop (mkF m 4 #[.val (.ref a), .val (.int (1 : Int32)), .unset, .unset] [(.ref wD)]))
  obtain ⟨cl70, Ar70, -, Sz70, Nn70, -, -⟩ := id (V_wD.ext O0.2)
  refine Gl.back (fun _ k => X69.arraylength hx (by rw [e69]; exact Ar70.1) (State.isArrayOf_alike hZ.alike Ar70.2.1) (g := (mkF m 4 #[.val (.ref a), .val (.int (1 : Int32)), .unset, .unset] [(.ref wD)])) rfl rfl (hb hby d22_4) _ k) ?_
  rw [len_of Sz70 Nn70]
  show Gl _ _ _ _ _ _ _ (T69.setTop (mkF m 5 #[.val (.ref a), .val (.int (1 : Int32)), .unset, .unset] [(.int (0 : Int32))]))
  refine Gl.back (fun _ k => XS.istoreN X69.here hx rfl (hb hby d22_5) rfl (l' := #[.val (.ref a), .val (.int (1 : Int32)), .val (.int (0 : Int32)), .unset]) rfl k) ?_
  show Gl _ _ _ _ _ _ _ (T69.setTop (mkF m 6 #[.val (.ref a), .val (.int (1 : Int32)), .val (.int (0 : Int32)), .unset] []))
  refine Gl.back (fun _ k => XS.iloadN X69.here hx rfl (hb hby d22_6) rfl k) ?_
  show Gl _ _ _ _ _ _ _ (T69.setTop (mkF m 7 #[.val (.ref a), .val (.int (1 : Int32)), .val (.int (0 : Int32)), .unset] [(.int (0 : Int32))]))
  refine Gl.back (fun _ k => XS.ifNo X69.here hx rfl (hb hby d22_7) rfl ((if0 _ _).trans (flt (by decide : ¬ (0 : Int32) < (0 : Int32))).2.2.1) k) ?_
  show Gl _ _ _ _ _ _ _ (T69.setTop (mkF m 10 #[.val (.ref a), .val (.int (1 : Int32)), .val (.int (0 : Int32)), .unset] []))
  refine Gl.back (fun _ k => XS.aloadN X69.here hx rfl (hb hby d22_10) rfl rfl k) ?_
  show Gl _ _ _ _ _ _ _ (T69.setTop (mkF m 11 #[.val (.ref a), .val (.int (1 : Int32)), .val (.int (0 : Int32)), .unset] [(.ref a)]))
  obtain ⟨T71, X71, e71, st71⟩ := getF X69 hx hZ hown (host := "") (Or.inl (hw _ (List.mem_of_getElem? (i := 45) rfl))) Via.refl e69 F_a_elementData (g := (mkF m 11 #[.val (.ref a), .val (.int (1 : Int32)), .val (.int (0 : Int32)), .unset] [(.ref a)])) rfl rfl (hb hby d22_11)
  refine Gl.back (fun _ k => st71 _ k) ?_
  show Gl _ _ _ _ _ _ _ (T71.setTop (mkF m 14 #[.val (.ref a), .val (.int (1 : Int32)), .val (.int (0 : Int32)), .unset] [(.ref wD)]))
  obtain ⟨T72, X72, e72, st72⟩ := getS2 X71 hx hZ hown (host := "") (Or.inl (hw _ (List.mem_of_getElem? (i := 44) rfl))) Via.refl e71 (S_DEFAULTCAPACITY_EMPTY_ELEMENTDATA.ext O0.2) (g := (mkF m 14 #[.val (.ref a), .val (.int (1 : Int32)), .val (.int (0 : Int32)), .unset] [(.ref wD)])) rfl (hb hby d22_14)
  refine Gl.back (fun _ k => st72 _ k) ?_
  show Gl _ _ _ _ _ _ _ (T72.setTop (mkF m 17 #[.val (.ref a), .val (.int (1 : Int32)), .val (.int (0 : Int32)), .unset] [(.ref wD), (.ref wD)]))
  refine Gl.back (fun _ k => Jvm.RoadKit.acmp (g := (mkF m 17 #[.val (.ref a), .val (.int (1 : Int32)), .val (.int (0 : Int32)), .unset] [(.ref wD), (.ref wD)])) X72 hx rfl rfl rfl (pc0 := 17) (pc' := 45) (same := true) rfl (hb hby d22_17) rfl (decide_eq_true rfl) (by decide) (by decide) k) ?_
  show Gl _ _ _ _ _ _ _ (T72.setTop (mkF m 45 #[.val (.ref a), .val (.int (1 : Int32)), .val (.int (0 : Int32)), .unset] []))
  refine Gl.back (fun _ k => XS.aloadN X72.here hx rfl (hb hby d22_45) rfl rfl k) ?_
  show Gl _ _ _ _ _ _ _ (T72.setTop (mkF m 46 #[.val (.ref a), .val (.int (1 : Int32)), .val (.int (0 : Int32)), .unset] [(.ref a)]))
  refine Gl.back (fun _ k => XS.bipush X72.here hx rfl (hb hby d22_46) k) ?_
  show Gl _ _ _ _ _ _ _ (T72.setTop (mkF m 48 #[.val (.ref a), .val (.int (1 : Int32)), .val (.int (0 : Int32)), .unset] [(.int (10 : Int32)), (.ref a)]))
  refine Gl.back (fun _ k => XS.iloadN X72.here hx rfl (hb hby d22_48) rfl k) ?_
  show Gl _ _ _ _ _ _ _ (T72.setTop (mkF m 49 #[.val (.ref a), .val (.int (1 : Int32)), .val (.int (0 : Int32)), .unset] [(.int (1 : Int32)), (.int (10 : Int32)), (.ref a)]))
  obtain ⟨_, _, ⟨T73, L73, k73, n73⟩, -, X73, ⟨Lc73, hQ73, l73, y73, z73⟩, st73⟩ := Jvm.LawKit.callS X72 hx (y := (⟨"java/lang/Math", "max", "(II)I"⟩ : MethodName)) hown (mvT hZ (hw _ (List.mem_of_getElem? (i := 158) rfl))) (mvT hZ (hw _ (List.mem_of_getElem? (i := 159) rfl))) (mvT hZ (hw _ (List.mem_of_getElem? (i := 70) rfl))) (mvT hZ (hw _ (List.mem_of_getElem? (i := 160) rfl))) (by decide) (backOf (W := 1) (rmmaxI l Z a0 hw []   h0 n0 Z0 ) hZ (hw _ (List.mem_of_getElem? (i := 160) rfl)) (hw _ (List.mem_of_getElem? (i := 70) rfl)) (by decide) (by decide)) (g := (mkF m 49 #[.val (.ref a), .val (.int (1 : Int32)), .val (.int (0 : Int32)), .unset] [(.int (1 : Int32)), (.int (10 : Int32)), (.ref a)])) rfl (by rw [hml]; rfl) (argsL := [(.int (10 : Int32)), (.int (1 : Int32))]) (rest := [(.ref a)]) (lenOf pd__II_I rfl) rfl (by show 2 * 0 + _ ≤ _; exact Nat.le_of_eq rfl) (hb hby d22_49) (fun _ _ => ⟨rfl, e72, (by decide : 0 + 0 ≤ _), (by decide : 0 + 0 ≤ _)⟩)
  dsimp only [Pt.U, Pt.locs, Pt.cells, Pt.slots] at X73 l73 y73 z73 st73 hQ73
  subst l73 y73 z73
  obtain ⟨Nq73, rfl, eh73⟩ := hQ73
  have N73 := Fr.app N0 Nq73
  refine Gl.back (fun _ k => st73 _ k) ?_
  show Gl _ _ _ _ _ _ _ (T73.setTop (mkF m 52 #[.val (.ref a), .val (.int (1 : Int32)), .val (.int (0 : Int32)), .unset] [(.int (10 : Int32)), (.ref a)]))
  obtain ⟨T74, h74, k74, X74, e74, E74, A74, Ov74, st74⟩ := newR X73 hx hZ hown (hw _ (List.mem_of_getElem? (i := 161) rfl)) (hw _ (List.mem_of_getElem? (i := 162) rfl)) eh73 (g := (mkF m 52 #[.val (.ref a), .val (.int (1 : Int32)), .val (.int (0 : Int32)), .unset] [(.int (10 : Int32)), (.ref a)])) rfl (hb hby d22_52) rfl (by decide) (cap := 10) (by decide) (by decide) (by decide) (by decide)
  obtain ⟨b74, g74⟩ : ∃ z, z = h0.size := ⟨_, rfl⟩
  rw [← g74] at A74 st74
  have V74 : Arv Z h74 b74 k74 (.object "java/lang/Object") (10 : Int32) [.null, .null, .null, .null, .null, .null, .null, .null, .null, .null] .null := (Arv.new A74 (by decide)).pad (pad_rep [] .null 10)
  have ne_a_b74 : a ≠ b74 := Nat.ne_of_lt (Nat.lt_of_lt_of_le E_a.lt (Nat.le_of_eq g74.symm))
  have g_b74 : n0 ≤ b74 := Nat.le_trans Z0 (Nat.le_of_eq g74.symm)
  have sz_b74 : h0.size ≤ b74 := Nat.le_trans (Keep.refl h0 [a]).1 (Nat.le_of_eq g74.symm)
  have Z74 : n0 ≤ h74.size := Nat.le_trans Z0 E74.1
  have K74 := Keep.ext (Keep.refl h0 [a]) E74
  have O74 := Old.ext O0 E74
  refine Gl.back (fun _ k => st74 _ k) ?_
  show Gl _ _ _ _ _ _ _ (T74.setTop (mkF m 55 #[.val (.ref a), .val (.int (1 : Int32)), .val (.int (0 : Int32)), .unset] [(.ref b74), (.ref a)]))
  refine Gl.back (fun _ k => XS.dupX1 X74.here hx rfl (hb hby d22_55) rfl rfl rfl k) ?_
  show Gl _ _ _ _ _ _ _ (T74.setTop (mkF m 56 #[.val (.ref a), .val (.int (1 : Int32)), .val (.int (0 : Int32)), .unset] [(.ref b74), (.ref a), (.ref b74)]))
  have f75 := (E_a.ext E74)
  have f76 := (F_a_elementData.ext E74)
  obtain ⟨T77, h77, X77, e77, W77, st77⟩ := putF X74 hx hZ hown (host := "") (Or.inl (hw _ (List.mem_of_getElem? (i := 45) rfl))) Via.refl e74 f76 f75 (Or.inl (hw _ (List.mem_of_getElem? (i := 46) rfl))) (hw _ (List.mem_of_getElem? (i := 24) rfl)) (ty := (.array (.object "java/lang/Object"))) (by decide) rfl rfl (g := (mkF m 56 #[.val (.ref a), .val (.int (1 : Int32)), .val (.int (0 : Int32)), .unset] [(.ref b74), (.ref a), (.ref b74)])) rfl rfl (hb hby d22_56)
  have Fw77 := f76.same W77
  have K77 := Keep.wr K74 W77 (Or.inl (List.mem_of_getElem? (i := 0) rfl))
  have O77 := Old.wr O74 W77 g_a
  have Z77 : n0 ≤ h77.size := Nat.le_trans Z74 (Keep.of_wr W77).1
  have N77 := Fr.snoc X77 N73 g_a
  refine Gl.back (fun _ k => st77 _ k) ?_
  show Gl _ _ _ _ _ _ _ (T77.setTop (mkF m 59 #[.val (.ref a), .val (.int (1 : Int32)), .val (.int (0 : Int32)), .unset] [(.ref b74)]))
  have f78 := ((F_a_size.ext E74).other W77 (Or.inr (slot_ne (Or.inl (hw _ (List.mem_of_getElem? (i := 142) rfl))) (Or.inl (hw _ (List.mem_of_getElem? (i := 46) rfl))) (by decide) (t := .int) (t' := (.array (.object "java/lang/Object"))) (by decide) (by decide))))
  have f79 := ((F_a_modCount.ext E74).other W77 (Or.inr (slot_ne (Or.inl (hw _ (List.mem_of_getElem? (i := 43) rfl))) (Or.inl (hw _ (List.mem_of_getElem? (i := 46) rfl))) (by decide) (t := .int) (t' := (.array (.object "java/lang/Object"))) (by decide) (by decide))))
  have f80 := (V74.other W77 (Ne.symm ne_a_b74))
  exact Gl.ret X77 e77 (v := (some (.ref b74))) (fun h => by rw [Bd.returns] at h; cases h) Bd.notSynchronized (fun fs hr => retOut X77 hx (w := (.ref b74)) Bd.returns rfl (Or.inr (Or.inr (Or.inr (Or.inr ⟨rfl, rfl, rfl⟩)))) (hb hby d22_59) hr) ⟨N77, b74, k74, rfl, K77, sz_b74, g_b74, Fw77, f78, f79, f80, Ov74⟩ (by decide) (by decide)
theorem d21_0 : decode jdk_38_method_7_code 0 = .ok (.aload_n 0, 1) := by decide +kernel
theorem d21_1 : decode jdk_38_method_7_code 1 = .ok (.aload_n 0, 1) := by decide +kernel
theorem d21_2 : decode jdk_38_method_7_code 2 = .ok (.getfield 48, 3) := by decide +kernel
theorem d21_5 : decode jdk_38_method_7_code 5 = .ok (.iconst 1, 1) := by decide +kernel
theorem d21_6 : decode jdk_38_method_7_code 6 = .ok (.iadd, 1) := by decide +kernel
theorem d21_7 : decode jdk_38_method_7_code 7 = .ok (.invokevirtual 69, 3) := by decide +kernel
theorem pd__I__Ljava_lang_Object_ : parseMethodDescriptor "(I)[Ljava/lang/Object;" = some ⟨[.int], some (.array (.object "java/lang/Object"))⟩ := by decide +kernel
theorem d21_10 : decode jdk_38_method_7_code 10 = .ok (.areturn, 1) := by decide +kernel
theorem ef_grow0 (m : MethodId) (x0 : Addr) : entryFrame m #[(.ref x0)] 1 = mkF m 0 #[.val (.ref x0)] [] := by first | (simp [entryFrame, mkF, argsToLocals, Value.category]; done) | rfl
def Qgrow0 (Z : State) (a : Addr) (wD : Addr) (kD : ClassId) (mc : Int32) (h0 : Heap) (n0 : Nat) (v : Option Value) (h : Heap) (L : List Loc) : Prop := Fr n0 L ∧ (∃ (t : Addr) (k : ClassId), v = some (.ref t) ∧ Keep h0 h [a] ∧ h0.size ≤ t ∧ n0 ≤ t ∧ Fld Z h a "java/util/ArrayList" "elementData" "[Ljava/lang/Object;" (.ref t) ∧ Fld Z h a "java/util/ArrayList" "size" "I" (.int (0 : Int32)) ∧ Fld Z h a "java/util/AbstractList" "modCount" "I" (.int mc) ∧ Arv Z h t k (.object "java/lang/Object") (10 : Int32) [.null, .null, .null, .null, .null, .null, .null, .null, .null, .null] .null ∧ Ovr Z k "java/lang/Object")
set_option maxRecDepth 65536 in
set_option maxHeartbeats 40000000 in
theorem rmgrow0 (l : Launch) (Z : State) (a0 : Array Value) (hw : ∀ d ∈ tables_1, d.before a0 Z = true) (ws : List Jvm.Cond) (a : Addr) (wD : Addr) (kD : ClassId) (mc : Int32) (h0 : Heap) (n0 : Nat) (Z0 : n0 ≤ h0.size) (O0 : Old Z n0 h0) (g_a : n0 ≤ a) (E_a : Exa Z h0 a "java/util/ArrayList") (F_a_modCount : Fld Z h0 a "java/util/AbstractList" "modCount" "I" (.int mc)) (F_a_elementData : Fld Z h0 a "java/util/ArrayList" "elementData" "[Ljava/lang/Object;" (.ref wD)) (F_a_size : Fld Z h0 a "java/util/ArrayList" "size" "I" (.int (0 : Int32))) (S_DEFAULTCAPACITY_EMPTY_ELEMENTDATA : Sta Z Z.heap "java/util/ArrayList" "DEFAULTCAPACITY_EMPTY_ELEMENTDATA" "[Ljava/lang/Object;" (.ref wD)) (V_wD : Arv Z Z.heap wD kD (.object "java/lang/Object") (0 : Int32) [] .null) :
    MetFree l (⟨"java/util/ArrayList", "grow", "()[Ljava/lang/Object;"⟩ : MethodName) (head1 (Jvm.Cond.code (⟨"java/util/ArrayList", "grow", "()[Ljava/lang/Object;"⟩ : MethodName) jdk_38_method_7_code 1 (some (.array (.object "java/lang/Object"))) :: ws) ({ frames := 2, cells := 1, slots := 10, locals := 29 } : Room)) (fun as0 U => as0 = #[(.ref a)] ∧ Z.Warmed39 U.vm ∧ U.heap = h0) (fun _ _ _ _ _ => True) (fun _ U oc0 U' => ∃ v L, oc0 = .returned v ∧ Qgrow0 Z a wD kD mc h0 n0 v U'.heap L ∧ FrameEnd U oc0 U' L ({ frames := 2, cells := 1, slots := 10, locals := 29 } : Room).cells ({ frames := 2, cells := 1, slots := 10, locals := 29 } : Room).slots) := by
  refine MetFree.of_bodySF (plainFor_of_name pn_java_util_ArrayList) hisR ?_
  intro p e s m args below meth c s₁ Bd hml0 hP hK
  obtain ⟨rfl, hZ, hh⟩ := hP
  have hx := Bd.exec
  have hby := Bd.bytes
  have hml : c.maxLocals = 1 := hml0
  have hown : s.vm.findClass "java/util/ArrayList" = some m.cls := findClass_of_methodNamed Bd.named
  have hnm := (name_of_methodNamed Bd.named Bd.method).1
  have X0 : Stand p l e ({ frames := 2, cells := 1, slots := 10, locals := 29 } : Room) s m #[(.ref a)] below meth c s₁ [] 0 0 := Stand.of_body Bd
  have e0 : s₁.heap = h0 := by rw [← hh, Bd.state]; rfl
  have N0 := Fr.nil n0
  show Gl p e below s (Qgrow0 Z a wD kD mc h0 n0) ({ frames := 2, cells := 1, slots := 10, locals := 29 } : Room).cells ({ frames := 2, cells := 1, slots := 10, locals := 29 } : Room).slots (s₁.setTop (entryFrame m #[(.ref a)] 1))
  refine Gl.back (fun _ k => castTop (ef_grow0 m a) k) ?_
  show Gl _ _ _ _ _ _ _ (s₁.setTop (mkF m 0 #[.val (.ref a)] []))
  refine Gl.back (fun _ k => XS.aloadN X0.here hx rfl (hb hby d21_0) rfl rfl k) ?_
  show Gl _ _ _ _ _ _ _ (s₁.setTop (mkF m 1 #[.val (.ref a)] [(.ref a)]))
  refine Gl.back (fun _ k => XS.aloadN X0.here hx rfl (hb hby d21_1) rfl rfl k) ?_
  show Gl _ _ _ _ _ _ _ (s₁.setTop (mkF m 2 #[.val (.ref a)] [(.ref a), (.ref a)]))
  obtain ⟨T81, X81, e81, st81⟩ := getF X0 hx hZ hown (host := "") (Or.inl (hw _ (List.mem_of_getElem? (i := 141) rfl))) Via.refl e0 F_a_size (g := (mkF m 2 #[.val (.ref a)] [(.ref a), (.ref a)])) rfl rfl (hb hby d21_2)
  refine Gl.back (fun _ k => st81 _ k) ?_
  show Gl _ _ _ _ _ _ _ (T81.setTop (mkF m 5 #[.val (.ref a)] [(.int (0 : Int32)), (.ref a)]))
  refine Gl.back (fun _ k => XS.iconst X81.here hx rfl (hb hby d21_5) k) ?_
  show Gl _ _ _ _ _ _ _ (T81.setTop (mkF m 6 #[.val (.ref a)] [(.int (1 : Int32)), (.int (0 : Int32)), (.ref a)]))
  refine Gl.back (fun _ k => XS.iadd X81.here hx rfl (hb hby d21_6) rfl k) ?_
  show Gl _ _ _ _ _ _ _ (T81.setTop (mkF m 7 #[.val (.ref a)] [(.int (1 : Int32)), (.ref a)]))
  obtain ⟨cq82, q82, q82'⟩ := E_a.cell
  obtain ⟨_, _, ⟨T82, L82, k82, n82⟩, -, X82, ⟨Lc82, hQ82, l82, y82, z82⟩, st82⟩ := X81.privateBack hx (y := (⟨"java/util/ArrayList", "grow", "(I)[Ljava/lang/Object;"⟩ : MethodName)) hown (mvT hZ (hw _ (List.mem_of_getElem? (i := 153) rfl))) (mvT hZ (hw _ (List.mem_of_getElem? (i := 154) rfl))) (mvT hZ (hw _ (List.mem_of_getElem? (i := 156) rfl))) (Cond.privateMethod_at (mvP hZ (hw _ (List.mem_of_getElem? (i := 155) rfl)) (args := #[]))) (mvT hZ (hw _ (List.mem_of_getElem? (i := 157) rfl))) (by decide) (backOf (W := 0) (rmgrowI l Z a0 hw [] a wD kD mc h0 n0 Z0 O0 g_a E_a F_a_modCount F_a_elementData F_a_size S_DEFAULTCAPACITY_EMPTY_ELEMENTDATA V_wD) hZ (hw _ (List.mem_of_getElem? (i := 157) rfl)) (hw _ (List.mem_of_getElem? (i := 25) rfl)) (by decide) (by decide)) (g := (mkF m 7 #[.val (.ref a)] [(.int (1 : Int32)), (.ref a)])) rfl (by rw [hml]; rfl) (Steps.refl _) (a := a) (by rw [e81]; exact q82) q82' (argsL := [(.int (1 : Int32))]) (rest := []) (lenOf pd__I__Ljava_lang_Object_ rfl) rfl (by show 2 * 0 + _ ≤ _; exact Nat.le_of_eq rfl) (hb hby d21_7) (fun _ _ => ⟨rfl, e81, (by decide : 0 + 1 ≤ _), (by decide : 0 + 10 ≤ _)⟩)
  dsimp only [Pt.U, Pt.locs, Pt.cells, Pt.slots] at X82 l82 y82 z82 st82 hQ82
  subst l82 y82 z82
  obtain ⟨Nq82, t82, k082, rfl, Kq82, Sz82, Gz82, Fe82, Fs82, Fm82, V82, Ov82⟩ := hQ82
  have N82 := Fr.app N0 Nq82
  have Kc82 := Keep.trans (Keep.refl h0 [a]) Kq82 (allS (Or.inl (List.mem_of_getElem? (i := 0) rfl)) all0)
  have Zc82 : n0 ≤ T82.heap.size := Nat.le_trans Z0 Kq82.1
  have Oc82 := Old.keep O0 Kq82 (allS g_a all0)
  have ne_a_t82 : a ≠ t82 := Nat.ne_of_lt (Nat.lt_of_lt_of_le (E_a).lt Sz82)
  have sz_t82 : h0.size ≤ t82 := Nat.le_trans (Keep.refl h0 [a]).1 Sz82
  refine Gl.back (fun _ k => st82.trans k) ?_
  show Gl _ _ _ _ _ _ _ (T82.setTop (mkF m 10 #[.val (.ref a)] [(.ref t82)]))
  exact Gl.ret X82 rfl (v := (some (.ref t82))) (fun h => by rw [Bd.returns] at h; cases h) Bd.notSynchronized (fun fs hr => retOut X82 hx (w := (.ref t82)) Bd.returns rfl (Or.inr (Or.inr (Or.inr (Or.inr ⟨rfl, rfl, rfl⟩)))) (hb hby d21_10) hr) ⟨N82, t82, k082, rfl, Kc82, sz_t82, Gz82, Fe82, Fs82, Fm82, V82, Ov82⟩ (by decide) (by decide)
theorem d20_0 : decode jdk_38_method_24_code 0 = .ok (.iload_n 3, 1) := by decide +kernel
theorem d20_1 : decode jdk_38_method_24_code 1 = .ok (.aload_n 2, 1) := by decide +kernel
theorem d20_2 : decode jdk_38_method_24_code 2 = .ok (.arraylength, 1) := by decide +kernel
theorem d20_3 : decode jdk_38_method_24_code 3 = .ok (.if_icmp .ne 8, 3) := by decide +kernel
theorem d20_6 : decode jdk_38_method_24_code 6 = .ok (.aload_n 0, 1) := by decide +kernel
theorem d20_7 : decode jdk_38_method_24_code 7 = .ok (.invokevirtual 129, 3) := by decide +kernel
theorem pd____Ljava_lang_Object_ : parseMethodDescriptor "()[Ljava/lang/Object;" = some ⟨[], some (.array (.object "java/lang/Object"))⟩ := by decide +kernel
theorem d20_10 : decode jdk_38_method_24_code 10 = .ok (.astore_n 2, 1) := by decide +kernel
theorem d20_11 : decode jdk_38_method_24_code 11 = .ok (.aload_n 2, 1) := by decide +kernel
theorem d20_12 : decode jdk_38_method_24_code 12 = .ok (.iload_n 3, 1) := by decide +kernel
theorem d20_13 : decode jdk_38_method_24_code 13 = .ok (.aload_n 1, 1) := by decide +kernel
theorem d20_14 : decode jdk_38_method_24_code 14 = .ok (.aastore, 1) := by decide +kernel
theorem d20_15 : decode jdk_38_method_24_code 15 = .ok (.aload_n 0, 1) := by decide +kernel
theorem d20_16 : decode jdk_38_method_24_code 16 = .ok (.iload_n 3, 1) := by decide +kernel
theorem d20_17 : decode jdk_38_method_24_code 17 = .ok (.iconst 1, 1) := by decide +kernel
theorem d20_18 : decode jdk_38_method_24_code 18 = .ok (.iadd, 1) := by decide +kernel
theorem d20_19 : decode jdk_38_method_24_code 19 = .ok (.putfield 48, 3) := by decide +kernel
theorem d20_22 : decode jdk_38_method_24_code 22 = .ok (.return_, 1) := by decide +kernel
theorem ef_add30 (m : MethodId) (x0 : Addr) (x1 : Addr) (x2 : Addr) : entryFrame m #[(.ref x0), (.ref x1), (.ref x2), (.int (0 : Int32))] 4 = mkF m 0 #[.val (.ref x0), .val (.ref x1), .val (.ref x2), .val (.int (0 : Int32))] [] := by first | (simp [entryFrame, mkF, argsToLocals, Value.category]; done) | rfl
def Qadd30 (Z : State) (a : Addr) (b : Addr) (wD : Addr) (kD : ClassId) (mc : Int32) (h0 : Heap) (n0 : Nat) (v : Option Value) (h : Heap) (L : List Loc) : Prop := Fr n0 L ∧ (∃ (t : Addr) (k : ClassId), v = none ∧ Keep h0 h [a] ∧ h0.size ≤ t ∧ n0 ≤ t ∧ Fld Z h a "java/util/ArrayList" "elementData" "[Ljava/lang/Object;" (.ref t) ∧ Fld Z h a "java/util/ArrayList" "size" "I" (.int (1 : Int32)) ∧ Fld Z h a "java/util/AbstractList" "modCount" "I" (.int mc) ∧ Arv Z h t k (.object "java/lang/Object") (10 : Int32) [(.ref b), .null, .null, .null, .null, .null, .null, .null, .null, .null] .null ∧ Ovr Z k "java/lang/Object")
set_option maxRecDepth 65536 in
set_option maxHeartbeats 40000000 in
theorem rmadd30 (l : Launch) (Z : State) (a0 : Array Value) (hw : ∀ d ∈ tables_1, d.before a0 Z = true) (ws : List Jvm.Cond) (a : Addr) (b : Addr) (wD : Addr) (kD : ClassId) (mc : Int32) (h0 : Heap) (n0 : Nat) (Z0 : n0 ≤ h0.size) (O0 : Old Z n0 h0) (g_a : n0 ≤ a) (E_a : Exa Z h0 a "java/util/ArrayList") (F_a_modCount : Fld Z h0 a "java/util/AbstractList" "modCount" "I" (.int mc)) (F_a_elementData : Fld Z h0 a "java/util/ArrayList" "elementData" "[Ljava/lang/Object;" (.ref wD)) (F_a_size : Fld Z h0 a "java/util/ArrayList" "size" "I" (.int (0 : Int32))) (S_DEFAULTCAPACITY_EMPTY_ELEMENTDATA : Sta Z Z.heap "java/util/ArrayList" "DEFAULTCAPACITY_EMPTY_ELEMENTDATA" "[Ljava/lang/Object;" (.ref wD)) (V_wD : Arv Z Z.heap wD kD (.object "java/lang/Object") (0 : Int32) [] .null) (E_b : Exa Z h0 b "com/example/gavelwatch/gavelwatch/model/Bid") (hab : a ≠ b) :
    MetFree l (⟨"java/util/ArrayList", "add", "(Ljava/lang/Object;[Ljava/lang/Object;I)V"⟩ : MethodName) (head1 (Jvm.Cond.code (⟨"java/util/ArrayList", "add", "(Ljava/lang/Object;[Ljava/lang/Object;I)V"⟩ : MethodName) jdk_38_method_24_code 4 none :: ws) ({ frames := 3, cells := 1, slots := 10, locals := 41 } : Room)) (fun as0 U => as0 = #[(.ref a), (.ref b), (.ref wD), (.int (0 : Int32))] ∧ Z.Warmed39 U.vm ∧ U.heap = h0) (fun _ _ _ _ _ => True) (fun _ U oc0 U' => ∃ v L, oc0 = .returned v ∧ Qadd30 Z a b wD kD mc h0 n0 v U'.heap L ∧ FrameEnd U oc0 U' L ({ frames := 3, cells := 1, slots := 10, locals := 41 } : Room).cells ({ frames := 3, cells := 1, slots := 10, locals := 41 } : Room).slots) := by
  refine MetFree.of_bodySF (plainFor_of_name pn_java_util_ArrayList) hisR ?_
  intro p e s m args below meth c s₁ Bd hml0 hP hK
  obtain ⟨rfl, hZ, hh⟩ := hP
  have hx := Bd.exec
  have hby := Bd.bytes
  have hml : c.maxLocals = 4 := hml0
  have hown : s.vm.findClass "java/util/ArrayList" = some m.cls := findClass_of_methodNamed Bd.named
  have hnm := (name_of_methodNamed Bd.named Bd.method).1
  have X0 : Stand p l e ({ frames := 3, cells := 1, slots := 10, locals := 41 } : Room) s m #[(.ref a), (.ref b), (.ref wD), (.int (0 : Int32))] below meth c s₁ [] 0 0 := Stand.of_body Bd
  have e0 : s₁.heap = h0 := by rw [← hh, Bd.state]; rfl
  have N0 := Fr.nil n0
  show Gl p e below s (Qadd30 Z a b wD kD mc h0 n0) ({ frames := 3, cells := 1, slots := 10, locals := 41 } : Room).cells ({ frames := 3, cells := 1, slots := 10, locals := 41 } : Room).slots (s₁.setTop (entryFrame m #[(.ref a), (.ref b), (.ref wD), (.int (0 : Int32))] 4))
  refine Gl.back (fun _ k => castTop (ef_add30 m a b wD) k) ?_
  show Gl _ _ _ _ _ _ _ (s₁.setTop (mkF m 0 #[.val (.ref a), .val (.ref b), .val (.ref wD), .val (.int (0 : Int32))] []))
  refine Gl.back (fun _ k => XS.iloadN X0.here hx rfl (hb hby d20_0) rfl k) ?_
  show Gl _ _ _ _ _ _ _ (s₁.setTop (mkF m 1 #[.val (.ref a), .val (.ref b), .val (.ref wD), .val (.int (0 : Int32))] [(.int (0 : Int32))]))
  refine Gl.back (fun _ k => XS.aloadN X0.here hx rfl (hb hby d20_1) rfl rfl k) ?_
  show Gl _ _ _ _ _ _ _ (s₁.setTop (mkF m 2 #[.val (.ref a), .val (.ref b), .val (.ref wD), .val (.int (0 : Int32))] [(.ref wD), (.int (0 : Int32))]))
  obtain ⟨cl83, Ar83, -, Sz83, Nn83, -, -⟩ := id (V_wD.ext O0.2)
  refine Gl.back (fun _ k => X0.arraylength hx (by rw [e0]; exact Ar83.1) (State.isArrayOf_alike hZ.alike Ar83.2.1) (g := (mkF m 2 #[.val (.ref a), .val (.ref b), .val (.ref wD), .val (.int (0 : Int32))] [(.ref wD), (.int (0 : Int32))])) rfl rfl (hb hby d20_2) _ k) ?_
  rw [len_of Sz83 Nn83]
  show Gl _ _ _ _ _ _ _ (s₁.setTop (mkF m 3 #[.val (.ref a), .val (.ref b), .val (.ref wD), .val (.int (0 : Int32))] [(.int (0 : Int32)), (.int (0 : Int32))]))
  refine Gl.back (fun _ k => XS.icmpNo X0.here hx rfl (hb hby d20_3) rfl (teq (by decide : (0 : Int32) = (0 : Int32))).2 k) ?_
  show Gl _ _ _ _ _ _ _ (s₁.setTop (mkF m 6 #[.val (.ref a), .val (.ref b), .val (.ref wD), .val (.int (0 : Int32))] []))
  refine Gl.back (fun _ k => XS.aloadN X0.here hx rfl (hb hby d20_6) rfl rfl k) ?_
  show Gl _ _ _ _ _ _ _ (s₁.setTop (mkF m 7 #[.val (.ref a), .val (.ref b), .val (.ref wD), .val (.int (0 : Int32))] [(.ref a)]))
  obtain ⟨cq84, q84, q84'⟩ := E_a.cell
  obtain ⟨_, _, ⟨T84, L84, k84, n84⟩, -, X84, ⟨Lc84, hQ84, l84, y84, z84⟩, st84⟩ := X0.privateBack hx (y := (⟨"java/util/ArrayList", "grow", "()[Ljava/lang/Object;"⟩ : MethodName)) hown (mvT hZ (hw _ (List.mem_of_getElem? (i := 148) rfl))) (mvT hZ (hw _ (List.mem_of_getElem? (i := 149) rfl))) (mvT hZ (hw _ (List.mem_of_getElem? (i := 151) rfl))) (Cond.privateMethod_at (mvP hZ (hw _ (List.mem_of_getElem? (i := 150) rfl)) (args := #[]))) (mvT hZ (hw _ (List.mem_of_getElem? (i := 152) rfl))) (by decide) (backOf (W := 0) (rmgrow0 l Z a0 hw [] a wD kD mc h0 n0 Z0 O0 g_a E_a F_a_modCount F_a_elementData F_a_size S_DEFAULTCAPACITY_EMPTY_ELEMENTDATA V_wD) hZ (hw _ (List.mem_of_getElem? (i := 152) rfl)) (hw _ (List.mem_of_getElem? (i := 25) rfl)) (by decide) (by decide)) (g := (mkF m 7 #[.val (.ref a), .val (.ref b), .val (.ref wD), .val (.int (0 : Int32))] [(.ref a)])) rfl (by rw [hml]; rfl) (Steps.refl _) (a := a) (by rw [e0]; exact q84) q84' (argsL := []) (rest := []) (lenOf pd____Ljava_lang_Object_ rfl) rfl (by show 2 * 0 + _ ≤ _; exact Nat.le_of_eq rfl) (hb hby d20_7) (fun _ _ => ⟨rfl, e0, (by decide : 0 + 1 ≤ _), (by decide : 0 + 10 ≤ _)⟩)
  dsimp only [Pt.U, Pt.locs, Pt.cells, Pt.slots] at X84 l84 y84 z84 st84 hQ84
  subst l84 y84 z84
  obtain ⟨Nq84, t84, k084, rfl, Kq84, Sz84, Gz84, Fe84, Fs84, Fm84, V84, Ov84⟩ := hQ84
  have N84 := Fr.app N0 Nq84
  have Kc84 := Keep.trans (Keep.refl h0 [a]) Kq84 (allS (Or.inl (List.mem_of_getElem? (i := 0) rfl)) all0)
  have Zc84 : n0 ≤ T84.heap.size := Nat.le_trans Z0 Kq84.1
  have Oc84 := Old.keep O0 Kq84 (allS g_a all0)
  have ne_a_t84 : a ≠ t84 := Nat.ne_of_lt (Nat.lt_of_lt_of_le (E_a).lt Sz84)
  have ne_b_t84 : b ≠ t84 := Nat.ne_of_lt (Nat.lt_of_lt_of_le (E_b).lt Sz84)
  have sz_t84 : h0.size ≤ t84 := Nat.le_trans (Keep.refl h0 [a]).1 Sz84
  refine Gl.back (fun _ k => st84.trans k) ?_
  show Gl _ _ _ _ _ _ _ (T84.setTop (mkF m 10 #[.val (.ref a), .val (.ref b), .val (.ref wD), .val (.int (0 : Int32))] [(.ref t84)]))
  refine Gl.back (fun _ k => XS.astoreN X84.here hx rfl (hb hby d20_10) rfl rfl (l' := #[.val (.ref a), .val (.ref b), .val (.ref t84), .val (.int (0 : Int32))]) rfl k) ?_
  show Gl _ _ _ _ _ _ _ (T84.setTop (mkF m 11 #[.val (.ref a), .val (.ref b), .val (.ref t84), .val (.int (0 : Int32))] []))
  refine Gl.back (fun _ k => XS.aloadN X84.here hx rfl (hb hby d20_11) rfl rfl k) ?_
  show Gl _ _ _ _ _ _ _ (T84.setTop (mkF m 12 #[.val (.ref a), .val (.ref b), .val (.ref t84), .val (.int (0 : Int32))] [(.ref t84)]))
  refine Gl.back (fun _ k => XS.iloadN X84.here hx rfl (hb hby d20_12) rfl k) ?_
  show Gl _ _ _ _ _ _ _ (T84.setTop (mkF m 13 #[.val (.ref a), .val (.ref b), .val (.ref t84), .val (.int (0 : Int32))] [(.int (0 : Int32)), (.ref t84)]))
  refine Gl.back (fun _ k => XS.aloadN X84.here hx rfl (hb hby d20_13) rfl rfl k) ?_
  show Gl _ _ _ _ _ _ _ (T84.setTop (mkF m 14 #[.val (.ref a), .val (.ref b), .val (.ref t84), .val (.int (0 : Int32))] [(.ref b), (.int (0 : Int32)), (.ref t84)]))
  obtain ⟨cl85, Ar85, q85, Sz85, Nn85, Hs85, Gf85⟩ := id V84
  have hin85 : ¬ ((0 : Int32) < 0 ∨ cl85.slots.size ≤ ((0 : Int32)).toNatClampNeg) := inb_of Sz85 ⟨by decide, by decide⟩
  have f86 := (E_b.keep Kq84)
  obtain ⟨T87, h87, X87, e87, W87, st87⟩ := stR X84 hx hZ rfl Ar85 (j := (0 : Int32)) hin85 rfl (Sto.ofV Ar85 q85 Ov84 (Ins.of_exa f86 (hw _ (List.mem_of_getElem? (i := 163) rfl)))) (g := (mkF m 14 #[.val (.ref a), .val (.ref b), .val (.ref t84), .val (.int (0 : Int32))] [(.ref b), (.int (0 : Int32)), (.ref t84)])) rfl rfl (hb hby d20_14)
  have V87 := Arv.set Ar85 q85 Sz85 Nn85 Hs85 Gf85 rfl W87 0 rfl (Nat.le_of_ble_eq_true rfl)
  replace V87 : Arv Z h87 t84 k084 (.object "java/lang/Object") (10 : Int32) [(.ref b), .null, .null, .null, .null, .null, .null, .null, .null, .null] .null := V87
  have K87 := Keep.wr Kc84 W87 (Or.inr sz_t84)
  have O87 := Old.wr Oc84 W87 Gz84
  have Z87 : n0 ≤ h87.size := Nat.le_trans Zc84 (Keep.of_wr W87).1
  have N87 := Fr.snoc X87 N84 Gz84
  refine Gl.back (fun _ k => st87 _ k) ?_
  show Gl _ _ _ _ _ _ _ (T87.setTop (mkF m 15 #[.val (.ref a), .val (.ref b), .val (.ref t84), .val (.int (0 : Int32))] []))
  refine Gl.back (fun _ k => XS.aloadN X87.here hx rfl (hb hby d20_15) rfl rfl k) ?_
  show Gl _ _ _ _ _ _ _ (T87.setTop (mkF m 16 #[.val (.ref a), .val (.ref b), .val (.ref t84), .val (.int (0 : Int32))] [(.ref a)]))
  refine Gl.back (fun _ k => XS.iloadN X87.here hx rfl (hb hby d20_16) rfl k) ?_
  show Gl _ _ _ _ _ _ _ (T87.setTop (mkF m 17 #[.val (.ref a), .val (.ref b), .val (.ref t84), .val (.int (0 : Int32))] [(.int (0 : Int32)), (.ref a)]))
  refine Gl.back (fun _ k => XS.iconst X87.here hx rfl (hb hby d20_17) k) ?_
  show Gl _ _ _ _ _ _ _ (T87.setTop (mkF m 18 #[.val (.ref a), .val (.ref b), .val (.ref t84), .val (.int (0 : Int32))] [(.int (1 : Int32)), (.int (0 : Int32)), (.ref a)]))
  refine Gl.back (fun _ k => XS.iadd X87.here hx rfl (hb hby d20_18) rfl k) ?_
  show Gl _ _ _ _ _ _ _ (T87.setTop (mkF m 19 #[.val (.ref a), .val (.ref b), .val (.ref t84), .val (.int (0 : Int32))] [(.int (1 : Int32)), (.ref a)]))
  have f88 := ((E_a.keep Kq84).wr W87)
  have f89 := (Fs84.other W87 (Or.inl ne_a_t84))
  obtain ⟨T90, h90, X90, e90, W90, st90⟩ := putF X87 hx hZ hown (host := "") (Or.inl (hw _ (List.mem_of_getElem? (i := 141) rfl))) Via.refl e87 f89 f88 (Or.inl (hw _ (List.mem_of_getElem? (i := 142) rfl))) (hw _ (List.mem_of_getElem? (i := 24) rfl)) (ty := .int) (by decide) rfl rfl (g := (mkF m 19 #[.val (.ref a), .val (.ref b), .val (.ref t84), .val (.int (0 : Int32))] [(.int (1 : Int32)), (.ref a)])) rfl rfl (hb hby d20_19)
  have Fw90 := f89.same W90
  have K90 := Keep.wr K87 W90 (Or.inl (List.mem_of_getElem? (i := 0) rfl))
  have O90 := Old.wr O87 W90 g_a
  have Z90 : n0 ≤ h90.size := Nat.le_trans Z87 (Keep.of_wr W90).1
  have N90 := Fr.snoc X90 N87 g_a
  refine Gl.back (fun _ k => st90 _ k) ?_
  show Gl _ _ _ _ _ _ _ (T90.setTop (mkF m 22 #[.val (.ref a), .val (.ref b), .val (.ref t84), .val (.int (0 : Int32))] []))
  have f91 := ((Fe84.other W87 (Or.inl ne_a_t84)).other W90 (Or.inr (slot_ne (Or.inl (hw _ (List.mem_of_getElem? (i := 46) rfl))) (Or.inl (hw _ (List.mem_of_getElem? (i := 142) rfl))) (by decide) (t := (.array (.object "java/lang/Object"))) (t' := .int) (by decide) (by decide))))
  have f92 := ((Fm84.other W87 (Or.inl ne_a_t84)).other W90 (Or.inr (slot_ne (Or.inl (hw _ (List.mem_of_getElem? (i := 43) rfl))) (Or.inl (hw _ (List.mem_of_getElem? (i := 142) rfl))) (by decide) (t := .int) (t' := .int) (by decide) (by decide))))
  have f93 := (V87.other W90 (Ne.symm ne_a_t84))
  exact Gl.ret X90 e90 (v := none) (fun _ => rfl) Bd.notSynchronized (fun fs hr => X90.returnOut hx Bd.returns (hb hby d20_22) hr) ⟨N90, t84, k084, rfl, K90, sz_t84, Gz84, f91, Fw90, f92, f93, Ov84⟩ (by decide) (by decide)
theorem d19_0 : decode jdk_38_method_25_code 0 = .ok (.aload_n 0, 1) := by decide +kernel
theorem d19_1 : decode jdk_38_method_25_code 1 = .ok (.dup, 1) := by decide +kernel
theorem d19_2 : decode jdk_38_method_25_code 2 = .ok (.getfield 63, 3) := by decide +kernel
theorem d19_5 : decode jdk_38_method_25_code 5 = .ok (.iconst 1, 1) := by decide +kernel
theorem d19_6 : decode jdk_38_method_25_code 6 = .ok (.iadd, 1) := by decide +kernel
theorem d19_7 : decode jdk_38_method_25_code 7 = .ok (.putfield 63, 3) := by decide +kernel
theorem d19_10 : decode jdk_38_method_25_code 10 = .ok (.aload_n 0, 1) := by decide +kernel
theorem d19_11 : decode jdk_38_method_25_code 11 = .ok (.aload_n 1, 1) := by decide +kernel
theorem d19_12 : decode jdk_38_method_25_code 12 = .ok (.aload_n 0, 1) := by decide +kernel
theorem d19_13 : decode jdk_38_method_25_code 13 = .ok (.getfield 9, 3) := by decide +kernel
theorem d19_16 : decode jdk_38_method_25_code 16 = .ok (.aload_n 0, 1) := by decide +kernel
theorem d19_17 : decode jdk_38_method_25_code 17 = .ok (.getfield 48, 3) := by decide +kernel
theorem d19_20 : decode jdk_38_method_25_code 20 = .ok (.invokevirtual 131, 3) := by decide +kernel
theorem pd__Ljava_lang_Object__Ljava_lang_Object_I_V : parseMethodDescriptor "(Ljava/lang/Object;[Ljava/lang/Object;I)V" = some ⟨[(.object "java/lang/Object"), (.array (.object "java/lang/Object")), .int], none⟩ := by decide +kernel
theorem d19_23 : decode jdk_38_method_25_code 23 = .ok (.iconst 1, 1) := by decide +kernel
theorem d19_24 : decode jdk_38_method_25_code 24 = .ok (.ireturn, 1) := by decide +kernel
theorem ef_add0 (m : MethodId) (x0 : Addr) (x1 : Addr) : entryFrame m #[(.ref x0), (.ref x1)] 2 = mkF m 0 #[.val (.ref x0), .val (.ref x1)] [] := by first | (simp [entryFrame, mkF, argsToLocals, Value.category]; done) | rfl
def Qadd0 (Z : State) (a : Addr) (b : Addr) (wD : Addr) (kD : ClassId) (mc : Int32) (h0 : Heap) (n0 : Nat) (v : Option Value) (h : Heap) (L : List Loc) : Prop := Fr n0 L ∧ (∃ (t : Addr) (k : ClassId), v = some (.int 1) ∧ Keep h0 h [a] ∧ h0.size ≤ t ∧ n0 ≤ t ∧ Fld Z h a "java/util/ArrayList" "elementData" "[Ljava/lang/Object;" (.ref t) ∧ Fld Z h a "java/util/ArrayList" "size" "I" (.int (1 : Int32)) ∧ Fld Z h a "java/util/AbstractList" "modCount" "I" (.int (mc + (1 : Int32))) ∧ Arv Z h t k (.object "java/lang/Object") (10 : Int32) [(.ref b), .null, .null, .null, .null, .null, .null, .null, .null, .null] .null ∧ Ovr Z k "java/lang/Object")
set_option maxRecDepth 65536 in
set_option maxHeartbeats 40000000 in
theorem rmadd0 (l : Launch) (Z : State) (a0 : Array Value) (hw : ∀ d ∈ tables_1, d.before a0 Z = true) (ws : List Jvm.Cond) (a : Addr) (b : Addr) (wD : Addr) (kD : ClassId) (mc : Int32) (h0 : Heap) (n0 : Nat) (Z0 : n0 ≤ h0.size) (O0 : Old Z n0 h0) (g_a : n0 ≤ a) (E_a : Exa Z h0 a "java/util/ArrayList") (F_a_modCount : Fld Z h0 a "java/util/AbstractList" "modCount" "I" (.int mc)) (F_a_elementData : Fld Z h0 a "java/util/ArrayList" "elementData" "[Ljava/lang/Object;" (.ref wD)) (F_a_size : Fld Z h0 a "java/util/ArrayList" "size" "I" (.int (0 : Int32))) (S_DEFAULTCAPACITY_EMPTY_ELEMENTDATA : Sta Z Z.heap "java/util/ArrayList" "DEFAULTCAPACITY_EMPTY_ELEMENTDATA" "[Ljava/lang/Object;" (.ref wD)) (V_wD : Arv Z Z.heap wD kD (.object "java/lang/Object") (0 : Int32) [] .null) (E_b : Exa Z h0 b "com/example/gavelwatch/gavelwatch/model/Bid") (hab : a ≠ b) :
    MetFree l (⟨"java/util/ArrayList", "add", "(Ljava/lang/Object;)Z"⟩ : MethodName) (head1 (Jvm.Cond.code (⟨"java/util/ArrayList", "add", "(Ljava/lang/Object;)Z"⟩ : MethodName) jdk_38_method_25_code 2 (some .boolean) :: ws) ({ frames := 4, cells := 1, slots := 10, locals := 56 } : Room)) (fun as0 U => as0 = #[(.ref a), (.ref b)] ∧ Z.Warmed39 U.vm ∧ U.heap = h0) (fun _ _ _ _ _ => True) (fun _ U oc0 U' => ∃ v L, oc0 = .returned v ∧ Qadd0 Z a b wD kD mc h0 n0 v U'.heap L ∧ FrameEnd U oc0 U' L ({ frames := 4, cells := 1, slots := 10, locals := 56 } : Room).cells ({ frames := 4, cells := 1, slots := 10, locals := 56 } : Room).slots) := by
  refine MetFree.of_bodySF (plainFor_of_name pn_java_util_ArrayList) hisR ?_
  intro p e s m args below meth c s₁ Bd hml0 hP hK
  obtain ⟨rfl, hZ, hh⟩ := hP
  have hx := Bd.exec
  have hby := Bd.bytes
  have hml : c.maxLocals = 2 := hml0
  have hown : s.vm.findClass "java/util/ArrayList" = some m.cls := findClass_of_methodNamed Bd.named
  have hnm := (name_of_methodNamed Bd.named Bd.method).1
  have X0 : Stand p l e ({ frames := 4, cells := 1, slots := 10, locals := 56 } : Room) s m #[(.ref a), (.ref b)] below meth c s₁ [] 0 0 := Stand.of_body Bd
  have e0 : s₁.heap = h0 := by rw [← hh, Bd.state]; rfl
  have N0 := Fr.nil n0
  show Gl p e below s (Qadd0 Z a b wD kD mc h0 n0) ({ frames := 4, cells := 1, slots := 10, locals := 56 } : Room).cells ({ frames := 4, cells := 1, slots := 10, locals := 56 } : Room).slots (s₁.setTop (entryFrame m #[(.ref a), (.ref b)] 2))
  refine Gl.back (fun _ k => castTop (ef_add0 m a b) k) ?_
  show Gl _ _ _ _ _ _ _ (s₁.setTop (mkF m 0 #[.val (.ref a), .val (.ref b)] []))
  refine Gl.back (fun _ k => XS.aloadN X0.here hx rfl (hb hby d19_0) rfl rfl k) ?_
  show Gl _ _ _ _ _ _ _ (s₁.setTop (mkF m 1 #[.val (.ref a), .val (.ref b)] [(.ref a)]))
  refine Gl.back (fun _ k => XS.dup X0.here hx rfl (hb hby d19_1) rfl rfl k) ?_
  show Gl _ _ _ _ _ _ _ (s₁.setTop (mkF m 2 #[.val (.ref a), .val (.ref b)] [(.ref a), (.ref a)]))
  obtain ⟨T94, X94, e94, st94⟩ := getF X0 hx hZ hown (host := "") (Or.inl (hw _ (List.mem_of_getElem? (i := 139) rfl))) (Via.of (hw _ (List.mem_of_getElem? (i := 140) rfl))) e0 F_a_modCount (g := (mkF m 2 #[.val (.ref a), .val (.ref b)] [(.ref a), (.ref a)])) rfl rfl (hb hby d19_2)
  refine Gl.back (fun _ k => st94 _ k) ?_
  show Gl _ _ _ _ _ _ _ (T94.setTop (mkF m 5 #[.val (.ref a), .val (.ref b)] [(.int mc), (.ref a)]))
  refine Gl.back (fun _ k => XS.iconst X94.here hx rfl (hb hby d19_5) k) ?_
  show Gl _ _ _ _ _ _ _ (T94.setTop (mkF m 6 #[.val (.ref a), .val (.ref b)] [(.int (1 : Int32)), (.int mc), (.ref a)]))
  refine Gl.back (fun _ k => XS.iadd X94.here hx rfl (hb hby d19_6) rfl k) ?_
  show Gl _ _ _ _ _ _ _ (T94.setTop (mkF m 7 #[.val (.ref a), .val (.ref b)] [(.int (mc + (1 : Int32))), (.ref a)]))
  obtain ⟨T95, h95, X95, e95, W95, st95⟩ := putF X94 hx hZ hown (host := "") (Or.inl (hw _ (List.mem_of_getElem? (i := 139) rfl))) (Via.of (hw _ (List.mem_of_getElem? (i := 140) rfl))) e94 F_a_modCount E_a (Or.inl (hw _ (List.mem_of_getElem? (i := 43) rfl))) (hw _ (List.mem_of_getElem? (i := 24) rfl)) (ty := .int) (by decide) rfl rfl (g := (mkF m 7 #[.val (.ref a), .val (.ref b)] [(.int (mc + (1 : Int32))), (.ref a)])) rfl rfl (hb hby d19_7)
  have Fw95 := F_a_modCount.same W95
  have K95 := Keep.wr (Keep.refl h0 [a]) W95 (Or.inl (List.mem_of_getElem? (i := 0) rfl))
  have O95 := Old.wr O0 W95 g_a
  have Z95 : n0 ≤ h95.size := Nat.le_trans Z0 (Keep.of_wr W95).1
  have N95 := Fr.snoc X95 N0 g_a
  refine Gl.back (fun _ k => st95 _ k) ?_
  show Gl _ _ _ _ _ _ _ (T95.setTop (mkF m 10 #[.val (.ref a), .val (.ref b)] []))
  refine Gl.back (fun _ k => XS.aloadN X95.here hx rfl (hb hby d19_10) rfl rfl k) ?_
  show Gl _ _ _ _ _ _ _ (T95.setTop (mkF m 11 #[.val (.ref a), .val (.ref b)] [(.ref a)]))
  refine Gl.back (fun _ k => XS.aloadN X95.here hx rfl (hb hby d19_11) rfl rfl k) ?_
  show Gl _ _ _ _ _ _ _ (T95.setTop (mkF m 12 #[.val (.ref a), .val (.ref b)] [(.ref b), (.ref a)]))
  refine Gl.back (fun _ k => XS.aloadN X95.here hx rfl (hb hby d19_12) rfl rfl k) ?_
  show Gl _ _ _ _ _ _ _ (T95.setTop (mkF m 13 #[.val (.ref a), .val (.ref b)] [(.ref a), (.ref b), (.ref a)]))
  have f96 := (F_a_elementData.other W95 (Or.inr (slot_ne (Or.inl (hw _ (List.mem_of_getElem? (i := 46) rfl))) (Or.inl (hw _ (List.mem_of_getElem? (i := 43) rfl))) (by decide) (t := (.array (.object "java/lang/Object"))) (t' := .int) (by decide) (by decide))))
  obtain ⟨T97, X97, e97, st97⟩ := getF X95 hx hZ hown (host := "") (Or.inl (hw _ (List.mem_of_getElem? (i := 45) rfl))) Via.refl e95 f96 (g := (mkF m 13 #[.val (.ref a), .val (.ref b)] [(.ref a), (.ref b), (.ref a)])) rfl rfl (hb hby d19_13)
  refine Gl.back (fun _ k => st97 _ k) ?_
  show Gl _ _ _ _ _ _ _ (T97.setTop (mkF m 16 #[.val (.ref a), .val (.ref b)] [(.ref wD), (.ref b), (.ref a)]))
  refine Gl.back (fun _ k => XS.aloadN X97.here hx rfl (hb hby d19_16) rfl rfl k) ?_
  show Gl _ _ _ _ _ _ _ (T97.setTop (mkF m 17 #[.val (.ref a), .val (.ref b)] [(.ref a), (.ref wD), (.ref b), (.ref a)]))
  have f98 := (F_a_size.other W95 (Or.inr (slot_ne (Or.inl (hw _ (List.mem_of_getElem? (i := 142) rfl))) (Or.inl (hw _ (List.mem_of_getElem? (i := 43) rfl))) (by decide) (t := .int) (t' := .int) (by decide) (by decide))))
  obtain ⟨T99, X99, e99, st99⟩ := getF X97 hx hZ hown (host := "") (Or.inl (hw _ (List.mem_of_getElem? (i := 141) rfl))) Via.refl e97 f98 (g := (mkF m 17 #[.val (.ref a), .val (.ref b)] [(.ref a), (.ref wD), (.ref b), (.ref a)])) rfl rfl (hb hby d19_17)
  refine Gl.back (fun _ k => st99 _ k) ?_
  show Gl _ _ _ _ _ _ _ (T99.setTop (mkF m 20 #[.val (.ref a), .val (.ref b)] [(.int (0 : Int32)), (.ref wD), (.ref b), (.ref a)]))
  have f101 := (E_a.wr W95)
  have f102 := (E_b.wr W95)
  obtain ⟨cq100, q100, q100'⟩ := f101.cell
  obtain ⟨_, _, ⟨T100, L100, k100, n100⟩, -, X100, ⟨Lc100, hQ100, l100, y100, z100⟩, st100⟩ := X99.privateBack hx (y := (⟨"java/util/ArrayList", "add", "(Ljava/lang/Object;[Ljava/lang/Object;I)V"⟩ : MethodName)) hown (mvT hZ (hw _ (List.mem_of_getElem? (i := 143) rfl))) (mvT hZ (hw _ (List.mem_of_getElem? (i := 144) rfl))) (mvT hZ (hw _ (List.mem_of_getElem? (i := 146) rfl))) (Cond.privateMethod_at (mvP hZ (hw _ (List.mem_of_getElem? (i := 145) rfl)) (args := #[]))) (mvT hZ (hw _ (List.mem_of_getElem? (i := 147) rfl))) (by decide) (backOf (W := 0) (rmadd30 l Z a0 hw [] a b wD kD (mc + (1 : Int32)) h95 n0 Z95 O95 g_a f101 Fw95 f96 f98 S_DEFAULTCAPACITY_EMPTY_ELEMENTDATA V_wD f102 hab) hZ (hw _ (List.mem_of_getElem? (i := 147) rfl)) (hw _ (List.mem_of_getElem? (i := 25) rfl)) (by decide) (by decide)) (g := (mkF m 20 #[.val (.ref a), .val (.ref b)] [(.int (0 : Int32)), (.ref wD), (.ref b), (.ref a)])) rfl (by rw [hml]; rfl) (Steps.refl _) (a := a) (by rw [e99]; exact q100) q100' (argsL := [(.ref b), (.ref wD), (.int (0 : Int32))]) (rest := []) (lenOf pd__Ljava_lang_Object__Ljava_lang_Object_I_V rfl) rfl (by show 2 * 0 + _ ≤ _; exact Nat.le_of_eq rfl) (hb hby d19_20) (fun _ _ => ⟨rfl, e99, (by decide : 0 + 1 ≤ _), (by decide : 0 + 10 ≤ _)⟩)
  dsimp only [Pt.U, Pt.locs, Pt.cells, Pt.slots] at X100 l100 y100 z100 st100 hQ100
  subst l100 y100 z100
  obtain ⟨Nq100, t100, k0100, rfl, Kq100, Sz100, Gz100, Fe100, Fs100, Fm100, V100, Ov100⟩ := hQ100
  have N100 := Fr.app N95 Nq100
  have Kc100 := Keep.trans K95 Kq100 (allS (Or.inl (List.mem_of_getElem? (i := 0) rfl)) all0)
  have Zc100 : n0 ≤ T100.heap.size := Nat.le_trans Z95 Kq100.1
  have Oc100 := Old.keep O95 Kq100 (allS g_a all0)
  have ne_a_t100 : a ≠ t100 := Nat.ne_of_lt (Nat.lt_of_lt_of_le (f101).lt Sz100)
  have ne_b_t100 : b ≠ t100 := Nat.ne_of_lt (Nat.lt_of_lt_of_le (f102).lt Sz100)
  have sz_t100 : h0.size ≤ t100 := Nat.le_trans K95.1 Sz100
  refine Gl.back (fun _ k => st100.trans k) ?_
  show Gl _ _ _ _ _ _ _ (T100.setTop (mkF m 23 #[.val (.ref a), .val (.ref b)] []))
  refine Gl.back (fun _ k => XS.iconst X100.here hx rfl (hb hby d19_23) k) ?_
  show Gl _ _ _ _ _ _ _ (T100.setTop (mkF m 24 #[.val (.ref a), .val (.ref b)] [(.int (1 : Int32))]))
  exact Gl.ret X100 rfl (v := (some (.int (1 : Int32)))) (fun h => by rw [Bd.returns] at h; cases h) Bd.notSynchronized (fun fs hr => retN X100 hx (t := .boolean) (z := (1 : Int32)) Bd.returns (by simp) (hb hby d19_24) hr) ⟨N100, t100, k0100, rfl, Kc100, sz_t100, Gz100, Fe100, Fs100, Fm100, V100, Ov100⟩ (by decide) (by decide)
theorem ef_add31 (m : MethodId) (x0 : Addr) (x1 : Addr) (x2 : Addr) : entryFrame m #[(.ref x0), (.ref x1), (.ref x2), (.int (1 : Int32))] 4 = mkF m 0 #[.val (.ref x0), .val (.ref x1), .val (.ref x2), .val (.int (1 : Int32))] [] := by first | (simp [entryFrame, mkF, argsToLocals, Value.category]; done) | rfl
def Qadd31 (Z : State) (a : Addr) (b : Addr) (t c0 : Addr) (kt : ClassId) (mc : Int32) (h0 : Heap) (n0 : Nat) (v : Option Value) (h : Heap) (L : List Loc) : Prop := Fr n0 L ∧ (v = none ∧ Keep h0 h [a, t] ∧ Fld Z h a "java/util/ArrayList" "size" "I" (.int (2 : Int32)))
set_option maxRecDepth 65536 in
set_option maxHeartbeats 40000000 in
theorem rmadd31 (l : Launch) (Z : State) (a0 : Array Value) (hw : ∀ d ∈ tables_1, d.before a0 Z = true) (ws : List Jvm.Cond) (a : Addr) (b : Addr) (t c0 : Addr) (kt : ClassId) (mc : Int32) (h0 : Heap) (n0 : Nat) (Z0 : n0 ≤ h0.size) (g_a : n0 ≤ a) (E_a : Exa Z h0 a "java/util/ArrayList") (F_a_modCount : Fld Z h0 a "java/util/AbstractList" "modCount" "I" (.int mc)) (F_a_elementData : Fld Z h0 a "java/util/ArrayList" "elementData" "[Ljava/lang/Object;" (.ref t)) (F_a_size : Fld Z h0 a "java/util/ArrayList" "size" "I" (.int (1 : Int32))) (E_b : Exa Z h0 b "com/example/gavelwatch/gavelwatch/model/Bid") (g_t : n0 ≤ t) (V_t : Arv Z h0 t kt (.object "java/lang/Object") (10 : Int32) [(.ref c0), .null, .null, .null, .null, .null, .null, .null, .null, .null] .null) (Ov_t : Ovr Z kt "java/lang/Object") (hab : a ≠ b) (hat : a ≠ t) (hbt : b ≠ t) :
    MetFree l (⟨"java/util/ArrayList", "add", "(Ljava/lang/Object;[Ljava/lang/Object;I)V"⟩ : MethodName) (head1 (Jvm.Cond.code (⟨"java/util/ArrayList", "add", "(Ljava/lang/Object;[Ljava/lang/Object;I)V"⟩ : MethodName) jdk_38_method_24_code 4 none :: ws) ({ frames := 0, cells := 0, slots := 0, locals := 0 } : Room)) (fun as0 U => as0 = #[(.ref a), (.ref b), (.ref t), (.int (1 : Int32))] ∧ Z.Warmed39 U.vm ∧ U.heap = h0) (fun _ _ _ _ _ => True) (fun _ U oc0 U' => ∃ v L, oc0 = .returned v ∧ Qadd31 Z a b t c0 kt mc h0 n0 v U'.heap L ∧ FrameEnd U oc0 U' L ({ frames := 0, cells := 0, slots := 0, locals := 0 } : Room).cells ({ frames := 0, cells := 0, slots := 0, locals := 0 } : Room).slots) := by
  refine MetFree.of_bodySF (plainFor_of_name pn_java_util_ArrayList) hisR ?_
  intro p e s m args below meth c s₁ Bd hml0 hP hK
  obtain ⟨rfl, hZ, hh⟩ := hP
  have hx := Bd.exec
  have hby := Bd.bytes
  have hml : c.maxLocals = 4 := hml0
  have hown : s.vm.findClass "java/util/ArrayList" = some m.cls := findClass_of_methodNamed Bd.named
  have hnm := (name_of_methodNamed Bd.named Bd.method).1
  have X0 : Stand p l e ({ frames := 0, cells := 0, slots := 0, locals := 0 } : Room) s m #[(.ref a), (.ref b), (.ref t), (.int (1 : Int32))] below meth c s₁ [] 0 0 := Stand.of_body Bd
  have e0 : s₁.heap = h0 := by rw [← hh, Bd.state]; rfl
  have N0 := Fr.nil n0
  show Gl p e below s (Qadd31 Z a b t c0 kt mc h0 n0) ({ frames := 0, cells := 0, slots := 0, locals := 0 } : Room).cells ({ frames := 0, cells := 0, slots := 0, locals := 0 } : Room).slots (s₁.setTop (entryFrame m #[(.ref a), (.ref b), (.ref t), (.int (1 : Int32))] 4))
  refine Gl.back (fun _ k => castTop (ef_add31 m a b t) k) ?_
  show Gl _ _ _ _ _ _ _ (s₁.setTop (mkF m 0 #[.val (.ref a), .val (.ref b), .val (.ref t), .val (.int (1 : Int32))] []))
  refine Gl.back (fun _ k => XS.iloadN X0.here hx rfl (hb hby d20_0) rfl k) ?_
  show Gl _ _ _ _ _ _ _ (s₁.setTop (mkF m 1 #[.val (.ref a), .val (.ref b), .val (.ref t), .val (.int (1 : Int32))] [(.int (1 : Int32))]))
  refine Gl.back (fun _ k => XS.aloadN X0.here hx rfl (hb hby d20_1) rfl rfl k) ?_
  show Gl _ _ _ _ _ _ _ (s₁.setTop (mkF m 2 #[.val (.ref a), .val (.ref b), .val (.ref t), .val (.int (1 : Int32))] [(.ref t), (.int (1 : Int32))]))
  obtain ⟨cl103, Ar103, -, Sz103, Nn103, -, -⟩ := id V_t
  refine Gl.back (fun _ k => X0.arraylength hx (by rw [e0]; exact Ar103.1) (State.isArrayOf_alike hZ.alike Ar103.2.1) (g := (mkF m 2 #[.val (.ref a), .val (.ref b), .val (.ref t), .val (.int (1 : Int32))] [(.ref t), (.int (1 : Int32))])) rfl rfl (hb hby d20_2) _ k) ?_
  rw [len_of Sz103 Nn103]
  show Gl _ _ _ _ _ _ _ (s₁.setTop (mkF m 3 #[.val (.ref a), .val (.ref b), .val (.ref t), .val (.int (1 : Int32))] [(.int (10 : Int32)), (.int (1 : Int32))]))
  refine Gl.back (fun _ k => XS.icmpYes X0.here hx rfl (pc0 := 3) (pc' := 11) rfl (hb hby d20_3) rfl (feq (by decide : ¬ (1 : Int32) = (10 : Int32))).2 (by decide) (by decide) k) ?_
  show Gl _ _ _ _ _ _ _ (s₁.setTop (mkF m 11 #[.val (.ref a), .val (.ref b), .val (.ref t), .val (.int (1 : Int32))] []))
  refine Gl.back (fun _ k => XS.aloadN X0.here hx rfl (hb hby d20_11) rfl rfl k) ?_
  show Gl _ _ _ _ _ _ _ (s₁.setTop (mkF m 12 #[.val (.ref a), .val (.ref b), .val (.ref t), .val (.int (1 : Int32))] [(.ref t)]))
  refine Gl.back (fun _ k => XS.iloadN X0.here hx rfl (hb hby d20_12) rfl k) ?_
  show Gl _ _ _ _ _ _ _ (s₁.setTop (mkF m 13 #[.val (.ref a), .val (.ref b), .val (.ref t), .val (.int (1 : Int32))] [(.int (1 : Int32)), (.ref t)]))
  refine Gl.back (fun _ k => XS.aloadN X0.here hx rfl (hb hby d20_13) rfl rfl k) ?_
  show Gl _ _ _ _ _ _ _ (s₁.setTop (mkF m 14 #[.val (.ref a), .val (.ref b), .val (.ref t), .val (.int (1 : Int32))] [(.ref b), (.int (1 : Int32)), (.ref t)]))
  obtain ⟨cl104, Ar104, q104, Sz104, Nn104, Hs104, Gf104⟩ := id V_t
  have hin104 : ¬ ((1 : Int32) < 0 ∨ cl104.slots.size ≤ ((1 : Int32)).toNatClampNeg) := inb_of Sz104 ⟨by decide, by decide⟩
  obtain ⟨T105, h105, X105, e105, W105, st105⟩ := stR X0 hx hZ e0 Ar104 (j := (1 : Int32)) hin104 rfl (Sto.ofV Ar104 q104 Ov_t (Ins.of_exa E_b (hw _ (List.mem_of_getElem? (i := 163) rfl)))) (g := (mkF m 14 #[.val (.ref a), .val (.ref b), .val (.ref t), .val (.int (1 : Int32))] [(.ref b), (.int (1 : Int32)), (.ref t)])) rfl rfl (hb hby d20_14)
  have V105 := Arv.set Ar104 q104 Sz104 Nn104 Hs104 Gf104 rfl W105 1 rfl (Nat.le_of_ble_eq_true rfl)
  replace V105 : Arv Z h105 t kt (.object "java/lang/Object") (10 : Int32) [(.ref c0), (.ref b), .null, .null, .null, .null, .null, .null, .null, .null] .null := V105
  have K105 := Keep.wr (Keep.refl h0 [a, t]) W105 (Or.inl (List.mem_of_getElem? (i := 1) rfl))
  have Z105 : n0 ≤ h105.size := Nat.le_trans Z0 (Keep.of_wr W105).1
  have N105 := Fr.snoc X105 N0 g_t
  refine Gl.back (fun _ k => st105 _ k) ?_
  show Gl _ _ _ _ _ _ _ (T105.setTop (mkF m 15 #[.val (.ref a), .val (.ref b), .val (.ref t), .val (.int (1 : Int32))] []))
  refine Gl.back (fun _ k => XS.aloadN X105.here hx rfl (hb hby d20_15) rfl rfl k) ?_
  show Gl _ _ _ _ _ _ _ (T105.setTop (mkF m 16 #[.val (.ref a), .val (.ref b), .val (.ref t), .val (.int (1 : Int32))] [(.ref a)]))
  refine Gl.back (fun _ k => XS.iloadN X105.here hx rfl (hb hby d20_16) rfl k) ?_
  show Gl _ _ _ _ _ _ _ (T105.setTop (mkF m 17 #[.val (.ref a), .val (.ref b), .val (.ref t), .val (.int (1 : Int32))] [(.int (1 : Int32)), (.ref a)]))
  refine Gl.back (fun _ k => XS.iconst X105.here hx rfl (hb hby d20_17) k) ?_
  show Gl _ _ _ _ _ _ _ (T105.setTop (mkF m 18 #[.val (.ref a), .val (.ref b), .val (.ref t), .val (.int (1 : Int32))] [(.int (1 : Int32)), (.int (1 : Int32)), (.ref a)]))
  refine Gl.back (fun _ k => XS.iadd X105.here hx rfl (hb hby d20_18) rfl k) ?_
  show Gl _ _ _ _ _ _ _ (T105.setTop (mkF m 19 #[.val (.ref a), .val (.ref b), .val (.ref t), .val (.int (1 : Int32))] [(.int (2 : Int32)), (.ref a)]))
  have f106 := (E_a.wr W105)
  have f107 := (F_a_size.other W105 (Or.inl hat))
  obtain ⟨T108, h108, X108, e108, W108, st108⟩ := putF X105 hx hZ hown (host := "") (Or.inl (hw _ (List.mem_of_getElem? (i := 141) rfl))) Via.refl e105 f107 f106 (Or.inl (hw _ (List.mem_of_getElem? (i := 142) rfl))) (hw _ (List.mem_of_getElem? (i := 24) rfl)) (ty := .int) (by decide) rfl rfl (g := (mkF m 19 #[.val (.ref a), .val (.ref b), .val (.ref t), .val (.int (1 : Int32))] [(.int (2 : Int32)), (.ref a)])) rfl rfl (hb hby d20_19)
  have Fw108 := f107.same W108
  have K108 := Keep.wr K105 W108 (Or.inl (List.mem_of_getElem? (i := 0) rfl))
  have Z108 : n0 ≤ h108.size := Nat.le_trans Z105 (Keep.of_wr W108).1
  have N108 := Fr.snoc X108 N105 g_a
  refine Gl.back (fun _ k => st108 _ k) ?_
  show Gl _ _ _ _ _ _ _ (T108.setTop (mkF m 22 #[.val (.ref a), .val (.ref b), .val (.ref t), .val (.int (1 : Int32))] []))
  exact Gl.ret X108 e108 (v := none) (fun _ => rfl) Bd.notSynchronized (fun fs hr => X108.returnOut hx Bd.returns (hb hby d20_22) hr) ⟨N108, rfl, K108, Fw108⟩ (by decide) (by decide)
theorem ef_add1 (m : MethodId) (x0 : Addr) (x1 : Addr) : entryFrame m #[(.ref x0), (.ref x1)] 2 = mkF m 0 #[.val (.ref x0), .val (.ref x1)] [] := by first | (simp [entryFrame, mkF, argsToLocals, Value.category]; done) | rfl
def Qadd1 (Z : State) (a : Addr) (b : Addr) (t c0 : Addr) (kt : ClassId) (mc : Int32) (h0 : Heap) (n0 : Nat) (v : Option Value) (h : Heap) (L : List Loc) : Prop := Fr n0 L ∧ (v = some (.int 1) ∧ Keep h0 h [a, t] ∧ Fld Z h a "java/util/ArrayList" "size" "I" (.int (2 : Int32)))
set_option maxRecDepth 65536 in
set_option maxHeartbeats 40000000 in
theorem rmadd1 (l : Launch) (Z : State) (a0 : Array Value) (hw : ∀ d ∈ tables_1, d.before a0 Z = true) (ws : List Jvm.Cond) (a : Addr) (b : Addr) (t c0 : Addr) (kt : ClassId) (mc : Int32) (h0 : Heap) (n0 : Nat) (Z0 : n0 ≤ h0.size) (g_a : n0 ≤ a) (E_a : Exa Z h0 a "java/util/ArrayList") (F_a_modCount : Fld Z h0 a "java/util/AbstractList" "modCount" "I" (.int mc)) (F_a_elementData : Fld Z h0 a "java/util/ArrayList" "elementData" "[Ljava/lang/Object;" (.ref t)) (F_a_size : Fld Z h0 a "java/util/ArrayList" "size" "I" (.int (1 : Int32))) (E_b : Exa Z h0 b "com/example/gavelwatch/gavelwatch/model/Bid") (g_t : n0 ≤ t) (V_t : Arv Z h0 t kt (.object "java/lang/Object") (10 : Int32) [(.ref c0), .null, .null, .null, .null, .null, .null, .null, .null, .null] .null) (Ov_t : Ovr Z kt "java/lang/Object") (hab : a ≠ b) (hat : a ≠ t) (hbt : b ≠ t) :
    MetFree l (⟨"java/util/ArrayList", "add", "(Ljava/lang/Object;)Z"⟩ : MethodName) (head1 (Jvm.Cond.code (⟨"java/util/ArrayList", "add", "(Ljava/lang/Object;)Z"⟩ : MethodName) jdk_38_method_25_code 2 (some .boolean) :: ws) ({ frames := 1, cells := 0, slots := 0, locals := 15 } : Room)) (fun as0 U => as0 = #[(.ref a), (.ref b)] ∧ Z.Warmed39 U.vm ∧ U.heap = h0) (fun _ _ _ _ _ => True) (fun _ U oc0 U' => ∃ v L, oc0 = .returned v ∧ Qadd1 Z a b t c0 kt mc h0 n0 v U'.heap L ∧ FrameEnd U oc0 U' L ({ frames := 1, cells := 0, slots := 0, locals := 15 } : Room).cells ({ frames := 1, cells := 0, slots := 0, locals := 15 } : Room).slots) := by
  refine MetFree.of_bodySF (plainFor_of_name pn_java_util_ArrayList) hisR ?_
  intro p e s m args below meth c s₁ Bd hml0 hP hK
  obtain ⟨rfl, hZ, hh⟩ := hP
  have hx := Bd.exec
  have hby := Bd.bytes
  have hml : c.maxLocals = 2 := hml0
  have hown : s.vm.findClass "java/util/ArrayList" = some m.cls := findClass_of_methodNamed Bd.named
  have hnm := (name_of_methodNamed Bd.named Bd.method).1
  have X0 : Stand p l e ({ frames := 1, cells := 0, slots := 0, locals := 15 } : Room) s m #[(.ref a), (.ref b)] below meth c s₁ [] 0 0 := Stand.of_body Bd
  have e0 : s₁.heap = h0 := by rw [← hh, Bd.state]; rfl
  have N0 := Fr.nil n0
  show Gl p e below s (Qadd1 Z a b t c0 kt mc h0 n0) ({ frames := 1, cells := 0, slots := 0, locals := 15 } : Room).cells ({ frames := 1, cells := 0, slots := 0, locals := 15 } : Room).slots (s₁.setTop (entryFrame m #[(.ref a), (.ref b)] 2))
  refine Gl.back (fun _ k => castTop (ef_add1 m a b) k) ?_
  show Gl _ _ _ _ _ _ _ (s₁.setTop (mkF m 0 #[.val (.ref a), .val (.ref b)] []))
  refine Gl.back (fun _ k => XS.aloadN X0.here hx rfl (hb hby d19_0) rfl rfl k) ?_
  show Gl _ _ _ _ _ _ _ (s₁.setTop (mkF m 1 #[.val (.ref a), .val (.ref b)] [(.ref a)]))
  refine Gl.back (fun _ k => XS.dup X0.here hx rfl (hb hby d19_1) rfl rfl k) ?_
  show Gl _ _ _ _ _ _ _ (s₁.setTop (mkF m 2 #[.val (.ref a), .val (.ref b)] [(.ref a), (.ref a)]))
  obtain ⟨T109, X109, e109, st109⟩ := getF X0 hx hZ hown (host := "") (Or.inl (hw _ (List.mem_of_getElem? (i := 139) rfl))) (Via.of (hw _ (List.mem_of_getElem? (i := 140) rfl))) e0 F_a_modCount (g := (mkF m 2 #[.val (.ref a), .val (.ref b)] [(.ref a), (.ref a)])) rfl rfl (hb hby d19_2)
  refine Gl.back (fun _ k => st109 _ k) ?_
  show Gl _ _ _ _ _ _ _ (T109.setTop (mkF m 5 #[.val (.ref a), .val (.ref b)] [(.int mc), (.ref a)]))
  refine Gl.back (fun _ k => XS.iconst X109.here hx rfl (hb hby d19_5) k) ?_
  show Gl _ _ _ _ _ _ _ (T109.setTop (mkF m 6 #[.val (.ref a), .val (.ref b)] [(.int (1 : Int32)), (.int mc), (.ref a)]))
  refine Gl.back (fun _ k => XS.iadd X109.here hx rfl (hb hby d19_6) rfl k) ?_
  show Gl _ _ _ _ _ _ _ (T109.setTop (mkF m 7 #[.val (.ref a), .val (.ref b)] [(.int (mc + (1 : Int32))), (.ref a)]))
  obtain ⟨T110, h110, X110, e110, W110, st110⟩ := putF X109 hx hZ hown (host := "") (Or.inl (hw _ (List.mem_of_getElem? (i := 139) rfl))) (Via.of (hw _ (List.mem_of_getElem? (i := 140) rfl))) e109 F_a_modCount E_a (Or.inl (hw _ (List.mem_of_getElem? (i := 43) rfl))) (hw _ (List.mem_of_getElem? (i := 24) rfl)) (ty := .int) (by decide) rfl rfl (g := (mkF m 7 #[.val (.ref a), .val (.ref b)] [(.int (mc + (1 : Int32))), (.ref a)])) rfl rfl (hb hby d19_7)
  have Fw110 := F_a_modCount.same W110
  have K110 := Keep.wr (Keep.refl h0 [a, t]) W110 (Or.inl (List.mem_of_getElem? (i := 0) rfl))
  have Z110 : n0 ≤ h110.size := Nat.le_trans Z0 (Keep.of_wr W110).1
  have N110 := Fr.snoc X110 N0 g_a
  refine Gl.back (fun _ k => st110 _ k) ?_
  show Gl _ _ _ _ _ _ _ (T110.setTop (mkF m 10 #[.val (.ref a), .val (.ref b)] []))
  refine Gl.back (fun _ k => XS.aloadN X110.here hx rfl (hb hby d19_10) rfl rfl k) ?_
  show Gl _ _ _ _ _ _ _ (T110.setTop (mkF m 11 #[.val (.ref a), .val (.ref b)] [(.ref a)]))
  refine Gl.back (fun _ k => XS.aloadN X110.here hx rfl (hb hby d19_11) rfl rfl k) ?_
  show Gl _ _ _ _ _ _ _ (T110.setTop (mkF m 12 #[.val (.ref a), .val (.ref b)] [(.ref b), (.ref a)]))
  refine Gl.back (fun _ k => XS.aloadN X110.here hx rfl (hb hby d19_12) rfl rfl k) ?_
  show Gl _ _ _ _ _ _ _ (T110.setTop (mkF m 13 #[.val (.ref a), .val (.ref b)] [(.ref a), (.ref b), (.ref a)]))
  have f111 := (F_a_elementData.other W110 (Or.inr (slot_ne (Or.inl (hw _ (List.mem_of_getElem? (i := 46) rfl))) (Or.inl (hw _ (List.mem_of_getElem? (i := 43) rfl))) (by decide) (t := (.array (.object "java/lang/Object"))) (t' := .int) (by decide) (by decide))))
  obtain ⟨T112, X112, e112, st112⟩ := getF X110 hx hZ hown (host := "") (Or.inl (hw _ (List.mem_of_getElem? (i := 45) rfl))) Via.refl e110 f111 (g := (mkF m 13 #[.val (.ref a), .val (.ref b)] [(.ref a), (.ref b), (.ref a)])) rfl rfl (hb hby d19_13)
  refine Gl.back (fun _ k => st112 _ k) ?_
  show Gl _ _ _ _ _ _ _ (T112.setTop (mkF m 16 #[.val (.ref a), .val (.ref b)] [(.ref t), (.ref b), (.ref a)]))
  refine Gl.back (fun _ k => XS.aloadN X112.here hx rfl (hb hby d19_16) rfl rfl k) ?_
  show Gl _ _ _ _ _ _ _ (T112.setTop (mkF m 17 #[.val (.ref a), .val (.ref b)] [(.ref a), (.ref t), (.ref b), (.ref a)]))
  have f113 := (F_a_size.other W110 (Or.inr (slot_ne (Or.inl (hw _ (List.mem_of_getElem? (i := 142) rfl))) (Or.inl (hw _ (List.mem_of_getElem? (i := 43) rfl))) (by decide) (t := .int) (t' := .int) (by decide) (by decide))))
  obtain ⟨T114, X114, e114, st114⟩ := getF X112 hx hZ hown (host := "") (Or.inl (hw _ (List.mem_of_getElem? (i := 141) rfl))) Via.refl e112 f113 (g := (mkF m 17 #[.val (.ref a), .val (.ref b)] [(.ref a), (.ref t), (.ref b), (.ref a)])) rfl rfl (hb hby d19_17)
  refine Gl.back (fun _ k => st114 _ k) ?_
  show Gl _ _ _ _ _ _ _ (T114.setTop (mkF m 20 #[.val (.ref a), .val (.ref b)] [(.int (1 : Int32)), (.ref t), (.ref b), (.ref a)]))
  have f116 := (E_a.wr W110)
  have f117 := (E_b.wr W110)
  have f118 := (V_t.other W110 (Ne.symm hat))
  obtain ⟨cq115, q115, q115'⟩ := f116.cell
  obtain ⟨_, _, ⟨T115, L115, k115, n115⟩, -, X115, ⟨Lc115, hQ115, l115, y115, z115⟩, st115⟩ := X114.privateBack hx (y := (⟨"java/util/ArrayList", "add", "(Ljava/lang/Object;[Ljava/lang/Object;I)V"⟩ : MethodName)) hown (mvT hZ (hw _ (List.mem_of_getElem? (i := 143) rfl))) (mvT hZ (hw _ (List.mem_of_getElem? (i := 144) rfl))) (mvT hZ (hw _ (List.mem_of_getElem? (i := 146) rfl))) (Cond.privateMethod_at (mvP hZ (hw _ (List.mem_of_getElem? (i := 145) rfl)) (args := #[]))) (mvT hZ (hw _ (List.mem_of_getElem? (i := 147) rfl))) (by decide) (backOf (W := 0) (rmadd31 l Z a0 hw [] a b t c0 kt (mc + (1 : Int32)) h110 n0 Z110 g_a f116 Fw110 f111 f113 f117 g_t f118 Ov_t hab hat hbt) hZ (hw _ (List.mem_of_getElem? (i := 147) rfl)) (hw _ (List.mem_of_getElem? (i := 25) rfl)) (by decide) (by decide)) (g := (mkF m 20 #[.val (.ref a), .val (.ref b)] [(.int (1 : Int32)), (.ref t), (.ref b), (.ref a)])) rfl (by rw [hml]; rfl) (Steps.refl _) (a := a) (by rw [e114]; exact q115) q115' (argsL := [(.ref b), (.ref t), (.int (1 : Int32))]) (rest := []) (lenOf pd__Ljava_lang_Object__Ljava_lang_Object_I_V rfl) rfl (by show 2 * 0 + _ ≤ _; exact Nat.le_of_eq rfl) (hb hby d19_20) (fun _ _ => ⟨rfl, e114, (by decide : 0 + 0 ≤ _), (by decide : 0 + 0 ≤ _)⟩)
  dsimp only [Pt.U, Pt.locs, Pt.cells, Pt.slots] at X115 l115 y115 z115 st115 hQ115
  subst l115 y115 z115
  obtain ⟨Nq115, rfl, Kq115, Fs115⟩ := hQ115
  have N115 := Fr.app N110 Nq115
  have Kc115 := Keep.trans K110 Kq115 (allS (Or.inl (List.mem_of_getElem? (i := 0) rfl)) (allS (Or.inl (List.mem_of_getElem? (i := 1) rfl)) all0))
  have Zc115 : n0 ≤ T115.heap.size := Nat.le_trans Z110 Kq115.1
  refine Gl.back (fun _ k => st115.trans k) ?_
  show Gl _ _ _ _ _ _ _ (T115.setTop (mkF m 23 #[.val (.ref a), .val (.ref b)] []))
  refine Gl.back (fun _ k => XS.iconst X115.here hx rfl (hb hby d19_23) k) ?_
  show Gl _ _ _ _ _ _ _ (T115.setTop (mkF m 24 #[.val (.ref a), .val (.ref b)] [(.int (1 : Int32))]))
  exact Gl.ret X115 rfl (v := (some (.int (1 : Int32)))) (fun h => by rw [Bd.returns] at h; cases h) Bd.notSynchronized (fun fs hr => retN X115 hx (t := .boolean) (z := (1 : Int32)) Bd.returns (by simp) (hb hby d19_24) hr) ⟨N115, rfl, Kc115, Fs115⟩ (by decide) (by decide)
theorem d12_0 : decode prog_50_method_5_code 0 = .ok (.getstatic 43, 3) := by decide +kernel
theorem d12_3 : decode prog_50_method_5_code 3 = .ok (.lload_n 3, 1) := by decide +kernel
theorem d12_4 : decode prog_50_method_5_code 4 = .ok (.invokevirtual 49, 3) := by decide +kernel
theorem pd__J_J : parseMethodDescriptor "(J)J" = some ⟨[.long], some .long⟩ := by decide +kernel
theorem d12_7 : decode prog_50_method_5_code 7 = .ok (.lstore 5, 2) := by decide +kernel
theorem d12_9 : decode prog_50_method_5_code 9 = .ok (.aload_n 0, 1) := by decide +kernel
theorem d12_10 : decode prog_50_method_5_code 10 = .ok (.aload_n 2, 1) := by decide +kernel
theorem d12_11 : decode prog_50_method_5_code 11 = .ok (.invokevirtual 53, 3) := by decide +kernel
theorem pd__Lcom_example_gavelwatch_gavelwatch_model_Money__Z : parseMethodDescriptor "(Lcom/example/gavelwatch/gavelwatch/model/Money;)Z" = some ⟨[(.object "com/example/gavelwatch/gavelwatch/model/Money")], some .boolean⟩ := by decide +kernel
theorem d12_14 : decode prog_50_method_5_code 14 = .ok (.ifCond .ne 65, 3) := by decide +kernel
theorem d12_79 : decode prog_50_method_5_code 79 = .ok (.aload_n 0, 1) := by decide +kernel
theorem d12_80 : decode prog_50_method_5_code 80 = .ok (.new 29, 3) := by decide +kernel
theorem d12_83 : decode prog_50_method_5_code 83 = .ok (.dup, 1) := by decide +kernel
theorem d12_84 : decode prog_50_method_5_code 84 = .ok (.aload_n 1, 1) := by decide +kernel
theorem d12_85 : decode prog_50_method_5_code 85 = .ok (.aload_n 2, 1) := by decide +kernel
theorem d12_86 : decode prog_50_method_5_code 86 = .ok (.lload 5, 2) := by decide +kernel
theorem d12_88 : decode prog_50_method_5_code 88 = .ok (.invokespecial 83, 3) := by decide +kernel
theorem pd__Ljava_lang_String_Lcom_example_gavelwatch_gavelwatch_model_Money_J_V : parseMethodDescriptor "(Ljava/lang/String;Lcom/example/gavelwatch/gavelwatch/model/Money;J)V" = some ⟨[(.object "java/lang/String"), (.object "com/example/gavelwatch/gavelwatch/model/Money"), .long], none⟩ := by decide +kernel
theorem d12_91 : decode prog_50_method_5_code 91 = .ok (.putfield 20, 3) := by decide +kernel
theorem d12_94 : decode prog_50_method_5_code 94 = .ok (.aload_n 0, 1) := by decide +kernel
theorem d12_95 : decode prog_50_method_5_code 95 = .ok (.getfield 10, 3) := by decide +kernel
theorem d12_98 : decode prog_50_method_5_code 98 = .ok (.aload_n 0, 1) := by decide +kernel
theorem d12_99 : decode prog_50_method_5_code 99 = .ok (.getfield 20, 3) := by decide +kernel
theorem d12_102 : decode prog_50_method_5_code 102 = .ok (.invokeinterface 86 2, 5) := by decide +kernel
theorem pd__Ljava_lang_Object__Z : parseMethodDescriptor "(Ljava/lang/Object;)Z" = some ⟨[(.object "java/lang/Object")], some .boolean⟩ := by decide +kernel
theorem d12_107 : decode prog_50_method_5_code 107 = .ok (.pop, 1) := by decide +kernel
theorem d12_108 : decode prog_50_method_5_code 108 = .ok (.return_, 1) := by decide +kernel
theorem ef_place0 (m : MethodId) (x0 : Addr) (x1 : Addr) (x2 : Addr) (x3 : Int64) : entryFrame m #[(.ref x0), (.ref x1), (.ref x2), (.long x3)] 7 = mkF m 0 #[.val (.ref x0), .val (.ref x1), .val (.ref x2), .val (.long x3), .second, .unset, .unset] [] := by first | (simp [entryFrame, mkF, argsToLocals, Value.category]; done) | rfl
def Qplace0 (Z : State) (a : Addr) (b1 : Addr) (m1 : Addr) (t1 : Int64) (l1 o u wD : Addr) (kD : ClassId) (mc : Int32) (x y : Int64) (h0 : Heap) (n0 : Nat) (v : Option Value) (h : Heap) (L : List Loc) : Prop := Fr n0 L ∧ (v = none ∧ Keep h0 h [a, l1] ∧ ∃ (b t : Addr) (k : ClassId), h0.size ≤ b ∧ n0 ≤ b ∧ h0.size ≤ t ∧ n0 ≤ t ∧ b ≠ t ∧ Exa Z h b "com/example/gavelwatch/gavelwatch/model/Bid" ∧ Fld Z h a "com/example/gavelwatch/gavelwatch/sim/RunningAuction" "highest" "Lcom/example/gavelwatch/gavelwatch/model/Bid;" (.ref b) ∧ Fld Z h b "com/example/gavelwatch/gavelwatch/model/Bid" "amount" "Lcom/example/gavelwatch/gavelwatch/model/Money;" (.ref m1) ∧ Fld Z h a "com/example/gavelwatch/gavelwatch/sim/RunningAuction" "bids" "Ljava/util/List;" (.ref l1) ∧ Fld Z h l1 "java/util/ArrayList" "elementData" "[Ljava/lang/Object;" (.ref t) ∧ Fld Z h l1 "java/util/ArrayList" "size" "I" (.int (1 : Int32)) ∧ Fld Z h l1 "java/util/AbstractList" "modCount" "I" (.int (mc + (1 : Int32))) ∧ Arv Z h t k (.object "java/lang/Object") (10 : Int32) [(.ref b), .null, .null, .null, .null, .null, .null, .null, .null, .null] .null ∧ Ovr Z k "java/lang/Object" ∧ True)
set_option maxRecDepth 65536 in
set_option maxHeartbeats 40000000 in
theorem rmplace0 (l : Launch) (Z : State) (a0 : Array Value) (hw : ∀ d ∈ tables_1, d.before a0 Z = true) (ws : List Jvm.Cond) (a : Addr) (b1 : Addr) (m1 : Addr) (t1 : Int64) (l1 o u wD : Addr) (kD : ClassId) (mc : Int32) (x y : Int64) (h0 : Heap) (n0 : Nat) (Z0 : n0 ≤ h0.size) (O0 : Old Z n0 h0) (g_a : n0 ≤ a) (E_a : Exa Z h0 a "com/example/gavelwatch/gavelwatch/sim/RunningAuction") (F_a_highest : Fld Z h0 a "com/example/gavelwatch/gavelwatch/sim/RunningAuction" "highest" "Lcom/example/gavelwatch/gavelwatch/model/Bid;" .null) (F_a_bids : Fld Z h0 a "com/example/gavelwatch/gavelwatch/sim/RunningAuction" "bids" "Ljava/util/List;" (.ref l1)) (F_a_openingBid : Fld Z h0 a "com/example/gavelwatch/gavelwatch/sim/RunningAuction" "openingBid" "Lcom/example/gavelwatch/gavelwatch/model/Money;" (.ref o)) (E_o : Exa Z h0 o "com/example/gavelwatch/gavelwatch/model/Money") (F_o_cents : Fld Z h0 o "com/example/gavelwatch/gavelwatch/model/Money" "cents" "J" (.long y)) (E_m1 : Exa Z h0 m1 "com/example/gavelwatch/gavelwatch/model/Money") (F_m1_cents : Fld Z h0 m1 "com/example/gavelwatch/gavelwatch/model/Money" "cents" "J" (.long x)) (g_l1 : n0 ≤ l1) (E_l1 : Exa Z h0 l1 "java/util/ArrayList") (F_l1_modCount : Fld Z h0 l1 "java/util/AbstractList" "modCount" "I" (.int mc)) (F_l1_elementData : Fld Z h0 l1 "java/util/ArrayList" "elementData" "[Ljava/lang/Object;" (.ref wD)) (F_l1_size : Fld Z h0 l1 "java/util/ArrayList" "size" "I" (.int (0 : Int32))) (S_DEFAULTCAPACITY_EMPTY_ELEMENTDATA : Sta Z Z.heap "java/util/ArrayList" "DEFAULTCAPACITY_EMPTY_ELEMENTDATA" "[Ljava/lang/Object;" (.ref wD)) (V_wD : Arv Z Z.heap wD kD (.object "java/lang/Object") (0 : Int32) [] .null) (S_SECONDS : Sta Z Z.heap "java/util/concurrent/TimeUnit" "SECONDS" "Ljava/util/concurrent/TimeUnit;" (.ref u)) (E_u : Exa Z Z.heap u "java/util/concurrent/TimeUnit") (F_u_scale : Fld Z Z.heap u "java/util/concurrent/TimeUnit" "scale" "J" (.long (1000000000 : Int64))) (F_u_maxNanos : Fld Z Z.heap u "java/util/concurrent/TimeUnit" "maxNanos" "J" (.long (9223372036 : Int64))) (hge : ¬ x < y) (hal : a ≠ l1) (hao : a ≠ o) (ham : a ≠ m1) (hlo : l1 ≠ o) (hlm : l1 ≠ m1) (hn1 : ¬ (9223372036 : Int64) < t1) (hn2 : ¬ t1 < (-(9223372036 : Int64))) :
    MetFree l (⟨"com/example/gavelwatch/gavelwatch/sim/RunningAuction", "place", "(Ljava/lang/String;Lcom/example/gavelwatch/gavelwatch/model/Money;J)V"⟩ : MethodName) (head1 (Jvm.Cond.code (⟨"com/example/gavelwatch/gavelwatch/sim/RunningAuction", "place", "(Ljava/lang/String;Lcom/example/gavelwatch/gavelwatch/model/Money;J)V"⟩ : MethodName) prog_50_method_5_code 7 none :: ws) ({ frames := 5, cells := 6, slots := 69, locals := 69 } : Room)) (fun as0 U => as0 = #[(.ref a), (.ref b1), (.ref m1), (.long t1)] ∧ Z.Warmed39 U.vm ∧ U.heap = h0) (fun _ _ _ _ _ => True) (fun _ U oc0 U' => ∃ v L, oc0 = .returned v ∧ Qplace0 Z a b1 m1 t1 l1 o u wD kD mc x y h0 n0 v U'.heap L ∧ ReturnedEndW U oc0 U' L ({ frames := 5, cells := 6, slots := 69, locals := 69 } : Room).cells ({ frames := 5, cells := 6, slots := 69, locals := 69 } : Room).slots) := by
  refine MetFree.of_bodySF (plainFor_of_name pn_com_example_gavelwatch_gavelwatch_sim_RunningAuction) hisR ?_
  intro p e s m args below meth c s₁ Bd hml0 hP hK
  obtain ⟨rfl, hZ, hh⟩ := hP
  have hx := Bd.exec
  have hby := Bd.bytes
  have hml : c.maxLocals = 7 := hml0
  have hown : s.vm.findClass "com/example/gavelwatch/gavelwatch/sim/RunningAuction" = some m.cls := findClass_of_methodNamed Bd.named
  have hnm := (name_of_methodNamed Bd.named Bd.method).1
  have X0 : Stand p l e ({ frames := 5, cells := 6, slots := 69, locals := 69 } : Room) (s.setVm s.vm) m #[(.ref a), (.ref b1), (.ref m1), (.long t1)] below meth c s₁ [] 0 0 := Stand.of_body Bd
  have e0 : s₁.heap = h0 := by rw [← hh, Bd.state]; rfl
  have N0 := Fr.nil n0
  have hZ0 : Z.Warmed39 (s.setVm s.vm).vm := hZ
  have hown0 : (s.setVm s.vm).vm.findClass "com/example/gavelwatch/gavelwatch/sim/RunningAuction" = some m.cls := hown
  have hS0 : s.Since s.vm 0 := (State.WarmedH.refl s).since 0
  have SK0 : 0 ≤ h0.size := Nat.zero_le _
  show GlW p e below s (Qplace0 Z a b1 m1 t1 l1 o u wD kD mc x y h0 n0) ({ frames := 5, cells := 6, slots := 69, locals := 69 } : Room).cells ({ frames := 5, cells := 6, slots := 69, locals := 69 } : Room).slots (s₁.setTop (entryFrame m #[(.ref a), (.ref b1), (.ref m1), (.long t1)] 7))
  refine GlW.back (fun _ k => castTop (ef_place0 m a b1 m1 t1) k) ?_
  show GlW _ _ _ _ _ _ _ (s₁.setTop (mkF m 0 #[.val (.ref a), .val (.ref b1), .val (.ref m1), .val (.long t1), .second, .unset, .unset] []))
  obtain ⟨T119, X119, e119, st119⟩ := getS2 X0 hx hZ0 hown0 (host := "") (Or.inl (hw _ (List.mem_of_getElem? (i := 85) rfl))) Via.refl e0 (S_SECONDS.ext O0.2) (g := (mkF m 0 #[.val (.ref a), .val (.ref b1), .val (.ref m1), .val (.long t1), .second, .unset, .unset] [])) rfl (hb hby d12_0)
  refine GlW.back (fun _ k => st119 _ k) ?_
  show GlW _ _ _ _ _ _ _ (T119.setTop (mkF m 3 #[.val (.ref a), .val (.ref b1), .val (.ref m1), .val (.long t1), .second, .unset, .unset] [(.ref u)]))
  refine GlW.back (fun _ k => XS.lloadN X119.here hx rfl (hb hby d12_3) rfl k) ?_
  show GlW _ _ _ _ _ _ _ (T119.setTop (mkF m 4 #[.val (.ref a), .val (.ref b1), .val (.ref m1), .val (.long t1), .second, .unset, .unset] [(.long t1), (.ref u)]))
  obtain ⟨cq120, kq120, q120a, q120b, q120c⟩ := isOf hZ0 e119 (E_u.ext O0.2)
  obtain ⟨_, _, ⟨T120, L120, k120, n120⟩, -, X120, ⟨Lc120, hQ120, l120, y120, z120⟩, st120⟩ := X119.virtualBack hx (y := (⟨"java/util/concurrent/TimeUnit", "toNanos", "(J)J"⟩ : MethodName)) (z := (⟨"java/util/concurrent/TimeUnit", "toNanos", "(J)J"⟩ : MethodName)) hown0 (mvT hZ0 (hw _ (List.mem_of_getElem? (i := 87) rfl))) (mvT hZ0 (hw _ (List.mem_of_getElem? (i := 88) rfl))) (notFace_of_selects (args := #[]) (mvT hZ0 (hw _ (List.mem_of_getElem? (i := 90) rfl)))) (mvT hZ0 (hw _ (List.mem_of_getElem? (i := 90) rfl))) (mvT hZ0 (hw _ (List.mem_of_getElem? (i := 89) rfl))) (by decide) (backOf (W := 0) (rmnano l Z a0 hw [] u t1  h0 n0 Z0 O0 E_u F_u_scale F_u_maxNanos hn1 hn2) hZ0 (hw _ (List.mem_of_getElem? (i := 91) rfl)) (hw _ (List.mem_of_getElem? (i := 86) rfl)) (by decide) (by decide)) q120a q120c (g := (mkF m 4 #[.val (.ref a), .val (.ref b1), .val (.ref m1), .val (.long t1), .second, .unset, .unset] [(.long t1), (.ref u)])) rfl (by rw [hml]; rfl) (Steps.refl _) (argsL := [(.long t1)]) (rest := []) (lenOf pd__J_J rfl) rfl (by show 2 * 0 + _ ≤ _; exact Nat.le_of_eq rfl) (hb hby d12_4) (fun _ _ => ⟨rfl, e119, (by decide : 0 + 0 ≤ _), (by decide : 0 + 0 ≤ _)⟩)
  dsimp only [Pt.U, Pt.locs, Pt.cells, Pt.slots] at X120 l120 y120 z120 st120 hQ120
  subst l120 y120 z120
  obtain ⟨Nq120, r120, rfl, eh120⟩ := hQ120
  have N120 := Fr.app N0 Nq120
  refine GlW.back (fun _ k => st120.trans k) ?_
  show GlW _ _ _ _ _ _ _ (T120.setTop (mkF m 7 #[.val (.ref a), .val (.ref b1), .val (.ref m1), .val (.long t1), .second, .unset, .unset] [(.long r120)]))
  refine GlW.back (fun _ k => XS.lstore X120.here hx rfl (hb hby d12_7) rfl (l' := #[.val (.ref a), .val (.ref b1), .val (.ref m1), .val (.long t1), .second, .val (.long r120), .second]) rfl k) ?_
  show GlW _ _ _ _ _ _ _ (T120.setTop (mkF m 9 #[.val (.ref a), .val (.ref b1), .val (.ref m1), .val (.long t1), .second, .val (.long r120), .second] []))
  refine GlW.back (fun _ k => XS.aloadN X120.here hx rfl (hb hby d12_9) rfl rfl k) ?_
  show GlW _ _ _ _ _ _ _ (T120.setTop (mkF m 10 #[.val (.ref a), .val (.ref b1), .val (.ref m1), .val (.long t1), .second, .val (.long r120), .second] [(.ref a)]))
  refine GlW.back (fun _ k => XS.aloadN X120.here hx rfl (hb hby d12_10) rfl rfl k) ?_
  show GlW _ _ _ _ _ _ _ (T120.setTop (mkF m 11 #[.val (.ref a), .val (.ref b1), .val (.ref m1), .val (.long t1), .second, .val (.long r120), .second] [(.ref m1), (.ref a)]))
  obtain ⟨cq121, kq121, q121a, q121b, q121c⟩ := isOf hZ0 eh120 E_a
  obtain ⟨_, _, ⟨T121, L121, k121, n121⟩, -, X121, ⟨Lc121, hQ121, l121, y121, z121⟩, st121⟩ := X120.virtualBack hx (y := (⟨"com/example/gavelwatch/gavelwatch/sim/RunningAuction", "accepts", "(Lcom/example/gavelwatch/gavelwatch/model/Money;)Z"⟩ : MethodName)) (z := (⟨"com/example/gavelwatch/gavelwatch/sim/RunningAuction", "accepts", "(Lcom/example/gavelwatch/gavelwatch/model/Money;)Z"⟩ : MethodName)) hown0 (mvT hZ0 (hw _ (List.mem_of_getElem? (i := 96) rfl))) (mvT hZ0 (hw _ (List.mem_of_getElem? (i := 97) rfl))) (notFace_of_selects (args := #[]) (mvT hZ0 (hw _ (List.mem_of_getElem? (i := 99) rfl)))) (mvT hZ0 (hw _ (List.mem_of_getElem? (i := 99) rfl))) (mvT hZ0 (hw _ (List.mem_of_getElem? (i := 98) rfl))) (by decide) (backOf (W := 0) (rmacc0 l Z a0 hw [] a m1 o x y h0 n0 Z0 E_a F_a_highest F_a_openingBid E_o F_o_cents E_m1 F_m1_cents hge) hZ0 (hw _ (List.mem_of_getElem? (i := 100) rfl)) (hw _ (List.mem_of_getElem? (i := 2) rfl)) (by decide) (by decide)) q121a q121c (g := (mkF m 11 #[.val (.ref a), .val (.ref b1), .val (.ref m1), .val (.long t1), .second, .val (.long r120), .second] [(.ref m1), (.ref a)])) rfl (by rw [hml]; rfl) (Steps.refl _) (argsL := [(.ref m1)]) (rest := []) (lenOf pd__Lcom_example_gavelwatch_gavelwatch_model_Money__Z rfl) rfl (by show 2 * 0 + _ ≤ _; exact Nat.le_of_eq rfl) (hb hby d12_11) (fun _ _ => ⟨rfl, eh120, (by decide : 0 + 0 ≤ _), (by decide : 0 + 0 ≤ _)⟩)
  dsimp only [Pt.U, Pt.locs, Pt.cells, Pt.slots] at X121 l121 y121 z121 st121 hQ121
  subst l121 y121 z121
  obtain ⟨Nq121, rfl, eh121⟩ := hQ121
  have N121 := Fr.app N120 Nq121
  refine GlW.back (fun _ k => st121.trans k) ?_
  show GlW _ _ _ _ _ _ _ (T121.setTop (mkF m 14 #[.val (.ref a), .val (.ref b1), .val (.ref m1), .val (.long t1), .second, .val (.long r120), .second] [(.int (1 : Int32))]))
  refine GlW.back (fun _ k => XS.ifYes X121.here hx rfl (pc0 := 14) (pc' := 79) rfl (hb hby d12_14) rfl ((if0 _ _).trans (feq (by decide : ¬ (1 : Int32) = (0 : Int32))).2) (by decide) (by decide) k) ?_
  show GlW _ _ _ _ _ _ _ (T121.setTop (mkF m 79 #[.val (.ref a), .val (.ref b1), .val (.ref m1), .val (.long t1), .second, .val (.long r120), .second] []))
  refine GlW.back (fun _ k => XS.aloadN X121.here hx rfl (hb hby d12_79) rfl rfl k) ?_
  show GlW _ _ _ _ _ _ _ (T121.setTop (mkF m 80 #[.val (.ref a), .val (.ref b1), .val (.ref m1), .val (.long t1), .second, .val (.long r120), .second] [(.ref a)]))
  obtain ⟨T122, h122, X122, e122, E122, A122, D122, -, st122⟩ := newO X121 hx hZ0 hown0 (hw _ (List.mem_of_getElem? (i := 111) rfl)) (hw _ (List.mem_of_getElem? (i := 112) rfl)) (hw _ (List.mem_of_getElem? (i := 113) rfl)) eh121 (g := (mkF m 80 #[.val (.ref a), .val (.ref b1), .val (.ref m1), .val (.long t1), .second, .val (.long r120), .second] [(.ref a)])) rfl (hb hby d12_80) (by decide) (by decide)
  obtain ⟨b122, g122⟩ : ∃ z, z = h0.size := ⟨_, rfl⟩
  rw [← g122] at A122 D122 st122
  have ne_a_b122 : a ≠ b122 := Nat.ne_of_lt (Nat.lt_of_lt_of_le E_a.lt (Nat.le_of_eq g122.symm))
  have ne_o_b122 : o ≠ b122 := Nat.ne_of_lt (Nat.lt_of_lt_of_le E_o.lt (Nat.le_of_eq g122.symm))
  have ne_m1_b122 : m1 ≠ b122 := Nat.ne_of_lt (Nat.lt_of_lt_of_le E_m1.lt (Nat.le_of_eq g122.symm))
  have ne_l1_b122 : l1 ≠ b122 := Nat.ne_of_lt (Nat.lt_of_lt_of_le E_l1.lt (Nat.le_of_eq g122.symm))
  have g_b122 : n0 ≤ b122 := Nat.le_trans Z0 (Nat.le_of_eq g122.symm)
  have sz_b122 : h0.size ≤ b122 := Nat.le_trans (Keep.refl h0 [a, l1]).1 (Nat.le_of_eq g122.symm)
  have Z122 : n0 ≤ h122.size := Nat.le_trans Z0 E122.1
  have K122 := Keep.ext (Keep.refl h0 [a, l1]) E122
  have O122 := Old.ext O0 E122
  have SK122 := Nat.le_trans SK0 E122.1
  have F122_bidder : Fld Z h122 b122 "com/example/gavelwatch/gavelwatch/model/Bid" "bidder" "Ljava/lang/String;" .null := D122 (Or.inr (hw _ (List.mem_of_getElem? (i := 125) rfl))) (ty := (.object "java/lang/String")) (by decide)
  have F122_amount : Fld Z h122 b122 "com/example/gavelwatch/gavelwatch/model/Bid" "amount" "Lcom/example/gavelwatch/gavelwatch/model/Money;" .null := D122 (Or.inr (hw _ (List.mem_of_getElem? (i := 127) rfl))) (ty := (.object "com/example/gavelwatch/gavelwatch/model/Money")) (by decide)
  have F122_time : Fld Z h122 b122 "com/example/gavelwatch/gavelwatch/model/Bid" "time" "J" (.long (0 : Int64)) := D122 (Or.inr (hw _ (List.mem_of_getElem? (i := 129) rfl))) (ty := .long) (by decide)
  refine GlW.back (fun _ k => st122 _ k) ?_
  show GlW _ _ _ _ _ _ _ (T122.setTop (mkF m 83 #[.val (.ref a), .val (.ref b1), .val (.ref m1), .val (.long t1), .second, .val (.long r120), .second] [(.ref b122), (.ref a)]))
  refine GlW.back (fun _ k => XS.dup X122.here hx rfl (hb hby d12_83) rfl rfl k) ?_
  show GlW _ _ _ _ _ _ _ (T122.setTop (mkF m 84 #[.val (.ref a), .val (.ref b1), .val (.ref m1), .val (.long t1), .second, .val (.long r120), .second] [(.ref b122), (.ref b122), (.ref a)]))
  refine GlW.back (fun _ k => XS.aloadN X122.here hx rfl (hb hby d12_84) rfl rfl k) ?_
  show GlW _ _ _ _ _ _ _ (T122.setTop (mkF m 85 #[.val (.ref a), .val (.ref b1), .val (.ref m1), .val (.long t1), .second, .val (.long r120), .second] [(.ref b1), (.ref b122), (.ref b122), (.ref a)]))
  refine GlW.back (fun _ k => XS.aloadN X122.here hx rfl (hb hby d12_85) rfl rfl k) ?_
  show GlW _ _ _ _ _ _ _ (T122.setTop (mkF m 86 #[.val (.ref a), .val (.ref b1), .val (.ref m1), .val (.long t1), .second, .val (.long r120), .second] [(.ref m1), (.ref b1), (.ref b122), (.ref b122), (.ref a)]))
  refine GlW.back (fun _ k => XS.lload X122.here hx rfl (hb hby d12_86) rfl k) ?_
  show GlW _ _ _ _ _ _ _ (T122.setTop (mkF m 88 #[.val (.ref a), .val (.ref b1), .val (.ref m1), .val (.long t1), .second, .val (.long r120), .second] [(.long r120), (.ref m1), (.ref b1), (.ref b122), (.ref b122), (.ref a)]))
  obtain ⟨_, _, ⟨T123, L123, k123, n123⟩, -, X123, hS2123, hg2123, ⟨Lc123, hQ123, l123, y123, z123⟩, st123⟩ := X122.specialBackS hx (y := (⟨"com/example/gavelwatch/gavelwatch/model/Bid", "<init>", "(Ljava/lang/String;Lcom/example/gavelwatch/gavelwatch/model/Money;J)V"⟩ : MethodName)) rfl hown0 (mvT hZ0 (hw _ (List.mem_of_getElem? (i := 114) rfl))) (mvT hZ0 (hw _ (List.mem_of_getElem? (i := 115) rfl))) (mvT hZ0 (hw _ (List.mem_of_getElem? (i := 116) rfl))) (by decide) (backOfS (W := 2) (rmbidi l Z a0 hw [] b122 b1 m1 r120  h122 n0 Z122 g_b122 A122 F122_bidder F122_amount F122_time) hZ0 (hw _ (List.mem_of_getElem? (i := 116) rfl)) (hw _ (List.mem_of_getElem? (i := 113) rfl)) (by decide) (by decide)) (g := (mkF m 88 #[.val (.ref a), .val (.ref b1), .val (.ref m1), .val (.long t1), .second, .val (.long r120), .second] [(.long r120), (.ref m1), (.ref b1), (.ref b122), (.ref b122), (.ref a)])) rfl (by rw [hml]; rfl) (Steps.refl _) (a := b122) (argsL := [(.ref b1), (.ref m1), (.long r120)]) (rest := [(.ref b122), (.ref a)]) (lenOf pd__Ljava_lang_String_Lcom_example_gavelwatch_gavelwatch_model_Money_J_V rfl) rfl (by show 2 * 0 + _ ≤ _; exact Nat.le_of_eq rfl) (hb hby d12_88) (fun _ _ => ⟨rfl, e122, (by decide : 1 + 4 ≤ _), (by decide : 3 + 56 ≤ _)⟩)
  dsimp only [Pt.U, Pt.locs, Pt.cells, Pt.slots] at X123 l123 y123 z123 st123 hQ123 hS2123 hg2123
  subst l123 y123 z123
  obtain ⟨X123, hS123, hZ123, hown123⟩ := rebS hS0 (by rw [e122]; exact SK122) X123 hS2123 hg2123 hZ0 hown0
  obtain ⟨Nq123, rfl, Kq123, Fa123⟩ := hQ123
  have N123 := Fr.app N121 Nq123
  have Kc123 := Keep.trans K122 Kq123 (allS (Or.inr sz_b122) all0)
  have Zc123 : n0 ≤ T123.heap.size := Nat.le_trans Z122 Kq123.1
  have Oc123 := Old.keep O122 Kq123 (allS g_b122 all0)
  refine GlW.back (fun _ k => st123.trans k) ?_
  show GlW _ _ _ _ _ _ _ (T123.setTop (mkF m 91 #[.val (.ref a), .val (.ref b1), .val (.ref m1), .val (.long t1), .second, .val (.long r120), .second] [(.ref b122), (.ref a)]))
  have f124 := ((E_a.ext E122).keep Kq123)
  have f125 := ((F_a_highest.ext E122).keep Kq123 (ninS ne_a_b122 nin0))
  obtain ⟨T126, h126, X126, e126, W126, st126⟩ := putF X123 hx hZ123 hown123 (host := "") (Or.inl (hw _ (List.mem_of_getElem? (i := 61) rfl))) Via.refl rfl f125 f124 (Or.inl (hw _ (List.mem_of_getElem? (i := 62) rfl))) (hw _ (List.mem_of_getElem? (i := 1) rfl)) (ty := (.object "com/example/gavelwatch/gavelwatch/model/Bid")) (by decide) rfl rfl (g := (mkF m 91 #[.val (.ref a), .val (.ref b1), .val (.ref m1), .val (.long t1), .second, .val (.long r120), .second] [(.ref b122), (.ref a)])) rfl rfl (hb hby d12_91)
  have Fw126 := f125.same W126
  have K126 := Keep.wr Kc123 W126 (Or.inl (List.mem_of_getElem? (i := 0) rfl))
  have O126 := Old.wr Oc123 W126 g_a
  have Z126 : n0 ≤ h126.size := Nat.le_trans Zc123 (Keep.of_wr W126).1
  have SK126 := Nat.le_trans (Nat.le_refl _) (Keep.of_wr W126).1
  have N126 := Fr.snoc X126 N123 g_a
  refine GlW.back (fun _ k => st126 _ k) ?_
  show GlW _ _ _ _ _ _ _ (T126.setTop (mkF m 94 #[.val (.ref a), .val (.ref b1), .val (.ref m1), .val (.long t1), .second, .val (.long r120), .second] []))
  refine GlW.back (fun _ k => XS.aloadN X126.here hx rfl (hb hby d12_94) rfl rfl k) ?_
  show GlW _ _ _ _ _ _ _ (T126.setTop (mkF m 95 #[.val (.ref a), .val (.ref b1), .val (.ref m1), .val (.long t1), .second, .val (.long r120), .second] [(.ref a)]))
  have f127 := (((F_a_bids.ext E122).keep Kq123 (ninS ne_a_b122 nin0)).other W126 (Or.inr (slot_ne (Or.inr (hw _ (List.mem_of_getElem? (i := 48) rfl))) (Or.inl (hw _ (List.mem_of_getElem? (i := 62) rfl))) (by decide) (t := (.object "java/util/List")) (t' := (.object "com/example/gavelwatch/gavelwatch/model/Bid")) (by decide) (by decide))))
  obtain ⟨T128, X128, e128, st128⟩ := getF X126 hx hZ123 hown123 (host := "") (Or.inl (hw _ (List.mem_of_getElem? (i := 47) rfl))) Via.refl e126 f127 (g := (mkF m 95 #[.val (.ref a), .val (.ref b1), .val (.ref m1), .val (.long t1), .second, .val (.long r120), .second] [(.ref a)])) rfl rfl (hb hby d12_95)
  refine GlW.back (fun _ k => st128 _ k) ?_
  show GlW _ _ _ _ _ _ _ (T128.setTop (mkF m 98 #[.val (.ref a), .val (.ref b1), .val (.ref m1), .val (.long t1), .second, .val (.long r120), .second] [(.ref l1)]))
  refine GlW.back (fun _ k => XS.aloadN X128.here hx rfl (hb hby d12_98) rfl rfl k) ?_
  show GlW _ _ _ _ _ _ _ (T128.setTop (mkF m 99 #[.val (.ref a), .val (.ref b1), .val (.ref m1), .val (.long t1), .second, .val (.long r120), .second] [(.ref a), (.ref l1)]))
  obtain ⟨T129, X129, e129, st129⟩ := getF X128 hx hZ123 hown123 (host := "") (Or.inl (hw _ (List.mem_of_getElem? (i := 61) rfl))) Via.refl e128 Fw126 (g := (mkF m 99 #[.val (.ref a), .val (.ref b1), .val (.ref m1), .val (.long t1), .second, .val (.long r120), .second] [(.ref a), (.ref l1)])) rfl rfl (hb hby d12_99)
  refine GlW.back (fun _ k => st129 _ k) ?_
  show GlW _ _ _ _ _ _ _ (T129.setTop (mkF m 102 #[.val (.ref a), .val (.ref b1), .val (.ref m1), .val (.long t1), .second, .val (.long r120), .second] [(.ref b122), (.ref l1)]))
  have f131 := (f124.wr W126)
  have f132 := (((E_o.ext E122).keep Kq123).wr W126)
  have f133 := (((E_m1.ext E122).keep Kq123).wr W126)
  have f134 := (((E_l1.ext E122).keep Kq123).wr W126)
  have f135 := ((A122.keep Kq123).wr W126)
  have f136 := (((F_l1_modCount.ext E122).keep Kq123 (ninS ne_l1_b122 nin0)).other W126 (Or.inl (Ne.symm hal)))
  have f137 := (((F_l1_elementData.ext E122).keep Kq123 (ninS ne_l1_b122 nin0)).other W126 (Or.inl (Ne.symm hal)))
  have f138 := (((F_l1_size.ext E122).keep Kq123 (ninS ne_l1_b122 nin0)).other W126 (Or.inl (Ne.symm hal)))
  obtain ⟨cq130, kq130, q130a, q130b, q130c⟩ := isOf hZ123 e129 f134
  obtain ⟨_, _, ⟨T130, L130, k130, n130⟩, -, X130, ⟨Lc130, hQ130, l130, y130, z130⟩, st130⟩ := X129.interfaceBack hx (xi := (⟨"java/util/List", "add", "(Ljava/lang/Object;)Z"⟩ : MethodName)) (y := (⟨"java/util/ArrayList", "add", "(Ljava/lang/Object;)Z"⟩ : MethodName)) hown123 (mvT hZ123 (hw _ (List.mem_of_getElem? (i := 130) rfl))) (mvT hZ123 (hw _ (List.mem_of_getElem? (i := 131) rfl))) (mvT hZ123 (hw _ (List.mem_of_getElem? (i := 132) rfl))) (mvT hZ123 (hw _ (List.mem_of_getElem? (i := 133) rfl))) (mvT hZ123 (hw _ (List.mem_of_getElem? (i := 134) rfl))) (mvT hZ123 (hw _ (List.mem_of_getElem? (i := 135) rfl))) (mvT hZ123 (hw _ (List.mem_of_getElem? (i := 136) rfl))) (mvT hZ123 (hw _ (List.mem_of_getElem? (i := 137) rfl))) (by decide) (backOf (W := 0) (rmadd0 l Z a0 hw [] l1 b122 wD kD mc h126 n0 Z126 O126 g_l1 f134 f136 f137 f138 S_DEFAULTCAPACITY_EMPTY_ELEMENTDATA V_wD f135 ne_l1_b122) hZ123 (hw _ (List.mem_of_getElem? (i := 138) rfl)) (hw _ (List.mem_of_getElem? (i := 25) rfl)) (by decide) (by decide)) q130a q130b q130c (g := (mkF m 102 #[.val (.ref a), .val (.ref b1), .val (.ref m1), .val (.long t1), .second, .val (.long r120), .second] [(.ref b122), (.ref l1)])) rfl (by rw [hml]; rfl) (Steps.refl _) (argsL := [(.ref b122)]) (rest := []) (lenOf pd__Ljava_lang_Object__Z rfl) rfl (by show 2 * 0 + _ ≤ _; exact Nat.le_of_eq rfl) (hb hby d12_102) (fun _ _ => ⟨rfl, e129, (by decide : 5 + 1 ≤ _), (by decide : 59 + 10 ≤ _)⟩)
  dsimp only [Pt.U, Pt.locs, Pt.cells, Pt.slots] at X130 l130 y130 z130 st130 hQ130
  subst l130 y130 z130
  obtain ⟨Nq130, t130, k0130, rfl, Kq130, Sz130, Gz130, Fe130, Fs130, Fm130, V130, Ov130⟩ := hQ130
  have N130 := Fr.app N126 Nq130
  have Kc130 := Keep.trans K126 Kq130 (allS (Or.inl (List.mem_of_getElem? (i := 1) rfl)) all0)
  have Zc130 : n0 ≤ T130.heap.size := Nat.le_trans Z126 Kq130.1
  have Oc130 := Old.keep O126 Kq130 (allS g_l1 all0)
  have SKc130 := Nat.le_trans SK126 Kq130.1
  have ne_a_t130 : a ≠ t130 := Nat.ne_of_lt (Nat.lt_of_lt_of_le (f131).lt Sz130)
  have ne_o_t130 : o ≠ t130 := Nat.ne_of_lt (Nat.lt_of_lt_of_le (f132).lt Sz130)
  have ne_m1_t130 : m1 ≠ t130 := Nat.ne_of_lt (Nat.lt_of_lt_of_le (f133).lt Sz130)
  have ne_l1_t130 : l1 ≠ t130 := Nat.ne_of_lt (Nat.lt_of_lt_of_le (f134).lt Sz130)
  have ne_b122_t130 : b122 ≠ t130 := Nat.ne_of_lt (Nat.lt_of_lt_of_le (f135).lt Sz130)
  have sz_t130 : h0.size ≤ t130 := Nat.le_trans K126.1 Sz130
  refine GlW.back (fun _ k => st130.trans k) ?_
  show GlW _ _ _ _ _ _ _ (T130.setTop (mkF m 107 #[.val (.ref a), .val (.ref b1), .val (.ref m1), .val (.long t1), .second, .val (.long r120), .second] [(.int (1 : Int32))]))
  refine GlW.back (fun _ k => XS.pop X130.here hx rfl (hb hby d12_107) rfl rfl k) ?_
  show GlW _ _ _ _ _ _ _ (T130.setTop (mkF m 108 #[.val (.ref a), .val (.ref b1), .val (.ref m1), .val (.long t1), .second, .val (.long r120), .second] []))
  have f139 := (f135.keep Kq130)
  have f140 := (Fw126.keep Kq130 (ninS hal nin0))
  have f141 := ((Fa123.other W126 (Or.inl (Ne.symm ne_a_b122))).keep Kq130 (ninS (Ne.symm ne_l1_b122) nin0))
  have f142 := (f127.keep Kq130 (ninS hal nin0))
  exact GlW.ret X130 rfl hS123 SKc130 (v := none) (fun _ => rfl) Bd.notSynchronized (fun fs hr => X130.returnOut hx Bd.returns (hb hby d12_108) hr) ⟨N130, rfl, Kc130, b122, t130, k0130, sz_b122, g_b122, sz_t130, Gz130, ne_b122_t130, f139, f140, f141, f142, Fe130, Fs130, Fm130, V130, (show Ovr Z _ _ from Ov130), trivial⟩ (by decide) (by decide)
theorem ef_place1 (m : MethodId) (x0 : Addr) (x1 : Addr) (x2 : Addr) (x3 : Int64) : entryFrame m #[(.ref x0), (.ref x1), (.ref x2), (.long x3)] 7 = mkF m 0 #[.val (.ref x0), .val (.ref x1), .val (.ref x2), .val (.long x3), .second, .unset, .unset] [] := by first | (simp [entryFrame, mkF, argsToLocals, Value.category]; done) | rfl
def Qplace1 (Z : State) (a : Addr) (b1 : Addr) (m1 : Addr) (t1 : Int64) (l1 o u c0 t : Addr) (kt : ClassId) (mc : Int32) (x y : Int64) (h0 : Heap) (n0 : Nat) (v : Option Value) (h : Heap) (L : List Loc) : Prop := Fr n0 L ∧ (v = none ∧ Keep h0 h [a, l1, t] ∧ ∃ (b : Addr), h0.size ≤ b ∧ n0 ≤ b ∧ Exa Z h b "com/example/gavelwatch/gavelwatch/model/Bid" ∧ Fld Z h a "com/example/gavelwatch/gavelwatch/sim/RunningAuction" "highest" "Lcom/example/gavelwatch/gavelwatch/model/Bid;" (.ref b) ∧ Fld Z h b "com/example/gavelwatch/gavelwatch/model/Bid" "amount" "Lcom/example/gavelwatch/gavelwatch/model/Money;" (.ref m1) ∧ Fld Z h a "com/example/gavelwatch/gavelwatch/sim/RunningAuction" "bids" "Ljava/util/List;" (.ref l1) ∧ Fld Z h l1 "java/util/ArrayList" "size" "I" (.int (2 : Int32)))
set_option maxRecDepth 65536 in
set_option maxHeartbeats 40000000 in
theorem rmplace1 (l : Launch) (Z : State) (a0 : Array Value) (hw : ∀ d ∈ tables_1, d.before a0 Z = true) (ws : List Jvm.Cond) (a : Addr) (b1 : Addr) (m1 : Addr) (t1 : Int64) (l1 o u c0 t : Addr) (kt : ClassId) (mc : Int32) (x y : Int64) (h0 : Heap) (n0 : Nat) (Z0 : n0 ≤ h0.size) (O0 : Old Z n0 h0) (g_a : n0 ≤ a) (E_a : Exa Z h0 a "com/example/gavelwatch/gavelwatch/sim/RunningAuction") (F_a_highest : Fld Z h0 a "com/example/gavelwatch/gavelwatch/sim/RunningAuction" "highest" "Lcom/example/gavelwatch/gavelwatch/model/Bid;" (.ref c0)) (F_a_bids : Fld Z h0 a "com/example/gavelwatch/gavelwatch/sim/RunningAuction" "bids" "Ljava/util/List;" (.ref l1)) (E_c0 : Exa Z h0 c0 "com/example/gavelwatch/gavelwatch/model/Bid") (F_c0_amount : Fld Z h0 c0 "com/example/gavelwatch/gavelwatch/model/Bid" "amount" "Lcom/example/gavelwatch/gavelwatch/model/Money;" (.ref o)) (E_o : Exa Z h0 o "com/example/gavelwatch/gavelwatch/model/Money") (F_o_cents : Fld Z h0 o "com/example/gavelwatch/gavelwatch/model/Money" "cents" "J" (.long y)) (E_m1 : Exa Z h0 m1 "com/example/gavelwatch/gavelwatch/model/Money") (F_m1_cents : Fld Z h0 m1 "com/example/gavelwatch/gavelwatch/model/Money" "cents" "J" (.long x)) (g_l1 : n0 ≤ l1) (E_l1 : Exa Z h0 l1 "java/util/ArrayList") (F_l1_modCount : Fld Z h0 l1 "java/util/AbstractList" "modCount" "I" (.int mc)) (F_l1_elementData : Fld Z h0 l1 "java/util/ArrayList" "elementData" "[Ljava/lang/Object;" (.ref t)) (F_l1_size : Fld Z h0 l1 "java/util/ArrayList" "size" "I" (.int (1 : Int32))) (g_t : n0 ≤ t) (V_t : Arv Z h0 t kt (.object "java/lang/Object") (10 : Int32) [(.ref c0), .null, .null, .null, .null, .null, .null, .null, .null, .null] .null) (S_SECONDS : Sta Z Z.heap "java/util/concurrent/TimeUnit" "SECONDS" "Ljava/util/concurrent/TimeUnit;" (.ref u)) (E_u : Exa Z Z.heap u "java/util/concurrent/TimeUnit") (F_u_scale : Fld Z Z.heap u "java/util/concurrent/TimeUnit" "scale" "J" (.long (1000000000 : Int64))) (F_u_maxNanos : Fld Z Z.heap u "java/util/concurrent/TimeUnit" "maxNanos" "J" (.long (9223372036 : Int64))) (Ov_t : Ovr Z kt "java/lang/Object") (hlt : y < x) (h_a_l1 : a ≠ l1) (h_a_c0 : a ≠ c0) (h_a_o : a ≠ o) (h_a_m1 : a ≠ m1) (h_a_t : a ≠ t) (h_l1_c0 : l1 ≠ c0) (h_l1_o : l1 ≠ o) (h_l1_m1 : l1 ≠ m1) (h_l1_t : l1 ≠ t) (hn1 : ¬ (9223372036 : Int64) < t1) (hn2 : ¬ t1 < (-(9223372036 : Int64))) :
    MetFree l (⟨"com/example/gavelwatch/gavelwatch/sim/RunningAuction", "place", "(Ljava/lang/String;Lcom/example/gavelwatch/gavelwatch/model/Money;J)V"⟩ : MethodName) (head1 (Jvm.Cond.code (⟨"com/example/gavelwatch/gavelwatch/sim/RunningAuction", "place", "(Ljava/lang/String;Lcom/example/gavelwatch/gavelwatch/model/Money;J)V"⟩ : MethodName) prog_50_method_5_code 7 none :: ws) ({ frames := 3, cells := 5, slots := 59, locals := 42 } : Room)) (fun as0 U => as0 = #[(.ref a), (.ref b1), (.ref m1), (.long t1)] ∧ Z.Warmed39 U.vm ∧ U.heap = h0) (fun _ _ _ _ _ => True) (fun _ U oc0 U' => ∃ v L, oc0 = .returned v ∧ Qplace1 Z a b1 m1 t1 l1 o u c0 t kt mc x y h0 n0 v U'.heap L ∧ ReturnedEndW U oc0 U' L ({ frames := 3, cells := 5, slots := 59, locals := 42 } : Room).cells ({ frames := 3, cells := 5, slots := 59, locals := 42 } : Room).slots) := by
  refine MetFree.of_bodySF (plainFor_of_name pn_com_example_gavelwatch_gavelwatch_sim_RunningAuction) hisR ?_
  intro p e s m args below meth c s₁ Bd hml0 hP hK
  obtain ⟨rfl, hZ, hh⟩ := hP
  have hx := Bd.exec
  have hby := Bd.bytes
  have hml : c.maxLocals = 7 := hml0
  have hown : s.vm.findClass "com/example/gavelwatch/gavelwatch/sim/RunningAuction" = some m.cls := findClass_of_methodNamed Bd.named
  have hnm := (name_of_methodNamed Bd.named Bd.method).1
  have X0 : Stand p l e ({ frames := 3, cells := 5, slots := 59, locals := 42 } : Room) (s.setVm s.vm) m #[(.ref a), (.ref b1), (.ref m1), (.long t1)] below meth c s₁ [] 0 0 := Stand.of_body Bd
  have e0 : s₁.heap = h0 := by rw [← hh, Bd.state]; rfl
  have N0 := Fr.nil n0
  have hZ0 : Z.Warmed39 (s.setVm s.vm).vm := hZ
  have hown0 : (s.setVm s.vm).vm.findClass "com/example/gavelwatch/gavelwatch/sim/RunningAuction" = some m.cls := hown
  have hS0 : s.Since s.vm 0 := (State.WarmedH.refl s).since 0
  have SK0 : 0 ≤ h0.size := Nat.zero_le _
  show GlW p e below s (Qplace1 Z a b1 m1 t1 l1 o u c0 t kt mc x y h0 n0) ({ frames := 3, cells := 5, slots := 59, locals := 42 } : Room).cells ({ frames := 3, cells := 5, slots := 59, locals := 42 } : Room).slots (s₁.setTop (entryFrame m #[(.ref a), (.ref b1), (.ref m1), (.long t1)] 7))
  refine GlW.back (fun _ k => castTop (ef_place1 m a b1 m1 t1) k) ?_
  show GlW _ _ _ _ _ _ _ (s₁.setTop (mkF m 0 #[.val (.ref a), .val (.ref b1), .val (.ref m1), .val (.long t1), .second, .unset, .unset] []))
  obtain ⟨T143, X143, e143, st143⟩ := getS2 X0 hx hZ0 hown0 (host := "") (Or.inl (hw _ (List.mem_of_getElem? (i := 85) rfl))) Via.refl e0 (S_SECONDS.ext O0.2) (g := (mkF m 0 #[.val (.ref a), .val (.ref b1), .val (.ref m1), .val (.long t1), .second, .unset, .unset] [])) rfl (hb hby d12_0)
  refine GlW.back (fun _ k => st143 _ k) ?_
  show GlW _ _ _ _ _ _ _ (T143.setTop (mkF m 3 #[.val (.ref a), .val (.ref b1), .val (.ref m1), .val (.long t1), .second, .unset, .unset] [(.ref u)]))
  refine GlW.back (fun _ k => XS.lloadN X143.here hx rfl (hb hby d12_3) rfl k) ?_
  show GlW _ _ _ _ _ _ _ (T143.setTop (mkF m 4 #[.val (.ref a), .val (.ref b1), .val (.ref m1), .val (.long t1), .second, .unset, .unset] [(.long t1), (.ref u)]))
  obtain ⟨cq144, kq144, q144a, q144b, q144c⟩ := isOf hZ0 e143 (E_u.ext O0.2)
  obtain ⟨_, _, ⟨T144, L144, k144, n144⟩, -, X144, ⟨Lc144, hQ144, l144, y144, z144⟩, st144⟩ := X143.virtualBack hx (y := (⟨"java/util/concurrent/TimeUnit", "toNanos", "(J)J"⟩ : MethodName)) (z := (⟨"java/util/concurrent/TimeUnit", "toNanos", "(J)J"⟩ : MethodName)) hown0 (mvT hZ0 (hw _ (List.mem_of_getElem? (i := 87) rfl))) (mvT hZ0 (hw _ (List.mem_of_getElem? (i := 88) rfl))) (notFace_of_selects (args := #[]) (mvT hZ0 (hw _ (List.mem_of_getElem? (i := 90) rfl)))) (mvT hZ0 (hw _ (List.mem_of_getElem? (i := 90) rfl))) (mvT hZ0 (hw _ (List.mem_of_getElem? (i := 89) rfl))) (by decide) (backOf (W := 0) (rmnano l Z a0 hw [] u t1  h0 n0 Z0 O0 E_u F_u_scale F_u_maxNanos hn1 hn2) hZ0 (hw _ (List.mem_of_getElem? (i := 91) rfl)) (hw _ (List.mem_of_getElem? (i := 86) rfl)) (by decide) (by decide)) q144a q144c (g := (mkF m 4 #[.val (.ref a), .val (.ref b1), .val (.ref m1), .val (.long t1), .second, .unset, .unset] [(.long t1), (.ref u)])) rfl (by rw [hml]; rfl) (Steps.refl _) (argsL := [(.long t1)]) (rest := []) (lenOf pd__J_J rfl) rfl (by show 2 * 0 + _ ≤ _; exact Nat.le_of_eq rfl) (hb hby d12_4) (fun _ _ => ⟨rfl, e143, (by decide : 0 + 0 ≤ _), (by decide : 0 + 0 ≤ _)⟩)
  dsimp only [Pt.U, Pt.locs, Pt.cells, Pt.slots] at X144 l144 y144 z144 st144 hQ144
  subst l144 y144 z144
  obtain ⟨Nq144, r144, rfl, eh144⟩ := hQ144
  have N144 := Fr.app N0 Nq144
  refine GlW.back (fun _ k => st144.trans k) ?_
  show GlW _ _ _ _ _ _ _ (T144.setTop (mkF m 7 #[.val (.ref a), .val (.ref b1), .val (.ref m1), .val (.long t1), .second, .unset, .unset] [(.long r144)]))
  refine GlW.back (fun _ k => XS.lstore X144.here hx rfl (hb hby d12_7) rfl (l' := #[.val (.ref a), .val (.ref b1), .val (.ref m1), .val (.long t1), .second, .val (.long r144), .second]) rfl k) ?_
  show GlW _ _ _ _ _ _ _ (T144.setTop (mkF m 9 #[.val (.ref a), .val (.ref b1), .val (.ref m1), .val (.long t1), .second, .val (.long r144), .second] []))
  refine GlW.back (fun _ k => XS.aloadN X144.here hx rfl (hb hby d12_9) rfl rfl k) ?_
  show GlW _ _ _ _ _ _ _ (T144.setTop (mkF m 10 #[.val (.ref a), .val (.ref b1), .val (.ref m1), .val (.long t1), .second, .val (.long r144), .second] [(.ref a)]))
  refine GlW.back (fun _ k => XS.aloadN X144.here hx rfl (hb hby d12_10) rfl rfl k) ?_
  show GlW _ _ _ _ _ _ _ (T144.setTop (mkF m 11 #[.val (.ref a), .val (.ref b1), .val (.ref m1), .val (.long t1), .second, .val (.long r144), .second] [(.ref m1), (.ref a)]))
  obtain ⟨cq145, kq145, q145a, q145b, q145c⟩ := isOf hZ0 eh144 E_a
  obtain ⟨_, _, ⟨T145, L145, k145, n145⟩, -, X145, ⟨Lc145, hQ145, l145, y145, z145⟩, st145⟩ := X144.virtualBack hx (y := (⟨"com/example/gavelwatch/gavelwatch/sim/RunningAuction", "accepts", "(Lcom/example/gavelwatch/gavelwatch/model/Money;)Z"⟩ : MethodName)) (z := (⟨"com/example/gavelwatch/gavelwatch/sim/RunningAuction", "accepts", "(Lcom/example/gavelwatch/gavelwatch/model/Money;)Z"⟩ : MethodName)) hown0 (mvT hZ0 (hw _ (List.mem_of_getElem? (i := 96) rfl))) (mvT hZ0 (hw _ (List.mem_of_getElem? (i := 97) rfl))) (notFace_of_selects (args := #[]) (mvT hZ0 (hw _ (List.mem_of_getElem? (i := 99) rfl)))) (mvT hZ0 (hw _ (List.mem_of_getElem? (i := 99) rfl))) (mvT hZ0 (hw _ (List.mem_of_getElem? (i := 98) rfl))) (by decide) (backOf (W := 0) (rmacc1 l Z a0 hw [] a m1 c0 o x y h0 n0 Z0 E_a F_a_highest E_c0 F_c0_amount E_o F_o_cents E_m1 F_m1_cents hlt) hZ0 (hw _ (List.mem_of_getElem? (i := 100) rfl)) (hw _ (List.mem_of_getElem? (i := 2) rfl)) (by decide) (by decide)) q145a q145c (g := (mkF m 11 #[.val (.ref a), .val (.ref b1), .val (.ref m1), .val (.long t1), .second, .val (.long r144), .second] [(.ref m1), (.ref a)])) rfl (by rw [hml]; rfl) (Steps.refl _) (argsL := [(.ref m1)]) (rest := []) (lenOf pd__Lcom_example_gavelwatch_gavelwatch_model_Money__Z rfl) rfl (by show 2 * 0 + _ ≤ _; exact Nat.le_of_eq rfl) (hb hby d12_11) (fun _ _ => ⟨rfl, eh144, (by decide : 0 + 0 ≤ _), (by decide : 0 + 0 ≤ _)⟩)
  dsimp only [Pt.U, Pt.locs, Pt.cells, Pt.slots] at X145 l145 y145 z145 st145 hQ145
  subst l145 y145 z145
  obtain ⟨Nq145, rfl, eh145⟩ := hQ145
  have N145 := Fr.app N144 Nq145
  refine GlW.back (fun _ k => st145.trans k) ?_
  show GlW _ _ _ _ _ _ _ (T145.setTop (mkF m 14 #[.val (.ref a), .val (.ref b1), .val (.ref m1), .val (.long t1), .second, .val (.long r144), .second] [(.int (1 : Int32))]))
  refine GlW.back (fun _ k => XS.ifYes X145.here hx rfl (pc0 := 14) (pc' := 79) rfl (hb hby d12_14) rfl ((if0 _ _).trans (feq (by decide : ¬ (1 : Int32) = (0 : Int32))).2) (by decide) (by decide) k) ?_
  show GlW _ _ _ _ _ _ _ (T145.setTop (mkF m 79 #[.val (.ref a), .val (.ref b1), .val (.ref m1), .val (.long t1), .second, .val (.long r144), .second] []))
  refine GlW.back (fun _ k => XS.aloadN X145.here hx rfl (hb hby d12_79) rfl rfl k) ?_
  show GlW _ _ _ _ _ _ _ (T145.setTop (mkF m 80 #[.val (.ref a), .val (.ref b1), .val (.ref m1), .val (.long t1), .second, .val (.long r144), .second] [(.ref a)]))
  obtain ⟨T146, h146, X146, e146, E146, A146, D146, -, st146⟩ := newO X145 hx hZ0 hown0 (hw _ (List.mem_of_getElem? (i := 111) rfl)) (hw _ (List.mem_of_getElem? (i := 112) rfl)) (hw _ (List.mem_of_getElem? (i := 113) rfl)) eh145 (g := (mkF m 80 #[.val (.ref a), .val (.ref b1), .val (.ref m1), .val (.long t1), .second, .val (.long r144), .second] [(.ref a)])) rfl (hb hby d12_80) (by decide) (by decide)
  obtain ⟨b146, g146⟩ : ∃ z, z = h0.size := ⟨_, rfl⟩
  rw [← g146] at A146 D146 st146
  have ne_a_b146 : a ≠ b146 := Nat.ne_of_lt (Nat.lt_of_lt_of_le E_a.lt (Nat.le_of_eq g146.symm))
  have ne_c0_b146 : c0 ≠ b146 := Nat.ne_of_lt (Nat.lt_of_lt_of_le E_c0.lt (Nat.le_of_eq g146.symm))
  have ne_o_b146 : o ≠ b146 := Nat.ne_of_lt (Nat.lt_of_lt_of_le E_o.lt (Nat.le_of_eq g146.symm))
  have ne_m1_b146 : m1 ≠ b146 := Nat.ne_of_lt (Nat.lt_of_lt_of_le E_m1.lt (Nat.le_of_eq g146.symm))
  have ne_l1_b146 : l1 ≠ b146 := Nat.ne_of_lt (Nat.lt_of_lt_of_le E_l1.lt (Nat.le_of_eq g146.symm))
  have ne_t_b146 : t ≠ b146 := Nat.ne_of_lt (Nat.lt_of_lt_of_le V_t.lt (Nat.le_of_eq g146.symm))
  have g_b146 : n0 ≤ b146 := Nat.le_trans Z0 (Nat.le_of_eq g146.symm)
  have sz_b146 : h0.size ≤ b146 := Nat.le_trans (Keep.refl h0 [a, l1, t]).1 (Nat.le_of_eq g146.symm)
  have Z146 : n0 ≤ h146.size := Nat.le_trans Z0 E146.1
  have K146 := Keep.ext (Keep.refl h0 [a, l1, t]) E146
  have O146 := Old.ext O0 E146
  have SK146 := Nat.le_trans SK0 E146.1
  have F146_bidder : Fld Z h146 b146 "com/example/gavelwatch/gavelwatch/model/Bid" "bidder" "Ljava/lang/String;" .null := D146 (Or.inr (hw _ (List.mem_of_getElem? (i := 125) rfl))) (ty := (.object "java/lang/String")) (by decide)
  have F146_amount : Fld Z h146 b146 "com/example/gavelwatch/gavelwatch/model/Bid" "amount" "Lcom/example/gavelwatch/gavelwatch/model/Money;" .null := D146 (Or.inr (hw _ (List.mem_of_getElem? (i := 127) rfl))) (ty := (.object "com/example/gavelwatch/gavelwatch/model/Money")) (by decide)
  have F146_time : Fld Z h146 b146 "com/example/gavelwatch/gavelwatch/model/Bid" "time" "J" (.long (0 : Int64)) := D146 (Or.inr (hw _ (List.mem_of_getElem? (i := 129) rfl))) (ty := .long) (by decide)
  refine GlW.back (fun _ k => st146 _ k) ?_
  show GlW _ _ _ _ _ _ _ (T146.setTop (mkF m 83 #[.val (.ref a), .val (.ref b1), .val (.ref m1), .val (.long t1), .second, .val (.long r144), .second] [(.ref b146), (.ref a)]))
  refine GlW.back (fun _ k => XS.dup X146.here hx rfl (hb hby d12_83) rfl rfl k) ?_
  show GlW _ _ _ _ _ _ _ (T146.setTop (mkF m 84 #[.val (.ref a), .val (.ref b1), .val (.ref m1), .val (.long t1), .second, .val (.long r144), .second] [(.ref b146), (.ref b146), (.ref a)]))
  refine GlW.back (fun _ k => XS.aloadN X146.here hx rfl (hb hby d12_84) rfl rfl k) ?_
  show GlW _ _ _ _ _ _ _ (T146.setTop (mkF m 85 #[.val (.ref a), .val (.ref b1), .val (.ref m1), .val (.long t1), .second, .val (.long r144), .second] [(.ref b1), (.ref b146), (.ref b146), (.ref a)]))
  refine GlW.back (fun _ k => XS.aloadN X146.here hx rfl (hb hby d12_85) rfl rfl k) ?_
  show GlW _ _ _ _ _ _ _ (T146.setTop (mkF m 86 #[.val (.ref a), .val (.ref b1), .val (.ref m1), .val (.long t1), .second, .val (.long r144), .second] [(.ref m1), (.ref b1), (.ref b146), (.ref b146), (.ref a)]))
  refine GlW.back (fun _ k => XS.lload X146.here hx rfl (hb hby d12_86) rfl k) ?_
  show GlW _ _ _ _ _ _ _ (T146.setTop (mkF m 88 #[.val (.ref a), .val (.ref b1), .val (.ref m1), .val (.long t1), .second, .val (.long r144), .second] [(.long r144), (.ref m1), (.ref b1), (.ref b146), (.ref b146), (.ref a)]))
  obtain ⟨_, _, ⟨T147, L147, k147, n147⟩, -, X147, hS2147, hg2147, ⟨Lc147, hQ147, l147, y147, z147⟩, st147⟩ := X146.specialBackS hx (y := (⟨"com/example/gavelwatch/gavelwatch/model/Bid", "<init>", "(Ljava/lang/String;Lcom/example/gavelwatch/gavelwatch/model/Money;J)V"⟩ : MethodName)) rfl hown0 (mvT hZ0 (hw _ (List.mem_of_getElem? (i := 114) rfl))) (mvT hZ0 (hw _ (List.mem_of_getElem? (i := 115) rfl))) (mvT hZ0 (hw _ (List.mem_of_getElem? (i := 116) rfl))) (by decide) (backOfS (W := 2) (rmbidi l Z a0 hw [] b146 b1 m1 r144  h146 n0 Z146 g_b146 A146 F146_bidder F146_amount F146_time) hZ0 (hw _ (List.mem_of_getElem? (i := 116) rfl)) (hw _ (List.mem_of_getElem? (i := 113) rfl)) (by decide) (by decide)) (g := (mkF m 88 #[.val (.ref a), .val (.ref b1), .val (.ref m1), .val (.long t1), .second, .val (.long r144), .second] [(.long r144), (.ref m1), (.ref b1), (.ref b146), (.ref b146), (.ref a)])) rfl (by rw [hml]; rfl) (Steps.refl _) (a := b146) (argsL := [(.ref b1), (.ref m1), (.long r144)]) (rest := [(.ref b146), (.ref a)]) (lenOf pd__Ljava_lang_String_Lcom_example_gavelwatch_gavelwatch_model_Money_J_V rfl) rfl (by show 2 * 0 + _ ≤ _; exact Nat.le_of_eq rfl) (hb hby d12_88) (fun _ _ => ⟨rfl, e146, (by decide : 1 + 4 ≤ _), (by decide : 3 + 56 ≤ _)⟩)
  dsimp only [Pt.U, Pt.locs, Pt.cells, Pt.slots] at X147 l147 y147 z147 st147 hQ147 hS2147 hg2147
  subst l147 y147 z147
  obtain ⟨X147, hS147, hZ147, hown147⟩ := rebS hS0 (by rw [e146]; exact SK146) X147 hS2147 hg2147 hZ0 hown0
  obtain ⟨Nq147, rfl, Kq147, Fa147⟩ := hQ147
  have N147 := Fr.app N145 Nq147
  have Kc147 := Keep.trans K146 Kq147 (allS (Or.inr sz_b146) all0)
  have Zc147 : n0 ≤ T147.heap.size := Nat.le_trans Z146 Kq147.1
  have Oc147 := Old.keep O146 Kq147 (allS g_b146 all0)
  refine GlW.back (fun _ k => st147.trans k) ?_
  show GlW _ _ _ _ _ _ _ (T147.setTop (mkF m 91 #[.val (.ref a), .val (.ref b1), .val (.ref m1), .val (.long t1), .second, .val (.long r144), .second] [(.ref b146), (.ref a)]))
  have f148 := ((E_a.ext E146).keep Kq147)
  have f149 := ((F_a_highest.ext E146).keep Kq147 (ninS ne_a_b146 nin0))
  obtain ⟨T150, h150, X150, e150, W150, st150⟩ := putF X147 hx hZ147 hown147 (host := "") (Or.inl (hw _ (List.mem_of_getElem? (i := 61) rfl))) Via.refl rfl f149 f148 (Or.inl (hw _ (List.mem_of_getElem? (i := 62) rfl))) (hw _ (List.mem_of_getElem? (i := 1) rfl)) (ty := (.object "com/example/gavelwatch/gavelwatch/model/Bid")) (by decide) rfl rfl (g := (mkF m 91 #[.val (.ref a), .val (.ref b1), .val (.ref m1), .val (.long t1), .second, .val (.long r144), .second] [(.ref b146), (.ref a)])) rfl rfl (hb hby d12_91)
  have Fw150 := f149.same W150
  have K150 := Keep.wr Kc147 W150 (Or.inl (List.mem_of_getElem? (i := 0) rfl))
  have O150 := Old.wr Oc147 W150 g_a
  have Z150 : n0 ≤ h150.size := Nat.le_trans Zc147 (Keep.of_wr W150).1
  have SK150 := Nat.le_trans (Nat.le_refl _) (Keep.of_wr W150).1
  have N150 := Fr.snoc X150 N147 g_a
  refine GlW.back (fun _ k => st150 _ k) ?_
  show GlW _ _ _ _ _ _ _ (T150.setTop (mkF m 94 #[.val (.ref a), .val (.ref b1), .val (.ref m1), .val (.long t1), .second, .val (.long r144), .second] []))
  refine GlW.back (fun _ k => XS.aloadN X150.here hx rfl (hb hby d12_94) rfl rfl k) ?_
  show GlW _ _ _ _ _ _ _ (T150.setTop (mkF m 95 #[.val (.ref a), .val (.ref b1), .val (.ref m1), .val (.long t1), .second, .val (.long r144), .second] [(.ref a)]))
  have f151 := (((F_a_bids.ext E146).keep Kq147 (ninS ne_a_b146 nin0)).other W150 (Or.inr (slot_ne (Or.inr (hw _ (List.mem_of_getElem? (i := 48) rfl))) (Or.inl (hw _ (List.mem_of_getElem? (i := 62) rfl))) (by decide) (t := (.object "java/util/List")) (t' := (.object "com/example/gavelwatch/gavelwatch/model/Bid")) (by decide) (by decide))))
  obtain ⟨T152, X152, e152, st152⟩ := getF X150 hx hZ147 hown147 (host := "") (Or.inl (hw _ (List.mem_of_getElem? (i := 47) rfl))) Via.refl e150 f151 (g := (mkF m 95 #[.val (.ref a), .val (.ref b1), .val (.ref m1), .val (.long t1), .second, .val (.long r144), .second] [(.ref a)])) rfl rfl (hb hby d12_95)
  refine GlW.back (fun _ k => st152 _ k) ?_
  show GlW _ _ _ _ _ _ _ (T152.setTop (mkF m 98 #[.val (.ref a), .val (.ref b1), .val (.ref m1), .val (.long t1), .second, .val (.long r144), .second] [(.ref l1)]))
  refine GlW.back (fun _ k => XS.aloadN X152.here hx rfl (hb hby d12_98) rfl rfl k) ?_
  show GlW _ _ _ _ _ _ _ (T152.setTop (mkF m 99 #[.val (.ref a), .val (.ref b1), .val (.ref m1), .val (.long t1), .second, .val (.long r144), .second] [(.ref a), (.ref l1)]))
  obtain ⟨T153, X153, e153, st153⟩ := getF X152 hx hZ147 hown147 (host := "") (Or.inl (hw _ (List.mem_of_getElem? (i := 61) rfl))) Via.refl e152 Fw150 (g := (mkF m 99 #[.val (.ref a), .val (.ref b1), .val (.ref m1), .val (.long t1), .second, .val (.long r144), .second] [(.ref a), (.ref l1)])) rfl rfl (hb hby d12_99)
  refine GlW.back (fun _ k => st153 _ k) ?_
  show GlW _ _ _ _ _ _ _ (T153.setTop (mkF m 102 #[.val (.ref a), .val (.ref b1), .val (.ref m1), .val (.long t1), .second, .val (.long r144), .second] [(.ref b146), (.ref l1)]))
  have f155 := (((E_l1.ext E146).keep Kq147).wr W150)
  have f156 := (((F_l1_modCount.ext E146).keep Kq147 (ninS ne_l1_b146 nin0)).other W150 (Or.inl (Ne.symm h_a_l1)))
  have f157 := (((F_l1_elementData.ext E146).keep Kq147 (ninS ne_l1_b146 nin0)).other W150 (Or.inl (Ne.symm h_a_l1)))
  have f158 := (((F_l1_size.ext E146).keep Kq147 (ninS ne_l1_b146 nin0)).other W150 (Or.inl (Ne.symm h_a_l1)))
  have f159 := ((A146.keep Kq147).wr W150)
  have f160 := (((V_t.ext E146).keep Kq147 (ninS ne_t_b146 nin0)).other W150 (Ne.symm h_a_t))
  obtain ⟨cq154, kq154, q154a, q154b, q154c⟩ := isOf hZ147 e153 f155
  obtain ⟨_, _, ⟨T154, L154, k154, n154⟩, -, X154, ⟨Lc154, hQ154, l154, y154, z154⟩, st154⟩ := X153.interfaceBack hx (xi := (⟨"java/util/List", "add", "(Ljava/lang/Object;)Z"⟩ : MethodName)) (y := (⟨"java/util/ArrayList", "add", "(Ljava/lang/Object;)Z"⟩ : MethodName)) hown147 (mvT hZ147 (hw _ (List.mem_of_getElem? (i := 130) rfl))) (mvT hZ147 (hw _ (List.mem_of_getElem? (i := 131) rfl))) (mvT hZ147 (hw _ (List.mem_of_getElem? (i := 132) rfl))) (mvT hZ147 (hw _ (List.mem_of_getElem? (i := 133) rfl))) (mvT hZ147 (hw _ (List.mem_of_getElem? (i := 134) rfl))) (mvT hZ147 (hw _ (List.mem_of_getElem? (i := 135) rfl))) (mvT hZ147 (hw _ (List.mem_of_getElem? (i := 136) rfl))) (mvT hZ147 (hw _ (List.mem_of_getElem? (i := 137) rfl))) (by decide) (backOf (W := 0) (rmadd1 l Z a0 hw [] l1 b146 t c0 kt mc h150 n0 Z150 g_l1 f155 f156 f157 f158 f159 g_t f160 Ov_t ne_l1_b146 h_l1_t (Ne.symm ne_t_b146)) hZ147 (hw _ (List.mem_of_getElem? (i := 138) rfl)) (hw _ (List.mem_of_getElem? (i := 25) rfl)) (by decide) (by decide)) q154a q154b q154c (g := (mkF m 102 #[.val (.ref a), .val (.ref b1), .val (.ref m1), .val (.long t1), .second, .val (.long r144), .second] [(.ref b146), (.ref l1)])) rfl (by rw [hml]; rfl) (Steps.refl _) (argsL := [(.ref b146)]) (rest := []) (lenOf pd__Ljava_lang_Object__Z rfl) rfl (by show 2 * 0 + _ ≤ _; exact Nat.le_of_eq rfl) (hb hby d12_102) (fun _ _ => ⟨rfl, e153, (by decide : 5 + 0 ≤ _), (by decide : 59 + 0 ≤ _)⟩)
  dsimp only [Pt.U, Pt.locs, Pt.cells, Pt.slots] at X154 l154 y154 z154 st154 hQ154
  subst l154 y154 z154
  obtain ⟨Nq154, rfl, Kq154, Fs154⟩ := hQ154
  have N154 := Fr.app N150 Nq154
  have Kc154 := Keep.trans K150 Kq154 (allS (Or.inl (List.mem_of_getElem? (i := 1) rfl)) (allS (Or.inl (List.mem_of_getElem? (i := 2) rfl)) all0))
  have Zc154 : n0 ≤ T154.heap.size := Nat.le_trans Z150 Kq154.1
  have Oc154 := Old.keep O150 Kq154 (allS g_l1 (allS g_t all0))
  have SKc154 := Nat.le_trans SK150 Kq154.1
  refine GlW.back (fun _ k => st154.trans k) ?_
  show GlW _ _ _ _ _ _ _ (T154.setTop (mkF m 107 #[.val (.ref a), .val (.ref b1), .val (.ref m1), .val (.long t1), .second, .val (.long r144), .second] [(.int (1 : Int32))]))
  refine GlW.back (fun _ k => XS.pop X154.here hx rfl (hb hby d12_107) rfl rfl k) ?_
  show GlW _ _ _ _ _ _ _ (T154.setTop (mkF m 108 #[.val (.ref a), .val (.ref b1), .val (.ref m1), .val (.long t1), .second, .val (.long r144), .second] []))
  have f161 := (f159.keep Kq154)
  have f162 := (Fw150.keep Kq154 (ninS h_a_l1 (ninS h_a_t nin0)))
  have f163 := ((Fa147.other W150 (Or.inl (Ne.symm ne_a_b146))).keep Kq154 (ninS (Ne.symm ne_l1_b146) (ninS (Ne.symm ne_t_b146) nin0)))
  have f164 := (f151.keep Kq154 (ninS h_a_l1 (ninS h_a_t nin0)))
  exact GlW.ret X154 rfl hS147 SKc154 (v := none) (fun _ => rfl) Bd.notSynchronized (fun fs hr => X154.returnOut hx Bd.returns (hb hby d12_108) hr) ⟨N154, rfl, Kc154, b146, sz_b146, g_b146, f161, f162, f163, f164, Fs154⟩ (by decide) (by decide)
theorem pd__J_V : parseMethodDescriptor "(J)V" = some ⟨[.long], none⟩ := by decide +kernel
theorem pd__Lcom_example_gavelwatch_gavelwatch_model_Money__V : parseMethodDescriptor "(Lcom/example/gavelwatch/gavelwatch/model/Money;)V" = some ⟨[(.object "com/example/gavelwatch/gavelwatch/model/Money")], none⟩ := by decide +kernel
theorem pd___J : parseMethodDescriptor "()J" = some ⟨[], some .long⟩ := by decide +kernel
theorem pd__JJ_J : parseMethodDescriptor "(JJ)J" = some ⟨[.long, .long], some .long⟩ := by decide +kernel
theorem pn_com_example_gavelwatch_gavelwatch_sim_RunningAuctionPricePinLaw : plainName "com/example/gavelwatch/gavelwatch/sim/RunningAuctionPricePinLaw" = true := by first | (simp [plainName, overriddenIn]; done) | decide +kernel
theorem ef_0 (m : MethodId) (x0 : Int64) (x1 : Int64) (x2 : Int64) (x3 : Int32) : entryFrame m #[(.long x0), (.long x1), (.long x2), (.int x3)] maxLocals = mkF m 0 #[.val (.long x0), .second, .val (.long x1), .second, .val (.long x2), .second, .val (.int x3), .unset, .unset, .unset, .unset, .unset, .unset, .unset] [] := by first | (simp [entryFrame, mkF, argsToLocals, Value.category, maxLocals]; done) | rfl
def Q0 (Z : State) (x0 : Int64) (x1 : Int64) (x2 : Int64) (x3 : Int32) (wD u : Addr) (kD : ClassId) (h0 : Heap) (n0 : Nat) (v : Option Value) (h : Heap) (L : List Loc) : Prop := Fr n0 L ∧ (v = some (.int 1))
set_option maxRecDepth 65536 in
set_option maxHeartbeats 40000000 in
theorem rm0 (l : Launch) (Z : State) (a0 : Array Value) (hw : ∀ d ∈ tables_1, d.before a0 Z = true) (ws : List Jvm.Cond) (x0 : Int64) (x1 : Int64) (x2 : Int64) (x3 : Int32) (wD u : Addr) (kD : ClassId) (h0 : Heap) (n0 : Nat) (Z0 : n0 ≤ h0.size) (O0 : Old Z n0 h0) (S_DEFAULTCAPACITY_EMPTY_ELEMENTDATA : Sta Z Z.heap "java/util/ArrayList" "DEFAULTCAPACITY_EMPTY_ELEMENTDATA" "[Ljava/lang/Object;" (.ref wD)) (V_wD : Arv Z Z.heap wD kD (.object "java/lang/Object") (0 : Int32) [] .null) (S_SECONDS : Sta Z Z.heap "java/util/concurrent/TimeUnit" "SECONDS" "Ljava/util/concurrent/TimeUnit;" (.ref u)) (E_u : Exa Z Z.heap u "java/util/concurrent/TimeUnit") (F_u_scale : Fld Z Z.heap u "java/util/concurrent/TimeUnit" "scale" "J" (.long (1000000000 : Int64))) (F_u_maxNanos : Fld Z Z.heap u "java/util/concurrent/TimeUnit" "maxNanos" "J" (.long (9223372036 : Int64))) :
    MetFree l x (head1 (Jvm.Cond.code x code maxLocals ret :: ws) room_1) (fun as0 U => as0 = #[(.long x0), (.long x1), (.long x2), (.int x3)] ∧ Z.Warmed39 U.vm ∧ U.heap = h0) (fun _ _ _ _ _ => True) (fun _ U oc0 U' => ∃ v L, oc0 = .returned v ∧ Q0 Z x0 x1 x2 x3 wD u kD h0 n0 v U'.heap L ∧ ReturnedEndW U oc0 U' L room_1.cells room_1.slots) := by
  refine MetFree.of_bodySF (plainFor_of_name pn_com_example_gavelwatch_gavelwatch_sim_RunningAuctionPricePinLaw) hisR ?_
  intro p e s m args below meth c s₁ Bd hml0 hP hK
  obtain ⟨rfl, hZ, hh⟩ := hP
  have hx := Bd.exec
  have hby := Bd.bytes
  have hml : c.maxLocals = 14 := hml0
  have hown : s.vm.findClass "com/example/gavelwatch/gavelwatch/sim/RunningAuctionPricePinLaw" = some m.cls := findClass_of_methodNamed Bd.named
  have hnm := (name_of_methodNamed Bd.named Bd.method).1
  have X0 : Stand p l e room_1 (s.setVm s.vm) m #[(.long x0), (.long x1), (.long x2), (.int x3)] below meth c s₁ [] 0 0 := Stand.of_body Bd
  have e0 : s₁.heap = h0 := by rw [← hh, Bd.state]; rfl
  have N0 := Fr.nil n0
  have hZ0 : Z.Warmed39 (s.setVm s.vm).vm := hZ
  have hown0 : (s.setVm s.vm).vm.findClass "com/example/gavelwatch/gavelwatch/sim/RunningAuctionPricePinLaw" = some m.cls := hown
  have hS0 : s.Since s.vm 0 := (State.WarmedH.refl s).since 0
  have SK0 : 0 ≤ h0.size := Nat.zero_le _
  show GlW p e below s (Q0 Z x0 x1 x2 x3 wD u kD h0 n0) room_1.cells room_1.slots (s₁.setTop (entryFrame m #[(.long x0), (.long x1), (.long x2), (.int x3)] maxLocals))
  refine GlW.back (fun _ k => castTop (ef_0 m x0 x1 x2 x3) k) ?_
  show GlW _ _ _ _ _ _ _ (s₁.setTop (mkF m 0 #[.val (.long x0), .second, .val (.long x1), .second, .val (.long x2), .second, .val (.int x3), .unset, .unset, .unset, .unset, .unset, .unset, .unset] []))
  obtain ⟨T165, h165, X165, e165, E165, A165, D165, -, st165⟩ := newO X0 hx hZ0 hown0 (hw _ (List.mem_of_getElem? (i := 0) rfl)) (hw _ (List.mem_of_getElem? (i := 1) rfl)) (hw _ (List.mem_of_getElem? (i := 2) rfl)) e0 (g := (mkF m 0 #[.val (.long x0), .second, .val (.long x1), .second, .val (.long x2), .second, .val (.int x3), .unset, .unset, .unset, .unset, .unset, .unset, .unset] [])) rfl (hb hby at_0) (by decide) (by decide)
  obtain ⟨b165, g165⟩ : ∃ z, z = h0.size := ⟨_, rfl⟩
  rw [← g165] at A165 D165 st165
  have g_b165 : n0 ≤ b165 := Nat.le_trans Z0 (Nat.le_of_eq g165.symm)
  have sz_b165 : h0.size ≤ b165 := Nat.le_trans (Keep.refl h0 []).1 (Nat.le_of_eq g165.symm)
  have Z165 : n0 ≤ h165.size := Nat.le_trans Z0 E165.1
  have K165 := Keep.ext (Keep.refl h0 []) E165
  have O165 := Old.ext O0 E165
  have SK165 := Nat.le_trans SK0 E165.1
  have F165_bids : Fld Z h165 b165 "com/example/gavelwatch/gavelwatch/sim/RunningAuction" "bids" "Ljava/util/List;" .null := D165 (Or.inr (hw _ (List.mem_of_getElem? (i := 48) rfl))) (ty := (.object "java/util/List")) (by decide)
  have F165_openingBid : Fld Z h165 b165 "com/example/gavelwatch/gavelwatch/sim/RunningAuction" "openingBid" "Lcom/example/gavelwatch/gavelwatch/model/Money;" .null := D165 (Or.inr (hw _ (List.mem_of_getElem? (i := 50) rfl))) (ty := (.object "com/example/gavelwatch/gavelwatch/model/Money")) (by decide)
  have F165_highest : Fld Z h165 b165 "com/example/gavelwatch/gavelwatch/sim/RunningAuction" "highest" "Lcom/example/gavelwatch/gavelwatch/model/Bid;" .null := D165 (Or.inl (hw _ (List.mem_of_getElem? (i := 62) rfl))) (ty := (.object "com/example/gavelwatch/gavelwatch/model/Bid")) (by decide)
  refine GlW.back (fun _ k => st165 _ k) ?_
  show GlW _ _ _ _ _ _ _ (T165.setTop (mkF m 3 #[.val (.long x0), .second, .val (.long x1), .second, .val (.long x2), .second, .val (.int x3), .unset, .unset, .unset, .unset, .unset, .unset, .unset] [(.ref b165)]))
  refine GlW.back (fun _ k => XS.dup X165.here hx rfl (hb hby at_3) rfl rfl k) ?_
  show GlW _ _ _ _ _ _ _ (T165.setTop (mkF m 4 #[.val (.long x0), .second, .val (.long x1), .second, .val (.long x2), .second, .val (.int x3), .unset, .unset, .unset, .unset, .unset, .unset, .unset] [(.ref b165), (.ref b165)]))
  obtain ⟨T166, h166, X166, e166, E166, A166, D166, -, st166⟩ := newO X165 hx hZ0 hown0 (hw _ (List.mem_of_getElem? (i := 3) rfl)) (hw _ (List.mem_of_getElem? (i := 4) rfl)) (hw _ (List.mem_of_getElem? (i := 5) rfl)) e165 (g := (mkF m 4 #[.val (.long x0), .second, .val (.long x1), .second, .val (.long x2), .second, .val (.int x3), .unset, .unset, .unset, .unset, .unset, .unset, .unset] [(.ref b165), (.ref b165)])) rfl (hb hby at_4) (by decide) (by decide)
  obtain ⟨b166, g166⟩ : ∃ z, z = h165.size := ⟨_, rfl⟩
  rw [← g166] at A166 D166 st166
  have ne_b165_b166 : b165 ≠ b166 := Nat.ne_of_lt (Nat.lt_of_lt_of_le A165.lt (Nat.le_of_eq g166.symm))
  have g_b166 : n0 ≤ b166 := Nat.le_trans Z165 (Nat.le_of_eq g166.symm)
  have sz_b166 : h0.size ≤ b166 := Nat.le_trans K165.1 (Nat.le_of_eq g166.symm)
  have Z166 : n0 ≤ h166.size := Nat.le_trans Z165 E166.1
  have K166 := Keep.ext K165 E166
  have O166 := Old.ext O165 E166
  have SK166 := Nat.le_trans SK165 E166.1
  have F166_cents : Fld Z h166 b166 "com/example/gavelwatch/gavelwatch/model/Money" "cents" "J" (.long (0 : Int64)) := D166 (Or.inr (hw _ (List.mem_of_getElem? (i := 18) rfl))) (ty := .long) (by decide)
  refine GlW.back (fun _ k => st166 _ k) ?_
  show GlW _ _ _ _ _ _ _ (T166.setTop (mkF m 7 #[.val (.long x0), .second, .val (.long x1), .second, .val (.long x2), .second, .val (.int x3), .unset, .unset, .unset, .unset, .unset, .unset, .unset] [(.ref b166), (.ref b165), (.ref b165)]))
  refine GlW.back (fun _ k => XS.dup X166.here hx rfl (hb hby at_7) rfl rfl k) ?_
  show GlW _ _ _ _ _ _ _ (T166.setTop (mkF m 8 #[.val (.long x0), .second, .val (.long x1), .second, .val (.long x2), .second, .val (.int x3), .unset, .unset, .unset, .unset, .unset, .unset, .unset] [(.ref b166), (.ref b166), (.ref b165), (.ref b165)]))
  refine GlW.back (fun _ k => XS.lloadN X166.here hx rfl (hb hby at_8) rfl k) ?_
  show GlW _ _ _ _ _ _ _ (T166.setTop (mkF m 9 #[.val (.long x0), .second, .val (.long x1), .second, .val (.long x2), .second, .val (.int x3), .unset, .unset, .unset, .unset, .unset, .unset, .unset] [(.long x0), (.ref b166), (.ref b166), (.ref b165), (.ref b165)]))
  obtain ⟨_, _, ⟨T167, L167, k167, n167⟩, -, X167, ⟨Lc167, hQ167, l167, y167, z167⟩, st167⟩ := X166.specialBack hx (y := (⟨"com/example/gavelwatch/gavelwatch/model/Money", "<init>", "(J)V"⟩ : MethodName)) rfl hown0 (mvT hZ0 (hw _ (List.mem_of_getElem? (i := 6) rfl))) (mvT hZ0 (hw _ (List.mem_of_getElem? (i := 7) rfl))) (mvT hZ0 (hw _ (List.mem_of_getElem? (i := 8) rfl))) (by decide) (backOf (W := 3) (rmmoney l Z a0 hw [] b166 x0  h166 n0 Z166 g_b166 A166 F166_cents) hZ0 (hw _ (List.mem_of_getElem? (i := 8) rfl)) (hw _ (List.mem_of_getElem? (i := 5) rfl)) (by decide) (by decide)) (g := (mkF m 9 #[.val (.long x0), .second, .val (.long x1), .second, .val (.long x2), .second, .val (.int x3), .unset, .unset, .unset, .unset, .unset, .unset, .unset] [(.long x0), (.ref b166), (.ref b166), (.ref b165), (.ref b165)])) rfl (by rw [hml]; rfl) (Steps.refl _) (a := b166) (argsL := [(.long x0)]) (rest := [(.ref b166), (.ref b165), (.ref b165)]) (lenOf pd__J_V rfl) rfl (by show 2 * 0 + _ ≤ _; exact Nat.le_of_eq rfl) (hb hby at_9) (fun _ _ => ⟨rfl, e166, (by decide : 2 + 0 ≤ _), (by decide : 4 + 0 ≤ _)⟩)
  dsimp only [Pt.U, Pt.locs, Pt.cells, Pt.slots] at X167 l167 y167 z167 st167 hQ167
  subst l167 y167 z167
  obtain ⟨Nq167, rfl, Kq167, Fc167⟩ := hQ167
  have N167 := Fr.app N0 Nq167
  have Kc167 := Keep.trans K166 Kq167 (allS (Or.inr sz_b166) all0)
  have Zc167 : n0 ≤ T167.heap.size := Nat.le_trans Z166 Kq167.1
  have Oc167 := Old.keep O166 Kq167 (allS g_b166 all0)
  have SKc167 := Nat.le_trans SK166 Kq167.1
  refine GlW.back (fun _ k => st167.trans k) ?_
  show GlW _ _ _ _ _ _ _ (T167.setTop (mkF m 12 #[.val (.long x0), .second, .val (.long x1), .second, .val (.long x2), .second, .val (.int x3), .unset, .unset, .unset, .unset, .unset, .unset, .unset] [(.ref b166), (.ref b165), (.ref b165)]))
  have f169 := ((A165.ext E166).keep Kq167)
  have f170 := (A166.keep Kq167)
  have f171 := ((F165_bids.ext E166).keep Kq167 (ninS ne_b165_b166 nin0))
  have f172 := ((F165_openingBid.ext E166).keep Kq167 (ninS ne_b165_b166 nin0))
  have f173 := ((F165_highest.ext E166).keep Kq167 (ninS ne_b165_b166 nin0))
  obtain ⟨_, _, ⟨T168, L168, k168, n168⟩, -, X168, ⟨Lc168, hQ168, l168, y168, z168⟩, st168⟩ := X167.specialBack hx (y := (⟨"com/example/gavelwatch/gavelwatch/sim/RunningAuction", "<init>", "(Lcom/example/gavelwatch/gavelwatch/model/Money;)V"⟩ : MethodName)) rfl hown0 (mvT hZ0 (hw _ (List.mem_of_getElem? (i := 19) rfl))) (mvT hZ0 (hw _ (List.mem_of_getElem? (i := 20) rfl))) (mvT hZ0 (hw _ (List.mem_of_getElem? (i := 21) rfl))) (by decide) (backOf (W := 1) (rmrai l Z a0 hw [] b165 b166 wD T167.heap n0 Zc167 Oc167 g_b165 f169 f171 f172 f173 S_DEFAULTCAPACITY_EMPTY_ELEMENTDATA) hZ0 (hw _ (List.mem_of_getElem? (i := 21) rfl)) (hw _ (List.mem_of_getElem? (i := 2) rfl)) (by decide) (by decide)) (g := (mkF m 12 #[.val (.long x0), .second, .val (.long x1), .second, .val (.long x2), .second, .val (.int x3), .unset, .unset, .unset, .unset, .unset, .unset, .unset] [(.ref b166), (.ref b165), (.ref b165)])) rfl (by rw [hml]; rfl) (Steps.refl _) (a := b165) (argsL := [(.ref b166)]) (rest := [(.ref b165)]) (lenOf pd__Lcom_example_gavelwatch_gavelwatch_model_Money__V rfl) rfl (by show 2 * 0 + _ ≤ _; exact Nat.le_of_eq rfl) (hb hby at_12) (fun _ _ => ⟨rfl, rfl, (by decide : 2 + 1 ≤ _), (by decide : 4 + 3 ≤ _)⟩)
  dsimp only [Pt.U, Pt.locs, Pt.cells, Pt.slots] at X168 l168 y168 z168 st168 hQ168
  subst l168 y168 z168
  obtain ⟨Nq168, rfl, Kq168, l168, Sl168, Gz168, El168, Fb168, Fo168, Fh168, Fm168, Fe168, Fs168⟩ := hQ168
  have N168 := Fr.app N167 Nq168
  have Kc168 := Keep.trans Kc167 Kq168 (allS (Or.inr sz_b165) all0)
  have Zc168 : n0 ≤ T168.heap.size := Nat.le_trans Zc167 Kq168.1
  have Oc168 := Old.keep Oc167 Kq168 (allS g_b165 all0)
  have SKc168 := Nat.le_trans SKc167 Kq168.1
  have ne_b165_l168 : b165 ≠ l168 := Nat.ne_of_lt (Nat.lt_of_lt_of_le (f169).lt Sl168)
  have ne_b166_l168 : b166 ≠ l168 := Nat.ne_of_lt (Nat.lt_of_lt_of_le (f170).lt Sl168)
  have sz_l168 : h0.size ≤ l168 := Nat.le_trans Kc167.1 Sl168
  refine GlW.back (fun _ k => st168.trans k) ?_
  show GlW _ _ _ _ _ _ _ (T168.setTop (mkF m 15 #[.val (.long x0), .second, .val (.long x1), .second, .val (.long x2), .second, .val (.int x3), .unset, .unset, .unset, .unset, .unset, .unset, .unset] [(.ref b165)]))
  refine GlW.back (fun _ k => XS.astore X168.here hx rfl (hb hby at_15) rfl rfl (l' := #[.val (.long x0), .second, .val (.long x1), .second, .val (.long x2), .second, .val (.int x3), .val (.ref b165), .unset, .unset, .unset, .unset, .unset, .unset]) rfl k) ?_
  show GlW _ _ _ _ _ _ _ (T168.setTop (mkF m 17 #[.val (.long x0), .second, .val (.long x1), .second, .val (.long x2), .second, .val (.int x3), .val (.ref b165), .unset, .unset, .unset, .unset, .unset, .unset] []))
  refine GlW.back (fun _ k => XS.aload X168.here hx rfl (hb hby at_17) rfl rfl k) ?_
  show GlW _ _ _ _ _ _ _ (T168.setTop (mkF m 19 #[.val (.long x0), .second, .val (.long x1), .second, .val (.long x2), .second, .val (.int x3), .val (.ref b165), .unset, .unset, .unset, .unset, .unset, .unset] [(.ref b165)]))
  have f175 := (f169.keep Kq168)
  obtain ⟨cq174, kq174, q174a, q174b, q174c⟩ := isOf hZ0 rfl f175
  obtain ⟨_, _, ⟨T174, L174, k174, n174⟩, -, X174, ⟨Lc174, hQ174, l174, y174, z174⟩, st174⟩ := X168.virtualBack hx (y := (⟨"com/example/gavelwatch/gavelwatch/sim/RunningAuction", "price", "()Lcom/example/gavelwatch/gavelwatch/model/Money;"⟩ : MethodName)) (z := (⟨"com/example/gavelwatch/gavelwatch/sim/RunningAuction", "price", "()Lcom/example/gavelwatch/gavelwatch/model/Money;"⟩ : MethodName)) hown0 (mvT hZ0 (hw _ (List.mem_of_getElem? (i := 51) rfl))) (mvT hZ0 (hw _ (List.mem_of_getElem? (i := 52) rfl))) (notFace_of_selects (args := #[]) (mvT hZ0 (hw _ (List.mem_of_getElem? (i := 54) rfl)))) (mvT hZ0 (hw _ (List.mem_of_getElem? (i := 54) rfl))) (mvT hZ0 (hw _ (List.mem_of_getElem? (i := 53) rfl))) (by decide) (backOf (W := 0) (rmprice0 l Z a0 hw [] b165 b166 T168.heap n0 Zc168 f175 Fh168 Fo168) hZ0 (hw _ (List.mem_of_getElem? (i := 55) rfl)) (hw _ (List.mem_of_getElem? (i := 2) rfl)) (by decide) (by decide)) q174a q174c (g := (mkF m 19 #[.val (.long x0), .second, .val (.long x1), .second, .val (.long x2), .second, .val (.int x3), .val (.ref b165), .unset, .unset, .unset, .unset, .unset, .unset] [(.ref b165)])) rfl (by rw [hml]; rfl) (Steps.refl _) (argsL := []) (rest := []) (lenOf pd___Lcom_example_gavelwatch_gavelwatch_model_Money_ rfl) rfl (by show 2 * 0 + _ ≤ _; exact Nat.le_of_eq rfl) (hb hby at_19) (fun _ _ => ⟨rfl, rfl, (by decide : 3 + 0 ≤ _), (by decide : 7 + 0 ≤ _)⟩)
  dsimp only [Pt.U, Pt.locs, Pt.cells, Pt.slots] at X174 l174 y174 z174 st174 hQ174
  subst l174 y174 z174
  obtain ⟨Nq174, rfl, eh174⟩ := hQ174
  have N174 := Fr.app N168 Nq174
  refine GlW.back (fun _ k => st174.trans k) ?_
  show GlW _ _ _ _ _ _ _ (T174.setTop (mkF m 22 #[.val (.long x0), .second, .val (.long x1), .second, .val (.long x2), .second, .val (.int x3), .val (.ref b165), .unset, .unset, .unset, .unset, .unset, .unset] [(.ref b166)]))
  have f177 := (Fc167.keep Kq168 (ninS (Ne.symm ne_b165_b166) nin0))
  have f178 := (f170.keep Kq168)
  obtain ⟨cq176, kq176, q176a, q176b, q176c⟩ := isOf hZ0 eh174 f178
  obtain ⟨_, _, ⟨T176, L176, k176, n176⟩, -, X176, ⟨Lc176, hQ176, l176, y176, z176⟩, st176⟩ := X174.virtualBack hx (y := (⟨"com/example/gavelwatch/gavelwatch/model/Money", "cents", "()J"⟩ : MethodName)) (z := (⟨"com/example/gavelwatch/gavelwatch/model/Money", "cents", "()J"⟩ : MethodName)) hown0 (mvT hZ0 (hw _ (List.mem_of_getElem? (i := 63) rfl))) (mvT hZ0 (hw _ (List.mem_of_getElem? (i := 64) rfl))) (notFace_of_selects (args := #[]) (mvT hZ0 (hw _ (List.mem_of_getElem? (i := 66) rfl)))) (mvT hZ0 (hw _ (List.mem_of_getElem? (i := 66) rfl))) (mvT hZ0 (hw _ (List.mem_of_getElem? (i := 65) rfl))) (by decide) (backOf (W := 0) (rmcents l Z a0 hw [] b166 x0 T168.heap n0 Zc168 f177) hZ0 (hw _ (List.mem_of_getElem? (i := 67) rfl)) (hw _ (List.mem_of_getElem? (i := 5) rfl)) (by decide) (by decide)) q176a q176c (g := (mkF m 22 #[.val (.long x0), .second, .val (.long x1), .second, .val (.long x2), .second, .val (.int x3), .val (.ref b165), .unset, .unset, .unset, .unset, .unset, .unset] [(.ref b166)])) rfl (by rw [hml]; rfl) (Steps.refl _) (argsL := []) (rest := []) (lenOf pd___J rfl) rfl (by show 2 * 0 + _ ≤ _; exact Nat.le_of_eq rfl) (hb hby at_22) (fun _ _ => ⟨rfl, eh174, (by decide : 3 + 0 ≤ _), (by decide : 7 + 0 ≤ _)⟩)
  dsimp only [Pt.U, Pt.locs, Pt.cells, Pt.slots] at X176 l176 y176 z176 st176 hQ176
  subst l176 y176 z176
  obtain ⟨Nq176, rfl, eh176⟩ := hQ176
  have N176 := Fr.app N174 Nq176
  refine GlW.back (fun _ k => st176.trans k) ?_
  show GlW _ _ _ _ _ _ _ (T176.setTop (mkF m 25 #[.val (.long x0), .second, .val (.long x1), .second, .val (.long x2), .second, .val (.int x3), .val (.ref b165), .unset, .unset, .unset, .unset, .unset, .unset] [(.long x0)]))
  refine GlW.back (fun _ k => XS.lloadN X176.here hx rfl (hb hby at_25) rfl k) ?_
  show GlW _ _ _ _ _ _ _ (T176.setTop (mkF m 26 #[.val (.long x0), .second, .val (.long x1), .second, .val (.long x2), .second, .val (.int x3), .val (.ref b165), .unset, .unset, .unset, .unset, .unset, .unset] [(.long x0), (.long x0)]))
  refine GlW.back (fun _ k => XS.lcmp X176.here hx rfl (hb hby at_26) rfl k) ?_
  show GlW _ _ _ _ _ _ _ (T176.setTop (mkF m 27 #[.val (.long x0), .second, .val (.long x1), .second, .val (.long x2), .second, .val (.int x3), .val (.ref b165), .unset, .unset, .unset, .unset, .unset, .unset] [(.int (lcmpW x0 x0))]))
  refine GlW.back (fun _ k => XS.ifNo X176.here hx rfl (hb hby at_27) rfl ((if0 _ _).trans (teq (own_lcE (rfl : x0 = x0))).2) k) ?_
  show GlW _ _ _ _ _ _ _ (T176.setTop (mkF m 30 #[.val (.long x0), .second, .val (.long x1), .second, .val (.long x2), .second, .val (.int x3), .val (.ref b165), .unset, .unset, .unset, .unset, .unset, .unset] []))
  refine GlW.back (fun _ k => XS.iconst X176.here hx rfl (hb hby at_30) k) ?_
  show GlW _ _ _ _ _ _ _ (T176.setTop (mkF m 31 #[.val (.long x0), .second, .val (.long x1), .second, .val (.long x2), .second, .val (.int x3), .val (.ref b165), .unset, .unset, .unset, .unset, .unset, .unset] [(.int (1 : Int32))]))
  refine GlW.back (fun _ k => XS.goto X176.here hx rfl (pc0 := 31) (pc' := 35) rfl (hb hby at_31) (by decide) (by decide) k) ?_
  show GlW _ _ _ _ _ _ _ (T176.setTop (mkF m 35 #[.val (.long x0), .second, .val (.long x1), .second, .val (.long x2), .second, .val (.int x3), .val (.ref b165), .unset, .unset, .unset, .unset, .unset, .unset] [(.int (1 : Int32))]))
  refine GlW.back (fun _ k => XS.istore X176.here hx rfl (hb hby at_35) rfl (l' := #[.val (.long x0), .second, .val (.long x1), .second, .val (.long x2), .second, .val (.int x3), .val (.ref b165), .val (.int (1 : Int32)), .unset, .unset, .unset, .unset, .unset]) rfl k) ?_
  show GlW _ _ _ _ _ _ _ (T176.setTop (mkF m 37 #[.val (.long x0), .second, .val (.long x1), .second, .val (.long x2), .second, .val (.int x3), .val (.ref b165), .val (.int (1 : Int32)), .unset, .unset, .unset, .unset, .unset] []))
  refine GlW.back (fun _ k => XS.iload X176.here hx rfl (hb hby at_37) rfl k) ?_
  show GlW _ _ _ _ _ _ _ (T176.setTop (mkF m 39 #[.val (.long x0), .second, .val (.long x1), .second, .val (.long x2), .second, .val (.int x3), .val (.ref b165), .val (.int (1 : Int32)), .unset, .unset, .unset, .unset, .unset] [(.int x3)]))
  refine GlW.back (fun _ k => XS.iconst X176.here hx rfl (hb hby at_39) k) ?_
  show GlW _ _ _ _ _ _ _ (T176.setTop (mkF m 40 #[.val (.long x0), .second, .val (.long x1), .second, .val (.long x2), .second, .val (.int x3), .val (.ref b165), .val (.int (1 : Int32)), .unset, .unset, .unset, .unset, .unset] [(.int (3 : Int32)), (.int x3)]))
  refine GlW.back (fun _ k => XS.iand X176.here hx rfl (hb hby at_40) rfl k) ?_
  show GlW _ _ _ _ _ _ _ (T176.setTop (mkF m 41 #[.val (.long x0), .second, .val (.long x1), .second, .val (.long x2), .second, .val (.int x3), .val (.ref b165), .val (.int (1 : Int32)), .unset, .unset, .unset, .unset, .unset] [(.int (x3 &&& (3 : Int32)))]))
  rcases own_and3 x3 with hk179 | hk179 | hk179 | hk179
  · rw [hk179]
    show GlW _ _ _ _ _ _ _ (T176.setTop (mkF m 41 #[.val (.long x0), .second, .val (.long x1), .second, .val (.long x2), .second, .val (.int x3), .val (.ref b165), .val (.int (1 : Int32)), .unset, .unset, .unset, .unset, .unset] [(.int (0 : Int32))]))
    refine GlW.back (fun _ k => XS.istore X176.here hx rfl (hb hby at_41) rfl (l' := #[.val (.long x0), .second, .val (.long x1), .second, .val (.long x2), .second, .val (.int x3), .val (.ref b165), .val (.int (1 : Int32)), .val (.int (0 : Int32)), .unset, .unset, .unset, .unset]) rfl k) ?_
    show GlW _ _ _ _ _ _ _ (T176.setTop (mkF m 43 #[.val (.long x0), .second, .val (.long x1), .second, .val (.long x2), .second, .val (.int x3), .val (.ref b165), .val (.int (1 : Int32)), .val (.int (0 : Int32)), .unset, .unset, .unset, .unset] []))
    refine GlW.back (fun _ k => XS.lloadN X176.here hx rfl (hb hby at_43) rfl k) ?_
    show GlW _ _ _ _ _ _ _ (T176.setTop (mkF m 44 #[.val (.long x0), .second, .val (.long x1), .second, .val (.long x2), .second, .val (.int x3), .val (.ref b165), .val (.int (1 : Int32)), .val (.int (0 : Int32)), .unset, .unset, .unset, .unset] [(.long x0)]))
    refine GlW.back (fun _ k => XS.lstore X176.here hx rfl (hb hby at_44) rfl (l' := #[.val (.long x0), .second, .val (.long x1), .second, .val (.long x2), .second, .val (.int x3), .val (.ref b165), .val (.int (1 : Int32)), .val (.int (0 : Int32)), .val (.long x0), .second, .unset, .unset]) rfl k) ?_
    show GlW _ _ _ _ _ _ _ (T176.setTop (mkF m 46 #[.val (.long x0), .second, .val (.long x1), .second, .val (.long x2), .second, .val (.int x3), .val (.ref b165), .val (.int (1 : Int32)), .val (.int (0 : Int32)), .val (.long x0), .second, .unset, .unset] []))
    refine GlW.back (fun _ k => XS.iload X176.here hx rfl (hb hby at_46) rfl k) ?_
    show GlW _ _ _ _ _ _ _ (T176.setTop (mkF m 48 #[.val (.long x0), .second, .val (.long x1), .second, .val (.long x2), .second, .val (.int x3), .val (.ref b165), .val (.int (1 : Int32)), .val (.int (0 : Int32)), .val (.long x0), .second, .unset, .unset] [(.int (0 : Int32))]))
    refine GlW.back (fun _ k => XS.iconst X176.here hx rfl (hb hby at_48) k) ?_
    show GlW _ _ _ _ _ _ _ (T176.setTop (mkF m 49 #[.val (.long x0), .second, .val (.long x1), .second, .val (.long x2), .second, .val (.int x3), .val (.ref b165), .val (.int (1 : Int32)), .val (.int (0 : Int32)), .val (.long x0), .second, .unset, .unset] [(.int (1 : Int32)), (.int (0 : Int32))]))
    refine GlW.back (fun _ k => XS.icmpYes X176.here hx rfl (pc0 := 49) (pc' := 115) rfl (hb hby at_49) rfl (tlt (by decide : (0 : Int32) < (1 : Int32))).1 (by decide) (by decide) k) ?_
    show GlW _ _ _ _ _ _ _ (T176.setTop (mkF m 115 #[.val (.long x0), .second, .val (.long x1), .second, .val (.long x2), .second, .val (.int x3), .val (.ref b165), .val (.int (1 : Int32)), .val (.int (0 : Int32)), .val (.long x0), .second, .unset, .unset] []))
    refine GlW.back (fun _ k => XS.iload X176.here hx rfl (hb hby at_115) rfl k) ?_
    show GlW _ _ _ _ _ _ _ (T176.setTop (mkF m 117 #[.val (.long x0), .second, .val (.long x1), .second, .val (.long x2), .second, .val (.int x3), .val (.ref b165), .val (.int (1 : Int32)), .val (.int (0 : Int32)), .val (.long x0), .second, .unset, .unset] [(.int (1 : Int32))]))
    refine GlW.back (fun _ k => XS.ifNo X176.here hx rfl (hb hby at_117) rfl ((if0 _ _).trans (feq (by decide : ¬ (1 : Int32) = (0 : Int32))).1) k) ?_
    show GlW _ _ _ _ _ _ _ (T176.setTop (mkF m 120 #[.val (.long x0), .second, .val (.long x1), .second, .val (.long x2), .second, .val (.int x3), .val (.ref b165), .val (.int (1 : Int32)), .val (.int (0 : Int32)), .val (.long x0), .second, .unset, .unset] []))
    refine GlW.back (fun _ k => XS.aload X176.here hx rfl (hb hby at_120) rfl rfl k) ?_
    show GlW _ _ _ _ _ _ _ (T176.setTop (mkF m 122 #[.val (.long x0), .second, .val (.long x1), .second, .val (.long x2), .second, .val (.int x3), .val (.ref b165), .val (.int (1 : Int32)), .val (.int (0 : Int32)), .val (.long x0), .second, .unset, .unset] [(.ref b165)]))
    obtain ⟨cq180, kq180, q180a, q180b, q180c⟩ := isOf hZ0 eh176 f175
    obtain ⟨_, _, ⟨T180, L180, k180, n180⟩, -, X180, ⟨Lc180, hQ180, l180, y180, z180⟩, st180⟩ := X176.virtualBack hx (y := (⟨"com/example/gavelwatch/gavelwatch/sim/RunningAuction", "price", "()Lcom/example/gavelwatch/gavelwatch/model/Money;"⟩ : MethodName)) (z := (⟨"com/example/gavelwatch/gavelwatch/sim/RunningAuction", "price", "()Lcom/example/gavelwatch/gavelwatch/model/Money;"⟩ : MethodName)) hown0 (mvT hZ0 (hw _ (List.mem_of_getElem? (i := 51) rfl))) (mvT hZ0 (hw _ (List.mem_of_getElem? (i := 52) rfl))) (notFace_of_selects (args := #[]) (mvT hZ0 (hw _ (List.mem_of_getElem? (i := 54) rfl)))) (mvT hZ0 (hw _ (List.mem_of_getElem? (i := 54) rfl))) (mvT hZ0 (hw _ (List.mem_of_getElem? (i := 53) rfl))) (by decide) (backOf (W := 0) (rmprice0 l Z a0 hw [] b165 b166 T168.heap n0 Zc168 f175 Fh168 Fo168) hZ0 (hw _ (List.mem_of_getElem? (i := 55) rfl)) (hw _ (List.mem_of_getElem? (i := 2) rfl)) (by decide) (by decide)) q180a q180c (g := (mkF m 122 #[.val (.long x0), .second, .val (.long x1), .second, .val (.long x2), .second, .val (.int x3), .val (.ref b165), .val (.int (1 : Int32)), .val (.int (0 : Int32)), .val (.long x0), .second, .unset, .unset] [(.ref b165)])) rfl (by rw [hml]; rfl) (Steps.refl _) (argsL := []) (rest := []) (lenOf pd___Lcom_example_gavelwatch_gavelwatch_model_Money_ rfl) rfl (by show 2 * 0 + _ ≤ _; exact Nat.le_of_eq rfl) (hb hby at_122) (fun _ _ => ⟨rfl, eh176, (by decide : 3 + 0 ≤ _), (by decide : 7 + 0 ≤ _)⟩)
    dsimp only [Pt.U, Pt.locs, Pt.cells, Pt.slots] at X180 l180 y180 z180 st180 hQ180
    subst l180 y180 z180
    obtain ⟨Nq180, rfl, eh180⟩ := hQ180
    have N180 := Fr.app N176 Nq180
    refine GlW.back (fun _ k => st180.trans k) ?_
    show GlW _ _ _ _ _ _ _ (T180.setTop (mkF m 125 #[.val (.long x0), .second, .val (.long x1), .second, .val (.long x2), .second, .val (.int x3), .val (.ref b165), .val (.int (1 : Int32)), .val (.int (0 : Int32)), .val (.long x0), .second, .unset, .unset] [(.ref b166)]))
    obtain ⟨cq181, kq181, q181a, q181b, q181c⟩ := isOf hZ0 eh180 f178
    obtain ⟨_, _, ⟨T181, L181, k181, n181⟩, -, X181, ⟨Lc181, hQ181, l181, y181, z181⟩, st181⟩ := X180.virtualBack hx (y := (⟨"com/example/gavelwatch/gavelwatch/model/Money", "cents", "()J"⟩ : MethodName)) (z := (⟨"com/example/gavelwatch/gavelwatch/model/Money", "cents", "()J"⟩ : MethodName)) hown0 (mvT hZ0 (hw _ (List.mem_of_getElem? (i := 63) rfl))) (mvT hZ0 (hw _ (List.mem_of_getElem? (i := 64) rfl))) (notFace_of_selects (args := #[]) (mvT hZ0 (hw _ (List.mem_of_getElem? (i := 66) rfl)))) (mvT hZ0 (hw _ (List.mem_of_getElem? (i := 66) rfl))) (mvT hZ0 (hw _ (List.mem_of_getElem? (i := 65) rfl))) (by decide) (backOf (W := 0) (rmcents l Z a0 hw [] b166 x0 T168.heap n0 Zc168 f177) hZ0 (hw _ (List.mem_of_getElem? (i := 67) rfl)) (hw _ (List.mem_of_getElem? (i := 5) rfl)) (by decide) (by decide)) q181a q181c (g := (mkF m 125 #[.val (.long x0), .second, .val (.long x1), .second, .val (.long x2), .second, .val (.int x3), .val (.ref b165), .val (.int (1 : Int32)), .val (.int (0 : Int32)), .val (.long x0), .second, .unset, .unset] [(.ref b166)])) rfl (by rw [hml]; rfl) (Steps.refl _) (argsL := []) (rest := []) (lenOf pd___J rfl) rfl (by show 2 * 0 + _ ≤ _; exact Nat.le_of_eq rfl) (hb hby at_125) (fun _ _ => ⟨rfl, eh180, (by decide : 3 + 0 ≤ _), (by decide : 7 + 0 ≤ _)⟩)
    dsimp only [Pt.U, Pt.locs, Pt.cells, Pt.slots] at X181 l181 y181 z181 st181 hQ181
    subst l181 y181 z181
    obtain ⟨Nq181, rfl, eh181⟩ := hQ181
    have N181 := Fr.app N180 Nq181
    refine GlW.back (fun _ k => st181.trans k) ?_
    show GlW _ _ _ _ _ _ _ (T181.setTop (mkF m 128 #[.val (.long x0), .second, .val (.long x1), .second, .val (.long x2), .second, .val (.int x3), .val (.ref b165), .val (.int (1 : Int32)), .val (.int (0 : Int32)), .val (.long x0), .second, .unset, .unset] [(.long x0)]))
    refine GlW.back (fun _ k => XS.lload X181.here hx rfl (hb hby at_128) rfl k) ?_
    show GlW _ _ _ _ _ _ _ (T181.setTop (mkF m 130 #[.val (.long x0), .second, .val (.long x1), .second, .val (.long x2), .second, .val (.int x3), .val (.ref b165), .val (.int (1 : Int32)), .val (.int (0 : Int32)), .val (.long x0), .second, .unset, .unset] [(.long x0), (.long x0)]))
    refine GlW.back (fun _ k => XS.lcmp X181.here hx rfl (hb hby at_130) rfl k) ?_
    show GlW _ _ _ _ _ _ _ (T181.setTop (mkF m 131 #[.val (.long x0), .second, .val (.long x1), .second, .val (.long x2), .second, .val (.int x3), .val (.ref b165), .val (.int (1 : Int32)), .val (.int (0 : Int32)), .val (.long x0), .second, .unset, .unset] [(.int (lcmpW x0 x0))]))
    refine GlW.back (fun _ k => XS.ifNo X181.here hx rfl (hb hby at_131) rfl ((if0 _ _).trans (teq (own_lcE (rfl : x0 = x0))).2) k) ?_
    show GlW _ _ _ _ _ _ _ (T181.setTop (mkF m 134 #[.val (.long x0), .second, .val (.long x1), .second, .val (.long x2), .second, .val (.int x3), .val (.ref b165), .val (.int (1 : Int32)), .val (.int (0 : Int32)), .val (.long x0), .second, .unset, .unset] []))
    refine GlW.back (fun _ k => XS.iconst X181.here hx rfl (hb hby at_134) k) ?_
    show GlW _ _ _ _ _ _ _ (T181.setTop (mkF m 135 #[.val (.long x0), .second, .val (.long x1), .second, .val (.long x2), .second, .val (.int x3), .val (.ref b165), .val (.int (1 : Int32)), .val (.int (0 : Int32)), .val (.long x0), .second, .unset, .unset] [(.int (1 : Int32))]))
    refine GlW.back (fun _ k => XS.goto X181.here hx rfl (pc0 := 135) (pc' := 139) rfl (hb hby at_135) (by decide) (by decide) k) ?_
    show GlW _ _ _ _ _ _ _ (T181.setTop (mkF m 139 #[.val (.long x0), .second, .val (.long x1), .second, .val (.long x2), .second, .val (.int x3), .val (.ref b165), .val (.int (1 : Int32)), .val (.int (0 : Int32)), .val (.long x0), .second, .unset, .unset] [(.int (1 : Int32))]))
    exact GlW.ret X181 eh181 hS0 SKc168 (v := (some (.int (1 : Int32)))) (fun h => by rw [Bd.returns] at h; cases h) Bd.notSynchronized (fun fs hr => retN X181 hx (t := .boolean) (z := (1 : Int32)) Bd.returns (by simp) (hb hby at_139) hr) ⟨N181, rfl⟩ (by decide) (by decide)
  · rw [hk179]
    show GlW _ _ _ _ _ _ _ (T176.setTop (mkF m 41 #[.val (.long x0), .second, .val (.long x1), .second, .val (.long x2), .second, .val (.int x3), .val (.ref b165), .val (.int (1 : Int32)), .unset, .unset, .unset, .unset, .unset] [(.int (1 : Int32))]))
    refine GlW.back (fun _ k => XS.istore X176.here hx rfl (hb hby at_41) rfl (l' := #[.val (.long x0), .second, .val (.long x1), .second, .val (.long x2), .second, .val (.int x3), .val (.ref b165), .val (.int (1 : Int32)), .val (.int (1 : Int32)), .unset, .unset, .unset, .unset]) rfl k) ?_
    show GlW _ _ _ _ _ _ _ (T176.setTop (mkF m 43 #[.val (.long x0), .second, .val (.long x1), .second, .val (.long x2), .second, .val (.int x3), .val (.ref b165), .val (.int (1 : Int32)), .val (.int (1 : Int32)), .unset, .unset, .unset, .unset] []))
    refine GlW.back (fun _ k => XS.lloadN X176.here hx rfl (hb hby at_43) rfl k) ?_
    show GlW _ _ _ _ _ _ _ (T176.setTop (mkF m 44 #[.val (.long x0), .second, .val (.long x1), .second, .val (.long x2), .second, .val (.int x3), .val (.ref b165), .val (.int (1 : Int32)), .val (.int (1 : Int32)), .unset, .unset, .unset, .unset] [(.long x0)]))
    refine GlW.back (fun _ k => XS.lstore X176.here hx rfl (hb hby at_44) rfl (l' := #[.val (.long x0), .second, .val (.long x1), .second, .val (.long x2), .second, .val (.int x3), .val (.ref b165), .val (.int (1 : Int32)), .val (.int (1 : Int32)), .val (.long x0), .second, .unset, .unset]) rfl k) ?_
    show GlW _ _ _ _ _ _ _ (T176.setTop (mkF m 46 #[.val (.long x0), .second, .val (.long x1), .second, .val (.long x2), .second, .val (.int x3), .val (.ref b165), .val (.int (1 : Int32)), .val (.int (1 : Int32)), .val (.long x0), .second, .unset, .unset] []))
    refine GlW.back (fun _ k => XS.iload X176.here hx rfl (hb hby at_46) rfl k) ?_
    show GlW _ _ _ _ _ _ _ (T176.setTop (mkF m 48 #[.val (.long x0), .second, .val (.long x1), .second, .val (.long x2), .second, .val (.int x3), .val (.ref b165), .val (.int (1 : Int32)), .val (.int (1 : Int32)), .val (.long x0), .second, .unset, .unset] [(.int (1 : Int32))]))
    refine GlW.back (fun _ k => XS.iconst X176.here hx rfl (hb hby at_48) k) ?_
    show GlW _ _ _ _ _ _ _ (T176.setTop (mkF m 49 #[.val (.long x0), .second, .val (.long x1), .second, .val (.long x2), .second, .val (.int x3), .val (.ref b165), .val (.int (1 : Int32)), .val (.int (1 : Int32)), .val (.long x0), .second, .unset, .unset] [(.int (1 : Int32)), (.int (1 : Int32))]))
    refine GlW.back (fun _ k => XS.icmpNo X176.here hx rfl (hb hby at_49) rfl (flt (by decide : ¬ (1 : Int32) < (1 : Int32))).1 k) ?_
    show GlW _ _ _ _ _ _ _ (T176.setTop (mkF m 52 #[.val (.long x0), .second, .val (.long x1), .second, .val (.long x2), .second, .val (.int x3), .val (.ref b165), .val (.int (1 : Int32)), .val (.int (1 : Int32)), .val (.long x0), .second, .unset, .unset] []))
    refine GlW.back (fun _ k => XS.lloadN X176.here hx rfl (hb hby at_52) rfl k) ?_
    show GlW _ _ _ _ _ _ _ (T176.setTop (mkF m 53 #[.val (.long x0), .second, .val (.long x1), .second, .val (.long x2), .second, .val (.int x3), .val (.ref b165), .val (.int (1 : Int32)), .val (.int (1 : Int32)), .val (.long x0), .second, .unset, .unset] [(.long x0)]))
    refine GlW.back (fun _ k => XS.lloadN X176.here hx rfl (hb hby at_53) rfl k) ?_
    show GlW _ _ _ _ _ _ _ (T176.setTop (mkF m 54 #[.val (.long x0), .second, .val (.long x1), .second, .val (.long x2), .second, .val (.int x3), .val (.ref b165), .val (.int (1 : Int32)), .val (.int (1 : Int32)), .val (.long x0), .second, .unset, .unset] [(.long x1), (.long x0)]))
    obtain ⟨_, _, ⟨T182, L182, k182, n182⟩, -, X182, ⟨Lc182, hQ182, l182, y182, z182⟩, st182⟩ := Jvm.LawKit.callS X176 hx (y := (⟨"java/lang/Math", "max", "(JJ)J"⟩ : MethodName)) hown0 (mvT hZ0 (hw _ (List.mem_of_getElem? (i := 68) rfl))) (mvT hZ0 (hw _ (List.mem_of_getElem? (i := 69) rfl))) (mvT hZ0 (hw _ (List.mem_of_getElem? (i := 70) rfl))) (mvT hZ0 (hw _ (List.mem_of_getElem? (i := 71) rfl))) (by decide) (backOf (W := 0) (rmmaxJ l Z a0 hw [] x0 x1  T168.heap n0 Zc168 ) hZ0 (hw _ (List.mem_of_getElem? (i := 71) rfl)) (hw _ (List.mem_of_getElem? (i := 70) rfl)) (by decide) (by decide)) (g := (mkF m 54 #[.val (.long x0), .second, .val (.long x1), .second, .val (.long x2), .second, .val (.int x3), .val (.ref b165), .val (.int (1 : Int32)), .val (.int (1 : Int32)), .val (.long x0), .second, .unset, .unset] [(.long x1), (.long x0)])) rfl (by rw [hml]; rfl) (argsL := [(.long x0), (.long x1)]) (rest := []) (lenOf pd__JJ_J rfl) rfl (by show 2 * 0 + _ ≤ _; exact Nat.le_of_eq rfl) (hb hby at_54) (fun _ _ => ⟨rfl, eh176, (by decide : 3 + 0 ≤ _), (by decide : 7 + 0 ≤ _)⟩)
    dsimp only [Pt.U, Pt.locs, Pt.cells, Pt.slots] at X182 l182 y182 z182 st182 hQ182
    subst l182 y182 z182
    obtain ⟨Nq182, r182, rfl, hge182, hgf182, eh182⟩ := hQ182
    have N182 := Fr.app N176 Nq182
    refine GlW.back (fun _ k => st182 _ k) ?_
    show GlW _ _ _ _ _ _ _ (T182.setTop (mkF m 57 #[.val (.long x0), .second, .val (.long x1), .second, .val (.long x2), .second, .val (.int x3), .val (.ref b165), .val (.int (1 : Int32)), .val (.int (1 : Int32)), .val (.long x0), .second, .unset, .unset] [(.long r182)]))
    refine GlW.back (fun _ k => XS.lstore X182.here hx rfl (hb hby at_57) rfl (l' := #[.val (.long x0), .second, .val (.long x1), .second, .val (.long x2), .second, .val (.int x3), .val (.ref b165), .val (.int (1 : Int32)), .val (.int (1 : Int32)), .val (.long x0), .second, .val (.long r182), .second]) rfl k) ?_
    show GlW _ _ _ _ _ _ _ (T182.setTop (mkF m 59 #[.val (.long x0), .second, .val (.long x1), .second, .val (.long x2), .second, .val (.int x3), .val (.ref b165), .val (.int (1 : Int32)), .val (.int (1 : Int32)), .val (.long x0), .second, .val (.long r182), .second] []))
    refine GlW.back (fun _ k => XS.aload X182.here hx rfl (hb hby at_59) rfl rfl k) ?_
    show GlW _ _ _ _ _ _ _ (T182.setTop (mkF m 61 #[.val (.long x0), .second, .val (.long x1), .second, .val (.long x2), .second, .val (.int x3), .val (.ref b165), .val (.int (1 : Int32)), .val (.int (1 : Int32)), .val (.long x0), .second, .val (.long r182), .second] [(.ref b165)]))
    have wS : ∀ d ∈ Bundle.stringAtoms, d.before a0 Z = true := fun d hd => hw d ((by decide +kernel : ∀ d ∈ Bundle.stringAtoms, d ∈ tables_1) d hd)
    obtain ⟨b183, T183, h183, k1183, X183, e183, E183, hS183, SK183, hZ183, hown183, st183⟩ := ldcS X182 hx hZ0 hown0 (hw _ (List.mem_of_getElem? (i := 72) rfl)) wS eh182 hS0 SKc168 (g := (mkF m 61 #[.val (.long x0), .second, .val (.long x1), .second, .val (.long x2), .second, .val (.int x3), .val (.ref b165), .val (.int (1 : Int32)), .val (.int (1 : Int32)), .val (.long x0), .second, .val (.long r182), .second] [(.ref b165)])) rfl (hb hby at_61) (n := 4) (by decide +kernel) (by decide) (by decide) (by decide)
    have Z183 : n0 ≤ h183.size := Nat.le_trans Zc168 E183.1
    have K183 := Keep.ext Kc168 E183
    have O183 := Old.ext Oc168 E183
    refine GlW.back (fun _ k => st183 _ k) ?_
    show GlW _ _ _ _ _ _ _ (T183.setTop (mkF m 63 #[.val (.long x0), .second, .val (.long x1), .second, .val (.long x2), .second, .val (.int x3), .val (.ref b165), .val (.int (1 : Int32)), .val (.int (1 : Int32)), .val (.long x0), .second, .val (.long r182), .second] [(.ref b183), (.ref b165)]))
    obtain ⟨T184, h184, X184, e184, E184, A184, D184, -, st184⟩ := newO X183 hx hZ183 hown183 (hw _ (List.mem_of_getElem? (i := 3) rfl)) (hw _ (List.mem_of_getElem? (i := 4) rfl)) (hw _ (List.mem_of_getElem? (i := 5) rfl)) e183 (g := (mkF m 63 #[.val (.long x0), .second, .val (.long x1), .second, .val (.long x2), .second, .val (.int x3), .val (.ref b165), .val (.int (1 : Int32)), .val (.int (1 : Int32)), .val (.long x0), .second, .val (.long r182), .second] [(.ref b183), (.ref b165)])) rfl (hb hby at_63) (by decide) (by decide)
    obtain ⟨b184, g184⟩ : ∃ z, z = h183.size := ⟨_, rfl⟩
    rw [← g184] at A184 D184 st184
    have f185 := (f175.ext E183)
    have ne_b165_b184 : b165 ≠ b184 := Nat.ne_of_lt (Nat.lt_of_lt_of_le f185.lt (Nat.le_of_eq g184.symm))
    have f186 := (f178.ext E183)
    have ne_b166_b184 : b166 ≠ b184 := Nat.ne_of_lt (Nat.lt_of_lt_of_le f186.lt (Nat.le_of_eq g184.symm))
    have f187 := (El168.ext E183)
    have ne_l168_b184 : l168 ≠ b184 := Nat.ne_of_lt (Nat.lt_of_lt_of_le f187.lt (Nat.le_of_eq g184.symm))
    have g_b184 : n0 ≤ b184 := Nat.le_trans Z183 (Nat.le_of_eq g184.symm)
    have sz_b184 : h0.size ≤ b184 := Nat.le_trans K183.1 (Nat.le_of_eq g184.symm)
    have Z184 : n0 ≤ h184.size := Nat.le_trans Z183 E184.1
    have K184 := Keep.ext K183 E184
    have O184 := Old.ext O183 E184
    have SK184 := Nat.le_trans SK183 E184.1
    have F184_cents : Fld Z h184 b184 "com/example/gavelwatch/gavelwatch/model/Money" "cents" "J" (.long (0 : Int64)) := D184 (Or.inr (hw _ (List.mem_of_getElem? (i := 18) rfl))) (ty := .long) (by decide)
    refine GlW.back (fun _ k => st184 _ k) ?_
    show GlW _ _ _ _ _ _ _ (T184.setTop (mkF m 66 #[.val (.long x0), .second, .val (.long x1), .second, .val (.long x2), .second, .val (.int x3), .val (.ref b165), .val (.int (1 : Int32)), .val (.int (1 : Int32)), .val (.long x0), .second, .val (.long r182), .second] [(.ref b184), (.ref b183), (.ref b165)]))
    refine GlW.back (fun _ k => XS.dup X184.here hx rfl (hb hby at_66) rfl rfl k) ?_
    show GlW _ _ _ _ _ _ _ (T184.setTop (mkF m 67 #[.val (.long x0), .second, .val (.long x1), .second, .val (.long x2), .second, .val (.int x3), .val (.ref b165), .val (.int (1 : Int32)), .val (.int (1 : Int32)), .val (.long x0), .second, .val (.long r182), .second] [(.ref b184), (.ref b184), (.ref b183), (.ref b165)]))
    refine GlW.back (fun _ k => XS.lload X184.here hx rfl (hb hby at_67) rfl k) ?_
    show GlW _ _ _ _ _ _ _ (T184.setTop (mkF m 69 #[.val (.long x0), .second, .val (.long x1), .second, .val (.long x2), .second, .val (.int x3), .val (.ref b165), .val (.int (1 : Int32)), .val (.int (1 : Int32)), .val (.long x0), .second, .val (.long r182), .second] [(.long r182), (.ref b184), (.ref b184), (.ref b183), (.ref b165)]))
    obtain ⟨_, _, ⟨T188, L188, k188, n188⟩, -, X188, ⟨Lc188, hQ188, l188, y188, z188⟩, st188⟩ := X184.specialBack hx (y := (⟨"com/example/gavelwatch/gavelwatch/model/Money", "<init>", "(J)V"⟩ : MethodName)) rfl hown183 (mvT hZ183 (hw _ (List.mem_of_getElem? (i := 6) rfl))) (mvT hZ183 (hw _ (List.mem_of_getElem? (i := 7) rfl))) (mvT hZ183 (hw _ (List.mem_of_getElem? (i := 8) rfl))) (by decide) (backOf (W := 3) (rmmoney l Z a0 hw [] b184 r182  h184 n0 Z184 g_b184 A184 F184_cents) hZ183 (hw _ (List.mem_of_getElem? (i := 8) rfl)) (hw _ (List.mem_of_getElem? (i := 5) rfl)) (by decide) (by decide)) (g := (mkF m 69 #[.val (.long x0), .second, .val (.long x1), .second, .val (.long x2), .second, .val (.int x3), .val (.ref b165), .val (.int (1 : Int32)), .val (.int (1 : Int32)), .val (.long x0), .second, .val (.long r182), .second] [(.long r182), (.ref b184), (.ref b184), (.ref b183), (.ref b165)])) rfl (by rw [hml]; rfl) (Steps.refl _) (a := b184) (argsL := [(.long r182)]) (rest := [(.ref b184), (.ref b183), (.ref b165)]) (lenOf pd__J_V rfl) rfl (by show 2 * 0 + _ ≤ _; exact Nat.le_of_eq rfl) (hb hby at_69) (fun _ _ => ⟨rfl, e184, (by decide : 6 + 0 ≤ _), (by decide : 16 + 0 ≤ _)⟩)
    dsimp only [Pt.U, Pt.locs, Pt.cells, Pt.slots] at X188 l188 y188 z188 st188 hQ188
    subst l188 y188 z188
    obtain ⟨Nq188, rfl, Kq188, Fc188⟩ := hQ188
    have N188 := Fr.app N182 Nq188
    have Kc188 := Keep.trans K184 Kq188 (allS (Or.inr sz_b184) all0)
    have Zc188 : n0 ≤ T188.heap.size := Nat.le_trans Z184 Kq188.1
    have Oc188 := Old.keep O184 Kq188 (allS g_b184 all0)
    have SKc188 := Nat.le_trans SK184 Kq188.1
    refine GlW.back (fun _ k => st188.trans k) ?_
    show GlW _ _ _ _ _ _ _ (T188.setTop (mkF m 72 #[.val (.long x0), .second, .val (.long x1), .second, .val (.long x2), .second, .val (.int x3), .val (.ref b165), .val (.int (1 : Int32)), .val (.int (1 : Int32)), .val (.long x0), .second, .val (.long r182), .second] [(.ref b184), (.ref b183), (.ref b165)]))
    refine GlW.back (fun _ k => XS.lconst X188.here hx rfl (hb hby at_72) k) ?_
    show GlW _ _ _ _ _ _ _ (T188.setTop (mkF m 73 #[.val (.long x0), .second, .val (.long x1), .second, .val (.long x2), .second, .val (.int x3), .val (.ref b165), .val (.int (1 : Int32)), .val (.int (1 : Int32)), .val (.long x0), .second, .val (.long r182), .second] [(.long (0 : Int64)), (.ref b184), (.ref b183), (.ref b165)]))
    have f190 := ((f185.ext E184).keep Kq188)
    have f191 := ((f186.ext E184).keep Kq188)
    have f192 := ((f187.ext E184).keep Kq188)
    have f193 := (A184.keep Kq188)
    have f194 := (((Fh168.ext E183).ext E184).keep Kq188 (ninS ne_b165_b184 nin0))
    have f195 := (((Fb168.ext E183).ext E184).keep Kq188 (ninS ne_b165_b184 nin0))
    have f196 := (((Fo168.ext E183).ext E184).keep Kq188 (ninS ne_b165_b184 nin0))
    have f197 := (((f177.ext E183).ext E184).keep Kq188 (ninS ne_b166_b184 nin0))
    have f198 := (((Fm168.ext E183).ext E184).keep Kq188 (ninS ne_l168_b184 nin0))
    have f199 := (((Fe168.ext E183).ext E184).keep Kq188 (ninS ne_l168_b184 nin0))
    have f200 := (((Fs168.ext E183).ext E184).keep Kq188 (ninS ne_l168_b184 nin0))
    obtain ⟨cq189, kq189, q189a, q189b, q189c⟩ := isOf hZ183 rfl f190
    obtain ⟨_, _, ⟨T189, L189, k189, n189⟩, -, X189, hS2189, hg2189, ⟨Lc189, hQ189, l189, y189, z189⟩, st189⟩ := X188.virtualBackS hx (y := (⟨"com/example/gavelwatch/gavelwatch/sim/RunningAuction", "place", "(Ljava/lang/String;Lcom/example/gavelwatch/gavelwatch/model/Money;J)V"⟩ : MethodName)) (z := (⟨"com/example/gavelwatch/gavelwatch/sim/RunningAuction", "place", "(Ljava/lang/String;Lcom/example/gavelwatch/gavelwatch/model/Money;J)V"⟩ : MethodName)) hown183 (mvT hZ183 (hw _ (List.mem_of_getElem? (i := 80) rfl))) (mvT hZ183 (hw _ (List.mem_of_getElem? (i := 81) rfl))) (notFace_of_selects (args := #[]) (mvT hZ183 (hw _ (List.mem_of_getElem? (i := 83) rfl)))) (mvT hZ183 (hw _ (List.mem_of_getElem? (i := 83) rfl))) (mvT hZ183 (hw _ (List.mem_of_getElem? (i := 82) rfl))) (by decide) (backOfS (W := 0) (rmplace0 l Z a0 hw [] b165 b183 b184 (0 : Int64) l168 b166 u wD kD (0 : Int32) r182 x0 T188.heap n0 Zc188 Oc188 g_b165 f190 f194 f195 f196 f191 f197 f193 Fc188 Gz168 f192 f198 f199 f200 S_DEFAULTCAPACITY_EMPTY_ELEMENTDATA V_wD S_SECONDS E_u F_u_scale F_u_maxNanos hge182 ne_b165_l168 ne_b165_b166 ne_b165_b184 (Ne.symm ne_b166_l168) ne_l168_b184 (by decide) (by decide)) hZ183 (hw _ (List.mem_of_getElem? (i := 84) rfl)) (hw _ (List.mem_of_getElem? (i := 2) rfl)) (by decide) (by decide)) q189a q189c (g := (mkF m 73 #[.val (.long x0), .second, .val (.long x1), .second, .val (.long x2), .second, .val (.int x3), .val (.ref b165), .val (.int (1 : Int32)), .val (.int (1 : Int32)), .val (.long x0), .second, .val (.long r182), .second] [(.long (0 : Int64)), (.ref b184), (.ref b183), (.ref b165)])) rfl (by rw [hml]; rfl) (Steps.refl _) (argsL := [(.ref b183), (.ref b184), (.long (0 : Int64))]) (rest := []) (lenOf pd__Ljava_lang_String_Lcom_example_gavelwatch_gavelwatch_model_Money_J_V rfl) rfl (by show 2 * 0 + _ ≤ _; exact Nat.le_of_eq rfl) (hb hby at_73) (fun _ _ => ⟨rfl, rfl, (by decide : 6 + 6 ≤ _), (by decide : 16 + 69 ≤ _)⟩)
    dsimp only [Pt.U, Pt.locs, Pt.cells, Pt.slots] at X189 l189 y189 z189 st189 hQ189 hS2189 hg2189
    subst l189 y189 z189
    obtain ⟨X189, hS189, hZ189, hown189⟩ := rebS hS183 (SKc188) X189 hS2189 hg2189 hZ183 hown183
    obtain ⟨Nq189, rfl, Kq189, c189, t189, k0189, Sc189, Gc189, Sz189, Gz189, Nct189, Ec189, Fh189, Fa189, Fb189, Fe189, Fs189, Fm189, V189, Ov189, -⟩ := hQ189
    have N189 := Fr.app N188 Nq189
    have Kc189 := Keep.trans Kc188 Kq189 (allS (Or.inr sz_b165) (allS (Or.inr sz_l168) all0))
    have Zc189 : n0 ≤ T189.heap.size := Nat.le_trans Zc188 Kq189.1
    have Oc189 := Old.keep Oc188 Kq189 (allS g_b165 (allS Gz168 all0))
    have ne_b165_c189 : b165 ≠ c189 := Nat.ne_of_lt (Nat.lt_of_lt_of_le (f190).lt Sc189)
    have ne_b166_c189 : b166 ≠ c189 := Nat.ne_of_lt (Nat.lt_of_lt_of_le (f191).lt Sc189)
    have ne_l168_c189 : l168 ≠ c189 := Nat.ne_of_lt (Nat.lt_of_lt_of_le (f192).lt Sc189)
    have ne_b184_c189 : b184 ≠ c189 := Nat.ne_of_lt (Nat.lt_of_lt_of_le (f193).lt Sc189)
    have sz_c189 : h0.size ≤ c189 := Nat.le_trans Kc188.1 Sc189
    have ne_b165_t189 : b165 ≠ t189 := Nat.ne_of_lt (Nat.lt_of_lt_of_le (f190).lt Sz189)
    have ne_b166_t189 : b166 ≠ t189 := Nat.ne_of_lt (Nat.lt_of_lt_of_le (f191).lt Sz189)
    have ne_l168_t189 : l168 ≠ t189 := Nat.ne_of_lt (Nat.lt_of_lt_of_le (f192).lt Sz189)
    have ne_b184_t189 : b184 ≠ t189 := Nat.ne_of_lt (Nat.lt_of_lt_of_le (f193).lt Sz189)
    have sz_t189 : h0.size ≤ t189 := Nat.le_trans Kc188.1 Sz189
    refine GlW.back (fun _ k => st189.trans k) ?_
    show GlW _ _ _ _ _ _ _ (T189.setTop (mkF m 76 #[.val (.long x0), .second, .val (.long x1), .second, .val (.long x2), .second, .val (.int x3), .val (.ref b165), .val (.int (1 : Int32)), .val (.int (1 : Int32)), .val (.long x0), .second, .val (.long r182), .second] []))
    refine GlW.back (fun _ k => XS.lload X189.here hx rfl (hb hby at_76) rfl k) ?_
    show GlW _ _ _ _ _ _ _ (T189.setTop (mkF m 78 #[.val (.long x0), .second, .val (.long x1), .second, .val (.long x2), .second, .val (.int x3), .val (.ref b165), .val (.int (1 : Int32)), .val (.int (1 : Int32)), .val (.long x0), .second, .val (.long r182), .second] [(.long r182)]))
    refine GlW.back (fun _ k => XS.lstore X189.here hx rfl (hb hby at_78) rfl (l' := #[.val (.long x0), .second, .val (.long x1), .second, .val (.long x2), .second, .val (.int x3), .val (.ref b165), .val (.int (1 : Int32)), .val (.int (1 : Int32)), .val (.long r182), .second, .val (.long r182), .second]) rfl k) ?_
    show GlW _ _ _ _ _ _ _ (T189.setTop (mkF m 80 #[.val (.long x0), .second, .val (.long x1), .second, .val (.long x2), .second, .val (.int x3), .val (.ref b165), .val (.int (1 : Int32)), .val (.int (1 : Int32)), .val (.long r182), .second, .val (.long r182), .second] []))
    refine GlW.back (fun _ k => XS.iload X189.here hx rfl (hb hby at_80) rfl k) ?_
    show GlW _ _ _ _ _ _ _ (T189.setTop (mkF m 82 #[.val (.long x0), .second, .val (.long x1), .second, .val (.long x2), .second, .val (.int x3), .val (.ref b165), .val (.int (1 : Int32)), .val (.int (1 : Int32)), .val (.long r182), .second, .val (.long r182), .second] [(.int (1 : Int32))]))
    refine GlW.back (fun _ k => XS.iconst X189.here hx rfl (hb hby at_82) k) ?_
    show GlW _ _ _ _ _ _ _ (T189.setTop (mkF m 83 #[.val (.long x0), .second, .val (.long x1), .second, .val (.long x2), .second, .val (.int x3), .val (.ref b165), .val (.int (1 : Int32)), .val (.int (1 : Int32)), .val (.long r182), .second, .val (.long r182), .second] [(.int (2 : Int32)), (.int (1 : Int32))]))
    refine GlW.back (fun _ k => XS.icmpYes X189.here hx rfl (pc0 := 83) (pc' := 115) rfl (hb hby at_83) rfl (tlt (by decide : (1 : Int32) < (2 : Int32))).1 (by decide) (by decide) k) ?_
    show GlW _ _ _ _ _ _ _ (T189.setTop (mkF m 115 #[.val (.long x0), .second, .val (.long x1), .second, .val (.long x2), .second, .val (.int x3), .val (.ref b165), .val (.int (1 : Int32)), .val (.int (1 : Int32)), .val (.long r182), .second, .val (.long r182), .second] []))
    refine GlW.back (fun _ k => XS.iload X189.here hx rfl (hb hby at_115) rfl k) ?_
    show GlW _ _ _ _ _ _ _ (T189.setTop (mkF m 117 #[.val (.long x0), .second, .val (.long x1), .second, .val (.long x2), .second, .val (.int x3), .val (.ref b165), .val (.int (1 : Int32)), .val (.int (1 : Int32)), .val (.long r182), .second, .val (.long r182), .second] [(.int (1 : Int32))]))
    refine GlW.back (fun _ k => XS.ifNo X189.here hx rfl (hb hby at_117) rfl ((if0 _ _).trans (feq (by decide : ¬ (1 : Int32) = (0 : Int32))).1) k) ?_
    show GlW _ _ _ _ _ _ _ (T189.setTop (mkF m 120 #[.val (.long x0), .second, .val (.long x1), .second, .val (.long x2), .second, .val (.int x3), .val (.ref b165), .val (.int (1 : Int32)), .val (.int (1 : Int32)), .val (.long r182), .second, .val (.long r182), .second] []))
    refine GlW.back (fun _ k => XS.aload X189.here hx rfl (hb hby at_120) rfl rfl k) ?_
    show GlW _ _ _ _ _ _ _ (T189.setTop (mkF m 122 #[.val (.long x0), .second, .val (.long x1), .second, .val (.long x2), .second, .val (.int x3), .val (.ref b165), .val (.int (1 : Int32)), .val (.int (1 : Int32)), .val (.long r182), .second, .val (.long r182), .second] [(.ref b165)]))
    have f202 := (f190.keep Kq189)
    obtain ⟨cq201, kq201, q201a, q201b, q201c⟩ := isOf hZ189 rfl f202
    obtain ⟨_, _, ⟨T201, L201, k201, n201⟩, -, X201, ⟨Lc201, hQ201, l201, y201, z201⟩, st201⟩ := X189.virtualBack hx (y := (⟨"com/example/gavelwatch/gavelwatch/sim/RunningAuction", "price", "()Lcom/example/gavelwatch/gavelwatch/model/Money;"⟩ : MethodName)) (z := (⟨"com/example/gavelwatch/gavelwatch/sim/RunningAuction", "price", "()Lcom/example/gavelwatch/gavelwatch/model/Money;"⟩ : MethodName)) hown189 (mvT hZ189 (hw _ (List.mem_of_getElem? (i := 51) rfl))) (mvT hZ189 (hw _ (List.mem_of_getElem? (i := 52) rfl))) (notFace_of_selects (args := #[]) (mvT hZ189 (hw _ (List.mem_of_getElem? (i := 54) rfl)))) (mvT hZ189 (hw _ (List.mem_of_getElem? (i := 54) rfl))) (mvT hZ189 (hw _ (List.mem_of_getElem? (i := 53) rfl))) (by decide) (backOf (W := 0) (rmprice1 l Z a0 hw [] b165 c189 b184 T189.heap n0 Zc189 f202 Fh189 Ec189 Fa189) hZ189 (hw _ (List.mem_of_getElem? (i := 55) rfl)) (hw _ (List.mem_of_getElem? (i := 2) rfl)) (by decide) (by decide)) q201a q201c (g := (mkF m 122 #[.val (.long x0), .second, .val (.long x1), .second, .val (.long x2), .second, .val (.int x3), .val (.ref b165), .val (.int (1 : Int32)), .val (.int (1 : Int32)), .val (.long r182), .second, .val (.long r182), .second] [(.ref b165)])) rfl (by rw [hml]; rfl) (Steps.refl _) (argsL := []) (rest := []) (lenOf pd___Lcom_example_gavelwatch_gavelwatch_model_Money_ rfl) rfl (by show 2 * 0 + _ ≤ _; exact Nat.le_of_eq rfl) (hb hby at_122) (fun _ _ => ⟨rfl, rfl, (by decide : 12 + 0 ≤ _), (by decide : 85 + 0 ≤ _)⟩)
    dsimp only [Pt.U, Pt.locs, Pt.cells, Pt.slots] at X201 l201 y201 z201 st201 hQ201
    subst l201 y201 z201
    obtain ⟨Nq201, rfl, eh201⟩ := hQ201
    have N201 := Fr.app N189 Nq201
    refine GlW.back (fun _ k => st201.trans k) ?_
    show GlW _ _ _ _ _ _ _ (T201.setTop (mkF m 125 #[.val (.long x0), .second, .val (.long x1), .second, .val (.long x2), .second, .val (.int x3), .val (.ref b165), .val (.int (1 : Int32)), .val (.int (1 : Int32)), .val (.long r182), .second, .val (.long r182), .second] [(.ref b184)]))
    have f204 := (Fc188.keep Kq189 (ninS (Ne.symm ne_b165_b184) (ninS (Ne.symm ne_l168_b184) nin0)))
    have f205 := (f193.keep Kq189)
    obtain ⟨cq203, kq203, q203a, q203b, q203c⟩ := isOf hZ189 eh201 f205
    obtain ⟨_, _, ⟨T203, L203, k203, n203⟩, -, X203, ⟨Lc203, hQ203, l203, y203, z203⟩, st203⟩ := X201.virtualBack hx (y := (⟨"com/example/gavelwatch/gavelwatch/model/Money", "cents", "()J"⟩ : MethodName)) (z := (⟨"com/example/gavelwatch/gavelwatch/model/Money", "cents", "()J"⟩ : MethodName)) hown189 (mvT hZ189 (hw _ (List.mem_of_getElem? (i := 63) rfl))) (mvT hZ189 (hw _ (List.mem_of_getElem? (i := 64) rfl))) (notFace_of_selects (args := #[]) (mvT hZ189 (hw _ (List.mem_of_getElem? (i := 66) rfl)))) (mvT hZ189 (hw _ (List.mem_of_getElem? (i := 66) rfl))) (mvT hZ189 (hw _ (List.mem_of_getElem? (i := 65) rfl))) (by decide) (backOf (W := 0) (rmcents l Z a0 hw [] b184 r182 T189.heap n0 Zc189 f204) hZ189 (hw _ (List.mem_of_getElem? (i := 67) rfl)) (hw _ (List.mem_of_getElem? (i := 5) rfl)) (by decide) (by decide)) q203a q203c (g := (mkF m 125 #[.val (.long x0), .second, .val (.long x1), .second, .val (.long x2), .second, .val (.int x3), .val (.ref b165), .val (.int (1 : Int32)), .val (.int (1 : Int32)), .val (.long r182), .second, .val (.long r182), .second] [(.ref b184)])) rfl (by rw [hml]; rfl) (Steps.refl _) (argsL := []) (rest := []) (lenOf pd___J rfl) rfl (by show 2 * 0 + _ ≤ _; exact Nat.le_of_eq rfl) (hb hby at_125) (fun _ _ => ⟨rfl, eh201, (by decide : 12 + 0 ≤ _), (by decide : 85 + 0 ≤ _)⟩)
    dsimp only [Pt.U, Pt.locs, Pt.cells, Pt.slots] at X203 l203 y203 z203 st203 hQ203
    subst l203 y203 z203
    obtain ⟨Nq203, rfl, eh203⟩ := hQ203
    have N203 := Fr.app N201 Nq203
    refine GlW.back (fun _ k => st203.trans k) ?_
    show GlW _ _ _ _ _ _ _ (T203.setTop (mkF m 128 #[.val (.long x0), .second, .val (.long x1), .second, .val (.long x2), .second, .val (.int x3), .val (.ref b165), .val (.int (1 : Int32)), .val (.int (1 : Int32)), .val (.long r182), .second, .val (.long r182), .second] [(.long r182)]))
    refine GlW.back (fun _ k => XS.lload X203.here hx rfl (hb hby at_128) rfl k) ?_
    show GlW _ _ _ _ _ _ _ (T203.setTop (mkF m 130 #[.val (.long x0), .second, .val (.long x1), .second, .val (.long x2), .second, .val (.int x3), .val (.ref b165), .val (.int (1 : Int32)), .val (.int (1 : Int32)), .val (.long r182), .second, .val (.long r182), .second] [(.long r182), (.long r182)]))
    refine GlW.back (fun _ k => XS.lcmp X203.here hx rfl (hb hby at_130) rfl k) ?_
    show GlW _ _ _ _ _ _ _ (T203.setTop (mkF m 131 #[.val (.long x0), .second, .val (.long x1), .second, .val (.long x2), .second, .val (.int x3), .val (.ref b165), .val (.int (1 : Int32)), .val (.int (1 : Int32)), .val (.long r182), .second, .val (.long r182), .second] [(.int (lcmpW r182 r182))]))
    refine GlW.back (fun _ k => XS.ifNo X203.here hx rfl (hb hby at_131) rfl ((if0 _ _).trans (teq (own_lcE (rfl : r182 = r182))).2) k) ?_
    show GlW _ _ _ _ _ _ _ (T203.setTop (mkF m 134 #[.val (.long x0), .second, .val (.long x1), .second, .val (.long x2), .second, .val (.int x3), .val (.ref b165), .val (.int (1 : Int32)), .val (.int (1 : Int32)), .val (.long r182), .second, .val (.long r182), .second] []))
    refine GlW.back (fun _ k => XS.iconst X203.here hx rfl (hb hby at_134) k) ?_
    show GlW _ _ _ _ _ _ _ (T203.setTop (mkF m 135 #[.val (.long x0), .second, .val (.long x1), .second, .val (.long x2), .second, .val (.int x3), .val (.ref b165), .val (.int (1 : Int32)), .val (.int (1 : Int32)), .val (.long r182), .second, .val (.long r182), .second] [(.int (1 : Int32))]))
    refine GlW.back (fun _ k => XS.goto X203.here hx rfl (pc0 := 135) (pc' := 139) rfl (hb hby at_135) (by decide) (by decide) k) ?_
    show GlW _ _ _ _ _ _ _ (T203.setTop (mkF m 139 #[.val (.long x0), .second, .val (.long x1), .second, .val (.long x2), .second, .val (.int x3), .val (.ref b165), .val (.int (1 : Int32)), .val (.int (1 : Int32)), .val (.long r182), .second, .val (.long r182), .second] [(.int (1 : Int32))]))
    exact GlW.ret X203 eh203 hS189 (Nat.le_refl _) (v := (some (.int (1 : Int32)))) (fun h => by rw [Bd.returns] at h; cases h) Bd.notSynchronized (fun fs hr => retN X203 hx (t := .boolean) (z := (1 : Int32)) Bd.returns (by simp) (hb hby at_139) hr) ⟨N203, rfl⟩ (by decide) (by decide)
  · rw [hk179]
    show GlW _ _ _ _ _ _ _ (T176.setTop (mkF m 41 #[.val (.long x0), .second, .val (.long x1), .second, .val (.long x2), .second, .val (.int x3), .val (.ref b165), .val (.int (1 : Int32)), .unset, .unset, .unset, .unset, .unset] [(.int (2 : Int32))]))
    refine GlW.back (fun _ k => XS.istore X176.here hx rfl (hb hby at_41) rfl (l' := #[.val (.long x0), .second, .val (.long x1), .second, .val (.long x2), .second, .val (.int x3), .val (.ref b165), .val (.int (1 : Int32)), .val (.int (2 : Int32)), .unset, .unset, .unset, .unset]) rfl k) ?_
    show GlW _ _ _ _ _ _ _ (T176.setTop (mkF m 43 #[.val (.long x0), .second, .val (.long x1), .second, .val (.long x2), .second, .val (.int x3), .val (.ref b165), .val (.int (1 : Int32)), .val (.int (2 : Int32)), .unset, .unset, .unset, .unset] []))
    refine GlW.back (fun _ k => XS.lloadN X176.here hx rfl (hb hby at_43) rfl k) ?_
    show GlW _ _ _ _ _ _ _ (T176.setTop (mkF m 44 #[.val (.long x0), .second, .val (.long x1), .second, .val (.long x2), .second, .val (.int x3), .val (.ref b165), .val (.int (1 : Int32)), .val (.int (2 : Int32)), .unset, .unset, .unset, .unset] [(.long x0)]))
    refine GlW.back (fun _ k => XS.lstore X176.here hx rfl (hb hby at_44) rfl (l' := #[.val (.long x0), .second, .val (.long x1), .second, .val (.long x2), .second, .val (.int x3), .val (.ref b165), .val (.int (1 : Int32)), .val (.int (2 : Int32)), .val (.long x0), .second, .unset, .unset]) rfl k) ?_
    show GlW _ _ _ _ _ _ _ (T176.setTop (mkF m 46 #[.val (.long x0), .second, .val (.long x1), .second, .val (.long x2), .second, .val (.int x3), .val (.ref b165), .val (.int (1 : Int32)), .val (.int (2 : Int32)), .val (.long x0), .second, .unset, .unset] []))
    refine GlW.back (fun _ k => XS.iload X176.here hx rfl (hb hby at_46) rfl k) ?_
    show GlW _ _ _ _ _ _ _ (T176.setTop (mkF m 48 #[.val (.long x0), .second, .val (.long x1), .second, .val (.long x2), .second, .val (.int x3), .val (.ref b165), .val (.int (1 : Int32)), .val (.int (2 : Int32)), .val (.long x0), .second, .unset, .unset] [(.int (2 : Int32))]))
    refine GlW.back (fun _ k => XS.iconst X176.here hx rfl (hb hby at_48) k) ?_
    show GlW _ _ _ _ _ _ _ (T176.setTop (mkF m 49 #[.val (.long x0), .second, .val (.long x1), .second, .val (.long x2), .second, .val (.int x3), .val (.ref b165), .val (.int (1 : Int32)), .val (.int (2 : Int32)), .val (.long x0), .second, .unset, .unset] [(.int (1 : Int32)), (.int (2 : Int32))]))
    refine GlW.back (fun _ k => XS.icmpNo X176.here hx rfl (hb hby at_49) rfl (flt (by decide : ¬ (2 : Int32) < (1 : Int32))).1 k) ?_
    show GlW _ _ _ _ _ _ _ (T176.setTop (mkF m 52 #[.val (.long x0), .second, .val (.long x1), .second, .val (.long x2), .second, .val (.int x3), .val (.ref b165), .val (.int (1 : Int32)), .val (.int (2 : Int32)), .val (.long x0), .second, .unset, .unset] []))
    refine GlW.back (fun _ k => XS.lloadN X176.here hx rfl (hb hby at_52) rfl k) ?_
    show GlW _ _ _ _ _ _ _ (T176.setTop (mkF m 53 #[.val (.long x0), .second, .val (.long x1), .second, .val (.long x2), .second, .val (.int x3), .val (.ref b165), .val (.int (1 : Int32)), .val (.int (2 : Int32)), .val (.long x0), .second, .unset, .unset] [(.long x0)]))
    refine GlW.back (fun _ k => XS.lloadN X176.here hx rfl (hb hby at_53) rfl k) ?_
    show GlW _ _ _ _ _ _ _ (T176.setTop (mkF m 54 #[.val (.long x0), .second, .val (.long x1), .second, .val (.long x2), .second, .val (.int x3), .val (.ref b165), .val (.int (1 : Int32)), .val (.int (2 : Int32)), .val (.long x0), .second, .unset, .unset] [(.long x1), (.long x0)]))
    obtain ⟨_, _, ⟨T206, L206, k206, n206⟩, -, X206, ⟨Lc206, hQ206, l206, y206, z206⟩, st206⟩ := Jvm.LawKit.callS X176 hx (y := (⟨"java/lang/Math", "max", "(JJ)J"⟩ : MethodName)) hown0 (mvT hZ0 (hw _ (List.mem_of_getElem? (i := 68) rfl))) (mvT hZ0 (hw _ (List.mem_of_getElem? (i := 69) rfl))) (mvT hZ0 (hw _ (List.mem_of_getElem? (i := 70) rfl))) (mvT hZ0 (hw _ (List.mem_of_getElem? (i := 71) rfl))) (by decide) (backOf (W := 0) (rmmaxJ l Z a0 hw [] x0 x1  T168.heap n0 Zc168 ) hZ0 (hw _ (List.mem_of_getElem? (i := 71) rfl)) (hw _ (List.mem_of_getElem? (i := 70) rfl)) (by decide) (by decide)) (g := (mkF m 54 #[.val (.long x0), .second, .val (.long x1), .second, .val (.long x2), .second, .val (.int x3), .val (.ref b165), .val (.int (1 : Int32)), .val (.int (2 : Int32)), .val (.long x0), .second, .unset, .unset] [(.long x1), (.long x0)])) rfl (by rw [hml]; rfl) (argsL := [(.long x0), (.long x1)]) (rest := []) (lenOf pd__JJ_J rfl) rfl (by show 2 * 0 + _ ≤ _; exact Nat.le_of_eq rfl) (hb hby at_54) (fun _ _ => ⟨rfl, eh176, (by decide : 3 + 0 ≤ _), (by decide : 7 + 0 ≤ _)⟩)
    dsimp only [Pt.U, Pt.locs, Pt.cells, Pt.slots] at X206 l206 y206 z206 st206 hQ206
    subst l206 y206 z206
    obtain ⟨Nq206, r206, rfl, hge206, hgf206, eh206⟩ := hQ206
    have N206 := Fr.app N176 Nq206
    refine GlW.back (fun _ k => st206 _ k) ?_
    show GlW _ _ _ _ _ _ _ (T206.setTop (mkF m 57 #[.val (.long x0), .second, .val (.long x1), .second, .val (.long x2), .second, .val (.int x3), .val (.ref b165), .val (.int (1 : Int32)), .val (.int (2 : Int32)), .val (.long x0), .second, .unset, .unset] [(.long r206)]))
    refine GlW.back (fun _ k => XS.lstore X206.here hx rfl (hb hby at_57) rfl (l' := #[.val (.long x0), .second, .val (.long x1), .second, .val (.long x2), .second, .val (.int x3), .val (.ref b165), .val (.int (1 : Int32)), .val (.int (2 : Int32)), .val (.long x0), .second, .val (.long r206), .second]) rfl k) ?_
    show GlW _ _ _ _ _ _ _ (T206.setTop (mkF m 59 #[.val (.long x0), .second, .val (.long x1), .second, .val (.long x2), .second, .val (.int x3), .val (.ref b165), .val (.int (1 : Int32)), .val (.int (2 : Int32)), .val (.long x0), .second, .val (.long r206), .second] []))
    refine GlW.back (fun _ k => XS.aload X206.here hx rfl (hb hby at_59) rfl rfl k) ?_
    show GlW _ _ _ _ _ _ _ (T206.setTop (mkF m 61 #[.val (.long x0), .second, .val (.long x1), .second, .val (.long x2), .second, .val (.int x3), .val (.ref b165), .val (.int (1 : Int32)), .val (.int (2 : Int32)), .val (.long x0), .second, .val (.long r206), .second] [(.ref b165)]))
    have wS : ∀ d ∈ Bundle.stringAtoms, d.before a0 Z = true := fun d hd => hw d ((by decide +kernel : ∀ d ∈ Bundle.stringAtoms, d ∈ tables_1) d hd)
    obtain ⟨b207, T207, h207, k1207, X207, e207, E207, hS207, SK207, hZ207, hown207, st207⟩ := ldcS X206 hx hZ0 hown0 (hw _ (List.mem_of_getElem? (i := 72) rfl)) wS eh206 hS0 SKc168 (g := (mkF m 61 #[.val (.long x0), .second, .val (.long x1), .second, .val (.long x2), .second, .val (.int x3), .val (.ref b165), .val (.int (1 : Int32)), .val (.int (2 : Int32)), .val (.long x0), .second, .val (.long r206), .second] [(.ref b165)])) rfl (hb hby at_61) (n := 4) (by decide +kernel) (by decide) (by decide) (by decide)
    have Z207 : n0 ≤ h207.size := Nat.le_trans Zc168 E207.1
    have K207 := Keep.ext Kc168 E207
    have O207 := Old.ext Oc168 E207
    refine GlW.back (fun _ k => st207 _ k) ?_
    show GlW _ _ _ _ _ _ _ (T207.setTop (mkF m 63 #[.val (.long x0), .second, .val (.long x1), .second, .val (.long x2), .second, .val (.int x3), .val (.ref b165), .val (.int (1 : Int32)), .val (.int (2 : Int32)), .val (.long x0), .second, .val (.long r206), .second] [(.ref b207), (.ref b165)]))
    obtain ⟨T208, h208, X208, e208, E208, A208, D208, -, st208⟩ := newO X207 hx hZ207 hown207 (hw _ (List.mem_of_getElem? (i := 3) rfl)) (hw _ (List.mem_of_getElem? (i := 4) rfl)) (hw _ (List.mem_of_getElem? (i := 5) rfl)) e207 (g := (mkF m 63 #[.val (.long x0), .second, .val (.long x1), .second, .val (.long x2), .second, .val (.int x3), .val (.ref b165), .val (.int (1 : Int32)), .val (.int (2 : Int32)), .val (.long x0), .second, .val (.long r206), .second] [(.ref b207), (.ref b165)])) rfl (hb hby at_63) (by decide) (by decide)
    obtain ⟨b208, g208⟩ : ∃ z, z = h207.size := ⟨_, rfl⟩
    rw [← g208] at A208 D208 st208
    have f209 := (f175.ext E207)
    have ne_b165_b208 : b165 ≠ b208 := Nat.ne_of_lt (Nat.lt_of_lt_of_le f209.lt (Nat.le_of_eq g208.symm))
    have f210 := (f178.ext E207)
    have ne_b166_b208 : b166 ≠ b208 := Nat.ne_of_lt (Nat.lt_of_lt_of_le f210.lt (Nat.le_of_eq g208.symm))
    have f211 := (El168.ext E207)
    have ne_l168_b208 : l168 ≠ b208 := Nat.ne_of_lt (Nat.lt_of_lt_of_le f211.lt (Nat.le_of_eq g208.symm))
    have g_b208 : n0 ≤ b208 := Nat.le_trans Z207 (Nat.le_of_eq g208.symm)
    have sz_b208 : h0.size ≤ b208 := Nat.le_trans K207.1 (Nat.le_of_eq g208.symm)
    have Z208 : n0 ≤ h208.size := Nat.le_trans Z207 E208.1
    have K208 := Keep.ext K207 E208
    have O208 := Old.ext O207 E208
    have SK208 := Nat.le_trans SK207 E208.1
    have F208_cents : Fld Z h208 b208 "com/example/gavelwatch/gavelwatch/model/Money" "cents" "J" (.long (0 : Int64)) := D208 (Or.inr (hw _ (List.mem_of_getElem? (i := 18) rfl))) (ty := .long) (by decide)
    refine GlW.back (fun _ k => st208 _ k) ?_
    show GlW _ _ _ _ _ _ _ (T208.setTop (mkF m 66 #[.val (.long x0), .second, .val (.long x1), .second, .val (.long x2), .second, .val (.int x3), .val (.ref b165), .val (.int (1 : Int32)), .val (.int (2 : Int32)), .val (.long x0), .second, .val (.long r206), .second] [(.ref b208), (.ref b207), (.ref b165)]))
    refine GlW.back (fun _ k => XS.dup X208.here hx rfl (hb hby at_66) rfl rfl k) ?_
    show GlW _ _ _ _ _ _ _ (T208.setTop (mkF m 67 #[.val (.long x0), .second, .val (.long x1), .second, .val (.long x2), .second, .val (.int x3), .val (.ref b165), .val (.int (1 : Int32)), .val (.int (2 : Int32)), .val (.long x0), .second, .val (.long r206), .second] [(.ref b208), (.ref b208), (.ref b207), (.ref b165)]))
    refine GlW.back (fun _ k => XS.lload X208.here hx rfl (hb hby at_67) rfl k) ?_
    show GlW _ _ _ _ _ _ _ (T208.setTop (mkF m 69 #[.val (.long x0), .second, .val (.long x1), .second, .val (.long x2), .second, .val (.int x3), .val (.ref b165), .val (.int (1 : Int32)), .val (.int (2 : Int32)), .val (.long x0), .second, .val (.long r206), .second] [(.long r206), (.ref b208), (.ref b208), (.ref b207), (.ref b165)]))
    obtain ⟨_, _, ⟨T212, L212, k212, n212⟩, -, X212, ⟨Lc212, hQ212, l212, y212, z212⟩, st212⟩ := X208.specialBack hx (y := (⟨"com/example/gavelwatch/gavelwatch/model/Money", "<init>", "(J)V"⟩ : MethodName)) rfl hown207 (mvT hZ207 (hw _ (List.mem_of_getElem? (i := 6) rfl))) (mvT hZ207 (hw _ (List.mem_of_getElem? (i := 7) rfl))) (mvT hZ207 (hw _ (List.mem_of_getElem? (i := 8) rfl))) (by decide) (backOf (W := 3) (rmmoney l Z a0 hw [] b208 r206  h208 n0 Z208 g_b208 A208 F208_cents) hZ207 (hw _ (List.mem_of_getElem? (i := 8) rfl)) (hw _ (List.mem_of_getElem? (i := 5) rfl)) (by decide) (by decide)) (g := (mkF m 69 #[.val (.long x0), .second, .val (.long x1), .second, .val (.long x2), .second, .val (.int x3), .val (.ref b165), .val (.int (1 : Int32)), .val (.int (2 : Int32)), .val (.long x0), .second, .val (.long r206), .second] [(.long r206), (.ref b208), (.ref b208), (.ref b207), (.ref b165)])) rfl (by rw [hml]; rfl) (Steps.refl _) (a := b208) (argsL := [(.long r206)]) (rest := [(.ref b208), (.ref b207), (.ref b165)]) (lenOf pd__J_V rfl) rfl (by show 2 * 0 + _ ≤ _; exact Nat.le_of_eq rfl) (hb hby at_69) (fun _ _ => ⟨rfl, e208, (by decide : 6 + 0 ≤ _), (by decide : 16 + 0 ≤ _)⟩)
    dsimp only [Pt.U, Pt.locs, Pt.cells, Pt.slots] at X212 l212 y212 z212 st212 hQ212
    subst l212 y212 z212
    obtain ⟨Nq212, rfl, Kq212, Fc212⟩ := hQ212
    have N212 := Fr.app N206 Nq212
    have Kc212 := Keep.trans K208 Kq212 (allS (Or.inr sz_b208) all0)
    have Zc212 : n0 ≤ T212.heap.size := Nat.le_trans Z208 Kq212.1
    have Oc212 := Old.keep O208 Kq212 (allS g_b208 all0)
    have SKc212 := Nat.le_trans SK208 Kq212.1
    refine GlW.back (fun _ k => st212.trans k) ?_
    show GlW _ _ _ _ _ _ _ (T212.setTop (mkF m 72 #[.val (.long x0), .second, .val (.long x1), .second, .val (.long x2), .second, .val (.int x3), .val (.ref b165), .val (.int (1 : Int32)), .val (.int (2 : Int32)), .val (.long x0), .second, .val (.long r206), .second] [(.ref b208), (.ref b207), (.ref b165)]))
    refine GlW.back (fun _ k => XS.lconst X212.here hx rfl (hb hby at_72) k) ?_
    show GlW _ _ _ _ _ _ _ (T212.setTop (mkF m 73 #[.val (.long x0), .second, .val (.long x1), .second, .val (.long x2), .second, .val (.int x3), .val (.ref b165), .val (.int (1 : Int32)), .val (.int (2 : Int32)), .val (.long x0), .second, .val (.long r206), .second] [(.long (0 : Int64)), (.ref b208), (.ref b207), (.ref b165)]))
    have f214 := ((f209.ext E208).keep Kq212)
    have f215 := ((f210.ext E208).keep Kq212)
    have f216 := ((f211.ext E208).keep Kq212)
    have f217 := (A208.keep Kq212)
    have f218 := (((Fh168.ext E207).ext E208).keep Kq212 (ninS ne_b165_b208 nin0))
    have f219 := (((Fb168.ext E207).ext E208).keep Kq212 (ninS ne_b165_b208 nin0))
    have f220 := (((Fo168.ext E207).ext E208).keep Kq212 (ninS ne_b165_b208 nin0))
    have f221 := (((f177.ext E207).ext E208).keep Kq212 (ninS ne_b166_b208 nin0))
    have f222 := (((Fm168.ext E207).ext E208).keep Kq212 (ninS ne_l168_b208 nin0))
    have f223 := (((Fe168.ext E207).ext E208).keep Kq212 (ninS ne_l168_b208 nin0))
    have f224 := (((Fs168.ext E207).ext E208).keep Kq212 (ninS ne_l168_b208 nin0))
    obtain ⟨cq213, kq213, q213a, q213b, q213c⟩ := isOf hZ207 rfl f214
    obtain ⟨_, _, ⟨T213, L213, k213, n213⟩, -, X213, hS2213, hg2213, ⟨Lc213, hQ213, l213, y213, z213⟩, st213⟩ := X212.virtualBackS hx (y := (⟨"com/example/gavelwatch/gavelwatch/sim/RunningAuction", "place", "(Ljava/lang/String;Lcom/example/gavelwatch/gavelwatch/model/Money;J)V"⟩ : MethodName)) (z := (⟨"com/example/gavelwatch/gavelwatch/sim/RunningAuction", "place", "(Ljava/lang/String;Lcom/example/gavelwatch/gavelwatch/model/Money;J)V"⟩ : MethodName)) hown207 (mvT hZ207 (hw _ (List.mem_of_getElem? (i := 80) rfl))) (mvT hZ207 (hw _ (List.mem_of_getElem? (i := 81) rfl))) (notFace_of_selects (args := #[]) (mvT hZ207 (hw _ (List.mem_of_getElem? (i := 83) rfl)))) (mvT hZ207 (hw _ (List.mem_of_getElem? (i := 83) rfl))) (mvT hZ207 (hw _ (List.mem_of_getElem? (i := 82) rfl))) (by decide) (backOfS (W := 0) (rmplace0 l Z a0 hw [] b165 b207 b208 (0 : Int64) l168 b166 u wD kD (0 : Int32) r206 x0 T212.heap n0 Zc212 Oc212 g_b165 f214 f218 f219 f220 f215 f221 f217 Fc212 Gz168 f216 f222 f223 f224 S_DEFAULTCAPACITY_EMPTY_ELEMENTDATA V_wD S_SECONDS E_u F_u_scale F_u_maxNanos hge206 ne_b165_l168 ne_b165_b166 ne_b165_b208 (Ne.symm ne_b166_l168) ne_l168_b208 (by decide) (by decide)) hZ207 (hw _ (List.mem_of_getElem? (i := 84) rfl)) (hw _ (List.mem_of_getElem? (i := 2) rfl)) (by decide) (by decide)) q213a q213c (g := (mkF m 73 #[.val (.long x0), .second, .val (.long x1), .second, .val (.long x2), .second, .val (.int x3), .val (.ref b165), .val (.int (1 : Int32)), .val (.int (2 : Int32)), .val (.long x0), .second, .val (.long r206), .second] [(.long (0 : Int64)), (.ref b208), (.ref b207), (.ref b165)])) rfl (by rw [hml]; rfl) (Steps.refl _) (argsL := [(.ref b207), (.ref b208), (.long (0 : Int64))]) (rest := []) (lenOf pd__Ljava_lang_String_Lcom_example_gavelwatch_gavelwatch_model_Money_J_V rfl) rfl (by show 2 * 0 + _ ≤ _; exact Nat.le_of_eq rfl) (hb hby at_73) (fun _ _ => ⟨rfl, rfl, (by decide : 6 + 6 ≤ _), (by decide : 16 + 69 ≤ _)⟩)
    dsimp only [Pt.U, Pt.locs, Pt.cells, Pt.slots] at X213 l213 y213 z213 st213 hQ213 hS2213 hg2213
    subst l213 y213 z213
    obtain ⟨X213, hS213, hZ213, hown213⟩ := rebS hS207 (SKc212) X213 hS2213 hg2213 hZ207 hown207
    obtain ⟨Nq213, rfl, Kq213, c213, t213, k0213, Sc213, Gc213, Sz213, Gz213, Nct213, Ec213, Fh213, Fa213, Fb213, Fe213, Fs213, Fm213, V213, Ov213, -⟩ := hQ213
    have N213 := Fr.app N212 Nq213
    have Kc213 := Keep.trans Kc212 Kq213 (allS (Or.inr sz_b165) (allS (Or.inr sz_l168) all0))
    have Zc213 : n0 ≤ T213.heap.size := Nat.le_trans Zc212 Kq213.1
    have Oc213 := Old.keep Oc212 Kq213 (allS g_b165 (allS Gz168 all0))
    have ne_b165_c213 : b165 ≠ c213 := Nat.ne_of_lt (Nat.lt_of_lt_of_le (f214).lt Sc213)
    have ne_b166_c213 : b166 ≠ c213 := Nat.ne_of_lt (Nat.lt_of_lt_of_le (f215).lt Sc213)
    have ne_l168_c213 : l168 ≠ c213 := Nat.ne_of_lt (Nat.lt_of_lt_of_le (f216).lt Sc213)
    have ne_b208_c213 : b208 ≠ c213 := Nat.ne_of_lt (Nat.lt_of_lt_of_le (f217).lt Sc213)
    have sz_c213 : h0.size ≤ c213 := Nat.le_trans Kc212.1 Sc213
    have ne_b165_t213 : b165 ≠ t213 := Nat.ne_of_lt (Nat.lt_of_lt_of_le (f214).lt Sz213)
    have ne_b166_t213 : b166 ≠ t213 := Nat.ne_of_lt (Nat.lt_of_lt_of_le (f215).lt Sz213)
    have ne_l168_t213 : l168 ≠ t213 := Nat.ne_of_lt (Nat.lt_of_lt_of_le (f216).lt Sz213)
    have ne_b208_t213 : b208 ≠ t213 := Nat.ne_of_lt (Nat.lt_of_lt_of_le (f217).lt Sz213)
    have sz_t213 : h0.size ≤ t213 := Nat.le_trans Kc212.1 Sz213
    refine GlW.back (fun _ k => st213.trans k) ?_
    show GlW _ _ _ _ _ _ _ (T213.setTop (mkF m 76 #[.val (.long x0), .second, .val (.long x1), .second, .val (.long x2), .second, .val (.int x3), .val (.ref b165), .val (.int (1 : Int32)), .val (.int (2 : Int32)), .val (.long x0), .second, .val (.long r206), .second] []))
    refine GlW.back (fun _ k => XS.lload X213.here hx rfl (hb hby at_76) rfl k) ?_
    show GlW _ _ _ _ _ _ _ (T213.setTop (mkF m 78 #[.val (.long x0), .second, .val (.long x1), .second, .val (.long x2), .second, .val (.int x3), .val (.ref b165), .val (.int (1 : Int32)), .val (.int (2 : Int32)), .val (.long x0), .second, .val (.long r206), .second] [(.long r206)]))
    refine GlW.back (fun _ k => XS.lstore X213.here hx rfl (hb hby at_78) rfl (l' := #[.val (.long x0), .second, .val (.long x1), .second, .val (.long x2), .second, .val (.int x3), .val (.ref b165), .val (.int (1 : Int32)), .val (.int (2 : Int32)), .val (.long r206), .second, .val (.long r206), .second]) rfl k) ?_
    show GlW _ _ _ _ _ _ _ (T213.setTop (mkF m 80 #[.val (.long x0), .second, .val (.long x1), .second, .val (.long x2), .second, .val (.int x3), .val (.ref b165), .val (.int (1 : Int32)), .val (.int (2 : Int32)), .val (.long r206), .second, .val (.long r206), .second] []))
    refine GlW.back (fun _ k => XS.iload X213.here hx rfl (hb hby at_80) rfl k) ?_
    show GlW _ _ _ _ _ _ _ (T213.setTop (mkF m 82 #[.val (.long x0), .second, .val (.long x1), .second, .val (.long x2), .second, .val (.int x3), .val (.ref b165), .val (.int (1 : Int32)), .val (.int (2 : Int32)), .val (.long r206), .second, .val (.long r206), .second] [(.int (2 : Int32))]))
    refine GlW.back (fun _ k => XS.iconst X213.here hx rfl (hb hby at_82) k) ?_
    show GlW _ _ _ _ _ _ _ (T213.setTop (mkF m 83 #[.val (.long x0), .second, .val (.long x1), .second, .val (.long x2), .second, .val (.int x3), .val (.ref b165), .val (.int (1 : Int32)), .val (.int (2 : Int32)), .val (.long r206), .second, .val (.long r206), .second] [(.int (2 : Int32)), (.int (2 : Int32))]))
    refine GlW.back (fun _ k => XS.icmpNo X213.here hx rfl (hb hby at_83) rfl (flt (by decide : ¬ (2 : Int32) < (2 : Int32))).1 k) ?_
    show GlW _ _ _ _ _ _ _ (T213.setTop (mkF m 86 #[.val (.long x0), .second, .val (.long x1), .second, .val (.long x2), .second, .val (.int x3), .val (.ref b165), .val (.int (1 : Int32)), .val (.int (2 : Int32)), .val (.long r206), .second, .val (.long r206), .second] []))
    refine GlW.back (fun _ k => XS.lload X213.here hx rfl (hb hby at_86) rfl k) ?_
    show GlW _ _ _ _ _ _ _ (T213.setTop (mkF m 88 #[.val (.long x0), .second, .val (.long x1), .second, .val (.long x2), .second, .val (.int x3), .val (.ref b165), .val (.int (1 : Int32)), .val (.int (2 : Int32)), .val (.long r206), .second, .val (.long r206), .second] [(.long x2)]))
    refine GlW.back (fun _ k => XS.lload X213.here hx rfl (hb hby at_88) rfl k) ?_
    show GlW _ _ _ _ _ _ _ (T213.setTop (mkF m 90 #[.val (.long x0), .second, .val (.long x1), .second, .val (.long x2), .second, .val (.int x3), .val (.ref b165), .val (.int (1 : Int32)), .val (.int (2 : Int32)), .val (.long r206), .second, .val (.long r206), .second] [(.long r206), (.long x2)]))
    refine GlW.back (fun _ k => XS.lcmp X213.here hx rfl (hb hby at_90) rfl k) ?_
    show GlW _ _ _ _ _ _ _ (T213.setTop (mkF m 91 #[.val (.long x0), .second, .val (.long x1), .second, .val (.long x2), .second, .val (.int x3), .val (.ref b165), .val (.int (1 : Int32)), .val (.int (2 : Int32)), .val (.long r206), .second, .val (.long r206), .second] [(.int (lcmpW x2 r206))]))
    by_cases hc91_225 : r206 < x2
    · refine GlW.back (fun _ k => XS.ifNo X213.here hx rfl (hb hby at_91) rfl ((if0 _ _).trans (tlt (own_lcG hc91_225)).2.2.2) k) ?_
      show GlW _ _ _ _ _ _ _ (T213.setTop (mkF m 94 #[.val (.long x0), .second, .val (.long x1), .second, .val (.long x2), .second, .val (.int x3), .val (.ref b165), .val (.int (1 : Int32)), .val (.int (2 : Int32)), .val (.long r206), .second, .val (.long r206), .second] []))
      refine GlW.back (fun _ k => XS.aload X213.here hx rfl (hb hby at_94) rfl rfl k) ?_
      show GlW _ _ _ _ _ _ _ (T213.setTop (mkF m 96 #[.val (.long x0), .second, .val (.long x1), .second, .val (.long x2), .second, .val (.int x3), .val (.ref b165), .val (.int (1 : Int32)), .val (.int (2 : Int32)), .val (.long r206), .second, .val (.long r206), .second] [(.ref b165)]))
      have wS : ∀ d ∈ Bundle.stringAtoms, d.before a0 Z = true := fun d hd => hw d ((by decide +kernel : ∀ d ∈ Bundle.stringAtoms, d ∈ tables_1) d hd)
      obtain ⟨b226, T226, h226, k1226, X226, e226, E226, hS226, SK226, hZ226, hown226, st226⟩ := ldcS X213 hx hZ213 hown213 (hw _ (List.mem_of_getElem? (i := 169) rfl)) wS rfl hS213 (Nat.le_refl _) (g := (mkF m 96 #[.val (.long x0), .second, .val (.long x1), .second, .val (.long x2), .second, .val (.int x3), .val (.ref b165), .val (.int (1 : Int32)), .val (.int (2 : Int32)), .val (.long r206), .second, .val (.long r206), .second] [(.ref b165)])) rfl (hb hby at_96) (n := 4) (by decide +kernel) (by decide) (by decide) (by decide)
      have Z226 : n0 ≤ h226.size := Nat.le_trans Zc213 E226.1
      have K226 := Keep.ext Kc213 E226
      have O226 := Old.ext Oc213 E226
      refine GlW.back (fun _ k => st226 _ k) ?_
      show GlW _ _ _ _ _ _ _ (T226.setTop (mkF m 98 #[.val (.long x0), .second, .val (.long x1), .second, .val (.long x2), .second, .val (.int x3), .val (.ref b165), .val (.int (1 : Int32)), .val (.int (2 : Int32)), .val (.long r206), .second, .val (.long r206), .second] [(.ref b226), (.ref b165)]))
      obtain ⟨T227, h227, X227, e227, E227, A227, D227, -, st227⟩ := newO X226 hx hZ226 hown226 (hw _ (List.mem_of_getElem? (i := 3) rfl)) (hw _ (List.mem_of_getElem? (i := 4) rfl)) (hw _ (List.mem_of_getElem? (i := 5) rfl)) e226 (g := (mkF m 98 #[.val (.long x0), .second, .val (.long x1), .second, .val (.long x2), .second, .val (.int x3), .val (.ref b165), .val (.int (1 : Int32)), .val (.int (2 : Int32)), .val (.long r206), .second, .val (.long r206), .second] [(.ref b226), (.ref b165)])) rfl (hb hby at_98) (by decide) (by decide)
      obtain ⟨b227, g227⟩ : ∃ z, z = h226.size := ⟨_, rfl⟩
      rw [← g227] at A227 D227 st227
      have f228 := ((f214.keep Kq213).ext E226)
      have ne_b165_b227 : b165 ≠ b227 := Nat.ne_of_lt (Nat.lt_of_lt_of_le f228.lt (Nat.le_of_eq g227.symm))
      have f229 := ((f215.keep Kq213).ext E226)
      have ne_b166_b227 : b166 ≠ b227 := Nat.ne_of_lt (Nat.lt_of_lt_of_le f229.lt (Nat.le_of_eq g227.symm))
      have f230 := ((f216.keep Kq213).ext E226)
      have ne_l168_b227 : l168 ≠ b227 := Nat.ne_of_lt (Nat.lt_of_lt_of_le f230.lt (Nat.le_of_eq g227.symm))
      have f231 := ((f217.keep Kq213).ext E226)
      have ne_b208_b227 : b208 ≠ b227 := Nat.ne_of_lt (Nat.lt_of_lt_of_le f231.lt (Nat.le_of_eq g227.symm))
      have f232 := (Ec213.ext E226)
      have ne_c213_b227 : c213 ≠ b227 := Nat.ne_of_lt (Nat.lt_of_lt_of_le f232.lt (Nat.le_of_eq g227.symm))
      have f233 := (V213.ext E226)
      have ne_t213_b227 : t213 ≠ b227 := Nat.ne_of_lt (Nat.lt_of_lt_of_le f233.lt (Nat.le_of_eq g227.symm))
      have g_b227 : n0 ≤ b227 := Nat.le_trans Z226 (Nat.le_of_eq g227.symm)
      have sz_b227 : h0.size ≤ b227 := Nat.le_trans K226.1 (Nat.le_of_eq g227.symm)
      have Z227 : n0 ≤ h227.size := Nat.le_trans Z226 E227.1
      have K227 := Keep.ext K226 E227
      have O227 := Old.ext O226 E227
      have SK227 := Nat.le_trans SK226 E227.1
      have F227_cents : Fld Z h227 b227 "com/example/gavelwatch/gavelwatch/model/Money" "cents" "J" (.long (0 : Int64)) := D227 (Or.inr (hw _ (List.mem_of_getElem? (i := 18) rfl))) (ty := .long) (by decide)
      refine GlW.back (fun _ k => st227 _ k) ?_
      show GlW _ _ _ _ _ _ _ (T227.setTop (mkF m 101 #[.val (.long x0), .second, .val (.long x1), .second, .val (.long x2), .second, .val (.int x3), .val (.ref b165), .val (.int (1 : Int32)), .val (.int (2 : Int32)), .val (.long r206), .second, .val (.long r206), .second] [(.ref b227), (.ref b226), (.ref b165)]))
      refine GlW.back (fun _ k => XS.dup X227.here hx rfl (hb hby at_101) rfl rfl k) ?_
      show GlW _ _ _ _ _ _ _ (T227.setTop (mkF m 102 #[.val (.long x0), .second, .val (.long x1), .second, .val (.long x2), .second, .val (.int x3), .val (.ref b165), .val (.int (1 : Int32)), .val (.int (2 : Int32)), .val (.long r206), .second, .val (.long r206), .second] [(.ref b227), (.ref b227), (.ref b226), (.ref b165)]))
      refine GlW.back (fun _ k => XS.lload X227.here hx rfl (hb hby at_102) rfl k) ?_
      show GlW _ _ _ _ _ _ _ (T227.setTop (mkF m 104 #[.val (.long x0), .second, .val (.long x1), .second, .val (.long x2), .second, .val (.int x3), .val (.ref b165), .val (.int (1 : Int32)), .val (.int (2 : Int32)), .val (.long r206), .second, .val (.long r206), .second] [(.long x2), (.ref b227), (.ref b227), (.ref b226), (.ref b165)]))
      obtain ⟨_, _, ⟨T234, L234, k234, n234⟩, -, X234, ⟨Lc234, hQ234, l234, y234, z234⟩, st234⟩ := X227.specialBack hx (y := (⟨"com/example/gavelwatch/gavelwatch/model/Money", "<init>", "(J)V"⟩ : MethodName)) rfl hown226 (mvT hZ226 (hw _ (List.mem_of_getElem? (i := 6) rfl))) (mvT hZ226 (hw _ (List.mem_of_getElem? (i := 7) rfl))) (mvT hZ226 (hw _ (List.mem_of_getElem? (i := 8) rfl))) (by decide) (backOf (W := 3) (rmmoney l Z a0 hw [] b227 x2  h227 n0 Z227 g_b227 A227 F227_cents) hZ226 (hw _ (List.mem_of_getElem? (i := 8) rfl)) (hw _ (List.mem_of_getElem? (i := 5) rfl)) (by decide) (by decide)) (g := (mkF m 104 #[.val (.long x0), .second, .val (.long x1), .second, .val (.long x2), .second, .val (.int x3), .val (.ref b165), .val (.int (1 : Int32)), .val (.int (2 : Int32)), .val (.long r206), .second, .val (.long r206), .second] [(.long x2), (.ref b227), (.ref b227), (.ref b226), (.ref b165)])) rfl (by rw [hml]; rfl) (Steps.refl _) (a := b227) (argsL := [(.long x2)]) (rest := [(.ref b227), (.ref b226), (.ref b165)]) (lenOf pd__J_V rfl) rfl (by show 2 * 0 + _ ≤ _; exact Nat.le_of_eq rfl) (hb hby at_104) (fun _ _ => ⟨rfl, e227, (by decide : 15 + 0 ≤ _), (by decide : 94 + 0 ≤ _)⟩)
      dsimp only [Pt.U, Pt.locs, Pt.cells, Pt.slots] at X234 l234 y234 z234 st234 hQ234
      subst l234 y234 z234
      obtain ⟨Nq234, rfl, Kq234, Fc234⟩ := hQ234
      have N234 := Fr.app N213 Nq234
      have Kc234 := Keep.trans K227 Kq234 (allS (Or.inr sz_b227) all0)
      have Zc234 : n0 ≤ T234.heap.size := Nat.le_trans Z227 Kq234.1
      have Oc234 := Old.keep O227 Kq234 (allS g_b227 all0)
      have SKc234 := Nat.le_trans SK227 Kq234.1
      refine GlW.back (fun _ k => st234.trans k) ?_
      show GlW _ _ _ _ _ _ _ (T234.setTop (mkF m 107 #[.val (.long x0), .second, .val (.long x1), .second, .val (.long x2), .second, .val (.int x3), .val (.ref b165), .val (.int (1 : Int32)), .val (.int (2 : Int32)), .val (.long r206), .second, .val (.long r206), .second] [(.ref b227), (.ref b226), (.ref b165)]))
      refine GlW.back (fun _ k => XS.lconst X234.here hx rfl (hb hby at_107) k) ?_
      show GlW _ _ _ _ _ _ _ (T234.setTop (mkF m 108 #[.val (.long x0), .second, .val (.long x1), .second, .val (.long x2), .second, .val (.int x3), .val (.ref b165), .val (.int (1 : Int32)), .val (.int (2 : Int32)), .val (.long r206), .second, .val (.long r206), .second] [(.long (1 : Int64)), (.ref b227), (.ref b226), (.ref b165)]))
      have f236 := ((f228.ext E227).keep Kq234)
      have f237 := ((f229.ext E227).keep Kq234)
      have f238 := ((f230.ext E227).keep Kq234)
      have f239 := ((f231.ext E227).keep Kq234)
      have f240 := ((f232.ext E227).keep Kq234)
      have f241 := ((f233.ext E227).keep Kq234 (ninS ne_t213_b227 nin0))
      have f242 := (A227.keep Kq234)
      have f243 := (((Fh213.ext E226).ext E227).keep Kq234 (ninS ne_b165_b227 nin0))
      have f244 := (((Fb213.ext E226).ext E227).keep Kq234 (ninS ne_b165_b227 nin0))
      have f245 := (((Fa213.ext E226).ext E227).keep Kq234 (ninS ne_c213_b227 nin0))
      have f246 := ((((Fc212.keep Kq213 (ninS (Ne.symm ne_b165_b208) (ninS (Ne.symm ne_l168_b208) nin0))).ext E226).ext E227).keep Kq234 (ninS ne_b208_b227 nin0))
      have f247 := (((Fm213.ext E226).ext E227).keep Kq234 (ninS ne_l168_b227 nin0))
      have f248 := (((Fe213.ext E226).ext E227).keep Kq234 (ninS ne_l168_b227 nin0))
      have f249 := (((Fs213.ext E226).ext E227).keep Kq234 (ninS ne_l168_b227 nin0))
      obtain ⟨cq235, kq235, q235a, q235b, q235c⟩ := isOf hZ226 rfl f236
      obtain ⟨_, _, ⟨T235, L235, k235, n235⟩, -, X235, hS2235, hg2235, ⟨Lc235, hQ235, l235, y235, z235⟩, st235⟩ := X234.virtualBackS hx (y := (⟨"com/example/gavelwatch/gavelwatch/sim/RunningAuction", "place", "(Ljava/lang/String;Lcom/example/gavelwatch/gavelwatch/model/Money;J)V"⟩ : MethodName)) (z := (⟨"com/example/gavelwatch/gavelwatch/sim/RunningAuction", "place", "(Ljava/lang/String;Lcom/example/gavelwatch/gavelwatch/model/Money;J)V"⟩ : MethodName)) hown226 (mvT hZ226 (hw _ (List.mem_of_getElem? (i := 80) rfl))) (mvT hZ226 (hw _ (List.mem_of_getElem? (i := 81) rfl))) (notFace_of_selects (args := #[]) (mvT hZ226 (hw _ (List.mem_of_getElem? (i := 83) rfl)))) (mvT hZ226 (hw _ (List.mem_of_getElem? (i := 83) rfl))) (mvT hZ226 (hw _ (List.mem_of_getElem? (i := 82) rfl))) (by decide) (backOfS (W := 0) (rmplace1 l Z a0 hw [] b165 b226 b227 (1 : Int64) l168 b208 u c213 t213 k0213 ((0 : Int32) + (1 : Int32)) x2 r206 T234.heap n0 Zc234 Oc234 g_b165 f236 f243 f244 f240 f245 f239 f246 f242 Fc234 Gz168 f238 f247 f248 f249 Gz213 f241 S_SECONDS E_u F_u_scale F_u_maxNanos Ov213 hc91_225 ne_b165_l168 ne_b165_c213 ne_b165_b208 ne_b165_b227 ne_b165_t213 ne_l168_c213 ne_l168_b208 ne_l168_b227 ne_l168_t213 (by decide) (by decide)) hZ226 (hw _ (List.mem_of_getElem? (i := 84) rfl)) (hw _ (List.mem_of_getElem? (i := 2) rfl)) (by decide) (by decide)) q235a q235c (g := (mkF m 108 #[.val (.long x0), .second, .val (.long x1), .second, .val (.long x2), .second, .val (.int x3), .val (.ref b165), .val (.int (1 : Int32)), .val (.int (2 : Int32)), .val (.long r206), .second, .val (.long r206), .second] [(.long (1 : Int64)), (.ref b227), (.ref b226), (.ref b165)])) rfl (by rw [hml]; rfl) (Steps.refl _) (argsL := [(.ref b226), (.ref b227), (.long (1 : Int64))]) (rest := []) (lenOf pd__Ljava_lang_String_Lcom_example_gavelwatch_gavelwatch_model_Money_J_V rfl) rfl (by show 2 * 0 + _ ≤ _; exact Nat.le_of_eq rfl) (hb hby at_108) (fun _ _ => ⟨rfl, rfl, (by decide : 15 + 5 ≤ _), (by decide : 94 + 59 ≤ _)⟩)
      dsimp only [Pt.U, Pt.locs, Pt.cells, Pt.slots] at X235 l235 y235 z235 st235 hQ235 hS2235 hg2235
      subst l235 y235 z235
      obtain ⟨X235, hS235, hZ235, hown235⟩ := rebS hS226 (SKc234) X235 hS2235 hg2235 hZ226 hown226
      obtain ⟨Nq235, rfl, Kq235, c235, Sc235, Gc235, Ec235, Fh235, Fa235, Fb235, Fs235⟩ := hQ235
      have N235 := Fr.app N234 Nq235
      have Kc235 := Keep.trans Kc234 Kq235 (allS (Or.inr sz_b165) (allS (Or.inr sz_l168) (allS (Or.inr sz_t213) all0)))
      have Zc235 : n0 ≤ T235.heap.size := Nat.le_trans Zc234 Kq235.1
      have Oc235 := Old.keep Oc234 Kq235 (allS g_b165 (allS Gz168 (allS Gz213 all0)))
      have ne_b165_c235 : b165 ≠ c235 := Nat.ne_of_lt (Nat.lt_of_lt_of_le (f236).lt Sc235)
      have ne_b166_c235 : b166 ≠ c235 := Nat.ne_of_lt (Nat.lt_of_lt_of_le (f237).lt Sc235)
      have ne_l168_c235 : l168 ≠ c235 := Nat.ne_of_lt (Nat.lt_of_lt_of_le (f238).lt Sc235)
      have ne_b208_c235 : b208 ≠ c235 := Nat.ne_of_lt (Nat.lt_of_lt_of_le (f239).lt Sc235)
      have ne_c213_c235 : c213 ≠ c235 := Nat.ne_of_lt (Nat.lt_of_lt_of_le (f240).lt Sc235)
      have ne_b227_c235 : b227 ≠ c235 := Nat.ne_of_lt (Nat.lt_of_lt_of_le (f242).lt Sc235)
      have sz_c235 : h0.size ≤ c235 := Nat.le_trans Kc234.1 Sc235
      refine GlW.back (fun _ k => st235.trans k) ?_
      show GlW _ _ _ _ _ _ _ (T235.setTop (mkF m 111 #[.val (.long x0), .second, .val (.long x1), .second, .val (.long x2), .second, .val (.int x3), .val (.ref b165), .val (.int (1 : Int32)), .val (.int (2 : Int32)), .val (.long r206), .second, .val (.long r206), .second] []))
      refine GlW.back (fun _ k => XS.lload X235.here hx rfl (hb hby at_111) rfl k) ?_
      show GlW _ _ _ _ _ _ _ (T235.setTop (mkF m 113 #[.val (.long x0), .second, .val (.long x1), .second, .val (.long x2), .second, .val (.int x3), .val (.ref b165), .val (.int (1 : Int32)), .val (.int (2 : Int32)), .val (.long r206), .second, .val (.long r206), .second] [(.long x2)]))
      refine GlW.back (fun _ k => XS.lstore X235.here hx rfl (hb hby at_113) rfl (l' := #[.val (.long x0), .second, .val (.long x1), .second, .val (.long x2), .second, .val (.int x3), .val (.ref b165), .val (.int (1 : Int32)), .val (.int (2 : Int32)), .val (.long x2), .second, .val (.long r206), .second]) rfl k) ?_
      show GlW _ _ _ _ _ _ _ (T235.setTop (mkF m 115 #[.val (.long x0), .second, .val (.long x1), .second, .val (.long x2), .second, .val (.int x3), .val (.ref b165), .val (.int (1 : Int32)), .val (.int (2 : Int32)), .val (.long x2), .second, .val (.long r206), .second] []))
      refine GlW.back (fun _ k => XS.iload X235.here hx rfl (hb hby at_115) rfl k) ?_
      show GlW _ _ _ _ _ _ _ (T235.setTop (mkF m 117 #[.val (.long x0), .second, .val (.long x1), .second, .val (.long x2), .second, .val (.int x3), .val (.ref b165), .val (.int (1 : Int32)), .val (.int (2 : Int32)), .val (.long x2), .second, .val (.long r206), .second] [(.int (1 : Int32))]))
      refine GlW.back (fun _ k => XS.ifNo X235.here hx rfl (hb hby at_117) rfl ((if0 _ _).trans (feq (by decide : ¬ (1 : Int32) = (0 : Int32))).1) k) ?_
      show GlW _ _ _ _ _ _ _ (T235.setTop (mkF m 120 #[.val (.long x0), .second, .val (.long x1), .second, .val (.long x2), .second, .val (.int x3), .val (.ref b165), .val (.int (1 : Int32)), .val (.int (2 : Int32)), .val (.long x2), .second, .val (.long r206), .second] []))
      refine GlW.back (fun _ k => XS.aload X235.here hx rfl (hb hby at_120) rfl rfl k) ?_
      show GlW _ _ _ _ _ _ _ (T235.setTop (mkF m 122 #[.val (.long x0), .second, .val (.long x1), .second, .val (.long x2), .second, .val (.int x3), .val (.ref b165), .val (.int (1 : Int32)), .val (.int (2 : Int32)), .val (.long x2), .second, .val (.long r206), .second] [(.ref b165)]))
      have f251 := (f236.keep Kq235)
      obtain ⟨cq250, kq250, q250a, q250b, q250c⟩ := isOf hZ235 rfl f251
      obtain ⟨_, _, ⟨T250, L250, k250, n250⟩, -, X250, ⟨Lc250, hQ250, l250, y250, z250⟩, st250⟩ := X235.virtualBack hx (y := (⟨"com/example/gavelwatch/gavelwatch/sim/RunningAuction", "price", "()Lcom/example/gavelwatch/gavelwatch/model/Money;"⟩ : MethodName)) (z := (⟨"com/example/gavelwatch/gavelwatch/sim/RunningAuction", "price", "()Lcom/example/gavelwatch/gavelwatch/model/Money;"⟩ : MethodName)) hown235 (mvT hZ235 (hw _ (List.mem_of_getElem? (i := 51) rfl))) (mvT hZ235 (hw _ (List.mem_of_getElem? (i := 52) rfl))) (notFace_of_selects (args := #[]) (mvT hZ235 (hw _ (List.mem_of_getElem? (i := 54) rfl)))) (mvT hZ235 (hw _ (List.mem_of_getElem? (i := 54) rfl))) (mvT hZ235 (hw _ (List.mem_of_getElem? (i := 53) rfl))) (by decide) (backOf (W := 0) (rmprice1 l Z a0 hw [] b165 c235 b227 T235.heap n0 Zc235 f251 Fh235 Ec235 Fa235) hZ235 (hw _ (List.mem_of_getElem? (i := 55) rfl)) (hw _ (List.mem_of_getElem? (i := 2) rfl)) (by decide) (by decide)) q250a q250c (g := (mkF m 122 #[.val (.long x0), .second, .val (.long x1), .second, .val (.long x2), .second, .val (.int x3), .val (.ref b165), .val (.int (1 : Int32)), .val (.int (2 : Int32)), .val (.long x2), .second, .val (.long r206), .second] [(.ref b165)])) rfl (by rw [hml]; rfl) (Steps.refl _) (argsL := []) (rest := []) (lenOf pd___Lcom_example_gavelwatch_gavelwatch_model_Money_ rfl) rfl (by show 2 * 0 + _ ≤ _; exact Nat.le_of_eq rfl) (hb hby at_122) (fun _ _ => ⟨rfl, rfl, (by decide : 20 + 0 ≤ _), (by decide : 153 + 0 ≤ _)⟩)
      dsimp only [Pt.U, Pt.locs, Pt.cells, Pt.slots] at X250 l250 y250 z250 st250 hQ250
      subst l250 y250 z250
      obtain ⟨Nq250, rfl, eh250⟩ := hQ250
      have N250 := Fr.app N235 Nq250
      refine GlW.back (fun _ k => st250.trans k) ?_
      show GlW _ _ _ _ _ _ _ (T250.setTop (mkF m 125 #[.val (.long x0), .second, .val (.long x1), .second, .val (.long x2), .second, .val (.int x3), .val (.ref b165), .val (.int (1 : Int32)), .val (.int (2 : Int32)), .val (.long x2), .second, .val (.long r206), .second] [(.ref b227)]))
      have f253 := (Fc234.keep Kq235 (ninS (Ne.symm ne_b165_b227) (ninS (Ne.symm ne_l168_b227) (ninS (Ne.symm ne_t213_b227) nin0))))
      have f254 := (f242.keep Kq235)
      obtain ⟨cq252, kq252, q252a, q252b, q252c⟩ := isOf hZ235 eh250 f254
      obtain ⟨_, _, ⟨T252, L252, k252, n252⟩, -, X252, ⟨Lc252, hQ252, l252, y252, z252⟩, st252⟩ := X250.virtualBack hx (y := (⟨"com/example/gavelwatch/gavelwatch/model/Money", "cents", "()J"⟩ : MethodName)) (z := (⟨"com/example/gavelwatch/gavelwatch/model/Money", "cents", "()J"⟩ : MethodName)) hown235 (mvT hZ235 (hw _ (List.mem_of_getElem? (i := 63) rfl))) (mvT hZ235 (hw _ (List.mem_of_getElem? (i := 64) rfl))) (notFace_of_selects (args := #[]) (mvT hZ235 (hw _ (List.mem_of_getElem? (i := 66) rfl)))) (mvT hZ235 (hw _ (List.mem_of_getElem? (i := 66) rfl))) (mvT hZ235 (hw _ (List.mem_of_getElem? (i := 65) rfl))) (by decide) (backOf (W := 0) (rmcents l Z a0 hw [] b227 x2 T235.heap n0 Zc235 f253) hZ235 (hw _ (List.mem_of_getElem? (i := 67) rfl)) (hw _ (List.mem_of_getElem? (i := 5) rfl)) (by decide) (by decide)) q252a q252c (g := (mkF m 125 #[.val (.long x0), .second, .val (.long x1), .second, .val (.long x2), .second, .val (.int x3), .val (.ref b165), .val (.int (1 : Int32)), .val (.int (2 : Int32)), .val (.long x2), .second, .val (.long r206), .second] [(.ref b227)])) rfl (by rw [hml]; rfl) (Steps.refl _) (argsL := []) (rest := []) (lenOf pd___J rfl) rfl (by show 2 * 0 + _ ≤ _; exact Nat.le_of_eq rfl) (hb hby at_125) (fun _ _ => ⟨rfl, eh250, (by decide : 20 + 0 ≤ _), (by decide : 153 + 0 ≤ _)⟩)
      dsimp only [Pt.U, Pt.locs, Pt.cells, Pt.slots] at X252 l252 y252 z252 st252 hQ252
      subst l252 y252 z252
      obtain ⟨Nq252, rfl, eh252⟩ := hQ252
      have N252 := Fr.app N250 Nq252
      refine GlW.back (fun _ k => st252.trans k) ?_
      show GlW _ _ _ _ _ _ _ (T252.setTop (mkF m 128 #[.val (.long x0), .second, .val (.long x1), .second, .val (.long x2), .second, .val (.int x3), .val (.ref b165), .val (.int (1 : Int32)), .val (.int (2 : Int32)), .val (.long x2), .second, .val (.long r206), .second] [(.long x2)]))
      refine GlW.back (fun _ k => XS.lload X252.here hx rfl (hb hby at_128) rfl k) ?_
      show GlW _ _ _ _ _ _ _ (T252.setTop (mkF m 130 #[.val (.long x0), .second, .val (.long x1), .second, .val (.long x2), .second, .val (.int x3), .val (.ref b165), .val (.int (1 : Int32)), .val (.int (2 : Int32)), .val (.long x2), .second, .val (.long r206), .second] [(.long x2), (.long x2)]))
      refine GlW.back (fun _ k => XS.lcmp X252.here hx rfl (hb hby at_130) rfl k) ?_
      show GlW _ _ _ _ _ _ _ (T252.setTop (mkF m 131 #[.val (.long x0), .second, .val (.long x1), .second, .val (.long x2), .second, .val (.int x3), .val (.ref b165), .val (.int (1 : Int32)), .val (.int (2 : Int32)), .val (.long x2), .second, .val (.long r206), .second] [(.int (lcmpW x2 x2))]))
      refine GlW.back (fun _ k => XS.ifNo X252.here hx rfl (hb hby at_131) rfl ((if0 _ _).trans (teq (own_lcE (rfl : x2 = x2))).2) k) ?_
      show GlW _ _ _ _ _ _ _ (T252.setTop (mkF m 134 #[.val (.long x0), .second, .val (.long x1), .second, .val (.long x2), .second, .val (.int x3), .val (.ref b165), .val (.int (1 : Int32)), .val (.int (2 : Int32)), .val (.long x2), .second, .val (.long r206), .second] []))
      refine GlW.back (fun _ k => XS.iconst X252.here hx rfl (hb hby at_134) k) ?_
      show GlW _ _ _ _ _ _ _ (T252.setTop (mkF m 135 #[.val (.long x0), .second, .val (.long x1), .second, .val (.long x2), .second, .val (.int x3), .val (.ref b165), .val (.int (1 : Int32)), .val (.int (2 : Int32)), .val (.long x2), .second, .val (.long r206), .second] [(.int (1 : Int32))]))
      refine GlW.back (fun _ k => XS.goto X252.here hx rfl (pc0 := 135) (pc' := 139) rfl (hb hby at_135) (by decide) (by decide) k) ?_
      show GlW _ _ _ _ _ _ _ (T252.setTop (mkF m 139 #[.val (.long x0), .second, .val (.long x1), .second, .val (.long x2), .second, .val (.int x3), .val (.ref b165), .val (.int (1 : Int32)), .val (.int (2 : Int32)), .val (.long x2), .second, .val (.long r206), .second] [(.int (1 : Int32))]))
      exact GlW.ret X252 eh252 hS235 (Nat.le_refl _) (v := (some (.int (1 : Int32)))) (fun h => by rw [Bd.returns] at h; cases h) Bd.notSynchronized (fun fs hr => retN X252 hx (t := .boolean) (z := (1 : Int32)) Bd.returns (by simp) (hb hby at_139) hr) ⟨N252, rfl⟩ (by decide) (by decide)
    · refine GlW.back (fun _ k => XS.ifYes X213.here hx rfl (pc0 := 91) (pc' := 115) rfl (hb hby at_91) rfl ((if0 _ _).trans (flt (own_lcGn hc91_225)).2.2.2) (by decide) (by decide) k) ?_
      show GlW _ _ _ _ _ _ _ (T213.setTop (mkF m 115 #[.val (.long x0), .second, .val (.long x1), .second, .val (.long x2), .second, .val (.int x3), .val (.ref b165), .val (.int (1 : Int32)), .val (.int (2 : Int32)), .val (.long r206), .second, .val (.long r206), .second] []))
      refine GlW.back (fun _ k => XS.iload X213.here hx rfl (hb hby at_115) rfl k) ?_
      show GlW _ _ _ _ _ _ _ (T213.setTop (mkF m 117 #[.val (.long x0), .second, .val (.long x1), .second, .val (.long x2), .second, .val (.int x3), .val (.ref b165), .val (.int (1 : Int32)), .val (.int (2 : Int32)), .val (.long r206), .second, .val (.long r206), .second] [(.int (1 : Int32))]))
      refine GlW.back (fun _ k => XS.ifNo X213.here hx rfl (hb hby at_117) rfl ((if0 _ _).trans (feq (by decide : ¬ (1 : Int32) = (0 : Int32))).1) k) ?_
      show GlW _ _ _ _ _ _ _ (T213.setTop (mkF m 120 #[.val (.long x0), .second, .val (.long x1), .second, .val (.long x2), .second, .val (.int x3), .val (.ref b165), .val (.int (1 : Int32)), .val (.int (2 : Int32)), .val (.long r206), .second, .val (.long r206), .second] []))
      refine GlW.back (fun _ k => XS.aload X213.here hx rfl (hb hby at_120) rfl rfl k) ?_
      show GlW _ _ _ _ _ _ _ (T213.setTop (mkF m 122 #[.val (.long x0), .second, .val (.long x1), .second, .val (.long x2), .second, .val (.int x3), .val (.ref b165), .val (.int (1 : Int32)), .val (.int (2 : Int32)), .val (.long r206), .second, .val (.long r206), .second] [(.ref b165)]))
      have f256 := (f214.keep Kq213)
      obtain ⟨cq255, kq255, q255a, q255b, q255c⟩ := isOf hZ213 rfl f256
      obtain ⟨_, _, ⟨T255, L255, k255, n255⟩, -, X255, ⟨Lc255, hQ255, l255, y255, z255⟩, st255⟩ := X213.virtualBack hx (y := (⟨"com/example/gavelwatch/gavelwatch/sim/RunningAuction", "price", "()Lcom/example/gavelwatch/gavelwatch/model/Money;"⟩ : MethodName)) (z := (⟨"com/example/gavelwatch/gavelwatch/sim/RunningAuction", "price", "()Lcom/example/gavelwatch/gavelwatch/model/Money;"⟩ : MethodName)) hown213 (mvT hZ213 (hw _ (List.mem_of_getElem? (i := 51) rfl))) (mvT hZ213 (hw _ (List.mem_of_getElem? (i := 52) rfl))) (notFace_of_selects (args := #[]) (mvT hZ213 (hw _ (List.mem_of_getElem? (i := 54) rfl)))) (mvT hZ213 (hw _ (List.mem_of_getElem? (i := 54) rfl))) (mvT hZ213 (hw _ (List.mem_of_getElem? (i := 53) rfl))) (by decide) (backOf (W := 0) (rmprice1 l Z a0 hw [] b165 c213 b208 T213.heap n0 Zc213 f256 Fh213 Ec213 Fa213) hZ213 (hw _ (List.mem_of_getElem? (i := 55) rfl)) (hw _ (List.mem_of_getElem? (i := 2) rfl)) (by decide) (by decide)) q255a q255c (g := (mkF m 122 #[.val (.long x0), .second, .val (.long x1), .second, .val (.long x2), .second, .val (.int x3), .val (.ref b165), .val (.int (1 : Int32)), .val (.int (2 : Int32)), .val (.long r206), .second, .val (.long r206), .second] [(.ref b165)])) rfl (by rw [hml]; rfl) (Steps.refl _) (argsL := []) (rest := []) (lenOf pd___Lcom_example_gavelwatch_gavelwatch_model_Money_ rfl) rfl (by show 2 * 0 + _ ≤ _; exact Nat.le_of_eq rfl) (hb hby at_122) (fun _ _ => ⟨rfl, rfl, (by decide : 12 + 0 ≤ _), (by decide : 85 + 0 ≤ _)⟩)
      dsimp only [Pt.U, Pt.locs, Pt.cells, Pt.slots] at X255 l255 y255 z255 st255 hQ255
      subst l255 y255 z255
      obtain ⟨Nq255, rfl, eh255⟩ := hQ255
      have N255 := Fr.app N213 Nq255
      refine GlW.back (fun _ k => st255.trans k) ?_
      show GlW _ _ _ _ _ _ _ (T255.setTop (mkF m 125 #[.val (.long x0), .second, .val (.long x1), .second, .val (.long x2), .second, .val (.int x3), .val (.ref b165), .val (.int (1 : Int32)), .val (.int (2 : Int32)), .val (.long r206), .second, .val (.long r206), .second] [(.ref b208)]))
      have f258 := (Fc212.keep Kq213 (ninS (Ne.symm ne_b165_b208) (ninS (Ne.symm ne_l168_b208) nin0)))
      have f259 := (f217.keep Kq213)
      obtain ⟨cq257, kq257, q257a, q257b, q257c⟩ := isOf hZ213 eh255 f259
      obtain ⟨_, _, ⟨T257, L257, k257, n257⟩, -, X257, ⟨Lc257, hQ257, l257, y257, z257⟩, st257⟩ := X255.virtualBack hx (y := (⟨"com/example/gavelwatch/gavelwatch/model/Money", "cents", "()J"⟩ : MethodName)) (z := (⟨"com/example/gavelwatch/gavelwatch/model/Money", "cents", "()J"⟩ : MethodName)) hown213 (mvT hZ213 (hw _ (List.mem_of_getElem? (i := 63) rfl))) (mvT hZ213 (hw _ (List.mem_of_getElem? (i := 64) rfl))) (notFace_of_selects (args := #[]) (mvT hZ213 (hw _ (List.mem_of_getElem? (i := 66) rfl)))) (mvT hZ213 (hw _ (List.mem_of_getElem? (i := 66) rfl))) (mvT hZ213 (hw _ (List.mem_of_getElem? (i := 65) rfl))) (by decide) (backOf (W := 0) (rmcents l Z a0 hw [] b208 r206 T213.heap n0 Zc213 f258) hZ213 (hw _ (List.mem_of_getElem? (i := 67) rfl)) (hw _ (List.mem_of_getElem? (i := 5) rfl)) (by decide) (by decide)) q257a q257c (g := (mkF m 125 #[.val (.long x0), .second, .val (.long x1), .second, .val (.long x2), .second, .val (.int x3), .val (.ref b165), .val (.int (1 : Int32)), .val (.int (2 : Int32)), .val (.long r206), .second, .val (.long r206), .second] [(.ref b208)])) rfl (by rw [hml]; rfl) (Steps.refl _) (argsL := []) (rest := []) (lenOf pd___J rfl) rfl (by show 2 * 0 + _ ≤ _; exact Nat.le_of_eq rfl) (hb hby at_125) (fun _ _ => ⟨rfl, eh255, (by decide : 12 + 0 ≤ _), (by decide : 85 + 0 ≤ _)⟩)
      dsimp only [Pt.U, Pt.locs, Pt.cells, Pt.slots] at X257 l257 y257 z257 st257 hQ257
      subst l257 y257 z257
      obtain ⟨Nq257, rfl, eh257⟩ := hQ257
      have N257 := Fr.app N255 Nq257
      refine GlW.back (fun _ k => st257.trans k) ?_
      show GlW _ _ _ _ _ _ _ (T257.setTop (mkF m 128 #[.val (.long x0), .second, .val (.long x1), .second, .val (.long x2), .second, .val (.int x3), .val (.ref b165), .val (.int (1 : Int32)), .val (.int (2 : Int32)), .val (.long r206), .second, .val (.long r206), .second] [(.long r206)]))
      refine GlW.back (fun _ k => XS.lload X257.here hx rfl (hb hby at_128) rfl k) ?_
      show GlW _ _ _ _ _ _ _ (T257.setTop (mkF m 130 #[.val (.long x0), .second, .val (.long x1), .second, .val (.long x2), .second, .val (.int x3), .val (.ref b165), .val (.int (1 : Int32)), .val (.int (2 : Int32)), .val (.long r206), .second, .val (.long r206), .second] [(.long r206), (.long r206)]))
      refine GlW.back (fun _ k => XS.lcmp X257.here hx rfl (hb hby at_130) rfl k) ?_
      show GlW _ _ _ _ _ _ _ (T257.setTop (mkF m 131 #[.val (.long x0), .second, .val (.long x1), .second, .val (.long x2), .second, .val (.int x3), .val (.ref b165), .val (.int (1 : Int32)), .val (.int (2 : Int32)), .val (.long r206), .second, .val (.long r206), .second] [(.int (lcmpW r206 r206))]))
      refine GlW.back (fun _ k => XS.ifNo X257.here hx rfl (hb hby at_131) rfl ((if0 _ _).trans (teq (own_lcE (rfl : r206 = r206))).2) k) ?_
      show GlW _ _ _ _ _ _ _ (T257.setTop (mkF m 134 #[.val (.long x0), .second, .val (.long x1), .second, .val (.long x2), .second, .val (.int x3), .val (.ref b165), .val (.int (1 : Int32)), .val (.int (2 : Int32)), .val (.long r206), .second, .val (.long r206), .second] []))
      refine GlW.back (fun _ k => XS.iconst X257.here hx rfl (hb hby at_134) k) ?_
      show GlW _ _ _ _ _ _ _ (T257.setTop (mkF m 135 #[.val (.long x0), .second, .val (.long x1), .second, .val (.long x2), .second, .val (.int x3), .val (.ref b165), .val (.int (1 : Int32)), .val (.int (2 : Int32)), .val (.long r206), .second, .val (.long r206), .second] [(.int (1 : Int32))]))
      refine GlW.back (fun _ k => XS.goto X257.here hx rfl (pc0 := 135) (pc' := 139) rfl (hb hby at_135) (by decide) (by decide) k) ?_
      show GlW _ _ _ _ _ _ _ (T257.setTop (mkF m 139 #[.val (.long x0), .second, .val (.long x1), .second, .val (.long x2), .second, .val (.int x3), .val (.ref b165), .val (.int (1 : Int32)), .val (.int (2 : Int32)), .val (.long r206), .second, .val (.long r206), .second] [(.int (1 : Int32))]))
      exact GlW.ret X257 eh257 hS213 (Nat.le_refl _) (v := (some (.int (1 : Int32)))) (fun h => by rw [Bd.returns] at h; cases h) Bd.notSynchronized (fun fs hr => retN X257 hx (t := .boolean) (z := (1 : Int32)) Bd.returns (by simp) (hb hby at_139) hr) ⟨N257, rfl⟩ (by decide) (by decide)
  · rw [hk179]
    show GlW _ _ _ _ _ _ _ (T176.setTop (mkF m 41 #[.val (.long x0), .second, .val (.long x1), .second, .val (.long x2), .second, .val (.int x3), .val (.ref b165), .val (.int (1 : Int32)), .unset, .unset, .unset, .unset, .unset] [(.int (3 : Int32))]))
    refine GlW.back (fun _ k => XS.istore X176.here hx rfl (hb hby at_41) rfl (l' := #[.val (.long x0), .second, .val (.long x1), .second, .val (.long x2), .second, .val (.int x3), .val (.ref b165), .val (.int (1 : Int32)), .val (.int (3 : Int32)), .unset, .unset, .unset, .unset]) rfl k) ?_
    show GlW _ _ _ _ _ _ _ (T176.setTop (mkF m 43 #[.val (.long x0), .second, .val (.long x1), .second, .val (.long x2), .second, .val (.int x3), .val (.ref b165), .val (.int (1 : Int32)), .val (.int (3 : Int32)), .unset, .unset, .unset, .unset] []))
    refine GlW.back (fun _ k => XS.lloadN X176.here hx rfl (hb hby at_43) rfl k) ?_
    show GlW _ _ _ _ _ _ _ (T176.setTop (mkF m 44 #[.val (.long x0), .second, .val (.long x1), .second, .val (.long x2), .second, .val (.int x3), .val (.ref b165), .val (.int (1 : Int32)), .val (.int (3 : Int32)), .unset, .unset, .unset, .unset] [(.long x0)]))
    refine GlW.back (fun _ k => XS.lstore X176.here hx rfl (hb hby at_44) rfl (l' := #[.val (.long x0), .second, .val (.long x1), .second, .val (.long x2), .second, .val (.int x3), .val (.ref b165), .val (.int (1 : Int32)), .val (.int (3 : Int32)), .val (.long x0), .second, .unset, .unset]) rfl k) ?_
    show GlW _ _ _ _ _ _ _ (T176.setTop (mkF m 46 #[.val (.long x0), .second, .val (.long x1), .second, .val (.long x2), .second, .val (.int x3), .val (.ref b165), .val (.int (1 : Int32)), .val (.int (3 : Int32)), .val (.long x0), .second, .unset, .unset] []))
    refine GlW.back (fun _ k => XS.iload X176.here hx rfl (hb hby at_46) rfl k) ?_
    show GlW _ _ _ _ _ _ _ (T176.setTop (mkF m 48 #[.val (.long x0), .second, .val (.long x1), .second, .val (.long x2), .second, .val (.int x3), .val (.ref b165), .val (.int (1 : Int32)), .val (.int (3 : Int32)), .val (.long x0), .second, .unset, .unset] [(.int (3 : Int32))]))
    refine GlW.back (fun _ k => XS.iconst X176.here hx rfl (hb hby at_48) k) ?_
    show GlW _ _ _ _ _ _ _ (T176.setTop (mkF m 49 #[.val (.long x0), .second, .val (.long x1), .second, .val (.long x2), .second, .val (.int x3), .val (.ref b165), .val (.int (1 : Int32)), .val (.int (3 : Int32)), .val (.long x0), .second, .unset, .unset] [(.int (1 : Int32)), (.int (3 : Int32))]))
    refine GlW.back (fun _ k => XS.icmpNo X176.here hx rfl (hb hby at_49) rfl (flt (by decide : ¬ (3 : Int32) < (1 : Int32))).1 k) ?_
    show GlW _ _ _ _ _ _ _ (T176.setTop (mkF m 52 #[.val (.long x0), .second, .val (.long x1), .second, .val (.long x2), .second, .val (.int x3), .val (.ref b165), .val (.int (1 : Int32)), .val (.int (3 : Int32)), .val (.long x0), .second, .unset, .unset] []))
    refine GlW.back (fun _ k => XS.lloadN X176.here hx rfl (hb hby at_52) rfl k) ?_
    show GlW _ _ _ _ _ _ _ (T176.setTop (mkF m 53 #[.val (.long x0), .second, .val (.long x1), .second, .val (.long x2), .second, .val (.int x3), .val (.ref b165), .val (.int (1 : Int32)), .val (.int (3 : Int32)), .val (.long x0), .second, .unset, .unset] [(.long x0)]))
    refine GlW.back (fun _ k => XS.lloadN X176.here hx rfl (hb hby at_53) rfl k) ?_
    show GlW _ _ _ _ _ _ _ (T176.setTop (mkF m 54 #[.val (.long x0), .second, .val (.long x1), .second, .val (.long x2), .second, .val (.int x3), .val (.ref b165), .val (.int (1 : Int32)), .val (.int (3 : Int32)), .val (.long x0), .second, .unset, .unset] [(.long x1), (.long x0)]))
    obtain ⟨_, _, ⟨T260, L260, k260, n260⟩, -, X260, ⟨Lc260, hQ260, l260, y260, z260⟩, st260⟩ := Jvm.LawKit.callS X176 hx (y := (⟨"java/lang/Math", "max", "(JJ)J"⟩ : MethodName)) hown0 (mvT hZ0 (hw _ (List.mem_of_getElem? (i := 68) rfl))) (mvT hZ0 (hw _ (List.mem_of_getElem? (i := 69) rfl))) (mvT hZ0 (hw _ (List.mem_of_getElem? (i := 70) rfl))) (mvT hZ0 (hw _ (List.mem_of_getElem? (i := 71) rfl))) (by decide) (backOf (W := 0) (rmmaxJ l Z a0 hw [] x0 x1  T168.heap n0 Zc168 ) hZ0 (hw _ (List.mem_of_getElem? (i := 71) rfl)) (hw _ (List.mem_of_getElem? (i := 70) rfl)) (by decide) (by decide)) (g := (mkF m 54 #[.val (.long x0), .second, .val (.long x1), .second, .val (.long x2), .second, .val (.int x3), .val (.ref b165), .val (.int (1 : Int32)), .val (.int (3 : Int32)), .val (.long x0), .second, .unset, .unset] [(.long x1), (.long x0)])) rfl (by rw [hml]; rfl) (argsL := [(.long x0), (.long x1)]) (rest := []) (lenOf pd__JJ_J rfl) rfl (by show 2 * 0 + _ ≤ _; exact Nat.le_of_eq rfl) (hb hby at_54) (fun _ _ => ⟨rfl, eh176, (by decide : 3 + 0 ≤ _), (by decide : 7 + 0 ≤ _)⟩)
    dsimp only [Pt.U, Pt.locs, Pt.cells, Pt.slots] at X260 l260 y260 z260 st260 hQ260
    subst l260 y260 z260
    obtain ⟨Nq260, r260, rfl, hge260, hgf260, eh260⟩ := hQ260
    have N260 := Fr.app N176 Nq260
    refine GlW.back (fun _ k => st260 _ k) ?_
    show GlW _ _ _ _ _ _ _ (T260.setTop (mkF m 57 #[.val (.long x0), .second, .val (.long x1), .second, .val (.long x2), .second, .val (.int x3), .val (.ref b165), .val (.int (1 : Int32)), .val (.int (3 : Int32)), .val (.long x0), .second, .unset, .unset] [(.long r260)]))
    refine GlW.back (fun _ k => XS.lstore X260.here hx rfl (hb hby at_57) rfl (l' := #[.val (.long x0), .second, .val (.long x1), .second, .val (.long x2), .second, .val (.int x3), .val (.ref b165), .val (.int (1 : Int32)), .val (.int (3 : Int32)), .val (.long x0), .second, .val (.long r260), .second]) rfl k) ?_
    show GlW _ _ _ _ _ _ _ (T260.setTop (mkF m 59 #[.val (.long x0), .second, .val (.long x1), .second, .val (.long x2), .second, .val (.int x3), .val (.ref b165), .val (.int (1 : Int32)), .val (.int (3 : Int32)), .val (.long x0), .second, .val (.long r260), .second] []))
    refine GlW.back (fun _ k => XS.aload X260.here hx rfl (hb hby at_59) rfl rfl k) ?_
    show GlW _ _ _ _ _ _ _ (T260.setTop (mkF m 61 #[.val (.long x0), .second, .val (.long x1), .second, .val (.long x2), .second, .val (.int x3), .val (.ref b165), .val (.int (1 : Int32)), .val (.int (3 : Int32)), .val (.long x0), .second, .val (.long r260), .second] [(.ref b165)]))
    have wS : ∀ d ∈ Bundle.stringAtoms, d.before a0 Z = true := fun d hd => hw d ((by decide +kernel : ∀ d ∈ Bundle.stringAtoms, d ∈ tables_1) d hd)
    obtain ⟨b261, T261, h261, k1261, X261, e261, E261, hS261, SK261, hZ261, hown261, st261⟩ := ldcS X260 hx hZ0 hown0 (hw _ (List.mem_of_getElem? (i := 72) rfl)) wS eh260 hS0 SKc168 (g := (mkF m 61 #[.val (.long x0), .second, .val (.long x1), .second, .val (.long x2), .second, .val (.int x3), .val (.ref b165), .val (.int (1 : Int32)), .val (.int (3 : Int32)), .val (.long x0), .second, .val (.long r260), .second] [(.ref b165)])) rfl (hb hby at_61) (n := 4) (by decide +kernel) (by decide) (by decide) (by decide)
    have Z261 : n0 ≤ h261.size := Nat.le_trans Zc168 E261.1
    have K261 := Keep.ext Kc168 E261
    have O261 := Old.ext Oc168 E261
    refine GlW.back (fun _ k => st261 _ k) ?_
    show GlW _ _ _ _ _ _ _ (T261.setTop (mkF m 63 #[.val (.long x0), .second, .val (.long x1), .second, .val (.long x2), .second, .val (.int x3), .val (.ref b165), .val (.int (1 : Int32)), .val (.int (3 : Int32)), .val (.long x0), .second, .val (.long r260), .second] [(.ref b261), (.ref b165)]))
    obtain ⟨T262, h262, X262, e262, E262, A262, D262, -, st262⟩ := newO X261 hx hZ261 hown261 (hw _ (List.mem_of_getElem? (i := 3) rfl)) (hw _ (List.mem_of_getElem? (i := 4) rfl)) (hw _ (List.mem_of_getElem? (i := 5) rfl)) e261 (g := (mkF m 63 #[.val (.long x0), .second, .val (.long x1), .second, .val (.long x2), .second, .val (.int x3), .val (.ref b165), .val (.int (1 : Int32)), .val (.int (3 : Int32)), .val (.long x0), .second, .val (.long r260), .second] [(.ref b261), (.ref b165)])) rfl (hb hby at_63) (by decide) (by decide)
    obtain ⟨b262, g262⟩ : ∃ z, z = h261.size := ⟨_, rfl⟩
    rw [← g262] at A262 D262 st262
    have f263 := (f175.ext E261)
    have ne_b165_b262 : b165 ≠ b262 := Nat.ne_of_lt (Nat.lt_of_lt_of_le f263.lt (Nat.le_of_eq g262.symm))
    have f264 := (f178.ext E261)
    have ne_b166_b262 : b166 ≠ b262 := Nat.ne_of_lt (Nat.lt_of_lt_of_le f264.lt (Nat.le_of_eq g262.symm))
    have f265 := (El168.ext E261)
    have ne_l168_b262 : l168 ≠ b262 := Nat.ne_of_lt (Nat.lt_of_lt_of_le f265.lt (Nat.le_of_eq g262.symm))
    have g_b262 : n0 ≤ b262 := Nat.le_trans Z261 (Nat.le_of_eq g262.symm)
    have sz_b262 : h0.size ≤ b262 := Nat.le_trans K261.1 (Nat.le_of_eq g262.symm)
    have Z262 : n0 ≤ h262.size := Nat.le_trans Z261 E262.1
    have K262 := Keep.ext K261 E262
    have O262 := Old.ext O261 E262
    have SK262 := Nat.le_trans SK261 E262.1
    have F262_cents : Fld Z h262 b262 "com/example/gavelwatch/gavelwatch/model/Money" "cents" "J" (.long (0 : Int64)) := D262 (Or.inr (hw _ (List.mem_of_getElem? (i := 18) rfl))) (ty := .long) (by decide)
    refine GlW.back (fun _ k => st262 _ k) ?_
    show GlW _ _ _ _ _ _ _ (T262.setTop (mkF m 66 #[.val (.long x0), .second, .val (.long x1), .second, .val (.long x2), .second, .val (.int x3), .val (.ref b165), .val (.int (1 : Int32)), .val (.int (3 : Int32)), .val (.long x0), .second, .val (.long r260), .second] [(.ref b262), (.ref b261), (.ref b165)]))
    refine GlW.back (fun _ k => XS.dup X262.here hx rfl (hb hby at_66) rfl rfl k) ?_
    show GlW _ _ _ _ _ _ _ (T262.setTop (mkF m 67 #[.val (.long x0), .second, .val (.long x1), .second, .val (.long x2), .second, .val (.int x3), .val (.ref b165), .val (.int (1 : Int32)), .val (.int (3 : Int32)), .val (.long x0), .second, .val (.long r260), .second] [(.ref b262), (.ref b262), (.ref b261), (.ref b165)]))
    refine GlW.back (fun _ k => XS.lload X262.here hx rfl (hb hby at_67) rfl k) ?_
    show GlW _ _ _ _ _ _ _ (T262.setTop (mkF m 69 #[.val (.long x0), .second, .val (.long x1), .second, .val (.long x2), .second, .val (.int x3), .val (.ref b165), .val (.int (1 : Int32)), .val (.int (3 : Int32)), .val (.long x0), .second, .val (.long r260), .second] [(.long r260), (.ref b262), (.ref b262), (.ref b261), (.ref b165)]))
    obtain ⟨_, _, ⟨T266, L266, k266, n266⟩, -, X266, ⟨Lc266, hQ266, l266, y266, z266⟩, st266⟩ := X262.specialBack hx (y := (⟨"com/example/gavelwatch/gavelwatch/model/Money", "<init>", "(J)V"⟩ : MethodName)) rfl hown261 (mvT hZ261 (hw _ (List.mem_of_getElem? (i := 6) rfl))) (mvT hZ261 (hw _ (List.mem_of_getElem? (i := 7) rfl))) (mvT hZ261 (hw _ (List.mem_of_getElem? (i := 8) rfl))) (by decide) (backOf (W := 3) (rmmoney l Z a0 hw [] b262 r260  h262 n0 Z262 g_b262 A262 F262_cents) hZ261 (hw _ (List.mem_of_getElem? (i := 8) rfl)) (hw _ (List.mem_of_getElem? (i := 5) rfl)) (by decide) (by decide)) (g := (mkF m 69 #[.val (.long x0), .second, .val (.long x1), .second, .val (.long x2), .second, .val (.int x3), .val (.ref b165), .val (.int (1 : Int32)), .val (.int (3 : Int32)), .val (.long x0), .second, .val (.long r260), .second] [(.long r260), (.ref b262), (.ref b262), (.ref b261), (.ref b165)])) rfl (by rw [hml]; rfl) (Steps.refl _) (a := b262) (argsL := [(.long r260)]) (rest := [(.ref b262), (.ref b261), (.ref b165)]) (lenOf pd__J_V rfl) rfl (by show 2 * 0 + _ ≤ _; exact Nat.le_of_eq rfl) (hb hby at_69) (fun _ _ => ⟨rfl, e262, (by decide : 6 + 0 ≤ _), (by decide : 16 + 0 ≤ _)⟩)
    dsimp only [Pt.U, Pt.locs, Pt.cells, Pt.slots] at X266 l266 y266 z266 st266 hQ266
    subst l266 y266 z266
    obtain ⟨Nq266, rfl, Kq266, Fc266⟩ := hQ266
    have N266 := Fr.app N260 Nq266
    have Kc266 := Keep.trans K262 Kq266 (allS (Or.inr sz_b262) all0)
    have Zc266 : n0 ≤ T266.heap.size := Nat.le_trans Z262 Kq266.1
    have Oc266 := Old.keep O262 Kq266 (allS g_b262 all0)
    have SKc266 := Nat.le_trans SK262 Kq266.1
    refine GlW.back (fun _ k => st266.trans k) ?_
    show GlW _ _ _ _ _ _ _ (T266.setTop (mkF m 72 #[.val (.long x0), .second, .val (.long x1), .second, .val (.long x2), .second, .val (.int x3), .val (.ref b165), .val (.int (1 : Int32)), .val (.int (3 : Int32)), .val (.long x0), .second, .val (.long r260), .second] [(.ref b262), (.ref b261), (.ref b165)]))
    refine GlW.back (fun _ k => XS.lconst X266.here hx rfl (hb hby at_72) k) ?_
    show GlW _ _ _ _ _ _ _ (T266.setTop (mkF m 73 #[.val (.long x0), .second, .val (.long x1), .second, .val (.long x2), .second, .val (.int x3), .val (.ref b165), .val (.int (1 : Int32)), .val (.int (3 : Int32)), .val (.long x0), .second, .val (.long r260), .second] [(.long (0 : Int64)), (.ref b262), (.ref b261), (.ref b165)]))
    have f268 := ((f263.ext E262).keep Kq266)
    have f269 := ((f264.ext E262).keep Kq266)
    have f270 := ((f265.ext E262).keep Kq266)
    have f271 := (A262.keep Kq266)
    have f272 := (((Fh168.ext E261).ext E262).keep Kq266 (ninS ne_b165_b262 nin0))
    have f273 := (((Fb168.ext E261).ext E262).keep Kq266 (ninS ne_b165_b262 nin0))
    have f274 := (((Fo168.ext E261).ext E262).keep Kq266 (ninS ne_b165_b262 nin0))
    have f275 := (((f177.ext E261).ext E262).keep Kq266 (ninS ne_b166_b262 nin0))
    have f276 := (((Fm168.ext E261).ext E262).keep Kq266 (ninS ne_l168_b262 nin0))
    have f277 := (((Fe168.ext E261).ext E262).keep Kq266 (ninS ne_l168_b262 nin0))
    have f278 := (((Fs168.ext E261).ext E262).keep Kq266 (ninS ne_l168_b262 nin0))
    obtain ⟨cq267, kq267, q267a, q267b, q267c⟩ := isOf hZ261 rfl f268
    obtain ⟨_, _, ⟨T267, L267, k267, n267⟩, -, X267, hS2267, hg2267, ⟨Lc267, hQ267, l267, y267, z267⟩, st267⟩ := X266.virtualBackS hx (y := (⟨"com/example/gavelwatch/gavelwatch/sim/RunningAuction", "place", "(Ljava/lang/String;Lcom/example/gavelwatch/gavelwatch/model/Money;J)V"⟩ : MethodName)) (z := (⟨"com/example/gavelwatch/gavelwatch/sim/RunningAuction", "place", "(Ljava/lang/String;Lcom/example/gavelwatch/gavelwatch/model/Money;J)V"⟩ : MethodName)) hown261 (mvT hZ261 (hw _ (List.mem_of_getElem? (i := 80) rfl))) (mvT hZ261 (hw _ (List.mem_of_getElem? (i := 81) rfl))) (notFace_of_selects (args := #[]) (mvT hZ261 (hw _ (List.mem_of_getElem? (i := 83) rfl)))) (mvT hZ261 (hw _ (List.mem_of_getElem? (i := 83) rfl))) (mvT hZ261 (hw _ (List.mem_of_getElem? (i := 82) rfl))) (by decide) (backOfS (W := 0) (rmplace0 l Z a0 hw [] b165 b261 b262 (0 : Int64) l168 b166 u wD kD (0 : Int32) r260 x0 T266.heap n0 Zc266 Oc266 g_b165 f268 f272 f273 f274 f269 f275 f271 Fc266 Gz168 f270 f276 f277 f278 S_DEFAULTCAPACITY_EMPTY_ELEMENTDATA V_wD S_SECONDS E_u F_u_scale F_u_maxNanos hge260 ne_b165_l168 ne_b165_b166 ne_b165_b262 (Ne.symm ne_b166_l168) ne_l168_b262 (by decide) (by decide)) hZ261 (hw _ (List.mem_of_getElem? (i := 84) rfl)) (hw _ (List.mem_of_getElem? (i := 2) rfl)) (by decide) (by decide)) q267a q267c (g := (mkF m 73 #[.val (.long x0), .second, .val (.long x1), .second, .val (.long x2), .second, .val (.int x3), .val (.ref b165), .val (.int (1 : Int32)), .val (.int (3 : Int32)), .val (.long x0), .second, .val (.long r260), .second] [(.long (0 : Int64)), (.ref b262), (.ref b261), (.ref b165)])) rfl (by rw [hml]; rfl) (Steps.refl _) (argsL := [(.ref b261), (.ref b262), (.long (0 : Int64))]) (rest := []) (lenOf pd__Ljava_lang_String_Lcom_example_gavelwatch_gavelwatch_model_Money_J_V rfl) rfl (by show 2 * 0 + _ ≤ _; exact Nat.le_of_eq rfl) (hb hby at_73) (fun _ _ => ⟨rfl, rfl, (by decide : 6 + 6 ≤ _), (by decide : 16 + 69 ≤ _)⟩)
    dsimp only [Pt.U, Pt.locs, Pt.cells, Pt.slots] at X267 l267 y267 z267 st267 hQ267 hS2267 hg2267
    subst l267 y267 z267
    obtain ⟨X267, hS267, hZ267, hown267⟩ := rebS hS261 (SKc266) X267 hS2267 hg2267 hZ261 hown261
    obtain ⟨Nq267, rfl, Kq267, c267, t267, k0267, Sc267, Gc267, Sz267, Gz267, Nct267, Ec267, Fh267, Fa267, Fb267, Fe267, Fs267, Fm267, V267, Ov267, -⟩ := hQ267
    have N267 := Fr.app N266 Nq267
    have Kc267 := Keep.trans Kc266 Kq267 (allS (Or.inr sz_b165) (allS (Or.inr sz_l168) all0))
    have Zc267 : n0 ≤ T267.heap.size := Nat.le_trans Zc266 Kq267.1
    have Oc267 := Old.keep Oc266 Kq267 (allS g_b165 (allS Gz168 all0))
    have ne_b165_c267 : b165 ≠ c267 := Nat.ne_of_lt (Nat.lt_of_lt_of_le (f268).lt Sc267)
    have ne_b166_c267 : b166 ≠ c267 := Nat.ne_of_lt (Nat.lt_of_lt_of_le (f269).lt Sc267)
    have ne_l168_c267 : l168 ≠ c267 := Nat.ne_of_lt (Nat.lt_of_lt_of_le (f270).lt Sc267)
    have ne_b262_c267 : b262 ≠ c267 := Nat.ne_of_lt (Nat.lt_of_lt_of_le (f271).lt Sc267)
    have sz_c267 : h0.size ≤ c267 := Nat.le_trans Kc266.1 Sc267
    have ne_b165_t267 : b165 ≠ t267 := Nat.ne_of_lt (Nat.lt_of_lt_of_le (f268).lt Sz267)
    have ne_b166_t267 : b166 ≠ t267 := Nat.ne_of_lt (Nat.lt_of_lt_of_le (f269).lt Sz267)
    have ne_l168_t267 : l168 ≠ t267 := Nat.ne_of_lt (Nat.lt_of_lt_of_le (f270).lt Sz267)
    have ne_b262_t267 : b262 ≠ t267 := Nat.ne_of_lt (Nat.lt_of_lt_of_le (f271).lt Sz267)
    have sz_t267 : h0.size ≤ t267 := Nat.le_trans Kc266.1 Sz267
    refine GlW.back (fun _ k => st267.trans k) ?_
    show GlW _ _ _ _ _ _ _ (T267.setTop (mkF m 76 #[.val (.long x0), .second, .val (.long x1), .second, .val (.long x2), .second, .val (.int x3), .val (.ref b165), .val (.int (1 : Int32)), .val (.int (3 : Int32)), .val (.long x0), .second, .val (.long r260), .second] []))
    refine GlW.back (fun _ k => XS.lload X267.here hx rfl (hb hby at_76) rfl k) ?_
    show GlW _ _ _ _ _ _ _ (T267.setTop (mkF m 78 #[.val (.long x0), .second, .val (.long x1), .second, .val (.long x2), .second, .val (.int x3), .val (.ref b165), .val (.int (1 : Int32)), .val (.int (3 : Int32)), .val (.long x0), .second, .val (.long r260), .second] [(.long r260)]))
    refine GlW.back (fun _ k => XS.lstore X267.here hx rfl (hb hby at_78) rfl (l' := #[.val (.long x0), .second, .val (.long x1), .second, .val (.long x2), .second, .val (.int x3), .val (.ref b165), .val (.int (1 : Int32)), .val (.int (3 : Int32)), .val (.long r260), .second, .val (.long r260), .second]) rfl k) ?_
    show GlW _ _ _ _ _ _ _ (T267.setTop (mkF m 80 #[.val (.long x0), .second, .val (.long x1), .second, .val (.long x2), .second, .val (.int x3), .val (.ref b165), .val (.int (1 : Int32)), .val (.int (3 : Int32)), .val (.long r260), .second, .val (.long r260), .second] []))
    refine GlW.back (fun _ k => XS.iload X267.here hx rfl (hb hby at_80) rfl k) ?_
    show GlW _ _ _ _ _ _ _ (T267.setTop (mkF m 82 #[.val (.long x0), .second, .val (.long x1), .second, .val (.long x2), .second, .val (.int x3), .val (.ref b165), .val (.int (1 : Int32)), .val (.int (3 : Int32)), .val (.long r260), .second, .val (.long r260), .second] [(.int (3 : Int32))]))
    refine GlW.back (fun _ k => XS.iconst X267.here hx rfl (hb hby at_82) k) ?_
    show GlW _ _ _ _ _ _ _ (T267.setTop (mkF m 83 #[.val (.long x0), .second, .val (.long x1), .second, .val (.long x2), .second, .val (.int x3), .val (.ref b165), .val (.int (1 : Int32)), .val (.int (3 : Int32)), .val (.long r260), .second, .val (.long r260), .second] [(.int (2 : Int32)), (.int (3 : Int32))]))
    refine GlW.back (fun _ k => XS.icmpNo X267.here hx rfl (hb hby at_83) rfl (flt (by decide : ¬ (3 : Int32) < (2 : Int32))).1 k) ?_
    show GlW _ _ _ _ _ _ _ (T267.setTop (mkF m 86 #[.val (.long x0), .second, .val (.long x1), .second, .val (.long x2), .second, .val (.int x3), .val (.ref b165), .val (.int (1 : Int32)), .val (.int (3 : Int32)), .val (.long r260), .second, .val (.long r260), .second] []))
    refine GlW.back (fun _ k => XS.lload X267.here hx rfl (hb hby at_86) rfl k) ?_
    show GlW _ _ _ _ _ _ _ (T267.setTop (mkF m 88 #[.val (.long x0), .second, .val (.long x1), .second, .val (.long x2), .second, .val (.int x3), .val (.ref b165), .val (.int (1 : Int32)), .val (.int (3 : Int32)), .val (.long r260), .second, .val (.long r260), .second] [(.long x2)]))
    refine GlW.back (fun _ k => XS.lload X267.here hx rfl (hb hby at_88) rfl k) ?_
    show GlW _ _ _ _ _ _ _ (T267.setTop (mkF m 90 #[.val (.long x0), .second, .val (.long x1), .second, .val (.long x2), .second, .val (.int x3), .val (.ref b165), .val (.int (1 : Int32)), .val (.int (3 : Int32)), .val (.long r260), .second, .val (.long r260), .second] [(.long r260), (.long x2)]))
    refine GlW.back (fun _ k => XS.lcmp X267.here hx rfl (hb hby at_90) rfl k) ?_
    show GlW _ _ _ _ _ _ _ (T267.setTop (mkF m 91 #[.val (.long x0), .second, .val (.long x1), .second, .val (.long x2), .second, .val (.int x3), .val (.ref b165), .val (.int (1 : Int32)), .val (.int (3 : Int32)), .val (.long r260), .second, .val (.long r260), .second] [(.int (lcmpW x2 r260))]))
    by_cases hc91_279 : r260 < x2
    · refine GlW.back (fun _ k => XS.ifNo X267.here hx rfl (hb hby at_91) rfl ((if0 _ _).trans (tlt (own_lcG hc91_279)).2.2.2) k) ?_
      show GlW _ _ _ _ _ _ _ (T267.setTop (mkF m 94 #[.val (.long x0), .second, .val (.long x1), .second, .val (.long x2), .second, .val (.int x3), .val (.ref b165), .val (.int (1 : Int32)), .val (.int (3 : Int32)), .val (.long r260), .second, .val (.long r260), .second] []))
      refine GlW.back (fun _ k => XS.aload X267.here hx rfl (hb hby at_94) rfl rfl k) ?_
      show GlW _ _ _ _ _ _ _ (T267.setTop (mkF m 96 #[.val (.long x0), .second, .val (.long x1), .second, .val (.long x2), .second, .val (.int x3), .val (.ref b165), .val (.int (1 : Int32)), .val (.int (3 : Int32)), .val (.long r260), .second, .val (.long r260), .second] [(.ref b165)]))
      have wS : ∀ d ∈ Bundle.stringAtoms, d.before a0 Z = true := fun d hd => hw d ((by decide +kernel : ∀ d ∈ Bundle.stringAtoms, d ∈ tables_1) d hd)
      obtain ⟨b280, T280, h280, k1280, X280, e280, E280, hS280, SK280, hZ280, hown280, st280⟩ := ldcS X267 hx hZ267 hown267 (hw _ (List.mem_of_getElem? (i := 169) rfl)) wS rfl hS267 (Nat.le_refl _) (g := (mkF m 96 #[.val (.long x0), .second, .val (.long x1), .second, .val (.long x2), .second, .val (.int x3), .val (.ref b165), .val (.int (1 : Int32)), .val (.int (3 : Int32)), .val (.long r260), .second, .val (.long r260), .second] [(.ref b165)])) rfl (hb hby at_96) (n := 4) (by decide +kernel) (by decide) (by decide) (by decide)
      have Z280 : n0 ≤ h280.size := Nat.le_trans Zc267 E280.1
      have K280 := Keep.ext Kc267 E280
      have O280 := Old.ext Oc267 E280
      refine GlW.back (fun _ k => st280 _ k) ?_
      show GlW _ _ _ _ _ _ _ (T280.setTop (mkF m 98 #[.val (.long x0), .second, .val (.long x1), .second, .val (.long x2), .second, .val (.int x3), .val (.ref b165), .val (.int (1 : Int32)), .val (.int (3 : Int32)), .val (.long r260), .second, .val (.long r260), .second] [(.ref b280), (.ref b165)]))
      obtain ⟨T281, h281, X281, e281, E281, A281, D281, -, st281⟩ := newO X280 hx hZ280 hown280 (hw _ (List.mem_of_getElem? (i := 3) rfl)) (hw _ (List.mem_of_getElem? (i := 4) rfl)) (hw _ (List.mem_of_getElem? (i := 5) rfl)) e280 (g := (mkF m 98 #[.val (.long x0), .second, .val (.long x1), .second, .val (.long x2), .second, .val (.int x3), .val (.ref b165), .val (.int (1 : Int32)), .val (.int (3 : Int32)), .val (.long r260), .second, .val (.long r260), .second] [(.ref b280), (.ref b165)])) rfl (hb hby at_98) (by decide) (by decide)
      obtain ⟨b281, g281⟩ : ∃ z, z = h280.size := ⟨_, rfl⟩
      rw [← g281] at A281 D281 st281
      have f282 := ((f268.keep Kq267).ext E280)
      have ne_b165_b281 : b165 ≠ b281 := Nat.ne_of_lt (Nat.lt_of_lt_of_le f282.lt (Nat.le_of_eq g281.symm))
      have f283 := ((f269.keep Kq267).ext E280)
      have ne_b166_b281 : b166 ≠ b281 := Nat.ne_of_lt (Nat.lt_of_lt_of_le f283.lt (Nat.le_of_eq g281.symm))
      have f284 := ((f270.keep Kq267).ext E280)
      have ne_l168_b281 : l168 ≠ b281 := Nat.ne_of_lt (Nat.lt_of_lt_of_le f284.lt (Nat.le_of_eq g281.symm))
      have f285 := ((f271.keep Kq267).ext E280)
      have ne_b262_b281 : b262 ≠ b281 := Nat.ne_of_lt (Nat.lt_of_lt_of_le f285.lt (Nat.le_of_eq g281.symm))
      have f286 := (Ec267.ext E280)
      have ne_c267_b281 : c267 ≠ b281 := Nat.ne_of_lt (Nat.lt_of_lt_of_le f286.lt (Nat.le_of_eq g281.symm))
      have f287 := (V267.ext E280)
      have ne_t267_b281 : t267 ≠ b281 := Nat.ne_of_lt (Nat.lt_of_lt_of_le f287.lt (Nat.le_of_eq g281.symm))
      have g_b281 : n0 ≤ b281 := Nat.le_trans Z280 (Nat.le_of_eq g281.symm)
      have sz_b281 : h0.size ≤ b281 := Nat.le_trans K280.1 (Nat.le_of_eq g281.symm)
      have Z281 : n0 ≤ h281.size := Nat.le_trans Z280 E281.1
      have K281 := Keep.ext K280 E281
      have O281 := Old.ext O280 E281
      have SK281 := Nat.le_trans SK280 E281.1
      have F281_cents : Fld Z h281 b281 "com/example/gavelwatch/gavelwatch/model/Money" "cents" "J" (.long (0 : Int64)) := D281 (Or.inr (hw _ (List.mem_of_getElem? (i := 18) rfl))) (ty := .long) (by decide)
      refine GlW.back (fun _ k => st281 _ k) ?_
      show GlW _ _ _ _ _ _ _ (T281.setTop (mkF m 101 #[.val (.long x0), .second, .val (.long x1), .second, .val (.long x2), .second, .val (.int x3), .val (.ref b165), .val (.int (1 : Int32)), .val (.int (3 : Int32)), .val (.long r260), .second, .val (.long r260), .second] [(.ref b281), (.ref b280), (.ref b165)]))
      refine GlW.back (fun _ k => XS.dup X281.here hx rfl (hb hby at_101) rfl rfl k) ?_
      show GlW _ _ _ _ _ _ _ (T281.setTop (mkF m 102 #[.val (.long x0), .second, .val (.long x1), .second, .val (.long x2), .second, .val (.int x3), .val (.ref b165), .val (.int (1 : Int32)), .val (.int (3 : Int32)), .val (.long r260), .second, .val (.long r260), .second] [(.ref b281), (.ref b281), (.ref b280), (.ref b165)]))
      refine GlW.back (fun _ k => XS.lload X281.here hx rfl (hb hby at_102) rfl k) ?_
      show GlW _ _ _ _ _ _ _ (T281.setTop (mkF m 104 #[.val (.long x0), .second, .val (.long x1), .second, .val (.long x2), .second, .val (.int x3), .val (.ref b165), .val (.int (1 : Int32)), .val (.int (3 : Int32)), .val (.long r260), .second, .val (.long r260), .second] [(.long x2), (.ref b281), (.ref b281), (.ref b280), (.ref b165)]))
      obtain ⟨_, _, ⟨T288, L288, k288, n288⟩, -, X288, ⟨Lc288, hQ288, l288, y288, z288⟩, st288⟩ := X281.specialBack hx (y := (⟨"com/example/gavelwatch/gavelwatch/model/Money", "<init>", "(J)V"⟩ : MethodName)) rfl hown280 (mvT hZ280 (hw _ (List.mem_of_getElem? (i := 6) rfl))) (mvT hZ280 (hw _ (List.mem_of_getElem? (i := 7) rfl))) (mvT hZ280 (hw _ (List.mem_of_getElem? (i := 8) rfl))) (by decide) (backOf (W := 3) (rmmoney l Z a0 hw [] b281 x2  h281 n0 Z281 g_b281 A281 F281_cents) hZ280 (hw _ (List.mem_of_getElem? (i := 8) rfl)) (hw _ (List.mem_of_getElem? (i := 5) rfl)) (by decide) (by decide)) (g := (mkF m 104 #[.val (.long x0), .second, .val (.long x1), .second, .val (.long x2), .second, .val (.int x3), .val (.ref b165), .val (.int (1 : Int32)), .val (.int (3 : Int32)), .val (.long r260), .second, .val (.long r260), .second] [(.long x2), (.ref b281), (.ref b281), (.ref b280), (.ref b165)])) rfl (by rw [hml]; rfl) (Steps.refl _) (a := b281) (argsL := [(.long x2)]) (rest := [(.ref b281), (.ref b280), (.ref b165)]) (lenOf pd__J_V rfl) rfl (by show 2 * 0 + _ ≤ _; exact Nat.le_of_eq rfl) (hb hby at_104) (fun _ _ => ⟨rfl, e281, (by decide : 15 + 0 ≤ _), (by decide : 94 + 0 ≤ _)⟩)
      dsimp only [Pt.U, Pt.locs, Pt.cells, Pt.slots] at X288 l288 y288 z288 st288 hQ288
      subst l288 y288 z288
      obtain ⟨Nq288, rfl, Kq288, Fc288⟩ := hQ288
      have N288 := Fr.app N267 Nq288
      have Kc288 := Keep.trans K281 Kq288 (allS (Or.inr sz_b281) all0)
      have Zc288 : n0 ≤ T288.heap.size := Nat.le_trans Z281 Kq288.1
      have Oc288 := Old.keep O281 Kq288 (allS g_b281 all0)
      have SKc288 := Nat.le_trans SK281 Kq288.1
      refine GlW.back (fun _ k => st288.trans k) ?_
      show GlW _ _ _ _ _ _ _ (T288.setTop (mkF m 107 #[.val (.long x0), .second, .val (.long x1), .second, .val (.long x2), .second, .val (.int x3), .val (.ref b165), .val (.int (1 : Int32)), .val (.int (3 : Int32)), .val (.long r260), .second, .val (.long r260), .second] [(.ref b281), (.ref b280), (.ref b165)]))
      refine GlW.back (fun _ k => XS.lconst X288.here hx rfl (hb hby at_107) k) ?_
      show GlW _ _ _ _ _ _ _ (T288.setTop (mkF m 108 #[.val (.long x0), .second, .val (.long x1), .second, .val (.long x2), .second, .val (.int x3), .val (.ref b165), .val (.int (1 : Int32)), .val (.int (3 : Int32)), .val (.long r260), .second, .val (.long r260), .second] [(.long (1 : Int64)), (.ref b281), (.ref b280), (.ref b165)]))
      have f290 := ((f282.ext E281).keep Kq288)
      have f291 := ((f283.ext E281).keep Kq288)
      have f292 := ((f284.ext E281).keep Kq288)
      have f293 := ((f285.ext E281).keep Kq288)
      have f294 := ((f286.ext E281).keep Kq288)
      have f295 := ((f287.ext E281).keep Kq288 (ninS ne_t267_b281 nin0))
      have f296 := (A281.keep Kq288)
      have f297 := (((Fh267.ext E280).ext E281).keep Kq288 (ninS ne_b165_b281 nin0))
      have f298 := (((Fb267.ext E280).ext E281).keep Kq288 (ninS ne_b165_b281 nin0))
      have f299 := (((Fa267.ext E280).ext E281).keep Kq288 (ninS ne_c267_b281 nin0))
      have f300 := ((((Fc266.keep Kq267 (ninS (Ne.symm ne_b165_b262) (ninS (Ne.symm ne_l168_b262) nin0))).ext E280).ext E281).keep Kq288 (ninS ne_b262_b281 nin0))
      have f301 := (((Fm267.ext E280).ext E281).keep Kq288 (ninS ne_l168_b281 nin0))
      have f302 := (((Fe267.ext E280).ext E281).keep Kq288 (ninS ne_l168_b281 nin0))
      have f303 := (((Fs267.ext E280).ext E281).keep Kq288 (ninS ne_l168_b281 nin0))
      obtain ⟨cq289, kq289, q289a, q289b, q289c⟩ := isOf hZ280 rfl f290
      obtain ⟨_, _, ⟨T289, L289, k289, n289⟩, -, X289, hS2289, hg2289, ⟨Lc289, hQ289, l289, y289, z289⟩, st289⟩ := X288.virtualBackS hx (y := (⟨"com/example/gavelwatch/gavelwatch/sim/RunningAuction", "place", "(Ljava/lang/String;Lcom/example/gavelwatch/gavelwatch/model/Money;J)V"⟩ : MethodName)) (z := (⟨"com/example/gavelwatch/gavelwatch/sim/RunningAuction", "place", "(Ljava/lang/String;Lcom/example/gavelwatch/gavelwatch/model/Money;J)V"⟩ : MethodName)) hown280 (mvT hZ280 (hw _ (List.mem_of_getElem? (i := 80) rfl))) (mvT hZ280 (hw _ (List.mem_of_getElem? (i := 81) rfl))) (notFace_of_selects (args := #[]) (mvT hZ280 (hw _ (List.mem_of_getElem? (i := 83) rfl)))) (mvT hZ280 (hw _ (List.mem_of_getElem? (i := 83) rfl))) (mvT hZ280 (hw _ (List.mem_of_getElem? (i := 82) rfl))) (by decide) (backOfS (W := 0) (rmplace1 l Z a0 hw [] b165 b280 b281 (1 : Int64) l168 b262 u c267 t267 k0267 ((0 : Int32) + (1 : Int32)) x2 r260 T288.heap n0 Zc288 Oc288 g_b165 f290 f297 f298 f294 f299 f293 f300 f296 Fc288 Gz168 f292 f301 f302 f303 Gz267 f295 S_SECONDS E_u F_u_scale F_u_maxNanos Ov267 hc91_279 ne_b165_l168 ne_b165_c267 ne_b165_b262 ne_b165_b281 ne_b165_t267 ne_l168_c267 ne_l168_b262 ne_l168_b281 ne_l168_t267 (by decide) (by decide)) hZ280 (hw _ (List.mem_of_getElem? (i := 84) rfl)) (hw _ (List.mem_of_getElem? (i := 2) rfl)) (by decide) (by decide)) q289a q289c (g := (mkF m 108 #[.val (.long x0), .second, .val (.long x1), .second, .val (.long x2), .second, .val (.int x3), .val (.ref b165), .val (.int (1 : Int32)), .val (.int (3 : Int32)), .val (.long r260), .second, .val (.long r260), .second] [(.long (1 : Int64)), (.ref b281), (.ref b280), (.ref b165)])) rfl (by rw [hml]; rfl) (Steps.refl _) (argsL := [(.ref b280), (.ref b281), (.long (1 : Int64))]) (rest := []) (lenOf pd__Ljava_lang_String_Lcom_example_gavelwatch_gavelwatch_model_Money_J_V rfl) rfl (by show 2 * 0 + _ ≤ _; exact Nat.le_of_eq rfl) (hb hby at_108) (fun _ _ => ⟨rfl, rfl, (by decide : 15 + 5 ≤ _), (by decide : 94 + 59 ≤ _)⟩)
      dsimp only [Pt.U, Pt.locs, Pt.cells, Pt.slots] at X289 l289 y289 z289 st289 hQ289 hS2289 hg2289
      subst l289 y289 z289
      obtain ⟨X289, hS289, hZ289, hown289⟩ := rebS hS280 (SKc288) X289 hS2289 hg2289 hZ280 hown280
      obtain ⟨Nq289, rfl, Kq289, c289, Sc289, Gc289, Ec289, Fh289, Fa289, Fb289, Fs289⟩ := hQ289
      have N289 := Fr.app N288 Nq289
      have Kc289 := Keep.trans Kc288 Kq289 (allS (Or.inr sz_b165) (allS (Or.inr sz_l168) (allS (Or.inr sz_t267) all0)))
      have Zc289 : n0 ≤ T289.heap.size := Nat.le_trans Zc288 Kq289.1
      have Oc289 := Old.keep Oc288 Kq289 (allS g_b165 (allS Gz168 (allS Gz267 all0)))
      have ne_b165_c289 : b165 ≠ c289 := Nat.ne_of_lt (Nat.lt_of_lt_of_le (f290).lt Sc289)
      have ne_b166_c289 : b166 ≠ c289 := Nat.ne_of_lt (Nat.lt_of_lt_of_le (f291).lt Sc289)
      have ne_l168_c289 : l168 ≠ c289 := Nat.ne_of_lt (Nat.lt_of_lt_of_le (f292).lt Sc289)
      have ne_b262_c289 : b262 ≠ c289 := Nat.ne_of_lt (Nat.lt_of_lt_of_le (f293).lt Sc289)
      have ne_c267_c289 : c267 ≠ c289 := Nat.ne_of_lt (Nat.lt_of_lt_of_le (f294).lt Sc289)
      have ne_b281_c289 : b281 ≠ c289 := Nat.ne_of_lt (Nat.lt_of_lt_of_le (f296).lt Sc289)
      have sz_c289 : h0.size ≤ c289 := Nat.le_trans Kc288.1 Sc289
      refine GlW.back (fun _ k => st289.trans k) ?_
      show GlW _ _ _ _ _ _ _ (T289.setTop (mkF m 111 #[.val (.long x0), .second, .val (.long x1), .second, .val (.long x2), .second, .val (.int x3), .val (.ref b165), .val (.int (1 : Int32)), .val (.int (3 : Int32)), .val (.long r260), .second, .val (.long r260), .second] []))
      refine GlW.back (fun _ k => XS.lload X289.here hx rfl (hb hby at_111) rfl k) ?_
      show GlW _ _ _ _ _ _ _ (T289.setTop (mkF m 113 #[.val (.long x0), .second, .val (.long x1), .second, .val (.long x2), .second, .val (.int x3), .val (.ref b165), .val (.int (1 : Int32)), .val (.int (3 : Int32)), .val (.long r260), .second, .val (.long r260), .second] [(.long x2)]))
      refine GlW.back (fun _ k => XS.lstore X289.here hx rfl (hb hby at_113) rfl (l' := #[.val (.long x0), .second, .val (.long x1), .second, .val (.long x2), .second, .val (.int x3), .val (.ref b165), .val (.int (1 : Int32)), .val (.int (3 : Int32)), .val (.long x2), .second, .val (.long r260), .second]) rfl k) ?_
      show GlW _ _ _ _ _ _ _ (T289.setTop (mkF m 115 #[.val (.long x0), .second, .val (.long x1), .second, .val (.long x2), .second, .val (.int x3), .val (.ref b165), .val (.int (1 : Int32)), .val (.int (3 : Int32)), .val (.long x2), .second, .val (.long r260), .second] []))
      refine GlW.back (fun _ k => XS.iload X289.here hx rfl (hb hby at_115) rfl k) ?_
      show GlW _ _ _ _ _ _ _ (T289.setTop (mkF m 117 #[.val (.long x0), .second, .val (.long x1), .second, .val (.long x2), .second, .val (.int x3), .val (.ref b165), .val (.int (1 : Int32)), .val (.int (3 : Int32)), .val (.long x2), .second, .val (.long r260), .second] [(.int (1 : Int32))]))
      refine GlW.back (fun _ k => XS.ifNo X289.here hx rfl (hb hby at_117) rfl ((if0 _ _).trans (feq (by decide : ¬ (1 : Int32) = (0 : Int32))).1) k) ?_
      show GlW _ _ _ _ _ _ _ (T289.setTop (mkF m 120 #[.val (.long x0), .second, .val (.long x1), .second, .val (.long x2), .second, .val (.int x3), .val (.ref b165), .val (.int (1 : Int32)), .val (.int (3 : Int32)), .val (.long x2), .second, .val (.long r260), .second] []))
      refine GlW.back (fun _ k => XS.aload X289.here hx rfl (hb hby at_120) rfl rfl k) ?_
      show GlW _ _ _ _ _ _ _ (T289.setTop (mkF m 122 #[.val (.long x0), .second, .val (.long x1), .second, .val (.long x2), .second, .val (.int x3), .val (.ref b165), .val (.int (1 : Int32)), .val (.int (3 : Int32)), .val (.long x2), .second, .val (.long r260), .second] [(.ref b165)]))
      have f305 := (f290.keep Kq289)
      obtain ⟨cq304, kq304, q304a, q304b, q304c⟩ := isOf hZ289 rfl f305
      obtain ⟨_, _, ⟨T304, L304, k304, n304⟩, -, X304, ⟨Lc304, hQ304, l304, y304, z304⟩, st304⟩ := X289.virtualBack hx (y := (⟨"com/example/gavelwatch/gavelwatch/sim/RunningAuction", "price", "()Lcom/example/gavelwatch/gavelwatch/model/Money;"⟩ : MethodName)) (z := (⟨"com/example/gavelwatch/gavelwatch/sim/RunningAuction", "price", "()Lcom/example/gavelwatch/gavelwatch/model/Money;"⟩ : MethodName)) hown289 (mvT hZ289 (hw _ (List.mem_of_getElem? (i := 51) rfl))) (mvT hZ289 (hw _ (List.mem_of_getElem? (i := 52) rfl))) (notFace_of_selects (args := #[]) (mvT hZ289 (hw _ (List.mem_of_getElem? (i := 54) rfl)))) (mvT hZ289 (hw _ (List.mem_of_getElem? (i := 54) rfl))) (mvT hZ289 (hw _ (List.mem_of_getElem? (i := 53) rfl))) (by decide) (backOf (W := 0) (rmprice1 l Z a0 hw [] b165 c289 b281 T289.heap n0 Zc289 f305 Fh289 Ec289 Fa289) hZ289 (hw _ (List.mem_of_getElem? (i := 55) rfl)) (hw _ (List.mem_of_getElem? (i := 2) rfl)) (by decide) (by decide)) q304a q304c (g := (mkF m 122 #[.val (.long x0), .second, .val (.long x1), .second, .val (.long x2), .second, .val (.int x3), .val (.ref b165), .val (.int (1 : Int32)), .val (.int (3 : Int32)), .val (.long x2), .second, .val (.long r260), .second] [(.ref b165)])) rfl (by rw [hml]; rfl) (Steps.refl _) (argsL := []) (rest := []) (lenOf pd___Lcom_example_gavelwatch_gavelwatch_model_Money_ rfl) rfl (by show 2 * 0 + _ ≤ _; exact Nat.le_of_eq rfl) (hb hby at_122) (fun _ _ => ⟨rfl, rfl, (by decide : 20 + 0 ≤ _), (by decide : 153 + 0 ≤ _)⟩)
      dsimp only [Pt.U, Pt.locs, Pt.cells, Pt.slots] at X304 l304 y304 z304 st304 hQ304
      subst l304 y304 z304
      obtain ⟨Nq304, rfl, eh304⟩ := hQ304
      have N304 := Fr.app N289 Nq304
      refine GlW.back (fun _ k => st304.trans k) ?_
      show GlW _ _ _ _ _ _ _ (T304.setTop (mkF m 125 #[.val (.long x0), .second, .val (.long x1), .second, .val (.long x2), .second, .val (.int x3), .val (.ref b165), .val (.int (1 : Int32)), .val (.int (3 : Int32)), .val (.long x2), .second, .val (.long r260), .second] [(.ref b281)]))
      have f307 := (Fc288.keep Kq289 (ninS (Ne.symm ne_b165_b281) (ninS (Ne.symm ne_l168_b281) (ninS (Ne.symm ne_t267_b281) nin0))))
      have f308 := (f296.keep Kq289)
      obtain ⟨cq306, kq306, q306a, q306b, q306c⟩ := isOf hZ289 eh304 f308
      obtain ⟨_, _, ⟨T306, L306, k306, n306⟩, -, X306, ⟨Lc306, hQ306, l306, y306, z306⟩, st306⟩ := X304.virtualBack hx (y := (⟨"com/example/gavelwatch/gavelwatch/model/Money", "cents", "()J"⟩ : MethodName)) (z := (⟨"com/example/gavelwatch/gavelwatch/model/Money", "cents", "()J"⟩ : MethodName)) hown289 (mvT hZ289 (hw _ (List.mem_of_getElem? (i := 63) rfl))) (mvT hZ289 (hw _ (List.mem_of_getElem? (i := 64) rfl))) (notFace_of_selects (args := #[]) (mvT hZ289 (hw _ (List.mem_of_getElem? (i := 66) rfl)))) (mvT hZ289 (hw _ (List.mem_of_getElem? (i := 66) rfl))) (mvT hZ289 (hw _ (List.mem_of_getElem? (i := 65) rfl))) (by decide) (backOf (W := 0) (rmcents l Z a0 hw [] b281 x2 T289.heap n0 Zc289 f307) hZ289 (hw _ (List.mem_of_getElem? (i := 67) rfl)) (hw _ (List.mem_of_getElem? (i := 5) rfl)) (by decide) (by decide)) q306a q306c (g := (mkF m 125 #[.val (.long x0), .second, .val (.long x1), .second, .val (.long x2), .second, .val (.int x3), .val (.ref b165), .val (.int (1 : Int32)), .val (.int (3 : Int32)), .val (.long x2), .second, .val (.long r260), .second] [(.ref b281)])) rfl (by rw [hml]; rfl) (Steps.refl _) (argsL := []) (rest := []) (lenOf pd___J rfl) rfl (by show 2 * 0 + _ ≤ _; exact Nat.le_of_eq rfl) (hb hby at_125) (fun _ _ => ⟨rfl, eh304, (by decide : 20 + 0 ≤ _), (by decide : 153 + 0 ≤ _)⟩)
      dsimp only [Pt.U, Pt.locs, Pt.cells, Pt.slots] at X306 l306 y306 z306 st306 hQ306
      subst l306 y306 z306
      obtain ⟨Nq306, rfl, eh306⟩ := hQ306
      have N306 := Fr.app N304 Nq306
      refine GlW.back (fun _ k => st306.trans k) ?_
      show GlW _ _ _ _ _ _ _ (T306.setTop (mkF m 128 #[.val (.long x0), .second, .val (.long x1), .second, .val (.long x2), .second, .val (.int x3), .val (.ref b165), .val (.int (1 : Int32)), .val (.int (3 : Int32)), .val (.long x2), .second, .val (.long r260), .second] [(.long x2)]))
      refine GlW.back (fun _ k => XS.lload X306.here hx rfl (hb hby at_128) rfl k) ?_
      show GlW _ _ _ _ _ _ _ (T306.setTop (mkF m 130 #[.val (.long x0), .second, .val (.long x1), .second, .val (.long x2), .second, .val (.int x3), .val (.ref b165), .val (.int (1 : Int32)), .val (.int (3 : Int32)), .val (.long x2), .second, .val (.long r260), .second] [(.long x2), (.long x2)]))
      refine GlW.back (fun _ k => XS.lcmp X306.here hx rfl (hb hby at_130) rfl k) ?_
      show GlW _ _ _ _ _ _ _ (T306.setTop (mkF m 131 #[.val (.long x0), .second, .val (.long x1), .second, .val (.long x2), .second, .val (.int x3), .val (.ref b165), .val (.int (1 : Int32)), .val (.int (3 : Int32)), .val (.long x2), .second, .val (.long r260), .second] [(.int (lcmpW x2 x2))]))
      refine GlW.back (fun _ k => XS.ifNo X306.here hx rfl (hb hby at_131) rfl ((if0 _ _).trans (teq (own_lcE (rfl : x2 = x2))).2) k) ?_
      show GlW _ _ _ _ _ _ _ (T306.setTop (mkF m 134 #[.val (.long x0), .second, .val (.long x1), .second, .val (.long x2), .second, .val (.int x3), .val (.ref b165), .val (.int (1 : Int32)), .val (.int (3 : Int32)), .val (.long x2), .second, .val (.long r260), .second] []))
      refine GlW.back (fun _ k => XS.iconst X306.here hx rfl (hb hby at_134) k) ?_
      show GlW _ _ _ _ _ _ _ (T306.setTop (mkF m 135 #[.val (.long x0), .second, .val (.long x1), .second, .val (.long x2), .second, .val (.int x3), .val (.ref b165), .val (.int (1 : Int32)), .val (.int (3 : Int32)), .val (.long x2), .second, .val (.long r260), .second] [(.int (1 : Int32))]))
      refine GlW.back (fun _ k => XS.goto X306.here hx rfl (pc0 := 135) (pc' := 139) rfl (hb hby at_135) (by decide) (by decide) k) ?_
      show GlW _ _ _ _ _ _ _ (T306.setTop (mkF m 139 #[.val (.long x0), .second, .val (.long x1), .second, .val (.long x2), .second, .val (.int x3), .val (.ref b165), .val (.int (1 : Int32)), .val (.int (3 : Int32)), .val (.long x2), .second, .val (.long r260), .second] [(.int (1 : Int32))]))
      exact GlW.ret X306 eh306 hS289 (Nat.le_refl _) (v := (some (.int (1 : Int32)))) (fun h => by rw [Bd.returns] at h; cases h) Bd.notSynchronized (fun fs hr => retN X306 hx (t := .boolean) (z := (1 : Int32)) Bd.returns (by simp) (hb hby at_139) hr) ⟨N306, rfl⟩ (by decide) (by decide)
    · refine GlW.back (fun _ k => XS.ifYes X267.here hx rfl (pc0 := 91) (pc' := 115) rfl (hb hby at_91) rfl ((if0 _ _).trans (flt (own_lcGn hc91_279)).2.2.2) (by decide) (by decide) k) ?_
      show GlW _ _ _ _ _ _ _ (T267.setTop (mkF m 115 #[.val (.long x0), .second, .val (.long x1), .second, .val (.long x2), .second, .val (.int x3), .val (.ref b165), .val (.int (1 : Int32)), .val (.int (3 : Int32)), .val (.long r260), .second, .val (.long r260), .second] []))
      refine GlW.back (fun _ k => XS.iload X267.here hx rfl (hb hby at_115) rfl k) ?_
      show GlW _ _ _ _ _ _ _ (T267.setTop (mkF m 117 #[.val (.long x0), .second, .val (.long x1), .second, .val (.long x2), .second, .val (.int x3), .val (.ref b165), .val (.int (1 : Int32)), .val (.int (3 : Int32)), .val (.long r260), .second, .val (.long r260), .second] [(.int (1 : Int32))]))
      refine GlW.back (fun _ k => XS.ifNo X267.here hx rfl (hb hby at_117) rfl ((if0 _ _).trans (feq (by decide : ¬ (1 : Int32) = (0 : Int32))).1) k) ?_
      show GlW _ _ _ _ _ _ _ (T267.setTop (mkF m 120 #[.val (.long x0), .second, .val (.long x1), .second, .val (.long x2), .second, .val (.int x3), .val (.ref b165), .val (.int (1 : Int32)), .val (.int (3 : Int32)), .val (.long r260), .second, .val (.long r260), .second] []))
      refine GlW.back (fun _ k => XS.aload X267.here hx rfl (hb hby at_120) rfl rfl k) ?_
      show GlW _ _ _ _ _ _ _ (T267.setTop (mkF m 122 #[.val (.long x0), .second, .val (.long x1), .second, .val (.long x2), .second, .val (.int x3), .val (.ref b165), .val (.int (1 : Int32)), .val (.int (3 : Int32)), .val (.long r260), .second, .val (.long r260), .second] [(.ref b165)]))
      have f310 := (f268.keep Kq267)
      obtain ⟨cq309, kq309, q309a, q309b, q309c⟩ := isOf hZ267 rfl f310
      obtain ⟨_, _, ⟨T309, L309, k309, n309⟩, -, X309, ⟨Lc309, hQ309, l309, y309, z309⟩, st309⟩ := X267.virtualBack hx (y := (⟨"com/example/gavelwatch/gavelwatch/sim/RunningAuction", "price", "()Lcom/example/gavelwatch/gavelwatch/model/Money;"⟩ : MethodName)) (z := (⟨"com/example/gavelwatch/gavelwatch/sim/RunningAuction", "price", "()Lcom/example/gavelwatch/gavelwatch/model/Money;"⟩ : MethodName)) hown267 (mvT hZ267 (hw _ (List.mem_of_getElem? (i := 51) rfl))) (mvT hZ267 (hw _ (List.mem_of_getElem? (i := 52) rfl))) (notFace_of_selects (args := #[]) (mvT hZ267 (hw _ (List.mem_of_getElem? (i := 54) rfl)))) (mvT hZ267 (hw _ (List.mem_of_getElem? (i := 54) rfl))) (mvT hZ267 (hw _ (List.mem_of_getElem? (i := 53) rfl))) (by decide) (backOf (W := 0) (rmprice1 l Z a0 hw [] b165 c267 b262 T267.heap n0 Zc267 f310 Fh267 Ec267 Fa267) hZ267 (hw _ (List.mem_of_getElem? (i := 55) rfl)) (hw _ (List.mem_of_getElem? (i := 2) rfl)) (by decide) (by decide)) q309a q309c (g := (mkF m 122 #[.val (.long x0), .second, .val (.long x1), .second, .val (.long x2), .second, .val (.int x3), .val (.ref b165), .val (.int (1 : Int32)), .val (.int (3 : Int32)), .val (.long r260), .second, .val (.long r260), .second] [(.ref b165)])) rfl (by rw [hml]; rfl) (Steps.refl _) (argsL := []) (rest := []) (lenOf pd___Lcom_example_gavelwatch_gavelwatch_model_Money_ rfl) rfl (by show 2 * 0 + _ ≤ _; exact Nat.le_of_eq rfl) (hb hby at_122) (fun _ _ => ⟨rfl, rfl, (by decide : 12 + 0 ≤ _), (by decide : 85 + 0 ≤ _)⟩)
      dsimp only [Pt.U, Pt.locs, Pt.cells, Pt.slots] at X309 l309 y309 z309 st309 hQ309
      subst l309 y309 z309
      obtain ⟨Nq309, rfl, eh309⟩ := hQ309
      have N309 := Fr.app N267 Nq309
      refine GlW.back (fun _ k => st309.trans k) ?_
      show GlW _ _ _ _ _ _ _ (T309.setTop (mkF m 125 #[.val (.long x0), .second, .val (.long x1), .second, .val (.long x2), .second, .val (.int x3), .val (.ref b165), .val (.int (1 : Int32)), .val (.int (3 : Int32)), .val (.long r260), .second, .val (.long r260), .second] [(.ref b262)]))
      have f312 := (Fc266.keep Kq267 (ninS (Ne.symm ne_b165_b262) (ninS (Ne.symm ne_l168_b262) nin0)))
      have f313 := (f271.keep Kq267)
      obtain ⟨cq311, kq311, q311a, q311b, q311c⟩ := isOf hZ267 eh309 f313
      obtain ⟨_, _, ⟨T311, L311, k311, n311⟩, -, X311, ⟨Lc311, hQ311, l311, y311, z311⟩, st311⟩ := X309.virtualBack hx (y := (⟨"com/example/gavelwatch/gavelwatch/model/Money", "cents", "()J"⟩ : MethodName)) (z := (⟨"com/example/gavelwatch/gavelwatch/model/Money", "cents", "()J"⟩ : MethodName)) hown267 (mvT hZ267 (hw _ (List.mem_of_getElem? (i := 63) rfl))) (mvT hZ267 (hw _ (List.mem_of_getElem? (i := 64) rfl))) (notFace_of_selects (args := #[]) (mvT hZ267 (hw _ (List.mem_of_getElem? (i := 66) rfl)))) (mvT hZ267 (hw _ (List.mem_of_getElem? (i := 66) rfl))) (mvT hZ267 (hw _ (List.mem_of_getElem? (i := 65) rfl))) (by decide) (backOf (W := 0) (rmcents l Z a0 hw [] b262 r260 T267.heap n0 Zc267 f312) hZ267 (hw _ (List.mem_of_getElem? (i := 67) rfl)) (hw _ (List.mem_of_getElem? (i := 5) rfl)) (by decide) (by decide)) q311a q311c (g := (mkF m 125 #[.val (.long x0), .second, .val (.long x1), .second, .val (.long x2), .second, .val (.int x3), .val (.ref b165), .val (.int (1 : Int32)), .val (.int (3 : Int32)), .val (.long r260), .second, .val (.long r260), .second] [(.ref b262)])) rfl (by rw [hml]; rfl) (Steps.refl _) (argsL := []) (rest := []) (lenOf pd___J rfl) rfl (by show 2 * 0 + _ ≤ _; exact Nat.le_of_eq rfl) (hb hby at_125) (fun _ _ => ⟨rfl, eh309, (by decide : 12 + 0 ≤ _), (by decide : 85 + 0 ≤ _)⟩)
      dsimp only [Pt.U, Pt.locs, Pt.cells, Pt.slots] at X311 l311 y311 z311 st311 hQ311
      subst l311 y311 z311
      obtain ⟨Nq311, rfl, eh311⟩ := hQ311
      have N311 := Fr.app N309 Nq311
      refine GlW.back (fun _ k => st311.trans k) ?_
      show GlW _ _ _ _ _ _ _ (T311.setTop (mkF m 128 #[.val (.long x0), .second, .val (.long x1), .second, .val (.long x2), .second, .val (.int x3), .val (.ref b165), .val (.int (1 : Int32)), .val (.int (3 : Int32)), .val (.long r260), .second, .val (.long r260), .second] [(.long r260)]))
      refine GlW.back (fun _ k => XS.lload X311.here hx rfl (hb hby at_128) rfl k) ?_
      show GlW _ _ _ _ _ _ _ (T311.setTop (mkF m 130 #[.val (.long x0), .second, .val (.long x1), .second, .val (.long x2), .second, .val (.int x3), .val (.ref b165), .val (.int (1 : Int32)), .val (.int (3 : Int32)), .val (.long r260), .second, .val (.long r260), .second] [(.long r260), (.long r260)]))
      refine GlW.back (fun _ k => XS.lcmp X311.here hx rfl (hb hby at_130) rfl k) ?_
      show GlW _ _ _ _ _ _ _ (T311.setTop (mkF m 131 #[.val (.long x0), .second, .val (.long x1), .second, .val (.long x2), .second, .val (.int x3), .val (.ref b165), .val (.int (1 : Int32)), .val (.int (3 : Int32)), .val (.long r260), .second, .val (.long r260), .second] [(.int (lcmpW r260 r260))]))
      refine GlW.back (fun _ k => XS.ifNo X311.here hx rfl (hb hby at_131) rfl ((if0 _ _).trans (teq (own_lcE (rfl : r260 = r260))).2) k) ?_
      show GlW _ _ _ _ _ _ _ (T311.setTop (mkF m 134 #[.val (.long x0), .second, .val (.long x1), .second, .val (.long x2), .second, .val (.int x3), .val (.ref b165), .val (.int (1 : Int32)), .val (.int (3 : Int32)), .val (.long r260), .second, .val (.long r260), .second] []))
      refine GlW.back (fun _ k => XS.iconst X311.here hx rfl (hb hby at_134) k) ?_
      show GlW _ _ _ _ _ _ _ (T311.setTop (mkF m 135 #[.val (.long x0), .second, .val (.long x1), .second, .val (.long x2), .second, .val (.int x3), .val (.ref b165), .val (.int (1 : Int32)), .val (.int (3 : Int32)), .val (.long r260), .second, .val (.long r260), .second] [(.int (1 : Int32))]))
      refine GlW.back (fun _ k => XS.goto X311.here hx rfl (pc0 := 135) (pc' := 139) rfl (hb hby at_135) (by decide) (by decide) k) ?_
      show GlW _ _ _ _ _ _ _ (T311.setTop (mkF m 139 #[.val (.long x0), .second, .val (.long x1), .second, .val (.long x2), .second, .val (.int x3), .val (.ref b165), .val (.int (1 : Int32)), .val (.int (3 : Int32)), .val (.long r260), .second, .val (.long r260), .second] [(.int (1 : Int32))]))
      exact GlW.ret X311 eh311 hS267 (Nat.le_refl _) (v := (some (.int (1 : Int32)))) (fun h => by rw [Bd.returns] at h; cases h) Bd.notSynchronized (fun fs hr => retN X311 hx (t := .boolean) (z := (1 : Int32)) Bd.returns (by simp) (hb hby at_139) hr) ⟨N311, rfl⟩ (by decide) (by decide)
set_option maxRecDepth 65536 in
set_option maxHeartbeats 40000000 in
theorem comes_1 {Post : Tables → Env → Array Value → State → Outcome → State → Prop} (hpost : ∀ tb e args s v u, (limb_1_1.after args s (.returned v) u = true ∧ limb_1_2.after args s (.returned v) u = true ∧ True) → ReturnedEndW s (.returned v) u (Jvm.fieldLocs frame_1_writes args s ++ Jvm.arrayLocs frame_1_arrays args s ++ Jvm.staticLocs frame_1_statics s) 32 4288 → Post tb e args s (.returned v) u) :
    ArmFor flags0 classFile x code maxLocals ret World_1 tables_1 room_1 Calls_1 rest_1 Pre_1 Post := by
  intro l hfl _ _ p e ha hc hk s m args below hf hA hF happ hP
  obtain ⟨hcalls, hrest, hpre⟩ := hP
  obtain ⟨-, -, -, hnamed, -, -, -, hat⟩ := (Spec.applies_iff hf).mp happ
  obtain ⟨hg, hn⟩ := and_e (Cond.before_iff.mp (show (Jvm.Cond.and given_1 narrow_1).before args s = true from hpre))
  obtain ⟨gv314, gv315⟩ := and_e hg
  obtain ⟨gv316, gv317⟩ := and_e gv315
  obtain ⟨gv318, gv319⟩ := and_e gv317
  obtain ⟨gv320, gv321⟩ := and_e gv319
  obtain ⟨w0, w1, w2, w3, rfl⟩ : ∃ w0 w1 w2 w3 : Value, args = #[w0, w1, w2, w3] := by
    have hs : args.size = 4 := by simpa [Cond.value, given_1] using gv314
    obtain ⟨L⟩ := args
    match L, hs with
    | [w0, w1, w2, w3], _ => exact ⟨w0, w1, w2, w3, rfl⟩
  have hw := fun d (hd : d ∈ tables_1) => atoms_spec (ws := Jvm.Cond.code x code maxLocals ret :: tables_1) hat d (List.mem_cons_of_mem _ hd)
  have hfit : Fit s := fun {y c} hc i hi => by
    obtain ⟨ha, rfl⟩ := Array.getElem?_eq_some_iff.mp hc
    have q := List.all_eq_true.mp ((Array.all_eq_true_iff_forall_mem.mp hF) _ (Array.getElem_mem ha)) i (List.mem_range.mpr hi)
    simpa [Array.getElem?_eq_getElem hi] using q
  obtain ⟨hsets, hown0⟩ := atoms_of _ (rest_1_c_eq ▸ (show rest_1_c.before _ s = true from hrest))
  have hr0 := Cond.before_iff.mp hown0
  obtain ⟨i0, ei0⟩ := isL_v gv316
  obtain rfl : w0 = (.long i0) := Option.some.inj ei0
  obtain ⟨i1, ei1⟩ := isL_v gv318
  obtain rfl : w1 = (.long i1) := Option.some.inj ei1
  obtain ⟨i2, ei2⟩ := isL_v gv320
  obtain rfl : w2 = (.long i2) := Option.some.inj ei2
  obtain ⟨i3, ei3⟩ := is_v gv321
  obtain rfl : w3 = (.int i3) := Option.some.inj ei3
  obtain ⟨wD, evD⟩ := arr_v (Cond.before_iff.mp (hsets _ (List.mem_of_getElem? (i := 6) rfl)))
  obtain ⟨kD, VD⟩ := own_arr0 hfit evD (Cond.before_iff.mp (hsets _ (List.mem_of_getElem? (i := 6) rfl))) (Cond.before_iff.mp (hsets _ (List.mem_of_getElem? (i := 8) rfl))) .null
  have SD := Sta.start evD (Or.inr ⟨(hw _ (List.mem_of_getElem? (i := 25) rfl)), hsets _ (List.mem_of_getElem? (i := 2) rfl)⟩)
  obtain ⟨u, evU⟩ := exa_v (Cond.before_iff.mp (hsets _ (List.mem_of_getElem? (i := 11) rfl)))
  have SU := Sta.start evU (Or.inl (hsets _ (List.mem_of_getElem? (i := 10) rfl)))
  have EU := Exa.start evU (Cond.before_iff.mp (hsets _ (List.mem_of_getElem? (i := 11) rfl)))
  have FS := own_fldJ evU (Cond.before_iff.mp (hsets _ (List.mem_of_getElem? (i := 14) rfl)))
  have FM := own_fldJ evU (Cond.before_iff.mp (hsets _ (List.mem_of_getElem? (i := 15) rfl)))
  obtain ⟨n, o, h1, h2, h3, _, L, rfl, ⟨N, rfl⟩, hq⟩ := rm0 l s _ hw tables_1 i0 i1 i2 i3 wD u kD s.heap s.heap.size (Nat.le_refl _) (Old.start s) SD VD SU EU FS FM p e ha hc hk s m _ below hf ((Spec.applies_iff_loose hf).mp happ).1 ⟨rfl, State.Warmed39.refl s, rfl⟩ trivial
  refine ⟨n, _, h1, h2, h3, hpost _ _ _ _ _ _ ⟨Cond.after_iff.mpr rfl, Cond.after_iff.mpr (eq_i res_at (Term.int_eval (1)) rfl), trivial⟩ ⟨hq.1, hq.2.1, hq.2.2.1, (hq.2.2.2.sift fun y hy => Or.inr (N y hy)).mono (by decide) (by decide)⟩⟩
theorem main_1_1 : Claimed_1_1 := comes_1 fun _ _ _ _ _ _ h hF => ⟨h.1, hF⟩
theorem main_1_2 : Claimed_1_2 := comes_1 fun _ _ _ _ _ _ h hF => ⟨h.2.1, hF⟩
end Jvm.Pilot.@@N@@
namespace Jvm.Pilot.@@N@@
open Jvm Jvm.ClassFile Sem Op Lib Jvm.Free Jvm.Stand Jvm.Pilot.@@N@@.Jvm.D
/-! MADE BY PROGRAM (witnessworld.py) out of the Statement's table words and the real class files: 32 classes; the members and pool entries that the words name. The judged class is class 1, her method 1. -/
namespace start1
open Jvm.ClassFile
def u (s : String) : CpInfo := .utf8 (stringToUtf16 s)
/-- a pool by its gaps: so many unusable entries, then the entry; so many at the end -/
def gap : Nat → List CpInfo → List CpInfo
  | 0, r => r
  | n + 1, r => .unusable :: gap n r
def poolList (es : List (Nat × CpInfo)) (last : Nat) : List CpInfo := es.foldr (fun e r => gap e.1 (e.2 :: r)) (gap last [])
def pool (es : List (Nat × CpInfo)) (last : Nat) : Array CpInfo := ⟨poolList es last⟩
def fileOf (pool : Array CpInfo) (this : Nat) (attrs : Array Attribute := #[]) (ms : Array MethodInfo := #[]) (fl : Nat := 33) (sup : Nat := 0) (ifs : Array Nat := #[]) (fds : Array FieldInfo := #[]) : ClassFile where
  minorVersion := 0
  majorVersion := 65
  constantPool := pool
  accessFlags := fl
  thisClass := this
  superClass := sup
  interfaces := ifs
  fields := fds
  methods := ms
  attributes := attrs
def plain (name : String) (sup : Option ClassId) : Class where
  name := name
  kind := .ordinary
  loader := none
  accessFlags := 33
  super := sup
  interfaces := #[]
  cf := none
  fields := #[]
  methods := #[]
  instanceTypes := #[]
  staticTypes := #[]
  resolved := #[]
  callSites := []
  init := .initialized
  statics := none
  mirror := none

def pool0 : Array CpInfo := pool [(5, u "<init>"), (0, u "()V"), (1, .class_ 10), (1, u "java/lang/Object")] 113

def k0c0 : Code := { maxStack := 0, maxLocals := 1, code := object_method_1_code, exceptionTable := #[], attributes := #[] }
def k0m0 : Method := { name := "<init>", desc := "()V", sig := { parameters := [], returnType := none }, accessFlags := 1, code := some k0c0 }
/-- java/lang/Object -/
def k0 : Class := { plain "java/lang/Object" none with
  accessFlags := 33
  interfaces := #[]
  cf := some (fileOf pool0 8 #[] #[{ accessFlags := 1, nameIndex := 5, descriptorIndex := 6, attributes := #[] }] 33 0 #[] #[])
  fields := #[]
  methods := #[k0m0]
  instanceTypes := #[]
  staticTypes := #[]
  resolved := Array.replicate 124 none
  statics := none }

def pool1 : Array CpInfo := pool [(2, .class_ 4), (1, u "java/lang/Object"), (0, u "<init>"), (0, u "()V"), (0, .class_ 8), (0, u "com/example/gavelwatch/gavelwatch/sim/RunningAuction"), (0, .class_ 10), (0, u "com/example/gavelwatch/gavelwatch/model/Money"), (0, .methodref 9 12), (0, .nameAndType 5 13), (0, u "(J)V"), (0, .methodref 7 15), (0, .nameAndType 5 16), (0, u "(Lcom/example/gavelwatch/gavelwatch/model/Money;)V"), (0, .methodref 7 18), (0, .nameAndType 19 20), (0, u "price"), (0, u "()Lcom/example/gavelwatch/gavelwatch/model/Money;"), (0, .methodref 9 22), (0, .nameAndType 23 24), (0, u "cents"), (0, u "()J"), (0, .methodref 26 27), (0, .class_ 28), (0, .nameAndType 29 30), (0, u "java/lang/Math"), (0, u "max"), (0, u "(JJ)J"), (0, .string 32), (0, u "a"), (0, .methodref 7 34), (0, .nameAndType 35 36), (0, u "place"), (0, u "(Ljava/lang/String;Lcom/example/gavelwatch/gavelwatch/model/Money;J)V"), (0, .string 38), (0, u "b"), (0, .class_ 40), (0, u "com/example/gavelwatch/gavelwatch/sim/RunningAuctionPricePinLaw"), (2, u "law"), (0, u "(JJJI)Z")] 3

def k1m0 : Method := { name := "<init>", desc := "()V", sig := { parameters := [], returnType := none }, accessFlags := 1, code := none }
def k1c1 : Code := { maxStack := 6, maxLocals := 14, code := code, exceptionTable := #[], attributes := #[] }
def k1m1 : Method := { name := "law", desc := "(JJJI)Z", sig := { parameters := [.long, .long, .long, .int], returnType := some .boolean }, accessFlags := 9, code := some k1c1 }
/-- com/example/gavelwatch/gavelwatch/sim/RunningAuctionPricePinLaw -/
def k1 : Class := { plain "com/example/gavelwatch/gavelwatch/sim/RunningAuctionPricePinLaw" (some 0) with
  accessFlags := 49
  interfaces := #[]
  cf := some (fileOf pool1 39 #[] #[{ accessFlags := 1, nameIndex := 5, descriptorIndex := 6, attributes := #[] }, { accessFlags := 9, nameIndex := 43, descriptorIndex := 44, attributes := #[] }] 49 2 #[] #[])
  fields := #[]
  methods := #[k1m0, k1m1]
  instanceTypes := #[]
  staticTypes := #[]
  resolved := Array.replicate 48 none
  statics := none }

def pool2 : Array CpInfo := pool [(1, .methodref 2 3), (0, .class_ 4), (0, .nameAndType 5 6), (0, u "java/lang/Object"), (0, u "<init>"), (0, u "()V"), (0, .class_ 8), (0, u "java/util/ArrayList"), (0, .methodref 7 3), (0, .fieldref 11 12), (0, .class_ 13), (0, .nameAndType 14 15), (0, u "com/example/gavelwatch/gavelwatch/sim/RunningAuction"), (0, u "bids"), (0, u "Ljava/util/List;"), (0, .fieldref 11 17), (0, .nameAndType 18 19), (0, u "openingBid"), (0, u "Lcom/example/gavelwatch/gavelwatch/model/Money;"), (0, .fieldref 11 21), (0, .nameAndType 22 23), (0, u "highest"), (0, u "Lcom/example/gavelwatch/gavelwatch/model/Bid;"), (0, .methodref 11 25), (0, .nameAndType 26 27), (0, u "hasBids"), (0, u "()Z"), (0, .methodref 29 30), (0, .class_ 31), (0, .nameAndType 32 33), (0, u "com/example/gavelwatch/gavelwatch/model/Bid"), (0, u "amount"), (0, u "()Lcom/example/gavelwatch/gavelwatch/model/Money;"), (0, .methodref 11 35), (0, .nameAndType 36 33), (0, u "price"), (0, .methodref 38 39), (0, .class_ 40), (0, .nameAndType 41 42), (0, u "com/example/gavelwatch/gavelwatch/model/Money"), (0, u "compareTo"), (0, u "(Lcom/example/gavelwatch/gavelwatch/model/Money;)I"), (0, .fieldref 44 45), (0, .class_ 46), (0, .nameAndType 47 48), (0, u "java/util/concurrent/TimeUnit"), (0, u "SECONDS"), (0, u "Ljava/util/concurrent/TimeUnit;"), (0, .methodref 44 50), (0, .nameAndType 51 52), (0, u "toNanos"), (0, u "(J)J"), (0, .methodref 11 54), (0, .nameAndType 55 56), (0, u "accepts"), (0, u "(Lcom/example/gavelwatch/gavelwatch/model/Money;)Z"), (26, .methodref 29 84), (0, .nameAndType 5 85), (0, u "(Ljava/lang/String;Lcom/example/gavelwatch/gavelwatch/model/Money;J)V"), (0, .interfaceMethodref 87 88), (0, .class_ 89), (0, .nameAndType 90 91), (0, u "java/util/List"), (0, u "add"), (0, u "(Ljava/lang/Object;)Z"), (2, u "(Lcom/example/gavelwatch/gavelwatch/model/Money;)V"), (3, u "place")] 21

def k2c0 : Code := { maxStack := 3, maxLocals := 2, code := prog_50_method_1_code, exceptionTable := #[], attributes := #[] }
def k2m0 : Method := { name := "<init>", desc := "(Lcom/example/gavelwatch/gavelwatch/model/Money;)V", sig := { parameters := [(.object "com/example/gavelwatch/gavelwatch/model/Money")], returnType := none }, accessFlags := 0, code := some k2c0 }
def k2c1 : Code := { maxStack := 1, maxLocals := 1, code := prog_50_method_2_code, exceptionTable := #[], attributes := #[] }
def k2m1 : Method := { name := "hasBids", desc := "()Z", sig := { parameters := [], returnType := some .boolean }, accessFlags := 0, code := some k2c1 }
def k2c2 : Code := { maxStack := 1, maxLocals := 1, code := prog_50_method_3_code, exceptionTable := #[], attributes := #[] }
def k2m2 : Method := { name := "price", desc := "()Lcom/example/gavelwatch/gavelwatch/model/Money;", sig := { parameters := [], returnType := some (.object "com/example/gavelwatch/gavelwatch/model/Money") }, accessFlags := 0, code := some k2c2 }
def k2c3 : Code := { maxStack := 2, maxLocals := 3, code := prog_50_method_4_code, exceptionTable := #[], attributes := #[] }
def k2m3 : Method := { name := "accepts", desc := "(Lcom/example/gavelwatch/gavelwatch/model/Money;)Z", sig := { parameters := [(.object "com/example/gavelwatch/gavelwatch/model/Money")], returnType := some .boolean }, accessFlags := 0, code := some k2c3 }
def k2c4 : Code := { maxStack := 8, maxLocals := 7, code := prog_50_method_5_code, exceptionTable := #[], attributes := #[] }
def k2m4 : Method := { name := "place", desc := "(Ljava/lang/String;Lcom/example/gavelwatch/gavelwatch/model/Money;J)V", sig := { parameters := [(.object "java/lang/String"), (.object "com/example/gavelwatch/gavelwatch/model/Money"), .long], returnType := none }, accessFlags := 0, code := some k2c4 }
/-- com/example/gavelwatch/gavelwatch/sim/RunningAuction -/
def k2 : Class := { plain "com/example/gavelwatch/gavelwatch/sim/RunningAuction" (some 0) with
  accessFlags := 48
  interfaces := #[]
  cf := some (fileOf pool2 11 #[] #[{ accessFlags := 0, nameIndex := 5, descriptorIndex := 94, attributes := #[] }, { accessFlags := 0, nameIndex := 26, descriptorIndex := 27, attributes := #[] }, { accessFlags := 0, nameIndex := 36, descriptorIndex := 33, attributes := #[] }, { accessFlags := 0, nameIndex := 55, descriptorIndex := 56, attributes := #[] }, { accessFlags := 0, nameIndex := 98, descriptorIndex := 85, attributes := #[] }] 48 2 #[] #[{ accessFlags := 18, nameIndex := 18, descriptorIndex := 19, attributes := #[] }, { accessFlags := 18, nameIndex := 14, descriptorIndex := 15, attributes := #[] }, { accessFlags := 2, nameIndex := 22, descriptorIndex := 23, attributes := #[] }])
  fields := #[{ name := "openingBid", type := (.object "com/example/gavelwatch/gavelwatch/model/Money"), accessFlags := 18, slot := 0, constantValue := 0 }, { name := "bids", type := (.object "java/util/List"), accessFlags := 18, slot := 1, constantValue := 0 }, { name := "highest", type := (.object "com/example/gavelwatch/gavelwatch/model/Bid"), accessFlags := 2, slot := 2, constantValue := 0 }]
  methods := #[k2m0, k2m1, k2m2, k2m3, k2m4]
  instanceTypes := #[(.object "com/example/gavelwatch/gavelwatch/model/Money"), (.object "java/util/List"), (.object "com/example/gavelwatch/gavelwatch/model/Bid")]
  staticTypes := #[]
  resolved := Array.replicate 120 none
  statics := none }

def pool3 : Array CpInfo := pool [(1, .methodref 2 3), (0, .class_ 4), (0, .nameAndType 5 6), (0, u "java/lang/Object"), (0, u "<init>"), (0, u "()V"), (0, .class_ 8), (0, u "java/lang/Record")] 13

def k3c0 : Code := { maxStack := 1, maxLocals := 1, code := jdk_30_method_1_code, exceptionTable := #[], attributes := #[] }
def k3m0 : Method := { name := "<init>", desc := "()V", sig := { parameters := [], returnType := none }, accessFlags := 4, code := some k3c0 }
/-- java/lang/Record -/
def k3 : Class := { plain "java/lang/Record" (some 0) with
  accessFlags := 1057
  interfaces := #[]
  cf := some (fileOf pool3 7 #[] #[{ accessFlags := 4, nameIndex := 5, descriptorIndex := 6, attributes := #[] }] 1057 2 #[] #[])
  fields := #[]
  methods := #[k3m0]
  instanceTypes := #[]
  staticTypes := #[]
  resolved := Array.replicate 22 none
  statics := none }

def pool4 : Array CpInfo := pool [(1, .class_ 2), (0, u "java/lang/Comparable"), (0, .class_ 4), (0, u "java/lang/Object")] 7

/-- java/lang/Comparable -/
def k4 : Class := { plain "java/lang/Comparable" (some 0) with
  accessFlags := 1537
  interfaces := #[]
  cf := some (fileOf pool4 1 #[] #[] 1537 3 #[] #[])
  fields := #[]
  methods := #[]
  instanceTypes := #[]
  staticTypes := #[]
  resolved := Array.replicate 12 none
  statics := none }

def pool5 : Array CpInfo := pool [(1, .methodref 2 3), (0, .class_ 4), (0, .nameAndType 5 6), (0, u "java/lang/Record"), (0, u "<init>"), (0, u "()V"), (0, .fieldref 8 9), (0, .class_ 10), (0, .nameAndType 11 12), (0, u "com/example/gavelwatch/gavelwatch/model/Money"), (0, u "cents"), (0, u "J"), (40, u "(J)V"), (0, .methodref 55 56), (0, .class_ 57), (0, .nameAndType 58 59), (0, u "java/lang/Long"), (0, u "compare"), (0, u "(JJ)I"), (30, u "compareTo"), (0, u "(Lcom/example/gavelwatch/gavelwatch/model/Money;)I"), (7, .class_ 100), (0, u "java/lang/Comparable"), (0, u "MAX_DECIMALS"), (0, u "I"), (12, u "()J")] 32

def k5c0 : Code := { maxStack := 3, maxLocals := 3, code := prog_40_method_1_code, exceptionTable := #[], attributes := #[] }
def k5m0 : Method := { name := "<init>", desc := "(J)V", sig := { parameters := [.long], returnType := none }, accessFlags := 1, code := some k5c0 }
def k5c1 : Code := { maxStack := 4, maxLocals := 2, code := prog_40_method_4_code, exceptionTable := #[], attributes := #[] }
def k5m1 : Method := { name := "compareTo", desc := "(Lcom/example/gavelwatch/gavelwatch/model/Money;)I", sig := { parameters := [(.object "com/example/gavelwatch/gavelwatch/model/Money")], returnType := some .int }, accessFlags := 1, code := some k5c1 }
def k5c2 : Code := { maxStack := 2, maxLocals := 1, code := prog_40_method_11_code, exceptionTable := #[], attributes := #[] }
def k5m2 : Method := { name := "cents", desc := "()J", sig := { parameters := [], returnType := some .long }, accessFlags := 1, code := some k5c2 }
/-- com/example/gavelwatch/gavelwatch/model/Money -/
def k5 : Class := { plain "com/example/gavelwatch/gavelwatch/model/Money" (some 3) with
  accessFlags := 49
  interfaces := #[4]
  cf := some (fileOf pool5 8 #[] #[{ accessFlags := 1, nameIndex := 5, descriptorIndex := 53, attributes := #[] }, { accessFlags := 1, nameIndex := 90, descriptorIndex := 91, attributes := #[] }, { accessFlags := 1, nameIndex := 11, descriptorIndex := 115, attributes := #[] }] 49 2 #[99] #[{ accessFlags := 18, nameIndex := 11, descriptorIndex := 12, attributes := #[] }, { accessFlags := 26, nameIndex := 101, descriptorIndex := 102, attributes := #[] }])
  fields := #[{ name := "cents", type := .long, accessFlags := 18, slot := 0, constantValue := 0 }, { name := "MAX_DECIMALS", type := .int, accessFlags := 26, slot := 0, constantValue := 0 }]
  methods := #[k5m0, k5m1, k5m2]
  instanceTypes := #[.long]
  staticTypes := #[.int]
  resolved := Array.replicate 148 none
  statics := none }

def pool6 : Array CpInfo := pool [(8, .class_ 10), (1, u "java/lang/Iterable"), (24, .class_ 36), (0, u "java/lang/Object")] 25

/-- java/lang/Iterable -/
def k6 : Class := { plain "java/lang/Iterable" (some 0) with
  accessFlags := 1537
  interfaces := #[]
  cf := some (fileOf pool6 8 #[] #[] 1537 35 #[] #[])
  fields := #[]
  methods := #[]
  instanceTypes := #[]
  staticTypes := #[]
  resolved := Array.replicate 62 none
  statics := none }

def pool7 : Array CpInfo := pool [(10, .class_ 12), (1, u "java/util/Collection"), (47, .class_ 61), (0, u "java/lang/Object"), (0, .class_ 63), (0, u "java/lang/Iterable")] 51

/-- java/util/Collection -/
def k7 : Class := { plain "java/util/Collection" (some 0) with
  accessFlags := 1537
  interfaces := #[6]
  cf := some (fileOf pool7 10 #[] #[] 1537 60 #[62] #[])
  fields := #[]
  methods := #[]
  instanceTypes := #[]
  staticTypes := #[]
  resolved := Array.replicate 115 none
  statics := none }

def pool8 : Array CpInfo := pool [(1, .methodref 2 3), (0, .class_ 4), (0, .nameAndType 5 6), (0, u "java/lang/Object"), (0, u "<init>"), (0, u "()V"), (1, .class_ 10), (1, u "java/util/AbstractCollection"), (66, .class_ 78), (0, u "java/util/Collection")] 81

def k8c0 : Code := { maxStack := 1, maxLocals := 1, code := jdk_22_method_1_code, exceptionTable := #[], attributes := #[] }
def k8m0 : Method := { name := "<init>", desc := "()V", sig := { parameters := [], returnType := none }, accessFlags := 4, code := some k8c0 }
/-- java/util/AbstractCollection -/
def k8 : Class := { plain "java/util/AbstractCollection" (some 0) with
  accessFlags := 1057
  interfaces := #[7]
  cf := some (fileOf pool8 8 #[] #[{ accessFlags := 4, nameIndex := 5, descriptorIndex := 6, attributes := #[] }] 1057 2 #[77] #[])
  fields := #[]
  methods := #[k8m0]
  instanceTypes := #[]
  staticTypes := #[]
  resolved := Array.replicate 160 none
  statics := none }

def pool9 : Array CpInfo := pool [(8, .class_ 10), (1, u "java/util/SequencedCollection"), (15, .class_ 27), (0, u "java/lang/Object"), (0, .class_ 29), (0, u "java/util/Collection")] 27

/-- java/util/SequencedCollection -/
def k9 : Class := { plain "java/util/SequencedCollection" (some 0) with
  accessFlags := 1537
  interfaces := #[7]
  cf := some (fileOf pool9 8 #[] #[] 1537 26 #[28] #[])
  fields := #[]
  methods := #[]
  instanceTypes := #[]
  staticTypes := #[]
  resolved := Array.replicate 57 none
  statics := none }

def pool10 : Array CpInfo := pool [(8, .class_ 10), (1, u "java/util/List"), (49, u "add"), (3, u "(Ljava/lang/Object;)Z"), (38, .class_ 104), (0, u "java/lang/Object"), (15, .class_ 121), (0, u "java/util/SequencedCollection")] 129

def k10m0 : Method := { name := "add", desc := "(Ljava/lang/Object;)Z", sig := { parameters := [(.object "java/lang/Object")], returnType := some .boolean }, accessFlags := 1025, code := none }
/-- java/util/List -/
def k10 : Class := { plain "java/util/List" (some 0) with
  accessFlags := 1537
  interfaces := #[9]
  cf := some (fileOf pool10 8 #[] #[{ accessFlags := 1025, nameIndex := 60, descriptorIndex := 64, attributes := #[] }] 1537 103 #[120] #[])
  fields := #[]
  methods := #[k10m0]
  instanceTypes := #[]
  staticTypes := #[]
  resolved := Array.replicate 251 none
  statics := none }

def pool11 : Array CpInfo := pool [(1, .methodref 2 3), (0, .class_ 4), (0, .nameAndType 5 6), (0, u "java/util/AbstractCollection"), (0, u "<init>"), (0, u "()V"), (0, .fieldref 8 9), (0, .class_ 10), (0, .nameAndType 11 12), (0, u "java/util/AbstractList"), (0, u "modCount"), (0, u "I"), (64, .class_ 78), (0, u "java/util/AbstractList$Itr"), (3, .class_ 83), (0, u "java/util/AbstractList$ListItr"), (9, .class_ 94), (0, u "java/util/AbstractList$RandomAccessSubList"), (3, .class_ 99), (0, u "java/util/AbstractList$SubList"), (33, .class_ 134), (0, u "java/util/List"), (73, .class_ 209), (0, u "java/util/AbstractList$SubList$1"), (0, .class_ 211), (0, u "java/util/AbstractList$RandomAccessSpliterator")] 6

def k11c0 : Code := { maxStack := 2, maxLocals := 1, code := jdk_39_method_1_code, exceptionTable := #[], attributes := #[] }
def k11m0 : Method := { name := "<init>", desc := "()V", sig := { parameters := [], returnType := none }, accessFlags := 4, code := some k11c0 }
/-- java/util/AbstractList -/
def k11 : Class := { plain "java/util/AbstractList" (some 8) with
  accessFlags := 1057
  interfaces := #[10]
  cf := some (fileOf pool11 8 #[.nestMembers #[93, 98, 208, 210, 82, 77]] #[{ accessFlags := 4, nameIndex := 5, descriptorIndex := 6, attributes := #[] }] 1057 2 #[133] #[{ accessFlags := 132, nameIndex := 11, descriptorIndex := 12, attributes := #[] }])
  fields := #[{ name := "modCount", type := .int, accessFlags := 132, slot := 0, constantValue := 0 }]
  methods := #[k11m0]
  instanceTypes := #[.int]
  staticTypes := #[]
  resolved := Array.replicate 218 none
  statics := none }

def pool12 : Array CpInfo := pool [(1, .class_ 2), (0, u "java/util/RandomAccess"), (0, .class_ 4), (0, u "java/lang/Object")] 2

/-- java/util/RandomAccess -/
def k12 : Class := { plain "java/util/RandomAccess" (some 0) with
  accessFlags := 1537
  interfaces := #[]
  cf := some (fileOf pool12 1 #[] #[] 1537 3 #[] #[])
  fields := #[]
  methods := #[]
  instanceTypes := #[]
  staticTypes := #[]
  resolved := Array.replicate 7 none
  statics := none }

def pool13 : Array CpInfo := pool [(1, .class_ 2), (0, u "java/lang/Cloneable"), (0, .class_ 4), (0, u "java/lang/Object")] 2

/-- java/lang/Cloneable -/
def k13 : Class := { plain "java/lang/Cloneable" (some 0) with
  accessFlags := 1537
  interfaces := #[]
  cf := some (fileOf pool13 1 #[] #[] 1537 3 #[] #[])
  fields := #[]
  methods := #[]
  instanceTypes := #[]
  staticTypes := #[]
  resolved := Array.replicate 7 none
  statics := none }

def pool14 : Array CpInfo := pool [(1, .class_ 2), (0, u "java/io/Serializable"), (0, .class_ 4), (0, u "java/lang/Object")] 2

/-- java/io/Serializable -/
def k14 : Class := { plain "java/io/Serializable" (some 0) with
  accessFlags := 1537
  interfaces := #[]
  cf := some (fileOf pool14 1 #[] #[] 1537 3 #[] #[])
  fields := #[]
  methods := #[]
  instanceTypes := #[]
  staticTypes := #[]
  resolved := Array.replicate 7 none
  statics := none }

def pool15 : Array CpInfo := pool [(1, .methodref 2 3), (0, .class_ 4), (0, .nameAndType 5 6), (0, u "java/util/AbstractList"), (0, u "<init>"), (0, u "()V"), (0, .class_ 8), (0, u "java/lang/Object"), (0, .fieldref 10 11), (0, .class_ 12), (0, .nameAndType 13 14), (0, u "java/util/ArrayList"), (0, u "elementData"), (0, u "[Ljava/lang/Object;"), (2, u "EMPTY_ELEMENTDATA"), (21, .fieldref 10 40), (0, .nameAndType 41 14), (0, u "DEFAULTCAPACITY_EMPTY_ELEMENTDATA"), (5, u "()[Ljava/lang/Object;"), (0, .fieldref 10 49), (0, .nameAndType 50 51), (0, u "size"), (0, u "I"), (11, .fieldref 10 64), (0, .nameAndType 65 51), (0, u "modCount"), (3, .methodref 10 70), (0, .nameAndType 71 72), (0, u "grow"), (0, u "(I)[Ljava/lang/Object;"), (6, .methodref 80 81), (0, .class_ 82), (0, .nameAndType 83 84), (0, u "java/lang/Math"), (0, u "max"), (0, u "(II)I"), (11, u "(Ljava/lang/Object;)Z"), (32, .methodref 10 130), (0, .nameAndType 71 47), (0, .methodref 10 132), (0, .nameAndType 133 134), (0, u "add"), (0, u "(Ljava/lang/Object;[Ljava/lang/Object;I)V"), (13, .class_ 149), (0, u "java/util/List"), (112, .class_ 263), (0, u "java/util/ArrayList$ListItr"), (3, .class_ 268), (0, u "java/util/ArrayList$Itr"), (7, .class_ 277), (0, u "java/util/ArrayList$SubList"), (12, .class_ 291), (0, u "java/util/ArrayList$ArrayListSpliterator"), (37, .class_ 330), (0, u "java/util/RandomAccess"), (0, .class_ 332), (0, u "java/lang/Cloneable"), (0, .class_ 334), (0, u "java/io/Serializable"), (0, u "serialVersionUID"), (0, u "J"), (3, u "DEFAULT_CAPACITY"), (159, .class_ 501), (0, u "java/util/ArrayList$SubList$2"), (0, .class_ 503), (0, u "java/util/ArrayList$SubList$1")] 5

def k15c0 : Code := { maxStack := 2, maxLocals := 1, code := jdk_38_method_2_code, exceptionTable := #[], attributes := #[] }
def k15m0 : Method := { name := "<init>", desc := "()V", sig := { parameters := [], returnType := none }, accessFlags := 1, code := some k15c0 }
def k15c1 : Code := { maxStack := 4, maxLocals := 4, code := jdk_38_method_6_code, exceptionTable := #[], attributes := #[] }
def k15m1 : Method := { name := "grow", desc := "(I)[Ljava/lang/Object;", sig := { parameters := [.int], returnType := some (.array (.object "java/lang/Object")) }, accessFlags := 2, code := some k15c1 }
def k15c2 : Code := { maxStack := 3, maxLocals := 1, code := jdk_38_method_7_code, exceptionTable := #[], attributes := #[] }
def k15m2 : Method := { name := "grow", desc := "()[Ljava/lang/Object;", sig := { parameters := [], returnType := some (.array (.object "java/lang/Object")) }, accessFlags := 2, code := some k15c2 }
def k15c3 : Code := { maxStack := 3, maxLocals := 4, code := jdk_38_method_24_code, exceptionTable := #[], attributes := #[] }
def k15m3 : Method := { name := "add", desc := "(Ljava/lang/Object;[Ljava/lang/Object;I)V", sig := { parameters := [(.object "java/lang/Object"), (.array (.object "java/lang/Object")), .int], returnType := none }, accessFlags := 2, code := some k15c3 }
def k15c4 : Code := { maxStack := 4, maxLocals := 2, code := jdk_38_method_25_code, exceptionTable := #[], attributes := #[] }
def k15m4 : Method := { name := "add", desc := "(Ljava/lang/Object;)Z", sig := { parameters := [(.object "java/lang/Object")], returnType := some .boolean }, accessFlags := 1, code := some k15c4 }
/-- java/util/ArrayList -/
def k15 : Class := { plain "java/util/ArrayList" (some 11) with
  accessFlags := 33
  interfaces := #[10, 12, 13, 14]
  cf := some (fileOf pool15 10 #[.nestMembers #[290, 276, 500, 502, 262, 267]] #[{ accessFlags := 1, nameIndex := 5, descriptorIndex := 6, attributes := #[] }, { accessFlags := 2, nameIndex := 71, descriptorIndex := 72, attributes := #[] }, { accessFlags := 2, nameIndex := 71, descriptorIndex := 47, attributes := #[] }, { accessFlags := 2, nameIndex := 133, descriptorIndex := 134, attributes := #[] }, { accessFlags := 1, nameIndex := 133, descriptorIndex := 96, attributes := #[] }] 33 2 #[148, 329, 331, 333] #[{ accessFlags := 26, nameIndex := 335, descriptorIndex := 336, attributes := #[] }, { accessFlags := 26, nameIndex := 340, descriptorIndex := 51, attributes := #[] }, { accessFlags := 26, nameIndex := 17, descriptorIndex := 14, attributes := #[] }, { accessFlags := 26, nameIndex := 41, descriptorIndex := 14, attributes := #[] }, { accessFlags := 128, nameIndex := 13, descriptorIndex := 14, attributes := #[] }, { accessFlags := 2, nameIndex := 50, descriptorIndex := 51, attributes := #[] }])
  fields := #[{ name := "serialVersionUID", type := .long, accessFlags := 26, slot := 0, constantValue := 0 }, { name := "DEFAULT_CAPACITY", type := .int, accessFlags := 26, slot := 1, constantValue := 0 }, { name := "EMPTY_ELEMENTDATA", type := (.array (.object "java/lang/Object")), accessFlags := 26, slot := 2, constantValue := 0 }, { name := "DEFAULTCAPACITY_EMPTY_ELEMENTDATA", type := (.array (.object "java/lang/Object")), accessFlags := 26, slot := 3, constantValue := 0 }, { name := "elementData", type := (.array (.object "java/lang/Object")), accessFlags := 128, slot := 1, constantValue := 0 }, { name := "size", type := .int, accessFlags := 2, slot := 2, constantValue := 0 }]
  methods := #[k15m0, k15m1, k15m2, k15m3, k15m4]
  instanceTypes := #[.int, (.array (.object "java/lang/Object")), .int]
  staticTypes := #[.long, .int, (.array (.object "java/lang/Object")), (.array (.object "java/lang/Object"))]
  resolved := Array.replicate 509 none
  statics := some 0 }

def pool16 : Array CpInfo := pool [(1, .class_ 2), (0, u "java/lang/Math"), (1, .class_ 6), (1, u "java/lang/Object"), (0, u "<init>"), (0, u "()V"), (89, .class_ 100), (1, u "java/lang/Math$RandomNumberGeneratorHolder"), (20, u "(JJ)J"), (50, u "negativeZeroFloatBits"), (0, u "J"), (2, u "negativeZeroDoubleBits"), (21, u "max"), (46, u "$assertionsDisabled"), (0, u "Z"), (88, u "(II)I"), (2, u "twoToTheDoubleScaleDown"), (0, u "D"), (4, u "twoToTheDoubleScaleUp"), (9, u "E"), (3, u "PI"), (2, u "TAU"), (2, u "DEGREES_TO_RADIANS"), (0, u "RADIANS_TO_DEGREES")] 94

def k16m0 : Method := { name := "<init>", desc := "()V", sig := { parameters := [], returnType := none }, accessFlags := 2, code := none }
def k16c1 : Code := { maxStack := 2, maxLocals := 2, code := jdk_29_method_65_code, exceptionTable := #[], attributes := #[] }
def k16m1 : Method := { name := "max", desc := "(II)I", sig := { parameters := [.int, .int], returnType := some .int }, accessFlags := 9, code := some k16c1 }
def k16c2 : Code := { maxStack := 4, maxLocals := 4, code := jdk_29_method_66_code, exceptionTable := #[], attributes := #[] }
def k16m2 : Method := { name := "max", desc := "(JJ)J", sig := { parameters := [.long, .long], returnType := some .long }, accessFlags := 9, code := some k16c2 }
/-- java/lang/Math -/
def k16 : Class := { plain "java/lang/Math" (some 0) with
  accessFlags := 49
  interfaces := #[]
  cf := some (fileOf pool16 1 #[.nestMembers #[98]] #[{ accessFlags := 2, nameIndex := 7, descriptorIndex := 8, attributes := #[] }, { accessFlags := 9, nameIndex := 198, descriptorIndex := 335, attributes := #[] }, { accessFlags := 9, nameIndex := 198, descriptorIndex := 121, attributes := #[] }] 49 4 #[] #[{ accessFlags := 25, nameIndex := 354, descriptorIndex := 339, attributes := #[] }, { accessFlags := 25, nameIndex := 358, descriptorIndex := 339, attributes := #[] }, { accessFlags := 25, nameIndex := 361, descriptorIndex := 339, attributes := #[] }, { accessFlags := 26, nameIndex := 364, descriptorIndex := 339, attributes := #[] }, { accessFlags := 26, nameIndex := 365, descriptorIndex := 339, attributes := #[] }, { accessFlags := 26, nameIndex := 172, descriptorIndex := 173, attributes := #[] }, { accessFlags := 26, nameIndex := 176, descriptorIndex := 173, attributes := #[] }, { accessFlags := 8, nameIndex := 344, descriptorIndex := 339, attributes := #[] }, { accessFlags := 8, nameIndex := 338, descriptorIndex := 339, attributes := #[] }, { accessFlags := 4120, nameIndex := 245, descriptorIndex := 246, attributes := #[] }])
  fields := #[{ name := "E", type := .double, accessFlags := 25, slot := 0, constantValue := 0 }, { name := "PI", type := .double, accessFlags := 25, slot := 1, constantValue := 0 }, { name := "TAU", type := .double, accessFlags := 25, slot := 2, constantValue := 0 }, { name := "DEGREES_TO_RADIANS", type := .double, accessFlags := 26, slot := 3, constantValue := 0 }, { name := "RADIANS_TO_DEGREES", type := .double, accessFlags := 26, slot := 4, constantValue := 0 }, { name := "negativeZeroFloatBits", type := .long, accessFlags := 26, slot := 5, constantValue := 0 }, { name := "negativeZeroDoubleBits", type := .long, accessFlags := 26, slot := 6, constantValue := 0 }, { name := "twoToTheDoubleScaleUp", type := .double, accessFlags := 8, slot := 7, constantValue := 0 }, { name := "twoToTheDoubleScaleDown", type := .double, accessFlags := 8, slot := 8, constantValue := 0 }, { name := "$assertionsDisabled", type := .boolean, accessFlags := 4120, slot := 9, constantValue := 0 }]
  methods := #[k16m0, k16m1, k16m2]
  instanceTypes := #[]
  staticTypes := #[.double, .double, .double, .double, .double, .long, .long, .double, .double, .boolean]
  resolved := Array.replicate 460 none
  statics := none }

def pool17 : Array CpInfo := pool [(2, .class_ 4), (1, u "java/lang/CharSequence"), (42, .class_ 48), (0, u "java/lang/CharSequence$1CodePointIterator"), (10, .class_ 60), (0, u "java/lang/CharSequence$1CharIterator"), (5, .class_ 67), (0, u "java/lang/Object")] 63

/-- java/lang/CharSequence -/
def k17 : Class := { plain "java/lang/CharSequence" (some 0) with
  accessFlags := 1537
  interfaces := #[]
  cf := some (fileOf pool17 2 #[.nestMembers #[47, 59]] #[] 1537 66 #[] #[])
  fields := #[]
  methods := #[]
  instanceTypes := #[]
  staticTypes := #[]
  resolved := Array.replicate 131 none
  statics := none }

def pool18 : Array CpInfo := pool [(1, .class_ 2), (0, u "java/lang/constant/Constable"), (0, .class_ 4), (0, u "java/lang/Object")] 6

/-- java/lang/constant/Constable -/
def k18 : Class := { plain "java/lang/constant/Constable" (some 0) with
  accessFlags := 1537
  interfaces := #[]
  cf := some (fileOf pool18 1 #[] #[] 1537 3 #[] #[])
  fields := #[]
  methods := #[]
  instanceTypes := #[]
  staticTypes := #[]
  resolved := Array.replicate 11 none
  statics := none }

def pool19 : Array CpInfo := pool [(1, .class_ 2), (0, u "java/lang/constant/ConstantDesc"), (0, .class_ 4), (0, u "java/lang/Object")] 32

/-- java/lang/constant/ConstantDesc -/
def k19 : Class := { plain "java/lang/constant/ConstantDesc" (some 0) with
  accessFlags := 1537
  interfaces := #[]
  cf := some (fileOf pool19 1 #[] #[] 1537 3 #[] #[])
  fields := #[]
  methods := #[]
  instanceTypes := #[]
  staticTypes := #[]
  resolved := Array.replicate 37 none
  statics := none }

def pool20 : Array CpInfo := pool [(2, .class_ 4), (1, u "java/lang/Object"), (0, u "<init>"), (0, u "()V"), (3, .class_ 12), (1, u "java/lang/String"), (0, u "value"), (0, u "[B"), (2, u "coder"), (0, u "B"), (2, u "hash"), (0, u "I"), (2, u "hashIsZero"), (0, u "Z"), (13, u "COMPACT_STRINGS"), (534, .class_ 576), (0, u "java/lang/CharSequence"), (22, u "CASE_INSENSITIVE_ORDER"), (0, u "Ljava/util/Comparator;"), (500, u "serialPersistentFields"), (0, u "[Ljava/io/ObjectStreamField;"), (0, .class_ 1104), (0, u "java/lang/String$CaseInsensitiveComparator"), (1, .class_ 1107), (0, u "java/io/Serializable"), (0, .class_ 1109), (0, u "java/lang/Comparable"), (0, .class_ 1111), (0, u "java/lang/constant/Constable"), (0, .class_ 1113), (0, u "java/lang/constant/ConstantDesc"), (2, u "serialVersionUID"), (0, u "J"), (3, u "REPL"), (0, u "C"), (2, u "LATIN1"), (1, u "UTF16")] 323

def k20m0 : Method := { name := "<init>", desc := "()V", sig := { parameters := [], returnType := none }, accessFlags := 1, code := none }
/-- java/lang/String -/
def k20 : Class := { plain "java/lang/String" (some 0) with
  accessFlags := 49
  interfaces := #[14, 4, 17, 18, 19]
  cf := some (fileOf pool20 10 #[.nestMembers #[1103]] #[{ accessFlags := 1, nameIndex := 5, descriptorIndex := 6, attributes := #[] }] 49 2 #[1106, 1108, 575, 1110, 1112] #[{ accessFlags := 18, nameIndex := 13, descriptorIndex := 14, attributes := #[] }, { accessFlags := 18, nameIndex := 17, descriptorIndex := 18, attributes := #[] }, { accessFlags := 2, nameIndex := 21, descriptorIndex := 22, attributes := #[] }, { accessFlags := 2, nameIndex := 25, descriptorIndex := 26, attributes := #[] }, { accessFlags := 26, nameIndex := 1116, descriptorIndex := 1117, attributes := #[] }, { accessFlags := 24, nameIndex := 40, descriptorIndex := 26, attributes := #[] }, { accessFlags := 26, nameIndex := 1101, descriptorIndex := 1102, attributes := #[] }, { accessFlags := 26, nameIndex := 1121, descriptorIndex := 1122, attributes := #[] }, { accessFlags := 25, nameIndex := 599, descriptorIndex := 600, attributes := #[] }, { accessFlags := 24, nameIndex := 1125, descriptorIndex := 18, attributes := #[] }, { accessFlags := 24, nameIndex := 1127, descriptorIndex := 18, attributes := #[] }])
  fields := #[{ name := "value", type := (.array .byte), accessFlags := 18, slot := 0, constantValue := 0 }, { name := "coder", type := .byte, accessFlags := 18, slot := 1, constantValue := 0 }, { name := "hash", type := .int, accessFlags := 2, slot := 2, constantValue := 0 }, { name := "hashIsZero", type := .boolean, accessFlags := 2, slot := 3, constantValue := 0 }, { name := "serialVersionUID", type := .long, accessFlags := 26, slot := 0, constantValue := 0 }, { name := "COMPACT_STRINGS", type := .boolean, accessFlags := 24, slot := 1, constantValue := 0 }, { name := "serialPersistentFields", type := (.array (.object "java/io/ObjectStreamField")), accessFlags := 26, slot := 2, constantValue := 0 }, { name := "REPL", type := .char, accessFlags := 26, slot := 3, constantValue := 0 }, { name := "CASE_INSENSITIVE_ORDER", type := (.object "java/util/Comparator"), accessFlags := 25, slot := 4, constantValue := 0 }, { name := "LATIN1", type := .byte, accessFlags := 24, slot := 5, constantValue := 0 }, { name := "UTF16", type := .byte, accessFlags := 24, slot := 6, constantValue := 0 }]
  methods := #[k20m0]
  instanceTypes := #[(.array .byte), .byte, .int, .boolean]
  staticTypes := #[.long, .boolean, (.array (.object "java/io/ObjectStreamField")), .char, (.object "java/util/Comparator"), .byte, .byte]
  resolved := Array.replicate 1451 none
  statics := none }

def pool21 : Array CpInfo := pool [(2, .class_ 4), (1, u "java/lang/Enum"), (0, u "name"), (0, u "Ljava/lang/String;"), (2, u "ordinal"), (0, u "I"), (1, .class_ 14), (1, u "java/lang/Object"), (4, u "hash"), (86, .class_ 108), (1, u "java/lang/Enum$EnumDesc"), (2, .class_ 112), (0, u "java/lang/constant/Constable"), (0, .class_ 114), (0, u "java/lang/Comparable"), (0, .class_ 116), (0, u "java/io/Serializable")] 87

/-- java/lang/Enum -/
def k21 : Class := { plain "java/lang/Enum" (some 0) with
  accessFlags := 1057
  interfaces := #[18, 4, 14]
  cf := some (fileOf pool21 2 #[.nestMembers #[106]] #[] 1057 12 #[111, 113, 115] #[{ accessFlags := 18, nameIndex := 5, descriptorIndex := 6, attributes := #[] }, { accessFlags := 18, nameIndex := 9, descriptorIndex := 10, attributes := #[] }, { accessFlags := 2, nameIndex := 19, descriptorIndex := 10, attributes := #[] }])
  fields := #[{ name := "name", type := (.object "java/lang/String"), accessFlags := 18, slot := 0, constantValue := 0 }, { name := "ordinal", type := .int, accessFlags := 18, slot := 1, constantValue := 0 }, { name := "hash", type := .int, accessFlags := 2, slot := 2, constantValue := 0 }]
  methods := #[]
  instanceTypes := #[(.object "java/lang/String"), .int, .int]
  staticTypes := #[]
  resolved := Array.replicate 204 none
  statics := none }

def pool22 : Array CpInfo := pool [(1, .class_ 2), (0, u "java/util/concurrent/TimeUnit"), (2, u "NANOSECONDS"), (0, u "Ljava/util/concurrent/TimeUnit;"), (2, u "MICROSECONDS"), (2, u "MILLISECONDS"), (2, u "SECONDS"), (2, u "MINUTES"), (2, u "HOURS"), (2, u "DAYS"), (2, u "$VALUES"), (0, u "[Ljava/util/concurrent/TimeUnit;"), (6, .class_ 37), (1, u "java/lang/Enum"), (6, .fieldref 1 45), (0, .nameAndType 46 47), (0, u "scale"), (0, u "J"), (4, .fieldref 1 53), (0, .nameAndType 54 47), (0, u "maxNanos"), (4, u "microRatio"), (2, u "maxMicros"), (4, u "milliRatio"), (0, u "I"), (2, u "maxMillis"), (4, u "secRatio"), (2, u "maxSecs"), (8, u "toNanos"), (0, u "(J)J"), (73, .class_ 165), (1, u "java/util/concurrent/TimeUnit$1"), (46, u "NANO_SCALE"), (3, u "MICRO_SCALE"), (0, u "MILLI_SCALE"), (0, u "SECOND_SCALE"), (0, u "MINUTE_SCALE"), (0, u "HOUR_SCALE"), (0, u "DAY_SCALE")] 61

def k22c0 : Code := { maxStack := 6, maxLocals := 7, code := jdk_2799_method_7_code, exceptionTable := #[], attributes := #[] }
def k22m0 : Method := { name := "toNanos", desc := "(J)J", sig := { parameters := [.long], returnType := some .long }, accessFlags := 1, code := some k22c0 }
/-- java/util/concurrent/TimeUnit -/
def k22 : Class := { plain "java/util/concurrent/TimeUnit" (some 21) with
  accessFlags := 16433
  interfaces := #[]
  cf := some (fileOf pool22 1 #[.nestMembers #[163]] #[{ accessFlags := 1, nameIndex := 88, descriptorIndex := 89, attributes := #[] }] 16433 35 #[] #[{ accessFlags := 16409, nameIndex := 5, descriptorIndex := 6, attributes := #[] }, { accessFlags := 16409, nameIndex := 9, descriptorIndex := 6, attributes := #[] }, { accessFlags := 16409, nameIndex := 12, descriptorIndex := 6, attributes := #[] }, { accessFlags := 16409, nameIndex := 15, descriptorIndex := 6, attributes := #[] }, { accessFlags := 16409, nameIndex := 18, descriptorIndex := 6, attributes := #[] }, { accessFlags := 16409, nameIndex := 21, descriptorIndex := 6, attributes := #[] }, { accessFlags := 16409, nameIndex := 24, descriptorIndex := 6, attributes := #[] }, { accessFlags := 26, nameIndex := 212, descriptorIndex := 47, attributes := #[] }, { accessFlags := 26, nameIndex := 216, descriptorIndex := 47, attributes := #[] }, { accessFlags := 26, nameIndex := 217, descriptorIndex := 47, attributes := #[] }, { accessFlags := 26, nameIndex := 218, descriptorIndex := 47, attributes := #[] }, { accessFlags := 26, nameIndex := 219, descriptorIndex := 47, attributes := #[] }, { accessFlags := 26, nameIndex := 220, descriptorIndex := 47, attributes := #[] }, { accessFlags := 26, nameIndex := 221, descriptorIndex := 47, attributes := #[] }, { accessFlags := 18, nameIndex := 46, descriptorIndex := 47, attributes := #[] }, { accessFlags := 18, nameIndex := 54, descriptorIndex := 47, attributes := #[] }, { accessFlags := 18, nameIndex := 62, descriptorIndex := 47, attributes := #[] }, { accessFlags := 18, nameIndex := 71, descriptorIndex := 47, attributes := #[] }, { accessFlags := 18, nameIndex := 79, descriptorIndex := 47, attributes := #[] }, { accessFlags := 18, nameIndex := 59, descriptorIndex := 47, attributes := #[] }, { accessFlags := 18, nameIndex := 67, descriptorIndex := 68, attributes := #[] }, { accessFlags := 18, nameIndex := 76, descriptorIndex := 68, attributes := #[] }, { accessFlags := 4122, nameIndex := 27, descriptorIndex := 28, attributes := #[] }])
  fields := #[{ name := "NANOSECONDS", type := (.object "java/util/concurrent/TimeUnit"), accessFlags := 16409, slot := 0, constantValue := 0 }, { name := "MICROSECONDS", type := (.object "java/util/concurrent/TimeUnit"), accessFlags := 16409, slot := 1, constantValue := 0 }, { name := "MILLISECONDS", type := (.object "java/util/concurrent/TimeUnit"), accessFlags := 16409, slot := 2, constantValue := 0 }, { name := "SECONDS", type := (.object "java/util/concurrent/TimeUnit"), accessFlags := 16409, slot := 3, constantValue := 0 }, { name := "MINUTES", type := (.object "java/util/concurrent/TimeUnit"), accessFlags := 16409, slot := 4, constantValue := 0 }, { name := "HOURS", type := (.object "java/util/concurrent/TimeUnit"), accessFlags := 16409, slot := 5, constantValue := 0 }, { name := "DAYS", type := (.object "java/util/concurrent/TimeUnit"), accessFlags := 16409, slot := 6, constantValue := 0 }, { name := "NANO_SCALE", type := .long, accessFlags := 26, slot := 7, constantValue := 0 }, { name := "MICRO_SCALE", type := .long, accessFlags := 26, slot := 8, constantValue := 0 }, { name := "MILLI_SCALE", type := .long, accessFlags := 26, slot := 9, constantValue := 0 }, { name := "SECOND_SCALE", type := .long, accessFlags := 26, slot := 10, constantValue := 0 }, { name := "MINUTE_SCALE", type := .long, accessFlags := 26, slot := 11, constantValue := 0 }, { name := "HOUR_SCALE", type := .long, accessFlags := 26, slot := 12, constantValue := 0 }, { name := "DAY_SCALE", type := .long, accessFlags := 26, slot := 13, constantValue := 0 }, { name := "scale", type := .long, accessFlags := 18, slot := 3, constantValue := 0 }, { name := "maxNanos", type := .long, accessFlags := 18, slot := 4, constantValue := 0 }, { name := "maxMicros", type := .long, accessFlags := 18, slot := 5, constantValue := 0 }, { name := "maxMillis", type := .long, accessFlags := 18, slot := 6, constantValue := 0 }, { name := "maxSecs", type := .long, accessFlags := 18, slot := 7, constantValue := 0 }, { name := "microRatio", type := .long, accessFlags := 18, slot := 8, constantValue := 0 }, { name := "milliRatio", type := .int, accessFlags := 18, slot := 9, constantValue := 0 }, { name := "secRatio", type := .int, accessFlags := 18, slot := 10, constantValue := 0 }, { name := "$VALUES", type := (.array (.object "java/util/concurrent/TimeUnit")), accessFlags := 4122, slot := 14, constantValue := 0 }]
  methods := #[k22m0]
  instanceTypes := #[(.object "java/lang/String"), .int, .int, .long, .long, .long, .long, .long, .long, .int, .int]
  staticTypes := #[(.object "java/util/concurrent/TimeUnit"), (.object "java/util/concurrent/TimeUnit"), (.object "java/util/concurrent/TimeUnit"), (.object "java/util/concurrent/TimeUnit"), (.object "java/util/concurrent/TimeUnit"), (.object "java/util/concurrent/TimeUnit"), (.object "java/util/concurrent/TimeUnit"), .long, .long, .long, .long, .long, .long, .long, (.array (.object "java/util/concurrent/TimeUnit"))]
  resolved := Array.replicate 283 none
  statics := some 1 }

def pool23 : Array CpInfo := pool [(2, .class_ 4), (1, u "java/lang/Object"), (0, u "<init>"), (0, u "()V"), (1, .class_ 10), (1, u "java/lang/Number"), (2, .class_ 14), (0, u "java/io/Serializable"), (0, u "serialVersionUID"), (0, u "J")] 20

def k23m0 : Method := { name := "<init>", desc := "()V", sig := { parameters := [], returnType := none }, accessFlags := 1, code := none }
/-- java/lang/Number -/
def k23 : Class := { plain "java/lang/Number" (some 0) with
  accessFlags := 1057
  interfaces := #[14]
  cf := some (fileOf pool23 8 #[] #[{ accessFlags := 1, nameIndex := 5, descriptorIndex := 6, attributes := #[] }] 1057 2 #[13] #[{ accessFlags := 26, nameIndex := 15, descriptorIndex := 16, attributes := #[] }])
  fields := #[{ name := "serialVersionUID", type := .long, accessFlags := 26, slot := 0, constantValue := 0 }]
  methods := #[k23m0]
  instanceTypes := #[]
  staticTypes := #[.long]
  resolved := Array.replicate 37 none
  statics := none }

def pool24 : Array CpInfo := pool [(1, .class_ 2), (0, u "java/lang/Long"), (232, .class_ 237), (1, u "java/lang/Long$LongCache"), (33, .class_ 272), (0, u "java/lang/Number"), (2, u "value"), (0, u "J"), (27, u "compare"), (0, u "(JJ)I"), (55, u "TYPE"), (0, u "Ljava/lang/Class;"), (0, .class_ 364), (0, u "java/lang/Comparable"), (0, .class_ 366), (0, u "java/lang/constant/Constable"), (0, .class_ 368), (0, u "java/lang/constant/ConstantDesc"), (0, u "MIN_VALUE"), (1, u "MAX_VALUE"), (4, u "SIZE"), (0, u "I"), (1, u "BYTES"), (1, u "serialVersionUID")] 142

def k24c0 : Code := { maxStack := 4, maxLocals := 4, code := jdk_35_method_42_code, exceptionTable := #[], attributes := #[] }
def k24m0 : Method := { name := "compare", desc := "(JJ)I", sig := { parameters := [.long, .long], returnType := some .int }, accessFlags := 9, code := some k24c0 }
/-- java/lang/Long -/
def k24 : Class := { plain "java/lang/Long" (some 23) with
  accessFlags := 49
  interfaces := #[4, 18, 19]
  cf := some (fileOf pool24 1 #[.nestMembers #[235]] #[{ accessFlags := 9, nameIndex := 304, descriptorIndex := 305, attributes := #[] }] 49 271 #[363, 365, 367] #[{ accessFlags := 25, nameIndex := 369, descriptorIndex := 276, attributes := #[] }, { accessFlags := 25, nameIndex := 371, descriptorIndex := 276, attributes := #[] }, { accessFlags := 25, nameIndex := 361, descriptorIndex := 362, attributes := #[] }, { accessFlags := 18, nameIndex := 275, descriptorIndex := 276, attributes := #[] }, { accessFlags := 25, nameIndex := 376, descriptorIndex := 377, attributes := #[] }, { accessFlags := 25, nameIndex := 379, descriptorIndex := 377, attributes := #[] }, { accessFlags := 26, nameIndex := 381, descriptorIndex := 276, attributes := #[] }])
  fields := #[{ name := "MIN_VALUE", type := .long, accessFlags := 25, slot := 0, constantValue := 0 }, { name := "MAX_VALUE", type := .long, accessFlags := 25, slot := 1, constantValue := 0 }, { name := "TYPE", type := (.object "java/lang/Class"), accessFlags := 25, slot := 2, constantValue := 0 }, { name := "value", type := .long, accessFlags := 18, slot := 0, constantValue := 0 }, { name := "SIZE", type := .int, accessFlags := 25, slot := 3, constantValue := 0 }, { name := "BYTES", type := .int, accessFlags := 25, slot := 4, constantValue := 0 }, { name := "serialVersionUID", type := .long, accessFlags := 26, slot := 5, constantValue := 0 }]
  methods := #[k24m0]
  instanceTypes := #[.long]
  staticTypes := #[.long, .long, (.object "java/lang/Class"), .int, .int, .long]
  resolved := Array.replicate 524 none
  statics := none }

def pool25 : Array CpInfo := pool [(1, .methodref 2 3), (0, .class_ 4), (0, .nameAndType 5 6), (0, u "java/lang/Record"), (0, u "<init>"), (0, u "()V"), (0, .string 8), (0, u "bidder"), (0, .methodref 10 11), (0, .class_ 12), (0, .nameAndType 13 14), (0, u "java/util/Objects"), (0, u "requireNonNull"), (0, u "(Ljava/lang/Object;Ljava/lang/String;)Ljava/lang/Object;"), (0, .string 16), (0, u "amount"), (0, .fieldref 18 19), (0, .class_ 20), (0, .nameAndType 8 21), (0, u "com/example/gavelwatch/gavelwatch/model/Bid"), (0, u "Ljava/lang/String;"), (0, .fieldref 18 23), (0, .nameAndType 16 24), (0, u "Lcom/example/gavelwatch/gavelwatch/model/Money;"), (0, .fieldref 18 26), (0, .nameAndType 27 28), (0, u "time"), (0, u "J"), (12, u "(Ljava/lang/String;Lcom/example/gavelwatch/gavelwatch/model/Money;J)V"), (6, u "()Lcom/example/gavelwatch/gavelwatch/model/Money;")] 23

def k25c0 : Code := { maxStack := 3, maxLocals := 5, code := prog_28_method_1_code, exceptionTable := #[], attributes := #[] }
def k25m0 : Method := { name := "<init>", desc := "(Ljava/lang/String;Lcom/example/gavelwatch/gavelwatch/model/Money;J)V", sig := { parameters := [(.object "java/lang/String"), (.object "com/example/gavelwatch/gavelwatch/model/Money"), .long], returnType := none }, accessFlags := 1, code := some k25c0 }
def k25c1 : Code := { maxStack := 1, maxLocals := 1, code := prog_28_method_6_code, exceptionTable := #[], attributes := #[] }
def k25m1 : Method := { name := "amount", desc := "()Lcom/example/gavelwatch/gavelwatch/model/Money;", sig := { parameters := [], returnType := some (.object "com/example/gavelwatch/gavelwatch/model/Money") }, accessFlags := 1, code := some k25c1 }
/-- com/example/gavelwatch/gavelwatch/model/Bid -/
def k25 : Class := { plain "com/example/gavelwatch/gavelwatch/model/Bid" (some 3) with
  accessFlags := 49
  interfaces := #[]
  cf := some (fileOf pool25 18 #[] #[{ accessFlags := 1, nameIndex := 5, descriptorIndex := 41, attributes := #[] }, { accessFlags := 1, nameIndex := 16, descriptorIndex := 48, attributes := #[] }] 49 2 #[] #[{ accessFlags := 18, nameIndex := 8, descriptorIndex := 21, attributes := #[] }, { accessFlags := 18, nameIndex := 16, descriptorIndex := 24, attributes := #[] }, { accessFlags := 18, nameIndex := 27, descriptorIndex := 28, attributes := #[] }])
  fields := #[{ name := "bidder", type := (.object "java/lang/String"), accessFlags := 18, slot := 0, constantValue := 0 }, { name := "amount", type := (.object "com/example/gavelwatch/gavelwatch/model/Money"), accessFlags := 18, slot := 1, constantValue := 0 }, { name := "time", type := .long, accessFlags := 18, slot := 2, constantValue := 0 }]
  methods := #[k25m0, k25m1]
  instanceTypes := #[(.object "java/lang/String"), (.object "com/example/gavelwatch/gavelwatch/model/Money"), .long]
  staticTypes := #[]
  resolved := Array.replicate 72 none
  statics := none }

def pool26 : Array CpInfo := pool [(2, .class_ 4), (1, u "java/lang/Object"), (0, u "<init>"), (0, u "()V"), (35, .class_ 44), (1, u "java/util/Objects"), (0, u "requireNonNull"), (48, u "(Ljava/lang/Object;Ljava/lang/String;)Ljava/lang/Object;")] 89

def k26m0 : Method := { name := "<init>", desc := "()V", sig := { parameters := [], returnType := none }, accessFlags := 2, code := none }
def k26c1 : Code := { maxStack := 3, maxLocals := 2, code := jdk_31_method_11_code, exceptionTable := #[], attributes := #[] }
def k26m1 : Method := { name := "requireNonNull", desc := "(Ljava/lang/Object;Ljava/lang/String;)Ljava/lang/Object;", sig := { parameters := [(.object "java/lang/Object"), (.object "java/lang/String")], returnType := some (.object "java/lang/Object") }, accessFlags := 9, code := some k26c1 }
/-- java/util/Objects -/
def k26 : Class := { plain "java/util/Objects" (some 0) with
  accessFlags := 49
  interfaces := #[]
  cf := some (fileOf pool26 42 #[] #[{ accessFlags := 2, nameIndex := 5, descriptorIndex := 6, attributes := #[] }, { accessFlags := 9, nameIndex := 45, descriptorIndex := 94, attributes := #[] }] 49 2 #[] #[])
  fields := #[]
  methods := #[k26m0, k26m1]
  instanceTypes := #[]
  staticTypes := #[]
  resolved := Array.replicate 184 none
  statics := none }

/-- the primitive byte -/
def k27 : Class := { plain "byte" none with kind := .primitive 'B', accessFlags := 0x411 }
/-- [B -/
def k28 : Class := { plain "[B" (some 0) with kind := .array 27 .byte, interfaces := #[13, 14], accessFlags := 1041 }

/-- the primitive int -/
def k29 : Class := { plain "int" none with kind := .primitive 'I', accessFlags := 0x411 }
/-- [I -/
def k30 : Class := { plain "[I" (some 0) with kind := .array 29 .int, interfaces := #[13, 14], accessFlags := 1041 }

/-- [Ljava/lang/Object; -/
def k31 : Class := { plain "[Ljava/lang/Object;" (some 0) with kind := .array 0 (.object "java/lang/Object"), interfaces := #[13, 14], accessFlags := 1041 }

def heap : Heap := #[{ cls := 15, slots := #[.long 0, .int 0, .ref 4, .ref 5], vm := .statics 15 },
  { cls := 22, slots := #[.null, .null, .null, .ref 3, .null, .null, .null, .long 0, .long 0, .long 0, .long 0, .long 0, .long 0, .long 0, .null], vm := .statics 22 },
  { cls := 20, slots := #[.null, .int 0, .int 0, .int 0], vm := .none },
  { cls := 22, slots := #[.ref 2, .int 3, .int 0, .long 1000000000, .long 9223372036, .long 9223372036854, .long 9223372036854775, .long 9223372036854775807, .long 1000000, .int 1000, .int 1], vm := .none },
  { cls := 31, slots := #[], vm := .none },
  { cls := 31, slots := #[], vm := .none }]
def classes : Array Class := #[k0, k1, k2, k3, k4, k5, k6, k7, k8, k9, k10, k11, k12, k13, k14, k15, k16, k17, k18, k19, k20, k21, k22, k23, k24, k25, k26, k27, k28, k29, k30, k31]
def interned : List (Array UInt16 × Addr) := []
def slotsUsed : Nat := 34
def theMethod : MethodId := ⟨1, 1⟩
def args0 : Array Value := #[.long 5, .long 6, .long 7, .int 2]
def aboutOver (below : List Frame) : State where
  vm := { classes := classes, interned := interned.toArray }
  heap := heap
  slotsUsed := slotsUsed
  threads := #[{ frames := .invoking theMethod args0 :: below }]
def below0 : List Frame := [.native { method := ⟨0, 0⟩, args := #[] }]
def about1 : State := aboutOver below0
def p0 : Program := .bare "" "" ""
def e0 : Env := launch0.env 0 0 0
theorem w_frames : about1.frames = Frame.invoking theMethod args0 :: below0 := rfl
set_option maxRecDepth 65536 in
theorem w_args : argsFit about1.vm theMethod args0 = true := by decide +kernel
set_option maxRecDepth 65536 in
theorem w_heap : heapFits about1 = true := by decide +kernel
set_option maxRecDepth 65536 in
theorem w_runnable : about1.curStatus? = some .runnable := by decide +kernel
set_option maxRecDepth 65536 in
theorem w_alone : about1.alone = true := by decide +kernel
set_option maxRecDepth 65536 in
theorem w_named : about1.methodNamed? x = some theMethod := by decide +kernel
set_option maxRecDepth 65536 in
theorem w_hears : about1.hears theMethod below0 = true := by decide +kernel
set_option maxRecDepth 65536 in
theorem w_ripe : about1.ripe theMethod args0 below0 = true := by decide +kernel
theorem w_running : about1.status = .running := rfl
set_option maxRecDepth 65536 in
theorem w_room : about1.hasRoom e0.platform room_1 = true :=
  launch0.hasRoom_least _ room_1 (by decide +kernel) (by decide +kernel) (by decide +kernel) (by decide +kernel) (by decide +kernel) (by decide +kernel)
theorem allAtoms_all (ts : List Jvm.Cond) (a : Array Jvm.Value) (st : Jvm.State) : (allAtoms ts).before a st = ts.all (fun c => c.before a st) := by
  induction ts with
  | nil => rfl
  | cons c t ih =>
    show (Jvm.Cond.and c (allAtoms t)).before a st = _
    rw [Jvm.Cond.before_and, ih, List.all_cons]
def words1 : List Jvm.Cond := Jvm.Cond.code x code maxLocals ret :: tables_1
/-- a 'code' word, met by the world's own term for the bytes: nothing is compared byte by byte -/
theorem code_word {y : MethodName} {bytes : ByteArray} {mx : Nat} {rt : Option FieldType} {a : Array Value} {s : State} {m : MethodId} {meth : Method} {c : Code} (h1 : s.methodNamed? y = some m) (h2 : s.vm.method? m = some meth) (h3 : meth.code = some c) (h4 : c.code = bytes)
    (h5 : (c.maxLocals == mx && c.exceptionTable.isEmpty && decide (c.maxStack ≤ mostOperands) && decide (meth.sig.returnType = rt) && !meth.locks && decide (parseMethodDescriptor y.desc = some meth.sig)) = true) : (Jvm.Cond.code y bytes mx rt).before a s = true := by
  simp only [Bool.and_eq_true, beq_iff_eq, Bool.not_eq_true', decide_eq_true_eq] at h5
  obtain ⟨⟨⟨⟨⟨g1, g2⟩, g3⟩, g4⟩, g5⟩, g6⟩ := h5
  simp [Cond.before, Cond.holds, Cond.value, h1, h2, h3, h4, g1, g2, g3, g4, g5, g6]
def isCode : Jvm.Cond → Bool
  | .code _ _ _ _ => true
  | _ => false
theorem all_split {L : List Jvm.Cond} {P : Jvm.Cond → Bool} (h1 : L.all (fun c => isCode c || P c) = true) (h2 : ∀ c ∈ L.filter isCode, P c = true) : L.all P = true := by
  refine List.all_eq_true.mpr fun c hc => ?_
  have h := List.all_eq_true.mp h1 c hc
  rcases Bool.eq_false_or_eq_true (isCode c) with hi | hi
  · exact h2 c (List.mem_filter.mpr ⟨hc, hi⟩)
  · simpa [hi] using h
set_option maxRecDepth 65536 in
theorem w_c0 : (Jvm.Cond.code x code maxLocals ret).before args0 about1 = true := code_word (m := ⟨1, 1⟩) (meth := k1m1) (c := k1c1) (by decide +kernel) rfl rfl rfl (by decide +kernel)
set_option maxRecDepth 65536 in
theorem w_c1 : (Jvm.Cond.code ({ cls := "com/example/gavelwatch/gavelwatch/model/Money", name := "<init>", desc := "(J)V" } : Jvm.MethodName) prog_40_method_1_code (3 : Nat) (Option.none : Option Jvm.ClassFile.FieldType)).before args0 about1 = true := code_word (m := ⟨5, 0⟩) (meth := k5m0) (c := k5c0) (by decide +kernel) rfl rfl rfl (by decide +kernel)
set_option maxRecDepth 65536 in
theorem w_c2 : (Jvm.Cond.code ({ cls := "java/lang/Record", name := "<init>", desc := "()V" } : Jvm.MethodName) jdk_30_method_1_code (1 : Nat) (Option.none : Option Jvm.ClassFile.FieldType)).before args0 about1 = true := code_word (m := ⟨3, 0⟩) (meth := k3m0) (c := k3c0) (by decide +kernel) rfl rfl rfl (by decide +kernel)
set_option maxRecDepth 65536 in
theorem w_c3 : (Jvm.Cond.code ({ cls := "java/lang/Object", name := "<init>", desc := "()V" } : Jvm.MethodName) object_method_1_code (1 : Nat) (Option.none : Option Jvm.ClassFile.FieldType)).before args0 about1 = true := code_word (m := ⟨0, 0⟩) (meth := k0m0) (c := k0c0) (by decide +kernel) rfl rfl rfl (by decide +kernel)
set_option maxRecDepth 65536 in
theorem w_c4 : (Jvm.Cond.code ({ cls := "com/example/gavelwatch/gavelwatch/sim/RunningAuction", name := "<init>", desc := "(Lcom/example/gavelwatch/gavelwatch/model/Money;)V" } : Jvm.MethodName) prog_50_method_1_code (2 : Nat) (Option.none : Option Jvm.ClassFile.FieldType)).before args0 about1 = true := code_word (m := ⟨2, 0⟩) (meth := k2m0) (c := k2c0) (by decide +kernel) rfl rfl rfl (by decide +kernel)
set_option maxRecDepth 65536 in
theorem w_c5 : (Jvm.Cond.code ({ cls := "java/util/ArrayList", name := "<init>", desc := "()V" } : Jvm.MethodName) jdk_38_method_2_code (1 : Nat) (Option.none : Option Jvm.ClassFile.FieldType)).before args0 about1 = true := code_word (m := ⟨15, 0⟩) (meth := k15m0) (c := k15c0) (by decide +kernel) rfl rfl rfl (by decide +kernel)
set_option maxRecDepth 65536 in
theorem w_c6 : (Jvm.Cond.code ({ cls := "java/util/AbstractList", name := "<init>", desc := "()V" } : Jvm.MethodName) jdk_39_method_1_code (1 : Nat) (Option.none : Option Jvm.ClassFile.FieldType)).before args0 about1 = true := code_word (m := ⟨11, 0⟩) (meth := k11m0) (c := k11c0) (by decide +kernel) rfl rfl rfl (by decide +kernel)
set_option maxRecDepth 65536 in
theorem w_c7 : (Jvm.Cond.code ({ cls := "java/util/AbstractCollection", name := "<init>", desc := "()V" } : Jvm.MethodName) jdk_22_method_1_code (1 : Nat) (Option.none : Option Jvm.ClassFile.FieldType)).before args0 about1 = true := code_word (m := ⟨8, 0⟩) (meth := k8m0) (c := k8c0) (by decide +kernel) rfl rfl rfl (by decide +kernel)
set_option maxRecDepth 65536 in
theorem w_c8 : (Jvm.Cond.code ({ cls := "com/example/gavelwatch/gavelwatch/sim/RunningAuction", name := "price", desc := "()Lcom/example/gavelwatch/gavelwatch/model/Money;" } : Jvm.MethodName) prog_50_method_3_code (1 : Nat) (Option.some (Jvm.ClassFile.FieldType.object "com/example/gavelwatch/gavelwatch/model/Money"))).before args0 about1 = true := code_word (m := ⟨2, 2⟩) (meth := k2m2) (c := k2c2) (by decide +kernel) rfl rfl rfl (by decide +kernel)
set_option maxRecDepth 65536 in
theorem w_c9 : (Jvm.Cond.code ({ cls := "com/example/gavelwatch/gavelwatch/sim/RunningAuction", name := "hasBids", desc := "()Z" } : Jvm.MethodName) prog_50_method_2_code (1 : Nat) (Option.some Jvm.ClassFile.FieldType.boolean)).before args0 about1 = true := code_word (m := ⟨2, 1⟩) (meth := k2m1) (c := k2c1) (by decide +kernel) rfl rfl rfl (by decide +kernel)
set_option maxRecDepth 65536 in
theorem w_c10 : (Jvm.Cond.code ({ cls := "com/example/gavelwatch/gavelwatch/model/Money", name := "cents", desc := "()J" } : Jvm.MethodName) prog_40_method_11_code (1 : Nat) (Option.some Jvm.ClassFile.FieldType.long)).before args0 about1 = true := code_word (m := ⟨5, 2⟩) (meth := k5m2) (c := k5c2) (by decide +kernel) rfl rfl rfl (by decide +kernel)
set_option maxRecDepth 65536 in
theorem w_c11 : (Jvm.Cond.code ({ cls := "java/lang/Math", name := "max", desc := "(JJ)J" } : Jvm.MethodName) jdk_29_method_66_code (4 : Nat) (Option.some Jvm.ClassFile.FieldType.long)).before args0 about1 = true := code_word (m := ⟨16, 2⟩) (meth := k16m2) (c := k16c2) (by decide +kernel) rfl rfl rfl (by decide +kernel)
set_option maxRecDepth 65536 in
theorem w_c12 : (Jvm.Cond.code ({ cls := "com/example/gavelwatch/gavelwatch/sim/RunningAuction", name := "place", desc := "(Ljava/lang/String;Lcom/example/gavelwatch/gavelwatch/model/Money;J)V" } : Jvm.MethodName) prog_50_method_5_code (7 : Nat) (Option.none : Option Jvm.ClassFile.FieldType)).before args0 about1 = true := code_word (m := ⟨2, 4⟩) (meth := k2m4) (c := k2c4) (by decide +kernel) rfl rfl rfl (by decide +kernel)
set_option maxRecDepth 65536 in
theorem w_c13 : (Jvm.Cond.code ({ cls := "java/util/concurrent/TimeUnit", name := "toNanos", desc := "(J)J" } : Jvm.MethodName) jdk_2799_method_7_code (7 : Nat) (Option.some Jvm.ClassFile.FieldType.long)).before args0 about1 = true := code_word (m := ⟨22, 0⟩) (meth := k22m0) (c := k22c0) (by decide +kernel) rfl rfl rfl (by decide +kernel)
set_option maxRecDepth 65536 in
theorem w_c14 : (Jvm.Cond.code ({ cls := "com/example/gavelwatch/gavelwatch/sim/RunningAuction", name := "accepts", desc := "(Lcom/example/gavelwatch/gavelwatch/model/Money;)Z" } : Jvm.MethodName) prog_50_method_4_code (3 : Nat) (Option.some Jvm.ClassFile.FieldType.boolean)).before args0 about1 = true := code_word (m := ⟨2, 3⟩) (meth := k2m3) (c := k2c3) (by decide +kernel) rfl rfl rfl (by decide +kernel)
set_option maxRecDepth 65536 in
theorem w_c15 : (Jvm.Cond.code ({ cls := "com/example/gavelwatch/gavelwatch/model/Money", name := "compareTo", desc := "(Lcom/example/gavelwatch/gavelwatch/model/Money;)I" } : Jvm.MethodName) prog_40_method_4_code (2 : Nat) (Option.some Jvm.ClassFile.FieldType.int)).before args0 about1 = true := code_word (m := ⟨5, 1⟩) (meth := k5m1) (c := k5c1) (by decide +kernel) rfl rfl rfl (by decide +kernel)
set_option maxRecDepth 65536 in
theorem w_c16 : (Jvm.Cond.code ({ cls := "java/lang/Long", name := "compare", desc := "(JJ)I" } : Jvm.MethodName) jdk_35_method_42_code (4 : Nat) (Option.some Jvm.ClassFile.FieldType.int)).before args0 about1 = true := code_word (m := ⟨24, 0⟩) (meth := k24m0) (c := k24c0) (by decide +kernel) rfl rfl rfl (by decide +kernel)
set_option maxRecDepth 65536 in
theorem w_c17 : (Jvm.Cond.code ({ cls := "com/example/gavelwatch/gavelwatch/model/Bid", name := "<init>", desc := "(Ljava/lang/String;Lcom/example/gavelwatch/gavelwatch/model/Money;J)V" } : Jvm.MethodName) prog_28_method_1_code (5 : Nat) (Option.none : Option Jvm.ClassFile.FieldType)).before args0 about1 = true := code_word (m := ⟨25, 0⟩) (meth := k25m0) (c := k25c0) (by decide +kernel) rfl rfl rfl (by decide +kernel)
set_option maxRecDepth 65536 in
theorem w_c18 : (Jvm.Cond.code ({ cls := "java/util/Objects", name := "requireNonNull", desc := "(Ljava/lang/Object;Ljava/lang/String;)Ljava/lang/Object;" } : Jvm.MethodName) jdk_31_method_11_code (2 : Nat) (Option.some (Jvm.ClassFile.FieldType.object "java/lang/Object"))).before args0 about1 = true := code_word (m := ⟨26, 1⟩) (meth := k26m1) (c := k26c1) (by decide +kernel) rfl rfl rfl (by decide +kernel)
set_option maxRecDepth 65536 in
theorem w_c19 : (Jvm.Cond.code ({ cls := "java/util/ArrayList", name := "add", desc := "(Ljava/lang/Object;)Z" } : Jvm.MethodName) jdk_38_method_25_code (2 : Nat) (Option.some Jvm.ClassFile.FieldType.boolean)).before args0 about1 = true := code_word (m := ⟨15, 4⟩) (meth := k15m4) (c := k15c4) (by decide +kernel) rfl rfl rfl (by decide +kernel)
set_option maxRecDepth 65536 in
theorem w_c20 : (Jvm.Cond.code ({ cls := "java/util/ArrayList", name := "add", desc := "(Ljava/lang/Object;[Ljava/lang/Object;I)V" } : Jvm.MethodName) jdk_38_method_24_code (4 : Nat) (Option.none : Option Jvm.ClassFile.FieldType)).before args0 about1 = true := code_word (m := ⟨15, 3⟩) (meth := k15m3) (c := k15c3) (by decide +kernel) rfl rfl rfl (by decide +kernel)
set_option maxRecDepth 65536 in
theorem w_c21 : (Jvm.Cond.code ({ cls := "java/util/ArrayList", name := "grow", desc := "()[Ljava/lang/Object;" } : Jvm.MethodName) jdk_38_method_7_code (1 : Nat) (Option.some (Jvm.ClassFile.FieldType.array (Jvm.ClassFile.FieldType.object "java/lang/Object")))).before args0 about1 = true := code_word (m := ⟨15, 2⟩) (meth := k15m2) (c := k15c2) (by decide +kernel) rfl rfl rfl (by decide +kernel)
set_option maxRecDepth 65536 in
theorem w_c22 : (Jvm.Cond.code ({ cls := "java/util/ArrayList", name := "grow", desc := "(I)[Ljava/lang/Object;" } : Jvm.MethodName) jdk_38_method_6_code (4 : Nat) (Option.some (Jvm.ClassFile.FieldType.array (Jvm.ClassFile.FieldType.object "java/lang/Object")))).before args0 about1 = true := code_word (m := ⟨15, 1⟩) (meth := k15m1) (c := k15c1) (by decide +kernel) rfl rfl rfl (by decide +kernel)
set_option maxRecDepth 65536 in
theorem w_c23 : (Jvm.Cond.code ({ cls := "java/lang/Math", name := "max", desc := "(II)I" } : Jvm.MethodName) jdk_29_method_65_code (2 : Nat) (Option.some Jvm.ClassFile.FieldType.int)).before args0 about1 = true := code_word (m := ⟨16, 1⟩) (meth := k16m1) (c := k16c1) (by decide +kernel) rfl rfl rfl (by decide +kernel)
set_option maxRecDepth 65536 in
theorem w_c24 : (Jvm.Cond.code ({ cls := "com/example/gavelwatch/gavelwatch/model/Bid", name := "amount", desc := "()Lcom/example/gavelwatch/gavelwatch/model/Money;" } : Jvm.MethodName) prog_28_method_6_code (1 : Nat) (Option.some (Jvm.ClassFile.FieldType.object "com/example/gavelwatch/gavelwatch/model/Money"))).before args0 about1 = true := code_word (m := ⟨25, 1⟩) (meth := k25m1) (c := k25c1) (by decide +kernel) rfl rfl rfl (by decide +kernel)
def codes1 : List Jvm.Cond := [Jvm.Cond.code x code maxLocals ret, Jvm.Cond.code ({ cls := "com/example/gavelwatch/gavelwatch/model/Money", name := "<init>", desc := "(J)V" } : Jvm.MethodName) prog_40_method_1_code (3 : Nat) (Option.none : Option Jvm.ClassFile.FieldType), Jvm.Cond.code ({ cls := "java/lang/Record", name := "<init>", desc := "()V" } : Jvm.MethodName) jdk_30_method_1_code (1 : Nat) (Option.none : Option Jvm.ClassFile.FieldType), Jvm.Cond.code ({ cls := "java/lang/Object", name := "<init>", desc := "()V" } : Jvm.MethodName) object_method_1_code (1 : Nat) (Option.none : Option Jvm.ClassFile.FieldType), Jvm.Cond.code ({ cls := "com/example/gavelwatch/gavelwatch/sim/RunningAuction", name := "<init>", desc := "(Lcom/example/gavelwatch/gavelwatch/model/Money;)V" } : Jvm.MethodName) prog_50_method_1_code (2 : Nat) (Option.none : Option Jvm.ClassFile.FieldType), Jvm.Cond.code ({ cls := "java/util/ArrayList", name := "<init>", desc := "()V" } : Jvm.MethodName) jdk_38_method_2_code (1 : Nat) (Option.none : Option Jvm.ClassFile.FieldType), Jvm.Cond.code ({ cls := "java/util/AbstractList", name := "<init>", desc := "()V" } : Jvm.MethodName) jdk_39_method_1_code (1 : Nat) (Option.none : Option Jvm.ClassFile.FieldType), Jvm.Cond.code ({ cls := "java/util/AbstractCollection", name := "<init>", desc := "()V" } : Jvm.MethodName) jdk_22_method_1_code (1 : Nat) (Option.none : Option Jvm.ClassFile.FieldType), Jvm.Cond.code ({ cls := "com/example/gavelwatch/gavelwatch/sim/RunningAuction", name := "price", desc := "()Lcom/example/gavelwatch/gavelwatch/model/Money;" } : Jvm.MethodName) prog_50_method_3_code (1 : Nat) (Option.some (Jvm.ClassFile.FieldType.object "com/example/gavelwatch/gavelwatch/model/Money")), Jvm.Cond.code ({ cls := "com/example/gavelwatch/gavelwatch/sim/RunningAuction", name := "hasBids", desc := "()Z" } : Jvm.MethodName) prog_50_method_2_code (1 : Nat) (Option.some Jvm.ClassFile.FieldType.boolean), Jvm.Cond.code ({ cls := "com/example/gavelwatch/gavelwatch/model/Money", name := "cents", desc := "()J" } : Jvm.MethodName) prog_40_method_11_code (1 : Nat) (Option.some Jvm.ClassFile.FieldType.long), Jvm.Cond.code ({ cls := "java/lang/Math", name := "max", desc := "(JJ)J" } : Jvm.MethodName) jdk_29_method_66_code (4 : Nat) (Option.some Jvm.ClassFile.FieldType.long), Jvm.Cond.code ({ cls := "com/example/gavelwatch/gavelwatch/sim/RunningAuction", name := "place", desc := "(Ljava/lang/String;Lcom/example/gavelwatch/gavelwatch/model/Money;J)V" } : Jvm.MethodName) prog_50_method_5_code (7 : Nat) (Option.none : Option Jvm.ClassFile.FieldType), Jvm.Cond.code ({ cls := "java/util/concurrent/TimeUnit", name := "toNanos", desc := "(J)J" } : Jvm.MethodName) jdk_2799_method_7_code (7 : Nat) (Option.some Jvm.ClassFile.FieldType.long), Jvm.Cond.code ({ cls := "com/example/gavelwatch/gavelwatch/sim/RunningAuction", name := "accepts", desc := "(Lcom/example/gavelwatch/gavelwatch/model/Money;)Z" } : Jvm.MethodName) prog_50_method_4_code (3 : Nat) (Option.some Jvm.ClassFile.FieldType.boolean), Jvm.Cond.code ({ cls := "com/example/gavelwatch/gavelwatch/model/Money", name := "compareTo", desc := "(Lcom/example/gavelwatch/gavelwatch/model/Money;)I" } : Jvm.MethodName) prog_40_method_4_code (2 : Nat) (Option.some Jvm.ClassFile.FieldType.int), Jvm.Cond.code ({ cls := "java/lang/Long", name := "compare", desc := "(JJ)I" } : Jvm.MethodName) jdk_35_method_42_code (4 : Nat) (Option.some Jvm.ClassFile.FieldType.int), Jvm.Cond.code ({ cls := "com/example/gavelwatch/gavelwatch/model/Bid", name := "<init>", desc := "(Ljava/lang/String;Lcom/example/gavelwatch/gavelwatch/model/Money;J)V" } : Jvm.MethodName) prog_28_method_1_code (5 : Nat) (Option.none : Option Jvm.ClassFile.FieldType), Jvm.Cond.code ({ cls := "java/util/Objects", name := "requireNonNull", desc := "(Ljava/lang/Object;Ljava/lang/String;)Ljava/lang/Object;" } : Jvm.MethodName) jdk_31_method_11_code (2 : Nat) (Option.some (Jvm.ClassFile.FieldType.object "java/lang/Object")), Jvm.Cond.code ({ cls := "java/util/ArrayList", name := "add", desc := "(Ljava/lang/Object;)Z" } : Jvm.MethodName) jdk_38_method_25_code (2 : Nat) (Option.some Jvm.ClassFile.FieldType.boolean), Jvm.Cond.code ({ cls := "java/util/ArrayList", name := "add", desc := "(Ljava/lang/Object;[Ljava/lang/Object;I)V" } : Jvm.MethodName) jdk_38_method_24_code (4 : Nat) (Option.none : Option Jvm.ClassFile.FieldType), Jvm.Cond.code ({ cls := "java/util/ArrayList", name := "grow", desc := "()[Ljava/lang/Object;" } : Jvm.MethodName) jdk_38_method_7_code (1 : Nat) (Option.some (Jvm.ClassFile.FieldType.array (Jvm.ClassFile.FieldType.object "java/lang/Object"))), Jvm.Cond.code ({ cls := "java/util/ArrayList", name := "grow", desc := "(I)[Ljava/lang/Object;" } : Jvm.MethodName) jdk_38_method_6_code (4 : Nat) (Option.some (Jvm.ClassFile.FieldType.array (Jvm.ClassFile.FieldType.object "java/lang/Object"))), Jvm.Cond.code ({ cls := "java/lang/Math", name := "max", desc := "(II)I" } : Jvm.MethodName) jdk_29_method_65_code (2 : Nat) (Option.some Jvm.ClassFile.FieldType.int), Jvm.Cond.code ({ cls := "com/example/gavelwatch/gavelwatch/model/Bid", name := "amount", desc := "()Lcom/example/gavelwatch/gavelwatch/model/Money;" } : Jvm.MethodName) prog_28_method_6_code (1 : Nat) (Option.some (Jvm.ClassFile.FieldType.object "com/example/gavelwatch/gavelwatch/model/Money"))]
set_option maxRecDepth 65536 in
theorem codes_eq : words1.filter isCode = codes1 := rfl
theorem w_codes : ∀ c ∈ words1.filter isCode, c.before args0 about1 = true := by
  rw [codes_eq]
  intro c hc
  simp only [codes1, List.mem_cons, List.not_mem_nil, or_false] at hc
  rcases hc with rfl | rfl | rfl | rfl | rfl | rfl | rfl | rfl | rfl | rfl | rfl | rfl | rfl | rfl | rfl | rfl | rfl | rfl | rfl | rfl | rfl | rfl | rfl | rfl | rfl
  · exact w_c0
  · exact w_c1
  · exact w_c2
  · exact w_c3
  · exact w_c4
  · exact w_c5
  · exact w_c6
  · exact w_c7
  · exact w_c8
  · exact w_c9
  · exact w_c10
  · exact w_c11
  · exact w_c12
  · exact w_c13
  · exact w_c14
  · exact w_c15
  · exact w_c16
  · exact w_c17
  · exact w_c18
  · exact w_c19
  · exact w_c20
  · exact w_c21
  · exact w_c22
  · exact w_c23
  · exact w_c24
set_option maxRecDepth 65536 in
theorem w_t1 : (words1.take 24).all (fun c => isCode c || c.before args0 about1) = true := by decide +kernel
set_option maxRecDepth 65536 in
theorem w_t2 : ((words1.drop 24).take 24).all (fun c => isCode c || c.before args0 about1) = true := by decide +kernel
set_option maxRecDepth 65536 in
theorem w_t3 : (((words1.drop 24).drop 24).take 24).all (fun c => isCode c || c.before args0 about1) = true := by decide +kernel
set_option maxRecDepth 65536 in
theorem w_t4 : ((((words1.drop 24).drop 24).drop 24).take 24).all (fun c => isCode c || c.before args0 about1) = true := by decide +kernel
set_option maxRecDepth 65536 in
theorem w_t5 : (((((words1.drop 24).drop 24).drop 24).drop 24).take 24).all (fun c => isCode c || c.before args0 about1) = true := by decide +kernel
set_option maxRecDepth 65536 in
theorem w_t6 : ((((((words1.drop 24).drop 24).drop 24).drop 24).drop 24).take 24).all (fun c => isCode c || c.before args0 about1) = true := by decide +kernel
set_option maxRecDepth 65536 in
theorem w_t7 : (((((((words1.drop 24).drop 24).drop 24).drop 24).drop 24).drop 24).take 24).all (fun c => isCode c || c.before args0 about1) = true := by decide +kernel
set_option maxRecDepth 65536 in
theorem w_t8 : (((((((words1.drop 24).drop 24).drop 24).drop 24).drop 24).drop 24).drop 24).all (fun c => isCode c || c.before args0 about1) = true := by decide +kernel
theorem w_tables : (allAtoms (Jvm.Cond.code x code maxLocals ret :: tables_1)).before args0 about1 = true := by
  rw [allAtoms_all]
  show words1.all (fun c => c.before args0 about1) = true
  refine all_split ?_ w_codes
  rw [← List.take_append_drop 24 words1, List.all_append, w_t1, ← List.take_append_drop 24 (words1.drop 24), List.all_append, w_t2, ← List.take_append_drop 24 ((words1.drop 24).drop 24), List.all_append, w_t3, ← List.take_append_drop 24 (((words1.drop 24).drop 24).drop 24), List.all_append, w_t4, ← List.take_append_drop 24 ((((words1.drop 24).drop 24).drop 24).drop 24), List.all_append, w_t5, ← List.take_append_drop 24 (((((words1.drop 24).drop 24).drop 24).drop 24).drop 24), List.all_append, w_t6, ← List.take_append_drop 24 ((((((words1.drop 24).drop 24).drop 24).drop 24).drop 24).drop 24), List.all_append, w_t7, w_t8]
  rfl
set_option maxRecDepth 65536 in
theorem w_rest : rest_1_c.before args0 about1 = true := by decide +kernel
set_option maxRecDepth 65536 in
theorem w_case : (Jvm.Cond.and given_1 narrow_1).before args0 about1 = true := by decide +kernel
theorem w_applies : (headSpec (Jvm.Cond.code x code maxLocals ret :: tables_1) room_1).applies x e0.platform about1 = true :=
  (Spec.applies_iff w_frames).mpr ⟨w_running, w_runnable, w_alone, w_named, w_hears, w_ripe, w_room, w_tables⟩
theorem atStart : AtStart classFile x code maxLocals ret World_1 tables_1 room_1 Calls_1 rest_1 Pre_1 launch0 p0 e0 about1 theMethod args0 below0 :=
  ⟨lists_1, trivial, launch0.admits_env _ _ _, launch0.least_env, fairChoices_fair.cas, fairChoices_fair.clock, w_frames, w_args, w_heap, w_applies, trivial, w_rest, w_case⟩
end start1
theorem witness_1 : WitnessClaimed_1 := ⟨start1.p0, start1.e0, start1.about1, start1.theMethod, start1.args0, start1.below0, start1.atStart⟩
end Jvm.Pilot.@@N@@
