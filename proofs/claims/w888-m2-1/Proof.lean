import JvmDerived
import JvmDerived.Pilot.@@N@@Statement
import JvmDerived.Pilot.@@N@@Code
set_option linter.unusedVariables false
set_option linter.unusedSimpArgs false
namespace Jvm.RoadKit
open Sem ClassFile Op Lib Jvm.Stand Jvm.Free Jvm.LawKit
section New
variable {p : Program} {l : Launch} {e : Env} {R : Room} {s : State} {m : MethodId} {args : Array Value} {below : List Frame} {meth : Method} {c : Code} {T : State} {locs : List Loc} {cells slots : Nat}
theorem retI (X : Stand p l e R s m args below meth c T locs cells slots) (hx : p.tables.exec = Jvm.exec) {pc : Nat} {Ls : Array Slot} {z : Int32} {rest : List Value} (hret : meth.sig.returnType = some .int) (hd : decode c.code pc = .ok (.ireturn, 1)) {fs : List Frame}
    (hl : ∀ (f : JFrame) (acts : List Action), f.method = m → f.locked = none → f.entered = [] → (doReturn e (T.setTop f) acts (some (.int z))).1 = T.setFrames fs) : Steps p.tables e below (T.setTop (mkF m pc Ls (.int z :: rest))) (T.setFrames fs) := by
  have hm' : T.vm.method? m = some meth := X.method'
  have hn : narrow .int (.int z) = .int z := rfl
  show Steps p.tables e below (T.setTop { method := m, pc := pc, locals := Ls, stack := _ :: rest, locked := none }) _
  jvm_step X.here [X.here.top, hx, hd, hm', hret, hn]
  first | (intro acts; rw [hl _ acts rfl rfl rfl]) | rw [hl _ _ rfl rfl rfl]
  exact Steps.refl _
end New
end Jvm.RoadKit
namespace Jvm.Pilot.@@N@@
open Jvm Jvm.ClassFile Sem Op Lib Jvm.Free Jvm.Stand Jvm.LawKit Jvm.RoadKit Bundle Jvm.Pilot.@@N@@.Jvm.D
/-- a run from here that ends well -/
def own_G (p : Program) (e : Env) (below : List Frame) (P : Outcome → State → Prop) (S : State) : Prop := ∃ s₂ o, Steps p.tables e below S s₂ ∧ s₂.status = .running ∧ Ended s₂ below o ∧ P o s₂
theorem own_go {p : Program} {e : Env} {below : List Frame} {P : Outcome → State → Prop} {S : State} (S' : State) (k : ∀ t, Steps p.tables e below S' t → Steps p.tables e below S t) (h : own_G p e below P S') : own_G p e below P S := by
  obtain ⟨s₂, o, h1, h2⟩ := h
  exact ⟨s₂, o, k _ h1, h2⟩
theorem own_one {x : Slot} (h : One x) : (match x with | .second => False | .val old => old.category = 1 | .unset => True) := by
  rcases h with rfl | ⟨w, rfl, hw⟩
  · trivial
  · exact hw
theorem own_selp {s : State} {args : Array Value} {D : String} {y z : MethodName} (h : (Cond.selects D z z).before args s = true) (hc : z.cls = y.cls) (hpriv : s.PrivateAt y) (hinst : (Cond.instanceMethod y).before args s = true) (hy : y.cls ≠ "java/lang/invoke/MethodHandle" ∧ y.cls ≠ "java/lang/invoke/VarHandle") : (Cond.selects y.cls y y).before args s = true := by
  obtain ⟨c, r, m, q1, q2, q3, q4, mk, hk, hi⟩ := Cond.selects_spec h
  exact selects_self_of_private (hc ▸ findClass_of_methodNamed q3) hk hi hpriv hinst hy
theorem own_same {s : State} {args : Array Value} {D : String} {y z : MethodName} (hinst : (Cond.instanceMethod y).before args s = true) (hsel : (Cond.selects D z z).before args s = true) (hc : z.cls = y.cls) (hy : y.cls ≠ "java/lang/invoke/MethodHandle" ∧ y.cls ≠ "java/lang/invoke/VarHandle") : (Cond.sameMethod y.cls y.cls y.name y.desc).before args s = true := by
  obtain ⟨mk, methM, hnamed, hmethM, -, -⟩ := Cond.instanceMethod_spec hinst
  obtain ⟨c, r, m, q1, q2, q3, q4, k, hk, hi⟩ := Cond.selects_spec hsel
  have hfound := State.methodFound?_of_named hnamed hy
  have hcn := findClass_of_methodNamed hnamed
  have e : m.cls = mk.cls := Option.some.inj ((findClass_of_methodNamed q3).symm.trans (hc ▸ hcn))
  rw [e] at hk
  obtain ⟨yc, yn, yd⟩ := y
  simp_all [Cond.before, Cond.holds, Cond.value]
theorem own_nf {s : State} {args : Array Value} {D : String} {y z : MethodName} (hsel : (Cond.selects D z z).before args s = true) (hc : z.cls = y.cls) : NotFace s y := fun r0 h0 => by
  obtain ⟨c, r, m, q1, q2, q3, q4, k, hk, hi⟩ := Cond.selects_spec hsel
  have e : m.cls = r0.cls := Option.some.inj ((findClass_of_methodNamed q3).symm.trans (hc ▸ findClass_of_methodNamed h0))
  exact ⟨k, e ▸ hk, hi⟩
theorem own_lt {x y : Int64} : lcmpW x y < 0 ↔ x < y := by rw [lcW]; exact lc_lt x y
theorem own_gt {x y : Int64} : (0 : Int32) < lcmpW x y ↔ y < x := by rw [lcW]; exact lc_gt x y
theorem own_eq {x y : Int64} : lcmpW x y = 0 ↔ x = y := by rw [lcW]; exact lc_eq x y
theorem own_extK {Z : State} {h h' : Heap} {ws : List Addr} (O : Ext Z.heap h) (K : Keep h h' ws) (q : ∀ x ∈ ws, Z.heap.size ≤ x) : Ext Z.heap h' :=
  (Old.keep (n0 := Z.heap.size) ⟨rfl, O⟩ K q).2
theorem own_ext {h h1 h2 : Heap} (E : Ext h h1) (F : Ext h1 h2) : Ext h h2 := ⟨Nat.le_trans E.1 F.1, fun a c q => F.2 a c (E.2 a c q)⟩
theorem own_extW {Z : State} {h h' : Heap} {a : Addr} {sl : Nat} {v : Value} (O : Ext Z.heap h) (W : Wr h h' a sl v) (q : Z.heap.size ≤ a) : Ext Z.heap h' := own_extK O (Keep.of_wr W) (allS q all0)
theorem own_fldI {s : State} {args : Array Value} {t : Term} {C n d : String} {k : Int32} {a : Addr} (h : (Cond.eq (Term.field t C n d) (Term.int k)).value args s none s [] = some true) (ev : t.eval args s none [] s = some (.ref a)) : Fld s s.heap a C n d (.int k) := by
  obtain ⟨x, y, h1, h2, h3, -⟩ := cmp_v (Or.inl h)
  have h4 : s.fieldOf? a C n d = some x := (fld_at ev).symm.trans h1
  have h5 : y = .int k := (Option.some.inj (h2.symm.trans (Term.int_eval k)))
  subst h5
  cases x with
  | int z =>
    simp only [Cond.value, h1, h2] at h
    have e : z = k := by simpa using h
    subst e
    exact Fld.start h4
  | _ => simp [Kin, Value.isRef] at h3
theorem own_fldV {s : State} {args : Array Value} {t u : Term} {C n d : String} {b : Addr} {a : Addr} (h : (Cond.eq (Term.field t C n d) u).value args s none s [] = some true) (ev : t.eval args s none [] s = some (.ref a)) (eu : u.eval args s none [] s = some (.ref b)) : Fld s s.heap a C n d (.ref b) := by
  obtain ⟨x, y, h1, h2, h3, -⟩ := cmp_v (Or.inl h)
  have h4 : s.fieldOf? a C n d = some x := (fld_at ev).symm.trans h1
  have h5 : y = .ref b := (Option.some.inj (h2.symm.trans eu))
  subst h5
  cases x with
  | ref z =>
    simp only [Cond.value, h1, h2] at h
    have e : z = b := by simpa using h
    subst e
    exact Fld.start h4
  | null => simp [Cond.value, h1, h2] at h
  | _ => simp [Kin, Value.isRef] at h3
theorem own_elemI {s : State} {args : Array Value} {t : Term} {j k : Int32} {a : Addr} {cl : Cell} (h : (Cond.eq (Term.elem t (Term.int j)) (Term.int k)).value args s none s [] = some true) (ev : t.eval args s none [] s = some (.ref a)) (hc : s.heap[a]? = some cl) : ¬ (j < 0 ∨ cl.slots.size ≤ j.toNatClampNeg) ∧ cl.slots[j.toNatClampNeg]? = some (.int k) := by
  obtain ⟨x, y, h1, h2, h3, -⟩ := cmp_v (Or.inl h)
  have h4 := elem_in h1 ev (Term.int_eval j) hc
  have h5 : y = .int k := (Option.some.inj (h2.symm.trans (Term.int_eval k)))
  subst h5
  cases x with
  | int z =>
    simp only [Cond.value, h1, h2] at h
    have e : z = k := by simpa using h
    subst e
    exact h4
  | _ => simp [Kin, Value.isRef] at h3
theorem own_elemV {s : State} {args : Array Value} {t u : Term} {j : Int32} {a b : Addr} {cl : Cell} (h : (Cond.eq (Term.elem t (Term.int j)) u).value args s none s [] = some true) (ev : t.eval args s none [] s = some (.ref a)) (eu : u.eval args s none [] s = some (.ref b)) (hc : s.heap[a]? = some cl) : ¬ (j < 0 ∨ cl.slots.size ≤ j.toNatClampNeg) ∧ cl.slots[j.toNatClampNeg]? = some (.ref b) := by
  obtain ⟨x, y, h1, h2, h3, -⟩ := cmp_v (Or.inl h)
  have h4 := elem_in h1 ev (Term.int_eval j) hc
  have h5 : y = .ref b := (Option.some.inj (h2.symm.trans eu))
  subst h5
  cases x with
  | ref z =>
    simp only [Cond.value, h1, h2] at h
    have e : z = b := by simpa using h
    subst e
    exact h4
  | null => simp [Cond.value, h1, h2] at h
  | _ => simp [Kin, Value.isRef] at h3
theorem own_fldN {s : State} {args : Array Value} {t : Term} {C n d : String} {a : Addr} (h : (Cond.eq (Term.field t C n d) Term.null).value args s none s [] = some true) (ev : t.eval args s none [] s = some (.ref a)) : Fld s s.heap a C n d .null :=
  Fld.start ((fld_at ev).symm.trans (null_v h))
def own_W (Z : State) (a_ALL : Addr) (a_NORMAL : Addr) (a__SwitchMap_com_example_salp_salp_model_ListFilter : Addr) (cl__SwitchMap_com_example_salp_salp_model_ListFilter : Cell) : Prop := (Sta Z Z.heap "com/example/salp/salp/model/ListFilter" "ALL" "Lcom/example/salp/salp/model/ListFilter;" (.ref a_ALL)) ∧ (Exa Z Z.heap a_ALL "com/example/salp/salp/model/ListFilter") ∧ (Sta Z Z.heap "com/example/salp/salp/model/ListFilter" "NORMAL" "Lcom/example/salp/salp/model/ListFilter;" (.ref a_NORMAL)) ∧ (Exa Z Z.heap a_NORMAL "com/example/salp/salp/model/ListFilter") ∧ (Fld Z Z.heap a_ALL "java/lang/Enum" "ordinal" "I" (.int (0 : Int32))) ∧ (Fld Z Z.heap a_NORMAL "java/lang/Enum" "ordinal" "I" (.int (1 : Int32))) ∧ (Sta Z Z.heap "com/example/salp/salp/model/ListCounts$1" "$SwitchMap$com$example$salp$salp$model$ListFilter" "[I" (.ref a__SwitchMap_com_example_salp_salp_model_ListFilter)) ∧ (Arr Z Z.heap a__SwitchMap_com_example_salp_salp_model_ListFilter cl__SwitchMap_com_example_salp_salp_model_ListFilter .int) ∧ (¬ ((0 : Int32) < 0 ∨ cl__SwitchMap_com_example_salp_salp_model_ListFilter.slots.size ≤ ((0 : Int32)).toNatClampNeg)) ∧ (cl__SwitchMap_com_example_salp_salp_model_ListFilter.slots[((0 : Int32)).toNatClampNeg]? = some (.int (1 : Int32))) ∧ (¬ ((1 : Int32) < 0 ∨ cl__SwitchMap_com_example_salp_salp_model_ListFilter.slots.size ≤ ((1 : Int32)).toNatClampNeg)) ∧ (cl__SwitchMap_com_example_salp_salp_model_ListFilter.slots[((1 : Int32)).toNatClampNeg]? = some (.int (2 : Int32)))
theorem own_pn0 : plainName "java/lang/Record" = true := by first | (simp [plainName, overriddenIn]; done) | decide +kernel
theorem own_ef_rec (m : MethodId) (a : Addr) : entryFrame m #[(.ref a)] 1 = mkF m 0 #[.val (.ref a)] [] := by first | (simp [entryFrame, mkF, argsToLocals, Value.category]; done) | rfl
theorem own_d_jdk_30_method_1_0 : decode jdk_30_method_1_code 0 = .ok (.aload_n 0, 1) := by decide +kernel
theorem own_d_jdk_30_method_1_1 : decode jdk_30_method_1_code 1 = .ok (.invokespecial 1, 3) := by decide +kernel
theorem own_d_jdk_30_method_1_4 : decode jdk_30_method_1_code 4 = .ok (.return_, 1) := by decide +kernel
def Q_rec (Z : State) (a : Addr) (h0 : Heap) (v_ : Option Value) (h : Heap) (L_ : List Loc) : Prop := v_ = none ∧ Fr Z.heap.size L_ ∧ (h = h0)
set_option maxRecDepth 65536 in
set_option maxHeartbeats 40000000 in
theorem rm_rec (l : Launch) (Z : State) (a0 : Array Value) (hw : ∀ d ∈ tables_1, d.before a0 Z = true) (ws : List Jvm.Cond) (a : Addr) (h0 : Heap) (O : Ext Z.heap h0) :
    MetFree l (⟨"java/lang/Record", "<init>", "()V"⟩ : MethodName) (head1 (Jvm.Cond.code (⟨"java/lang/Record", "<init>", "()V"⟩ : MethodName) jdk_30_method_1_code 1 none :: ws) ({ frames := 1, cells := 0, slots := 0, locals := 12 } : Room)) (fun a_ U_ => a_ = #[(.ref a)] ∧ Z.Warmed39 U_.vm ∧ U_.heap = h0) (fun _ _ _ _ _ => True) (fun _ U_ o_ U2_ => ∃ v_ L_, o_ = .returned v_ ∧ Q_rec Z a h0 v_ U2_.heap L_ ∧ FrameEnd U_ o_ U2_ L_ ({ frames := 1, cells := 0, slots := 0, locals := 12 } : Room).cells ({ frames := 1, cells := 0, slots := 0, locals := 12 } : Room).slots) := by
  refine MetFree.of_bodySF (plainFor_of_name own_pn0) hisR ?_
  intro p e s m args below meth c s₁ Bd hml0 hP hK
  obtain ⟨rfl, hZ, hh⟩ := hP
  have hx := Bd.exec
  have hby := Bd.bytes
  have hml : c.maxLocals = 1 := hml0
  have hown : s.vm.findClass "java/lang/Record" = some m.cls := findClass_of_methodNamed Bd.named
  have hnm := (name_of_methodNamed Bd.named Bd.method).1
  have X0 : Stand p l e ({ frames := 1, cells := 0, slots := 0, locals := 12 } : Room) s m #[(.ref a)] below meth c s₁ [] 0 0 := Stand.of_body Bd
  have e0 : s₁.heap = h0 := by rw [← hh, Bd.state]; rfl
  have N0 := Fr.nil Z.heap.size
  show own_G p e below (fun o_ s₂ => ∃ v_ L_, o_ = .returned v_ ∧ Q_rec Z a h0 v_ s₂.heap L_ ∧ FrameEnd s o_ s₂ L_ ({ frames := 1, cells := 0, slots := 0, locals := 12 } : Room).cells ({ frames := 1, cells := 0, slots := 0, locals := 12 } : Room).slots) (s₁.setTop (entryFrame m #[(.ref a)] 1))
  refine own_go (s₁.setTop (mkF m 0 #[.val (.ref a)] [])) (fun t_ k_ => castTop (own_ef_rec m a) k_) ?_
  refine own_go (s₁.setTop (mkF m 1 #[.val (.ref a)] [(.ref a)])) (fun t_ k_ => XS.aloadN X0.here hx rfl (hb hby own_d_jdk_30_method_1_0) rfl rfl k_) ?_
  obtain ⟨T1, X1, e1, st1⟩ := initO X0 hx hZ hown (hw _ (List.mem_of_getElem? (i := 11) rfl)) (hw _ (List.mem_of_getElem? (i := 12) rfl)) (hw _ (List.mem_of_getElem? (i := 13) rfl)) e0 (g := (mkF m 1 #[.val (.ref a)] [(.ref a)])) rfl (by rw [hml]; rfl) rfl (hb hby own_d_jdk_30_method_1_1) (by decide) (W := 0) (by show 2 * 0 + _ ≤ _; exact Nat.le_of_eq rfl) (by decide)
  refine own_go (T1.setTop (mkF m 4 #[.val (.ref a)] [])) (fun t_ k_ => st1 _ k_) ?_
  obtain ⟨fs, hr, hrun, hended, hW, hsame⟩ := X1.leave (v := none) (fun _ => rfl)
  refine ⟨_, _, X1.returnOut hx Bd.returns (hb hby own_d_jdk_30_method_1_4) hr, hrun, hended, _, _, rfl, ?_, ⟨_, rfl⟩, hW, hsame.mono (by decide) (by decide)⟩
  show Q_rec Z a h0 _ T1.heap _
  exact ⟨rfl, N0, e1⟩
theorem own_pn1 : plainName "com/example/salp/salp/model/ListCounts" = true := by first | (simp [plainName, overriddenIn]; done) | decide +kernel
theorem own_ef_ci (m : MethodId) (a : Addr) (x : Int64) (y : Int64) : entryFrame m #[(.ref a), (.long x), (.long y)] 5 = mkF m 0 #[.val (.ref a), .val (.long x), .second, .val (.long y), .second] [] := by first | (simp [entryFrame, mkF, argsToLocals, Value.category]; done) | rfl
theorem own_d_prog_8_method_1_0 : decode prog_8_method_1_code 0 = .ok (.aload_n 0, 1) := by decide +kernel
theorem own_d_prog_8_method_1_1 : decode prog_8_method_1_code 1 = .ok (.invokespecial 1, 3) := by decide +kernel
theorem own_pd0 : parseMethodDescriptor "()V" = some ⟨[], none⟩ := by decide +kernel
theorem own_d_prog_8_method_1_4 : decode prog_8_method_1_code 4 = .ok (.aload_n 0, 1) := by decide +kernel
theorem own_d_prog_8_method_1_5 : decode prog_8_method_1_code 5 = .ok (.lload_n 1, 1) := by decide +kernel
theorem own_d_prog_8_method_1_6 : decode prog_8_method_1_code 6 = .ok (.putfield 7, 3) := by decide +kernel
theorem own_d_prog_8_method_1_9 : decode prog_8_method_1_code 9 = .ok (.aload_n 0, 1) := by decide +kernel
theorem own_d_prog_8_method_1_10 : decode prog_8_method_1_code 10 = .ok (.lload_n 3, 1) := by decide +kernel
theorem own_d_prog_8_method_1_11 : decode prog_8_method_1_code 11 = .ok (.putfield 13, 3) := by decide +kernel
theorem own_d_prog_8_method_1_14 : decode prog_8_method_1_code 14 = .ok (.return_, 1) := by decide +kernel
def Q_ci (Z : State) (a : Addr) (x : Int64) (y : Int64) (h0 : Heap) (v_ : Option Value) (h : Heap) (L_ : List Loc) : Prop := v_ = none ∧ Fr Z.heap.size L_ ∧ (Keep h0 h [a] ∧ Exa Z h a "com/example/salp/salp/model/ListCounts" ∧ Fld Z h a "com/example/salp/salp/model/ListCounts" "all" "J" (.long x) ∧ Fld Z h a "com/example/salp/salp/model/ListCounts" "normal" "J" (.long y))
set_option maxRecDepth 65536 in
set_option maxHeartbeats 40000000 in
theorem rm_ci (l : Launch) (Z : State) (a0 : Array Value) (hw : ∀ d ∈ tables_1, d.before a0 Z = true) (ws : List Jvm.Cond) (a : Addr) (x : Int64) (y : Int64) (h0 : Heap) (O : Ext Z.heap h0) (X : Exa Z h0 a "com/example/salp/salp/model/ListCounts") (F : Fld Z h0 a "com/example/salp/salp/model/ListCounts" "all" "J" (.long (0 : Int64))) (G : Fld Z h0 a "com/example/salp/salp/model/ListCounts" "normal" "J" (.long (0 : Int64))) (ga : Z.heap.size ≤ a) :
    MetFree l (⟨"com/example/salp/salp/model/ListCounts", "<init>", "(JJ)V"⟩ : MethodName) (head1 (Jvm.Cond.code (⟨"com/example/salp/salp/model/ListCounts", "<init>", "(JJ)V"⟩ : MethodName) prog_8_method_1_code 5 none :: ws) ({ frames := 2, cells := 0, slots := 0, locals := 24 } : Room)) (fun a_ U_ => a_ = #[(.ref a), (.long x), (.long y)] ∧ Z.Warmed39 U_.vm ∧ U_.heap = h0) (fun _ _ _ _ _ => True) (fun _ U_ o_ U2_ => ∃ v_ L_, o_ = .returned v_ ∧ Q_ci Z a x y h0 v_ U2_.heap L_ ∧ FrameEnd U_ o_ U2_ L_ ({ frames := 2, cells := 0, slots := 0, locals := 24 } : Room).cells ({ frames := 2, cells := 0, slots := 0, locals := 24 } : Room).slots) := by
  refine MetFree.of_bodySF (plainFor_of_name own_pn1) hisR ?_
  intro p e s m args below meth c s₁ Bd hml0 hP hK
  obtain ⟨rfl, hZ, hh⟩ := hP
  have hx := Bd.exec
  have hby := Bd.bytes
  have hml : c.maxLocals = 5 := hml0
  have hown : s.vm.findClass "com/example/salp/salp/model/ListCounts" = some m.cls := findClass_of_methodNamed Bd.named
  have hnm := (name_of_methodNamed Bd.named Bd.method).1
  have X0 : Stand p l e ({ frames := 2, cells := 0, slots := 0, locals := 24 } : Room) s m #[(.ref a), (.long x), (.long y)] below meth c s₁ [] 0 0 := Stand.of_body Bd
  have e0 : s₁.heap = h0 := by rw [← hh, Bd.state]; rfl
  have N0 := Fr.nil Z.heap.size
  show own_G p e below (fun o_ s₂ => ∃ v_ L_, o_ = .returned v_ ∧ Q_ci Z a x y h0 v_ s₂.heap L_ ∧ FrameEnd s o_ s₂ L_ ({ frames := 2, cells := 0, slots := 0, locals := 24 } : Room).cells ({ frames := 2, cells := 0, slots := 0, locals := 24 } : Room).slots) (s₁.setTop (entryFrame m #[(.ref a), (.long x), (.long y)] 5))
  refine own_go (s₁.setTop (mkF m 0 #[.val (.ref a), .val (.long x), .second, .val (.long y), .second] [])) (fun t_ k_ => castTop (own_ef_ci m a x y) k_) ?_
  refine own_go (s₁.setTop (mkF m 1 #[.val (.ref a), .val (.long x), .second, .val (.long y), .second] [(.ref a)])) (fun t_ k_ => XS.aloadN X0.here hx rfl (hb hby own_d_prog_8_method_1_0) rfl rfl k_) ?_
  obtain ⟨_, _, ⟨T1, Lu1, ku1, nu1⟩, -, X1, ⟨Lc1, hQ1, lu1, yu1, zu1⟩, st1⟩ := X0.specialBack hx (y := (⟨"java/lang/Record", "<init>", "()V"⟩ : MethodName)) rfl hown (mvT hZ (hw _ (List.mem_of_getElem? (i := 6) rfl))) (mvT hZ (hw _ (List.mem_of_getElem? (i := 7) rfl))) (mvT hZ (hw _ (List.mem_of_getElem? (i := 10) rfl))) (by decide) (backOf (W := 0) (rm_rec l Z a0 hw [] (a) h0 O ) hZ (hw _ (List.mem_of_getElem? (i := 10) rfl)) (hw _ (List.mem_of_getElem? (i := 9) rfl)) (by decide) (by decide)) (g := (mkF m 1 #[.val (.ref a), .val (.long x), .second, .val (.long y), .second] [(.ref a)])) rfl (by rw [hml]; rfl) (Steps.refl _) (a := a) (argsL := []) (rest := []) (lenOf own_pd0 rfl) rfl (by show 2 * 0 + _ ≤ _; exact Nat.le_of_eq rfl) (hb hby own_d_prog_8_method_1_1) (fun _ _ => ⟨rfl, e0, (by decide : 0 + 0 ≤ _), (by decide : 0 + 0 ≤ _)⟩)
  dsimp only [Pt.U, Pt.locs, Pt.cells, Pt.slots] at X1 lu1 yu1 zu1 st1 hQ1
  subst lu1 yu1 zu1
  obtain ⟨rfl, N1q, e1⟩ := hQ1
  have N1 := Fr.app N0 N1q
  refine own_go (T1.setTop (mkF m 4 #[.val (.ref a), .val (.long x), .second, .val (.long y), .second] [])) (fun t_ k_ => st1.trans k_) ?_
  refine own_go (T1.setTop (mkF m 5 #[.val (.ref a), .val (.long x), .second, .val (.long y), .second] [(.ref a)])) (fun t_ k_ => XS.aloadN X1.here hx rfl (hb hby own_d_prog_8_method_1_4) rfl rfl k_) ?_
  refine own_go (T1.setTop (mkF m 6 #[.val (.ref a), .val (.long x), .second, .val (.long y), .second] [(.long x), (.ref a)])) (fun t_ k_ => XS.lloadN X1.here hx rfl (hb hby own_d_prog_8_method_1_5) rfl k_) ?_
  obtain ⟨T2, h2, X2, e2, W2, st2⟩ := putF X1 hx hZ hown (host := "") (Or.inl (hw _ (List.mem_of_getElem? (i := 14) rfl))) Via.refl e1 F X (Or.inr ⟨(hw _ (List.mem_of_getElem? (i := 15) rfl)), rfl, hnm⟩) (hw _ (List.mem_of_getElem? (i := 1) rfl)) (ty := .long) (by decide) rfl rfl (g := (mkF m 6 #[.val (.ref a), .val (.long x), .second, .val (.long y), .second] [(.long x), (.ref a)])) rfl rfl (hb hby own_d_prog_8_method_1_6)
  have Fw2 := F.same W2
  have K2 : Keep h0 h2 [a] := (Keep.refl h0 [a]).wr W2 (Or.inl (List.mem_of_getElem? (i := 0) rfl))
  have N2 := Fr.snoc X2 N1 ga
  have O2 := own_extW O W2 ga
  refine own_go (T2.setTop (mkF m 9 #[.val (.ref a), .val (.long x), .second, .val (.long y), .second] [])) (fun t_ k_ => st2 _ k_) ?_
  refine own_go (T2.setTop (mkF m 10 #[.val (.ref a), .val (.long x), .second, .val (.long y), .second] [(.ref a)])) (fun t_ k_ => XS.aloadN X2.here hx rfl (hb hby own_d_prog_8_method_1_9) rfl rfl k_) ?_
  refine own_go (T2.setTop (mkF m 11 #[.val (.ref a), .val (.long x), .second, .val (.long y), .second] [(.long y), (.ref a)])) (fun t_ k_ => XS.lloadN X2.here hx rfl (hb hby own_d_prog_8_method_1_10) rfl k_) ?_
  have Fz3 := (X.wr W2)
  have Fz4 := (G.other W2 (Or.inr (slot_ne (a0 := a0) (Or.inr (hw _ (List.mem_of_getElem? (i := 17) rfl))) (Or.inr (hw _ (List.mem_of_getElem? (i := 15) rfl))) (by decide) (t := .long) (t' := .long) (by decide) (by decide))))
  obtain ⟨T5, h5, X5, e5, W5, st5⟩ := putF X2 hx hZ hown (host := "") (Or.inl (hw _ (List.mem_of_getElem? (i := 16) rfl))) Via.refl e2 Fz4 Fz3 (Or.inr ⟨(hw _ (List.mem_of_getElem? (i := 17) rfl)), rfl, hnm⟩) (hw _ (List.mem_of_getElem? (i := 1) rfl)) (ty := .long) (by decide) rfl rfl (g := (mkF m 11 #[.val (.ref a), .val (.long x), .second, .val (.long y), .second] [(.long y), (.ref a)])) rfl rfl (hb hby own_d_prog_8_method_1_11)
  have Fw5 := Fz4.same W5
  have K5 : Keep h0 h5 [a] := K2.wr W5 (Or.inl (List.mem_of_getElem? (i := 0) rfl))
  have N5 := Fr.snoc X5 N2 ga
  have O5 := own_extW O2 W5 ga
  refine own_go (T5.setTop (mkF m 14 #[.val (.ref a), .val (.long x), .second, .val (.long y), .second] [])) (fun t_ k_ => st5 _ k_) ?_
  obtain ⟨fs, hr, hrun, hended, hW, hsame⟩ := X5.leave (v := none) (fun _ => rfl)
  refine ⟨_, _, X5.returnOut hx Bd.returns (hb hby own_d_prog_8_method_1_14) hr, hrun, hended, _, _, rfl, ?_, ⟨_, rfl⟩, hW, hsame.mono (by decide) (by decide)⟩
  show Q_ci Z a x y h0 _ T5.heap _
  have Fz6 := (Fz3.wr W5)
  have Fz7 := (Fw2.other W5 (Or.inr (slot_ne (a0 := a0) (Or.inr (hw _ (List.mem_of_getElem? (i := 15) rfl))) (Or.inr (hw _ (List.mem_of_getElem? (i := 17) rfl))) (by decide) (t := .long) (t' := .long) (by decide) (by decide))))
  show Q_ci Z a x y h0 _ T5.heap _
  rw [e5]
  exact ⟨rfl, N5, K5, Fz6, Fz7, Fw5⟩
theorem own_pn2 : plainName "java/lang/Enum" = true := by first | (simp [plainName, overriddenIn]; done) | decide +kernel
theorem own_ef_od (m : MethodId) (a : Addr) : entryFrame m #[(.ref a)] 1 = mkF m 0 #[.val (.ref a)] [] := by first | (simp [entryFrame, mkF, argsToLocals, Value.category]; done) | rfl
theorem own_d_jdk_37_method_2_0 : decode jdk_37_method_2_code 0 = .ok (.aload_n 0, 1) := by decide +kernel
theorem own_d_jdk_37_method_2_1 : decode jdk_37_method_2_code 1 = .ok (.getfield 7, 3) := by decide +kernel
theorem own_d_jdk_37_method_2_4 : decode jdk_37_method_2_code 4 = .ok (.ireturn, 1) := by decide +kernel
def Q_od (Z : State) (a : Addr) (n : Int32) (h0 : Heap) (v_ : Option Value) (h : Heap) (L_ : List Loc) : Prop := v_ = some (.int n) ∧ Fr Z.heap.size L_ ∧ (h = h0)
set_option maxRecDepth 65536 in
set_option maxHeartbeats 40000000 in
theorem rm_od (l : Launch) (Z : State) (a0 : Array Value) (hw : ∀ d ∈ tables_1, d.before a0 Z = true) (ws : List Jvm.Cond) (a : Addr) (n : Int32) (h0 : Heap) (O : Ext Z.heap h0) (F : Fld Z Z.heap a "java/lang/Enum" "ordinal" "I" (.int n)) :
    MetFree l (⟨"java/lang/Enum", "ordinal", "()I"⟩ : MethodName) (head1 (Jvm.Cond.code (⟨"java/lang/Enum", "ordinal", "()I"⟩ : MethodName) jdk_37_method_2_code 1 (some .int) :: ws) ({ frames := 0, cells := 0, slots := 0, locals := 0 } : Room)) (fun a_ U_ => a_ = #[(.ref a)] ∧ Z.Warmed39 U_.vm ∧ U_.heap = h0) (fun _ _ _ _ _ => True) (fun _ U_ o_ U2_ => ∃ v_ L_, o_ = .returned v_ ∧ Q_od Z a n h0 v_ U2_.heap L_ ∧ FrameEnd U_ o_ U2_ L_ ({ frames := 0, cells := 0, slots := 0, locals := 0 } : Room).cells ({ frames := 0, cells := 0, slots := 0, locals := 0 } : Room).slots) := by
  refine MetFree.of_bodySF (plainFor_of_name own_pn2) hisR ?_
  intro p e s m args below meth c s₁ Bd hml0 hP hK
  obtain ⟨rfl, hZ, hh⟩ := hP
  have hx := Bd.exec
  have hby := Bd.bytes
  have hml : c.maxLocals = 1 := hml0
  have hown : s.vm.findClass "java/lang/Enum" = some m.cls := findClass_of_methodNamed Bd.named
  have hnm := (name_of_methodNamed Bd.named Bd.method).1
  have X0 : Stand p l e ({ frames := 0, cells := 0, slots := 0, locals := 0 } : Room) s m #[(.ref a)] below meth c s₁ [] 0 0 := Stand.of_body Bd
  have e0 : s₁.heap = h0 := by rw [← hh, Bd.state]; rfl
  have N0 := Fr.nil Z.heap.size
  show own_G p e below (fun o_ s₂ => ∃ v_ L_, o_ = .returned v_ ∧ Q_od Z a n h0 v_ s₂.heap L_ ∧ FrameEnd s o_ s₂ L_ ({ frames := 0, cells := 0, slots := 0, locals := 0 } : Room).cells ({ frames := 0, cells := 0, slots := 0, locals := 0 } : Room).slots) (s₁.setTop (entryFrame m #[(.ref a)] 1))
  refine own_go (s₁.setTop (mkF m 0 #[.val (.ref a)] [])) (fun t_ k_ => castTop (own_ef_od m a) k_) ?_
  refine own_go (s₁.setTop (mkF m 1 #[.val (.ref a)] [(.ref a)])) (fun t_ k_ => XS.aloadN X0.here hx rfl (hb hby own_d_jdk_37_method_2_0) rfl rfl k_) ?_
  obtain ⟨T1, X1, e1, st1⟩ := getF X0 hx hZ hown (host := "") (Or.inl (hw _ (List.mem_of_getElem? (i := 36) rfl))) Via.refl e0 (F.ext O) (g := (mkF m 1 #[.val (.ref a)] [(.ref a)])) rfl rfl (hb hby own_d_jdk_37_method_2_1)
  refine own_go (T1.setTop (mkF m 4 #[.val (.ref a)] [(.int n)])) (fun t_ k_ => st1 _ k_) ?_
  obtain ⟨fs, hr, hrun, hended, hW, hsame⟩ := X1.leave (v := some (.int n)) (fun h => by rw [Bd.returns] at h; cases h)
  refine ⟨_, _, retI X1 hx Bd.returns (hb hby own_d_jdk_37_method_2_4) hr, hrun, hended, _, _, rfl, ?_, ⟨_, rfl⟩, hW, hsame.mono (by decide) (by decide)⟩
  show Q_od Z a n h0 _ T1.heap _
  exact ⟨rfl, N0, e1⟩
theorem own_ef_ta (m : MethodId) (a : Addr) (a_ALL : Addr) : entryFrame m #[(.ref a), (.ref a_ALL)] 2 = mkF m 0 #[.val (.ref a), .val (.ref a_ALL)] [] := by first | (simp [entryFrame, mkF, argsToLocals, Value.category]; done) | rfl
theorem own_d_prog_8_method_2_0 : decode prog_8_method_2_code 0 = .ok (.getstatic 16, 3) := by decide +kernel
theorem own_d_prog_8_method_2_3 : decode prog_8_method_2_code 3 = .ok (.aload_n 1, 1) := by decide +kernel
theorem own_d_prog_8_method_2_4 : decode prog_8_method_2_code 4 = .ok (.invokevirtual 22, 3) := by decide +kernel
theorem own_pd1 : parseMethodDescriptor "()I" = some ⟨[], some .int⟩ := by decide +kernel
theorem own_d_prog_8_method_2_7 : decode prog_8_method_2_code 7 = .ok (.iaload, 1) := by decide +kernel
theorem own_d_prog_8_method_2_8 : decode prog_8_method_2_code 8 = .ok (.lookupswitch 28 #[(1, 38), (2, 45)], 28) := by decide +kernel
theorem own_d_prog_8_method_2_46 : decode prog_8_method_2_code 46 = .ok (.aload_n 0, 1) := by decide +kernel
theorem own_d_prog_8_method_2_47 : decode prog_8_method_2_code 47 = .ok (.getfield 7, 3) := by decide +kernel
theorem own_d_prog_8_method_2_50 : decode prog_8_method_2_code 50 = .ok (.goto 7, 3) := by decide +kernel
theorem own_d_prog_8_method_2_57 : decode prog_8_method_2_code 57 = .ok (.lreturn, 1) := by decide +kernel
def Q_ta (Z : State) (a : Addr) (x : Int64) (y : Int64) (a_ALL : Addr) (a_NORMAL : Addr) (a__SwitchMap_com_example_salp_salp_model_ListFilter : Addr) (cl__SwitchMap_com_example_salp_salp_model_ListFilter : Cell) (h0 : Heap) (v_ : Option Value) (h : Heap) (L_ : List Loc) : Prop := v_ = some (.long x) ∧ Fr Z.heap.size L_ ∧ (h = h0)
set_option maxRecDepth 65536 in
set_option maxHeartbeats 40000000 in
theorem rm_ta (l : Launch) (Z : State) (a0 : Array Value) (hw : ∀ d ∈ tables_1, d.before a0 Z = true) (ws : List Jvm.Cond) (a : Addr) (x : Int64) (y : Int64) (a_ALL : Addr) (a_NORMAL : Addr) (a__SwitchMap_com_example_salp_salp_model_ListFilter : Addr) (cl__SwitchMap_com_example_salp_salp_model_ListFilter : Cell) (h0 : Heap) (O : Ext Z.heap h0) (w : own_W Z a_ALL a_NORMAL a__SwitchMap_com_example_salp_salp_model_ListFilter cl__SwitchMap_com_example_salp_salp_model_ListFilter) (F : Fld Z h0 a "com/example/salp/salp/model/ListCounts" "all" "J" (.long x)) (G : Fld Z h0 a "com/example/salp/salp/model/ListCounts" "normal" "J" (.long y)) :
    MetFree l (⟨"com/example/salp/salp/model/ListCounts", "taken", "(Lcom/example/salp/salp/model/ListFilter;)J"⟩ : MethodName) (head1 (Jvm.Cond.code (⟨"com/example/salp/salp/model/ListCounts", "taken", "(Lcom/example/salp/salp/model/ListFilter;)J"⟩ : MethodName) prog_8_method_2_code 2 (some .long) :: ws) ({ frames := 1, cells := 0, slots := 0, locals := 13 } : Room)) (fun a_ U_ => a_ = #[(.ref a), (.ref a_ALL)] ∧ Z.Warmed39 U_.vm ∧ U_.heap = h0) (fun _ _ _ _ _ => True) (fun _ U_ o_ U2_ => ∃ v_ L_, o_ = .returned v_ ∧ Q_ta Z a x y a_ALL a_NORMAL a__SwitchMap_com_example_salp_salp_model_ListFilter cl__SwitchMap_com_example_salp_salp_model_ListFilter h0 v_ U2_.heap L_ ∧ FrameEnd U_ o_ U2_ L_ ({ frames := 1, cells := 0, slots := 0, locals := 13 } : Room).cells ({ frames := 1, cells := 0, slots := 0, locals := 13 } : Room).slots) := by
  refine MetFree.of_bodySF (plainFor_of_name own_pn1) hisR ?_
  intro p e s m args below meth c s₁ Bd hml0 hP hK
  obtain ⟨rfl, hZ, hh⟩ := hP
  have hx := Bd.exec
  have hby := Bd.bytes
  have hml : c.maxLocals = 2 := hml0
  have hown : s.vm.findClass "com/example/salp/salp/model/ListCounts" = some m.cls := findClass_of_methodNamed Bd.named
  have hnm := (name_of_methodNamed Bd.named Bd.method).1
  have X0 : Stand p l e ({ frames := 1, cells := 0, slots := 0, locals := 13 } : Room) s m #[(.ref a), (.ref a_ALL)] below meth c s₁ [] 0 0 := Stand.of_body Bd
  have e0 : s₁.heap = h0 := by rw [← hh, Bd.state]; rfl
  have N0 := Fr.nil Z.heap.size
  show own_G p e below (fun o_ s₂ => ∃ v_ L_, o_ = .returned v_ ∧ Q_ta Z a x y a_ALL a_NORMAL a__SwitchMap_com_example_salp_salp_model_ListFilter cl__SwitchMap_com_example_salp_salp_model_ListFilter h0 v_ s₂.heap L_ ∧ FrameEnd s o_ s₂ L_ ({ frames := 1, cells := 0, slots := 0, locals := 13 } : Room).cells ({ frames := 1, cells := 0, slots := 0, locals := 13 } : Room).slots) (s₁.setTop (entryFrame m #[(.ref a), (.ref a_ALL)] 2))
  refine own_go (s₁.setTop (mkF m 0 #[.val (.ref a), .val (.ref a_ALL)] [])) (fun t_ k_ => castTop (own_ef_ta m a a_ALL) k_) ?_
  have w' := w
  obtain ⟨S_ALL, X_ALL, S_NORMAL, X_NORMAL, F_ALL_ordinal, F_NORMAL_ordinal, S__SwitchMap_com_example_salp_salp_model_ListFilter, A__SwitchMap_com_example_salp_salp_model_ListFilter, in__SwitchMap_com_example_salp_salp_model_ListFilter_0, at__SwitchMap_com_example_salp_salp_model_ListFilter_0, in__SwitchMap_com_example_salp_salp_model_ListFilter_1, at__SwitchMap_com_example_salp_salp_model_ListFilter_1⟩ := w'
  obtain ⟨T1, X1, e1, st1⟩ := getS2 X0 hx hZ hown (host := "") (Or.inl (hw _ (List.mem_of_getElem? (i := 26) rfl))) Via.refl e0 (S__SwitchMap_com_example_salp_salp_model_ListFilter.ext O) (g := (mkF m 0 #[.val (.ref a), .val (.ref a_ALL)] [])) rfl (hb hby own_d_prog_8_method_2_0)
  refine own_go (T1.setTop (mkF m 3 #[.val (.ref a), .val (.ref a_ALL)] [(.ref a__SwitchMap_com_example_salp_salp_model_ListFilter)])) (fun t_ k_ => st1 _ k_) ?_
  refine own_go (T1.setTop (mkF m 4 #[.val (.ref a), .val (.ref a_ALL)] [(.ref a_ALL), (.ref a__SwitchMap_com_example_salp_salp_model_ListFilter)])) (fun t_ k_ => XS.aloadN X1.here hx rfl (hb hby own_d_prog_8_method_2_3) rfl rfl k_) ?_
  obtain ⟨cq2, kq2, q2a, q2b, q2c⟩ := isOf hZ e1 (X_ALL.ext O)
  obtain ⟨_, _, ⟨T2, Lu2, ku2, nu2⟩, -, X2, ⟨Lc2, hQ2, lu2, yu2, zu2⟩, st2⟩ := X1.virtualBackUp hx (owner := "java/lang/Enum") (x := (⟨"com/example/salp/salp/model/ListFilter", "ordinal", "()I"⟩ : MethodName)) (y := (⟨"java/lang/Enum", "ordinal", "()I"⟩ : MethodName)) hown (mvT hZ (hw _ (List.mem_of_getElem? (i := 29) rfl))) (mvT hZ (hw _ (List.mem_of_getElem? (i := 30) rfl))) (mvT hZ (hw _ (List.mem_of_getElem? (i := 31) rfl))) (by decide) (mvT hZ (hw _ (List.mem_of_getElem? (i := 33) rfl))) (mvT hZ (hw _ (List.mem_of_getElem? (i := 32) rfl))) (backOf (W := 1) (rm_od l Z a0 hw [] (a_ALL) ((0 : Int32)) h0 O F_ALL_ordinal) hZ (hw _ (List.mem_of_getElem? (i := 35) rfl)) (hw _ (List.mem_of_getElem? (i := 34) rfl)) (by decide) (by decide)) q2a q2c (g := (mkF m 4 #[.val (.ref a), .val (.ref a_ALL)] [(.ref a_ALL), (.ref a__SwitchMap_com_example_salp_salp_model_ListFilter)])) rfl (by rw [hml]; rfl) (Steps.refl _) (argsL := []) (rest := [(.ref a__SwitchMap_com_example_salp_salp_model_ListFilter)]) (lenOf own_pd1 rfl) rfl (by show 2 * 0 + _ ≤ _; exact Nat.le_of_eq rfl) (hb hby own_d_prog_8_method_2_4) (fun _ _ => ⟨rfl, e1, (by decide : 0 + 0 ≤ _), (by decide : 0 + 0 ≤ _)⟩)
  dsimp only [Pt.U, Pt.locs, Pt.cells, Pt.slots] at X2 lu2 yu2 zu2 st2 hQ2
  subst lu2 yu2 zu2
  obtain ⟨rfl, N2q, e2⟩ := hQ2
  have N2 := Fr.app N0 N2q
  refine own_go (T2.setTop (mkF m 7 #[.val (.ref a), .val (.ref a_ALL)] [(.int (0 : Int32)), (.ref a__SwitchMap_com_example_salp_salp_model_ListFilter)])) (fun t_ k_ => st2.trans k_) ?_
  have Ar3 := (A__SwitchMap_com_example_salp_salp_model_ListFilter.ext O)
  refine own_go (T2.setTop (mkF m 8 #[.val (.ref a), .val (.ref a_ALL)] [(.int (1 : Int32))])) (fun t_ k_ => X2.iaload hx (j := (0 : Int32)) (v := (.int (1 : Int32))) (by rw [e2]; exact Ar3.1) (State.isArrayOf_alike hZ.alike Ar3.2.1) Ar3.2.2 in__SwitchMap_com_example_salp_salp_model_ListFilter_0 at__SwitchMap_com_example_salp_salp_model_ListFilter_0 (g := (mkF m 7 #[.val (.ref a), .val (.ref a_ALL)] [(.int (0 : Int32)), (.ref a__SwitchMap_com_example_salp_salp_model_ListFilter)])) rfl rfl (hb hby own_d_prog_8_method_2_7) _ k_) ?_
  refine own_go (T2.setTop (mkF m 46 #[.val (.ref a), .val (.ref a_ALL)] [])) (fun t_ k_ => X2.lookupswitchHit hx (g := (mkF m 8 #[.val (.ref a), .val (.ref a_ALL)] [(.int (1 : Int32))])) rfl rfl (hb hby own_d_prog_8_method_2_8) (by decide) (a := 1) (off := 38) (by decide) (by show (0 : Int) ≤ ((8 : Nat) : Int) + 38; decide) _ k_) ?_
  refine own_go (T2.setTop (mkF m 47 #[.val (.ref a), .val (.ref a_ALL)] [(.ref a)])) (fun t_ k_ => XS.aloadN X2.here hx rfl (hb hby own_d_prog_8_method_2_46) rfl rfl k_) ?_
  obtain ⟨T4, X4, e4, st4⟩ := getF X2 hx hZ hown (host := "") (Or.inl (hw _ (List.mem_of_getElem? (i := 14) rfl))) Via.refl e2 F (g := (mkF m 47 #[.val (.ref a), .val (.ref a_ALL)] [(.ref a)])) rfl rfl (hb hby own_d_prog_8_method_2_47)
  refine own_go (T4.setTop (mkF m 50 #[.val (.ref a), .val (.ref a_ALL)] [(.long x)])) (fun t_ k_ => st4 _ k_) ?_
  refine own_go (T4.setTop (mkF m 57 #[.val (.ref a), .val (.ref a_ALL)] [(.long x)])) (fun t_ k_ => XS.goto X4.here hx rfl (pc0 := 50) (pc' := 57) rfl (hb hby own_d_prog_8_method_2_50) (by decide) (by decide) k_) ?_
  obtain ⟨fs, hr, hrun, hended, hW, hsame⟩ := X4.leave (v := some (.long x)) (fun h => by rw [Bd.returns] at h; cases h)
  refine ⟨_, _, Jvm.RoadKit.retOut X4 hx Bd.returns rfl (Or.inr (Or.inl ⟨rfl, rfl, _, rfl⟩)) (hb hby own_d_prog_8_method_2_57) hr, hrun, hended, _, _, rfl, ?_, ⟨_, rfl⟩, hW, hsame.mono (by decide) (by decide)⟩
  show Q_ta Z a x y a_ALL a_NORMAL a__SwitchMap_com_example_salp_salp_model_ListFilter cl__SwitchMap_com_example_salp_salp_model_ListFilter h0 _ T4.heap _
  exact ⟨rfl, N2, e4⟩
theorem own_ef_tn (m : MethodId) (a : Addr) (a_NORMAL : Addr) : entryFrame m #[(.ref a), (.ref a_NORMAL)] 2 = mkF m 0 #[.val (.ref a), .val (.ref a_NORMAL)] [] := by first | (simp [entryFrame, mkF, argsToLocals, Value.category]; done) | rfl
theorem own_d_prog_8_method_2_53 : decode prog_8_method_2_code 53 = .ok (.aload_n 0, 1) := by decide +kernel
theorem own_d_prog_8_method_2_54 : decode prog_8_method_2_code 54 = .ok (.getfield 13, 3) := by decide +kernel
def Q_tn (Z : State) (a : Addr) (x : Int64) (y : Int64) (a_ALL : Addr) (a_NORMAL : Addr) (a__SwitchMap_com_example_salp_salp_model_ListFilter : Addr) (cl__SwitchMap_com_example_salp_salp_model_ListFilter : Cell) (h0 : Heap) (v_ : Option Value) (h : Heap) (L_ : List Loc) : Prop := v_ = some (.long y) ∧ Fr Z.heap.size L_ ∧ (h = h0)
set_option maxRecDepth 65536 in
set_option maxHeartbeats 40000000 in
theorem rm_tn (l : Launch) (Z : State) (a0 : Array Value) (hw : ∀ d ∈ tables_1, d.before a0 Z = true) (ws : List Jvm.Cond) (a : Addr) (x : Int64) (y : Int64) (a_ALL : Addr) (a_NORMAL : Addr) (a__SwitchMap_com_example_salp_salp_model_ListFilter : Addr) (cl__SwitchMap_com_example_salp_salp_model_ListFilter : Cell) (h0 : Heap) (O : Ext Z.heap h0) (w : own_W Z a_ALL a_NORMAL a__SwitchMap_com_example_salp_salp_model_ListFilter cl__SwitchMap_com_example_salp_salp_model_ListFilter) (F : Fld Z h0 a "com/example/salp/salp/model/ListCounts" "all" "J" (.long x)) (G : Fld Z h0 a "com/example/salp/salp/model/ListCounts" "normal" "J" (.long y)) :
    MetFree l (⟨"com/example/salp/salp/model/ListCounts", "taken", "(Lcom/example/salp/salp/model/ListFilter;)J"⟩ : MethodName) (head1 (Jvm.Cond.code (⟨"com/example/salp/salp/model/ListCounts", "taken", "(Lcom/example/salp/salp/model/ListFilter;)J"⟩ : MethodName) prog_8_method_2_code 2 (some .long) :: ws) ({ frames := 1, cells := 0, slots := 0, locals := 13 } : Room)) (fun a_ U_ => a_ = #[(.ref a), (.ref a_NORMAL)] ∧ Z.Warmed39 U_.vm ∧ U_.heap = h0) (fun _ _ _ _ _ => True) (fun _ U_ o_ U2_ => ∃ v_ L_, o_ = .returned v_ ∧ Q_tn Z a x y a_ALL a_NORMAL a__SwitchMap_com_example_salp_salp_model_ListFilter cl__SwitchMap_com_example_salp_salp_model_ListFilter h0 v_ U2_.heap L_ ∧ FrameEnd U_ o_ U2_ L_ ({ frames := 1, cells := 0, slots := 0, locals := 13 } : Room).cells ({ frames := 1, cells := 0, slots := 0, locals := 13 } : Room).slots) := by
  refine MetFree.of_bodySF (plainFor_of_name own_pn1) hisR ?_
  intro p e s m args below meth c s₁ Bd hml0 hP hK
  obtain ⟨rfl, hZ, hh⟩ := hP
  have hx := Bd.exec
  have hby := Bd.bytes
  have hml : c.maxLocals = 2 := hml0
  have hown : s.vm.findClass "com/example/salp/salp/model/ListCounts" = some m.cls := findClass_of_methodNamed Bd.named
  have hnm := (name_of_methodNamed Bd.named Bd.method).1
  have X0 : Stand p l e ({ frames := 1, cells := 0, slots := 0, locals := 13 } : Room) s m #[(.ref a), (.ref a_NORMAL)] below meth c s₁ [] 0 0 := Stand.of_body Bd
  have e0 : s₁.heap = h0 := by rw [← hh, Bd.state]; rfl
  have N0 := Fr.nil Z.heap.size
  show own_G p e below (fun o_ s₂ => ∃ v_ L_, o_ = .returned v_ ∧ Q_tn Z a x y a_ALL a_NORMAL a__SwitchMap_com_example_salp_salp_model_ListFilter cl__SwitchMap_com_example_salp_salp_model_ListFilter h0 v_ s₂.heap L_ ∧ FrameEnd s o_ s₂ L_ ({ frames := 1, cells := 0, slots := 0, locals := 13 } : Room).cells ({ frames := 1, cells := 0, slots := 0, locals := 13 } : Room).slots) (s₁.setTop (entryFrame m #[(.ref a), (.ref a_NORMAL)] 2))
  refine own_go (s₁.setTop (mkF m 0 #[.val (.ref a), .val (.ref a_NORMAL)] [])) (fun t_ k_ => castTop (own_ef_tn m a a_NORMAL) k_) ?_
  have w' := w
  obtain ⟨S_ALL, X_ALL, S_NORMAL, X_NORMAL, F_ALL_ordinal, F_NORMAL_ordinal, S__SwitchMap_com_example_salp_salp_model_ListFilter, A__SwitchMap_com_example_salp_salp_model_ListFilter, in__SwitchMap_com_example_salp_salp_model_ListFilter_0, at__SwitchMap_com_example_salp_salp_model_ListFilter_0, in__SwitchMap_com_example_salp_salp_model_ListFilter_1, at__SwitchMap_com_example_salp_salp_model_ListFilter_1⟩ := w'
  obtain ⟨T1, X1, e1, st1⟩ := getS2 X0 hx hZ hown (host := "") (Or.inl (hw _ (List.mem_of_getElem? (i := 26) rfl))) Via.refl e0 (S__SwitchMap_com_example_salp_salp_model_ListFilter.ext O) (g := (mkF m 0 #[.val (.ref a), .val (.ref a_NORMAL)] [])) rfl (hb hby own_d_prog_8_method_2_0)
  refine own_go (T1.setTop (mkF m 3 #[.val (.ref a), .val (.ref a_NORMAL)] [(.ref a__SwitchMap_com_example_salp_salp_model_ListFilter)])) (fun t_ k_ => st1 _ k_) ?_
  refine own_go (T1.setTop (mkF m 4 #[.val (.ref a), .val (.ref a_NORMAL)] [(.ref a_NORMAL), (.ref a__SwitchMap_com_example_salp_salp_model_ListFilter)])) (fun t_ k_ => XS.aloadN X1.here hx rfl (hb hby own_d_prog_8_method_2_3) rfl rfl k_) ?_
  obtain ⟨cq2, kq2, q2a, q2b, q2c⟩ := isOf hZ e1 (X_NORMAL.ext O)
  obtain ⟨_, _, ⟨T2, Lu2, ku2, nu2⟩, -, X2, ⟨Lc2, hQ2, lu2, yu2, zu2⟩, st2⟩ := X1.virtualBackUp hx (owner := "java/lang/Enum") (x := (⟨"com/example/salp/salp/model/ListFilter", "ordinal", "()I"⟩ : MethodName)) (y := (⟨"java/lang/Enum", "ordinal", "()I"⟩ : MethodName)) hown (mvT hZ (hw _ (List.mem_of_getElem? (i := 29) rfl))) (mvT hZ (hw _ (List.mem_of_getElem? (i := 30) rfl))) (mvT hZ (hw _ (List.mem_of_getElem? (i := 31) rfl))) (by decide) (mvT hZ (hw _ (List.mem_of_getElem? (i := 33) rfl))) (mvT hZ (hw _ (List.mem_of_getElem? (i := 32) rfl))) (backOf (W := 1) (rm_od l Z a0 hw [] (a_NORMAL) ((1 : Int32)) h0 O F_NORMAL_ordinal) hZ (hw _ (List.mem_of_getElem? (i := 35) rfl)) (hw _ (List.mem_of_getElem? (i := 34) rfl)) (by decide) (by decide)) q2a q2c (g := (mkF m 4 #[.val (.ref a), .val (.ref a_NORMAL)] [(.ref a_NORMAL), (.ref a__SwitchMap_com_example_salp_salp_model_ListFilter)])) rfl (by rw [hml]; rfl) (Steps.refl _) (argsL := []) (rest := [(.ref a__SwitchMap_com_example_salp_salp_model_ListFilter)]) (lenOf own_pd1 rfl) rfl (by show 2 * 0 + _ ≤ _; exact Nat.le_of_eq rfl) (hb hby own_d_prog_8_method_2_4) (fun _ _ => ⟨rfl, e1, (by decide : 0 + 0 ≤ _), (by decide : 0 + 0 ≤ _)⟩)
  dsimp only [Pt.U, Pt.locs, Pt.cells, Pt.slots] at X2 lu2 yu2 zu2 st2 hQ2
  subst lu2 yu2 zu2
  obtain ⟨rfl, N2q, e2⟩ := hQ2
  have N2 := Fr.app N0 N2q
  refine own_go (T2.setTop (mkF m 7 #[.val (.ref a), .val (.ref a_NORMAL)] [(.int (1 : Int32)), (.ref a__SwitchMap_com_example_salp_salp_model_ListFilter)])) (fun t_ k_ => st2.trans k_) ?_
  have Ar3 := (A__SwitchMap_com_example_salp_salp_model_ListFilter.ext O)
  refine own_go (T2.setTop (mkF m 8 #[.val (.ref a), .val (.ref a_NORMAL)] [(.int (2 : Int32))])) (fun t_ k_ => X2.iaload hx (j := (1 : Int32)) (v := (.int (2 : Int32))) (by rw [e2]; exact Ar3.1) (State.isArrayOf_alike hZ.alike Ar3.2.1) Ar3.2.2 in__SwitchMap_com_example_salp_salp_model_ListFilter_1 at__SwitchMap_com_example_salp_salp_model_ListFilter_1 (g := (mkF m 7 #[.val (.ref a), .val (.ref a_NORMAL)] [(.int (1 : Int32)), (.ref a__SwitchMap_com_example_salp_salp_model_ListFilter)])) rfl rfl (hb hby own_d_prog_8_method_2_7) _ k_) ?_
  refine own_go (T2.setTop (mkF m 53 #[.val (.ref a), .val (.ref a_NORMAL)] [])) (fun t_ k_ => X2.lookupswitchHit hx (g := (mkF m 8 #[.val (.ref a), .val (.ref a_NORMAL)] [(.int (2 : Int32))])) rfl rfl (hb hby own_d_prog_8_method_2_8) (by decide) (a := 2) (off := 45) (by decide) (by show (0 : Int) ≤ ((8 : Nat) : Int) + 45; decide) _ k_) ?_
  refine own_go (T2.setTop (mkF m 54 #[.val (.ref a), .val (.ref a_NORMAL)] [(.ref a)])) (fun t_ k_ => XS.aloadN X2.here hx rfl (hb hby own_d_prog_8_method_2_53) rfl rfl k_) ?_
  obtain ⟨T4, X4, e4, st4⟩ := getF X2 hx hZ hown (host := "") (Or.inl (hw _ (List.mem_of_getElem? (i := 16) rfl))) Via.refl e2 G (g := (mkF m 54 #[.val (.ref a), .val (.ref a_NORMAL)] [(.ref a)])) rfl rfl (hb hby own_d_prog_8_method_2_54)
  refine own_go (T4.setTop (mkF m 57 #[.val (.ref a), .val (.ref a_NORMAL)] [(.long y)])) (fun t_ k_ => st4 _ k_) ?_
  obtain ⟨fs, hr, hrun, hended, hW, hsame⟩ := X4.leave (v := some (.long y)) (fun h => by rw [Bd.returns] at h; cases h)
  refine ⟨_, _, Jvm.RoadKit.retOut X4 hx Bd.returns rfl (Or.inr (Or.inl ⟨rfl, rfl, _, rfl⟩)) (hb hby own_d_prog_8_method_2_57) hr, hrun, hended, _, _, rfl, ?_, ⟨_, rfl⟩, hW, hsame.mono (by decide) (by decide)⟩
  show Q_tn Z a x y a_ALL a_NORMAL a__SwitchMap_com_example_salp_salp_model_ListFilter cl__SwitchMap_com_example_salp_salp_model_ListFilter h0 _ T4.heap _
  exact ⟨rfl, N2, e4⟩
theorem own_pn3 : plainName "com/example/salp/salp/model/ListCountsTakenPinLaw" = true := by first | (simp [plainName, overriddenIn]; done) | decide +kernel
theorem own_ef_law (m : MethodId) (p0 : Int64) (p1 : Int64) : entryFrame m #[(.long p0), (.long p1)] maxLocals = mkF m 0 #[.val (.long p0), .second, .val (.long p1), .second, .unset, .unset, .unset, .unset, .unset] [] := by first | (simp [entryFrame, mkF, argsToLocals, Value.category, maxLocals]; done) | rfl
theorem own_pd2 : parseMethodDescriptor "(JJ)V" = some ⟨[.long, .long], none⟩ := by decide +kernel
theorem own_pd3 : parseMethodDescriptor "(Lcom/example/salp/salp/model/ListFilter;)J" = some ⟨[(.object "com/example/salp/salp/model/ListFilter")], some .long⟩ := by decide +kernel
def Q_law (Z : State) (p0 : Int64) (p1 : Int64) (a_ALL : Addr) (a_NORMAL : Addr) (a__SwitchMap_com_example_salp_salp_model_ListFilter : Addr) (cl__SwitchMap_com_example_salp_salp_model_ListFilter : Cell) (h0 : Heap) (v_ : Option Value) (h : Heap) (L_ : List Loc) : Prop := v_ = some (.int 1) ∧ Fr Z.heap.size L_ ∧ (True)
set_option maxRecDepth 65536 in
set_option maxHeartbeats 40000000 in
theorem rm_law (l : Launch) (Z : State) (a0 : Array Value) (hw : ∀ d ∈ tables_1, d.before a0 Z = true) (ws : List Jvm.Cond) (p0 : Int64) (p1 : Int64) (a_ALL : Addr) (a_NORMAL : Addr) (a__SwitchMap_com_example_salp_salp_model_ListFilter : Addr) (cl__SwitchMap_com_example_salp_salp_model_ListFilter : Cell) (h0 : Heap) (O : Ext Z.heap h0) (w : own_W Z a_ALL a_NORMAL a__SwitchMap_com_example_salp_salp_model_ListFilter cl__SwitchMap_com_example_salp_salp_model_ListFilter) :
    MetFree l x (head1 (Jvm.Cond.code x code maxLocals ret :: ws) room_1) (fun a_ U_ => a_ = #[(.long p0), (.long p1)] ∧ Z.Warmed39 U_.vm ∧ U_.heap = h0) (fun _ _ _ _ _ => True) (fun _ U_ o_ U2_ => ∃ v_ L_, o_ = .returned v_ ∧ Q_law Z p0 p1 a_ALL a_NORMAL a__SwitchMap_com_example_salp_salp_model_ListFilter cl__SwitchMap_com_example_salp_salp_model_ListFilter h0 v_ U2_.heap L_ ∧ FrameEnd U_ o_ U2_ L_ room_1.cells room_1.slots) := by
  refine MetFree.of_bodySF (plainFor_of_name own_pn3) hisR ?_
  intro p e s m args below meth c s₁ Bd hml0 hP hK
  obtain ⟨rfl, hZ, hh⟩ := hP
  have hx := Bd.exec
  have hby := Bd.bytes
  have hml : c.maxLocals = 9 := hml0
  have hown : s.vm.findClass "com/example/salp/salp/model/ListCountsTakenPinLaw" = some m.cls := findClass_of_methodNamed Bd.named
  have hnm := (name_of_methodNamed Bd.named Bd.method).1
  have X0 : Stand p l e room_1 s m #[(.long p0), (.long p1)] below meth c s₁ [] 0 0 := Stand.of_body Bd
  have e0 : s₁.heap = h0 := by rw [← hh, Bd.state]; rfl
  have N0 := Fr.nil Z.heap.size
  show own_G p e below (fun o_ s₂ => ∃ v_ L_, o_ = .returned v_ ∧ Q_law Z p0 p1 a_ALL a_NORMAL a__SwitchMap_com_example_salp_salp_model_ListFilter cl__SwitchMap_com_example_salp_salp_model_ListFilter h0 v_ s₂.heap L_ ∧ FrameEnd s o_ s₂ L_ room_1.cells room_1.slots) (s₁.setTop (entryFrame m #[(.long p0), (.long p1)] maxLocals))
  refine own_go (s₁.setTop (mkF m 0 #[.val (.long p0), .second, .val (.long p1), .second, .unset, .unset, .unset, .unset, .unset] [])) (fun t_ k_ => castTop (own_ef_law m p0 p1) k_) ?_
  have w' := w
  obtain ⟨S_ALL, X_ALL, S_NORMAL, X_NORMAL, F_ALL_ordinal, F_NORMAL_ordinal, S__SwitchMap_com_example_salp_salp_model_ListFilter, A__SwitchMap_com_example_salp_salp_model_ListFilter, in__SwitchMap_com_example_salp_salp_model_ListFilter_0, at__SwitchMap_com_example_salp_salp_model_ListFilter_0, in__SwitchMap_com_example_salp_salp_model_ListFilter_1, at__SwitchMap_com_example_salp_salp_model_ListFilter_1⟩ := w'
  obtain ⟨T1, h1, X1, e1, E1, A1, D1, U1, st1⟩ := newO X0 hx hZ hown (hw _ (List.mem_of_getElem? (i := 0) rfl)) (hw _ (List.mem_of_getElem? (i := 1) rfl)) (hw _ (List.mem_of_getElem? (i := 2) rfl)) e0 (g := (mkF m 0 #[.val (.long p0), .second, .val (.long p1), .second, .unset, .unset, .unset, .unset, .unset] [])) rfl (hb hby at_0) (by decide) (by decide)
  obtain ⟨b1, g1⟩ : ∃ z, z = h0.size := ⟨_, rfl⟩
  rw [← g1] at A1 D1 U1 st1
  have ge_b1 : Z.heap.size ≤ b1 := Nat.le_trans O.1 (Nat.le_of_eq g1.symm)
  have sz_b1 : h0.size ≤ b1 := Nat.le_trans (Keep.refl h0 []).1 (Nat.le_of_eq g1.symm)
  have K1 : Keep h0 h1 [] := (Keep.refl h0 []).ext E1
  have O1 := own_ext O E1
  have Fall_1 : Fld Z h1 b1 "com/example/salp/salp/model/ListCounts" "all" "J" (.long (0 : Int64)) := D1 (Or.inr (hw _ (List.mem_of_getElem? (i := 15) rfl))) (ty := .long) (by decide)
  have Fnormal_1 : Fld Z h1 b1 "com/example/salp/salp/model/ListCounts" "normal" "J" (.long (0 : Int64)) := D1 (Or.inr (hw _ (List.mem_of_getElem? (i := 17) rfl))) (ty := .long) (by decide)
  refine own_go (T1.setTop (mkF m 3 #[.val (.long p0), .second, .val (.long p1), .second, .unset, .unset, .unset, .unset, .unset] [(.ref b1)])) (fun t_ k_ => st1 _ k_) ?_
  refine own_go (T1.setTop (mkF m 4 #[.val (.long p0), .second, .val (.long p1), .second, .unset, .unset, .unset, .unset, .unset] [(.ref b1), (.ref b1)])) (fun t_ k_ => XS.dup X1.here hx rfl (hb hby at_3) rfl rfl k_) ?_
  refine own_go (T1.setTop (mkF m 5 #[.val (.long p0), .second, .val (.long p1), .second, .unset, .unset, .unset, .unset, .unset] [(.long p0), (.ref b1), (.ref b1)])) (fun t_ k_ => XS.lloadN X1.here hx rfl (hb hby at_4) rfl k_) ?_
  refine own_go (T1.setTop (mkF m 6 #[.val (.long p0), .second, .val (.long p1), .second, .unset, .unset, .unset, .unset, .unset] [(.long p1), (.long p0), (.ref b1), (.ref b1)])) (fun t_ k_ => XS.lloadN X1.here hx rfl (hb hby at_5) rfl k_) ?_
  obtain ⟨_, _, ⟨T2, Lu2, ku2, nu2⟩, -, X2, ⟨Lc2, hQ2, lu2, yu2, zu2⟩, st2⟩ := X1.specialBack hx (y := (⟨"com/example/salp/salp/model/ListCounts", "<init>", "(JJ)V"⟩ : MethodName)) rfl hown (mvT hZ (hw _ (List.mem_of_getElem? (i := 3) rfl))) (mvT hZ (hw _ (List.mem_of_getElem? (i := 4) rfl))) (mvT hZ (hw _ (List.mem_of_getElem? (i := 5) rfl))) (by decide) (backOf (W := 1) (rm_ci l Z a0 hw [] (b1) (p0) (p1) h1 O1 A1 Fall_1 Fnormal_1 ge_b1) hZ (hw _ (List.mem_of_getElem? (i := 5) rfl)) (hw _ (List.mem_of_getElem? (i := 2) rfl)) (by decide) (by decide)) (g := (mkF m 6 #[.val (.long p0), .second, .val (.long p1), .second, .unset, .unset, .unset, .unset, .unset] [(.long p1), (.long p0), (.ref b1), (.ref b1)])) rfl (by rw [hml]; rfl) (Steps.refl _) (a := b1) (argsL := [(.long p0), (.long p1)]) (rest := [(.ref b1)]) (lenOf own_pd2 rfl) rfl (by show 2 * 0 + _ ≤ _; exact Nat.le_of_eq rfl) (hb hby at_6) (fun _ _ => ⟨rfl, e1, (by decide : 1 + 0 ≤ _), (by decide : 2 + 0 ≤ _)⟩)
  dsimp only [Pt.U, Pt.locs, Pt.cells, Pt.slots] at X2 lu2 yu2 zu2 st2 hQ2
  subst lu2 yu2 zu2
  obtain ⟨rfl, N2q, K2q, X2q, F2q, G2q⟩ := hQ2
  have N2 := Fr.app N0 N2q
  have O2 := own_extK O1 K2q (allS ge_b1 all0)
  have KK2 : Keep h0 T2.heap [] := K1.trans K2q (allS (Or.inr sz_b1) all0)
  refine own_go (T2.setTop (mkF m 9 #[.val (.long p0), .second, .val (.long p1), .second, .unset, .unset, .unset, .unset, .unset] [(.ref b1)])) (fun t_ k_ => st2.trans k_) ?_
  refine own_go (T2.setTop (mkF m 11 #[.val (.long p0), .second, .val (.long p1), .second, .val (.ref b1), .unset, .unset, .unset, .unset] [])) (fun t_ k_ => XS.astore X2.here hx rfl (hb hby at_9) rfl rfl (l' := #[.val (.long p0), .second, .val (.long p1), .second, .val (.ref b1), .unset, .unset, .unset, .unset]) rfl k_) ?_
  refine own_go (T2.setTop (mkF m 13 #[.val (.long p0), .second, .val (.long p1), .second, .val (.ref b1), .unset, .unset, .unset, .unset] [(.ref b1)])) (fun t_ k_ => XS.aload X2.here hx rfl (hb hby at_11) rfl rfl k_) ?_
  obtain ⟨T3, X3, e3, st3⟩ := getS2 X2 hx hZ hown (host := "") (Or.inl (hw _ (List.mem_of_getElem? (i := 18) rfl))) Via.refl rfl (S_ALL.ext O2) (g := (mkF m 13 #[.val (.long p0), .second, .val (.long p1), .second, .val (.ref b1), .unset, .unset, .unset, .unset] [(.ref b1)])) rfl (hb hby at_13)
  refine own_go (T3.setTop (mkF m 16 #[.val (.long p0), .second, .val (.long p1), .second, .val (.ref b1), .unset, .unset, .unset, .unset] [(.ref a_ALL), (.ref b1)])) (fun t_ k_ => st3 _ k_) ?_
  obtain ⟨cq4, kq4, q4a, q4b, q4c⟩ := isOf hZ e3 X2q
  obtain ⟨_, _, ⟨T4, Lu4, ku4, nu4⟩, -, X4, ⟨Lc4, hQ4, lu4, yu4, zu4⟩, st4⟩ := X3.virtualBack hx (y := (⟨"com/example/salp/salp/model/ListCounts", "taken", "(Lcom/example/salp/salp/model/ListFilter;)J"⟩ : MethodName)) (z := (⟨"com/example/salp/salp/model/ListCounts", "taken", "(Lcom/example/salp/salp/model/ListFilter;)J"⟩ : MethodName)) hown (mvT hZ (hw _ (List.mem_of_getElem? (i := 21) rfl))) (mvT hZ (hw _ (List.mem_of_getElem? (i := 22) rfl))) (notFace_of_selects (args := #[]) (mvT hZ (hw _ (List.mem_of_getElem? (i := 24) rfl)))) (mvT hZ (hw _ (List.mem_of_getElem? (i := 24) rfl))) (mvT hZ (hw _ (List.mem_of_getElem? (i := 23) rfl))) (by decide) (backOf (W := 0) (rm_ta l Z a0 hw [] (b1) (p0) (p1) (a_ALL) (a_NORMAL) (a__SwitchMap_com_example_salp_salp_model_ListFilter) (cl__SwitchMap_com_example_salp_salp_model_ListFilter) T2.heap O2 w F2q G2q) hZ (hw _ (List.mem_of_getElem? (i := 25) rfl)) (hw _ (List.mem_of_getElem? (i := 2) rfl)) (by decide) (by decide)) q4a q4c (g := (mkF m 16 #[.val (.long p0), .second, .val (.long p1), .second, .val (.ref b1), .unset, .unset, .unset, .unset] [(.ref a_ALL), (.ref b1)])) rfl (by rw [hml]; rfl) (Steps.refl _) (argsL := [(.ref a_ALL)]) (rest := []) (lenOf own_pd3 rfl) rfl (by show 2 * 0 + _ ≤ _; exact Nat.le_of_eq rfl) (hb hby at_16) (fun _ _ => ⟨rfl, e3, (by decide : 1 + 0 ≤ _), (by decide : 2 + 0 ≤ _)⟩)
  dsimp only [Pt.U, Pt.locs, Pt.cells, Pt.slots] at X4 lu4 yu4 zu4 st4 hQ4
  subst lu4 yu4 zu4
  obtain ⟨rfl, N4q, e4⟩ := hQ4
  have N4 := Fr.app N2 N4q
  refine own_go (T4.setTop (mkF m 19 #[.val (.long p0), .second, .val (.long p1), .second, .val (.ref b1), .unset, .unset, .unset, .unset] [(.long p0)])) (fun t_ k_ => st4.trans k_) ?_
  refine own_go (T4.setTop (mkF m 21 #[.val (.long p0), .second, .val (.long p1), .second, .val (.ref b1), .val (.long p0), .second, .unset, .unset] [])) (fun t_ k_ => XS.lstore X4.here hx rfl (hb hby at_19) rfl (l' := #[.val (.long p0), .second, .val (.long p1), .second, .val (.ref b1), .val (.long p0), .second, .unset, .unset]) rfl k_) ?_
  refine own_go (T4.setTop (mkF m 23 #[.val (.long p0), .second, .val (.long p1), .second, .val (.ref b1), .val (.long p0), .second, .unset, .unset] [(.ref b1)])) (fun t_ k_ => XS.aload X4.here hx rfl (hb hby at_21) rfl rfl k_) ?_
  obtain ⟨T5, X5, e5, st5⟩ := getS2 X4 hx hZ hown (host := "") (Or.inl (hw _ (List.mem_of_getElem? (i := 38) rfl))) Via.refl e4 (S_NORMAL.ext O2) (g := (mkF m 23 #[.val (.long p0), .second, .val (.long p1), .second, .val (.ref b1), .val (.long p0), .second, .unset, .unset] [(.ref b1)])) rfl (hb hby at_23)
  refine own_go (T5.setTop (mkF m 26 #[.val (.long p0), .second, .val (.long p1), .second, .val (.ref b1), .val (.long p0), .second, .unset, .unset] [(.ref a_NORMAL), (.ref b1)])) (fun t_ k_ => st5 _ k_) ?_
  obtain ⟨cq6, kq6, q6a, q6b, q6c⟩ := isOf hZ e5 X2q
  obtain ⟨_, _, ⟨T6, Lu6, ku6, nu6⟩, -, X6, ⟨Lc6, hQ6, lu6, yu6, zu6⟩, st6⟩ := X5.virtualBack hx (y := (⟨"com/example/salp/salp/model/ListCounts", "taken", "(Lcom/example/salp/salp/model/ListFilter;)J"⟩ : MethodName)) (z := (⟨"com/example/salp/salp/model/ListCounts", "taken", "(Lcom/example/salp/salp/model/ListFilter;)J"⟩ : MethodName)) hown (mvT hZ (hw _ (List.mem_of_getElem? (i := 21) rfl))) (mvT hZ (hw _ (List.mem_of_getElem? (i := 22) rfl))) (notFace_of_selects (args := #[]) (mvT hZ (hw _ (List.mem_of_getElem? (i := 24) rfl)))) (mvT hZ (hw _ (List.mem_of_getElem? (i := 24) rfl))) (mvT hZ (hw _ (List.mem_of_getElem? (i := 23) rfl))) (by decide) (backOf (W := 0) (rm_tn l Z a0 hw [] (b1) (p0) (p1) (a_ALL) (a_NORMAL) (a__SwitchMap_com_example_salp_salp_model_ListFilter) (cl__SwitchMap_com_example_salp_salp_model_ListFilter) T2.heap O2 w F2q G2q) hZ (hw _ (List.mem_of_getElem? (i := 25) rfl)) (hw _ (List.mem_of_getElem? (i := 2) rfl)) (by decide) (by decide)) q6a q6c (g := (mkF m 26 #[.val (.long p0), .second, .val (.long p1), .second, .val (.ref b1), .val (.long p0), .second, .unset, .unset] [(.ref a_NORMAL), (.ref b1)])) rfl (by rw [hml]; rfl) (Steps.refl _) (argsL := [(.ref a_NORMAL)]) (rest := []) (lenOf own_pd3 rfl) rfl (by show 2 * 0 + _ ≤ _; exact Nat.le_of_eq rfl) (hb hby at_26) (fun _ _ => ⟨rfl, e5, (by decide : 1 + 0 ≤ _), (by decide : 2 + 0 ≤ _)⟩)
  dsimp only [Pt.U, Pt.locs, Pt.cells, Pt.slots] at X6 lu6 yu6 zu6 st6 hQ6
  subst lu6 yu6 zu6
  obtain ⟨rfl, N6q, e6⟩ := hQ6
  have N6 := Fr.app N4 N6q
  refine own_go (T6.setTop (mkF m 29 #[.val (.long p0), .second, .val (.long p1), .second, .val (.ref b1), .val (.long p0), .second, .unset, .unset] [(.long p1)])) (fun t_ k_ => st6.trans k_) ?_
  refine own_go (T6.setTop (mkF m 31 #[.val (.long p0), .second, .val (.long p1), .second, .val (.ref b1), .val (.long p0), .second, .val (.long p1), .second] [])) (fun t_ k_ => XS.lstore X6.here hx rfl (hb hby at_29) rfl (l' := #[.val (.long p0), .second, .val (.long p1), .second, .val (.ref b1), .val (.long p0), .second, .val (.long p1), .second]) rfl k_) ?_
  refine own_go (T6.setTop (mkF m 33 #[.val (.long p0), .second, .val (.long p1), .second, .val (.ref b1), .val (.long p0), .second, .val (.long p1), .second] [(.long p0)])) (fun t_ k_ => XS.lload X6.here hx rfl (hb hby at_31) rfl k_) ?_
  refine own_go (T6.setTop (mkF m 34 #[.val (.long p0), .second, .val (.long p1), .second, .val (.ref b1), .val (.long p0), .second, .val (.long p1), .second] [(.long p0), (.long p0)])) (fun t_ k_ => XS.lloadN X6.here hx rfl (hb hby at_33) rfl k_) ?_
  refine own_go (T6.setTop (mkF m 35 #[.val (.long p0), .second, .val (.long p1), .second, .val (.ref b1), .val (.long p0), .second, .val (.long p1), .second] [(.int (lcmpW p0 p0))])) (fun t_ k_ => XS.lcmp X6.here hx rfl (hb hby at_34) rfl k_) ?_
  refine own_go (T6.setTop (mkF m 38 #[.val (.long p0), .second, .val (.long p1), .second, .val (.ref b1), .val (.long p0), .second, .val (.long p1), .second] [])) (fun t_ k_ => XS.ifNo X6.here hx rfl (hb hby at_35) rfl ((if0 _ _).trans (teq (own_eq.mpr rfl)).2) k_) ?_
  refine own_go (T6.setTop (mkF m 40 #[.val (.long p0), .second, .val (.long p1), .second, .val (.ref b1), .val (.long p0), .second, .val (.long p1), .second] [(.long p1)])) (fun t_ k_ => XS.lload X6.here hx rfl (hb hby at_38) rfl k_) ?_
  refine own_go (T6.setTop (mkF m 41 #[.val (.long p0), .second, .val (.long p1), .second, .val (.ref b1), .val (.long p0), .second, .val (.long p1), .second] [(.long p1), (.long p1)])) (fun t_ k_ => XS.lloadN X6.here hx rfl (hb hby at_40) rfl k_) ?_
  refine own_go (T6.setTop (mkF m 42 #[.val (.long p0), .second, .val (.long p1), .second, .val (.ref b1), .val (.long p0), .second, .val (.long p1), .second] [(.int (lcmpW p1 p1))])) (fun t_ k_ => XS.lcmp X6.here hx rfl (hb hby at_41) rfl k_) ?_
  refine own_go (T6.setTop (mkF m 45 #[.val (.long p0), .second, .val (.long p1), .second, .val (.ref b1), .val (.long p0), .second, .val (.long p1), .second] [])) (fun t_ k_ => XS.ifNo X6.here hx rfl (hb hby at_42) rfl ((if0 _ _).trans (teq (own_eq.mpr rfl)).2) k_) ?_
  refine own_go (T6.setTop (mkF m 46 #[.val (.long p0), .second, .val (.long p1), .second, .val (.ref b1), .val (.long p0), .second, .val (.long p1), .second] [(.int (1 : Int32))])) (fun t_ k_ => XS.iconst X6.here hx rfl (hb hby at_45) k_) ?_
  refine own_go (T6.setTop (mkF m 50 #[.val (.long p0), .second, .val (.long p1), .second, .val (.ref b1), .val (.long p0), .second, .val (.long p1), .second] [(.int (1 : Int32))])) (fun t_ k_ => XS.goto X6.here hx rfl (pc0 := 46) (pc' := 50) rfl (hb hby at_46) (by decide) (by decide) k_) ?_
  obtain ⟨fs, hr, hrun, hended, hW, hsame⟩ := X6.leave (v := some (.int (nar .boolean (1 : Int32)))) (fun h => by rw [Bd.returns] at h; cases h)
  refine ⟨_, _, retN X6 hx (t := .boolean) Bd.returns (by simp) (hb hby at_50) hr, hrun, hended, _, _, rfl, ?_, ⟨_, rfl⟩, hW, hsame.mono (by decide) (by decide)⟩
  show Q_law Z p0 p1 a_ALL a_NORMAL a__SwitchMap_com_example_salp_salp_model_ListFilter cl__SwitchMap_com_example_salp_salp_model_ListFilter h0 _ T6.heap _
  exact ⟨rfl, N6, trivial⟩
set_option maxRecDepth 65536 in
set_option maxHeartbeats 40000000 in
theorem comes_1 {Post : Tables → Env → Array Value → State → Outcome → State → Prop} (hpost : ∀ tb e args s v u, (limb_1_1.after args s (.returned v) u = true ∧ limb_1_2.after args s (.returned v) u = true ∧ True) → FrameEnd s (.returned v) u (Jvm.fieldLocs frame_1_writes args s ++ Jvm.arrayLocs frame_1_arrays args s ++ Jvm.staticLocs frame_1_statics s) 16 128 → Post tb e args s (.returned v) u) :
    ArmFor flags0 classFile x code maxLocals ret World_1 tables_1 room_1 Calls_1 rest_1 Pre_1 Post := by
  intro l hfl _ _ p e ha hc hk s m args below hf hA hF happ hP
  obtain ⟨hcalls, hrest, hpre⟩ := hP
  obtain ⟨-, -, -, hnamed, -, -, -, hat⟩ := (Spec.applies_iff hf).mp happ
  obtain ⟨hg, hn⟩ := and_e (Cond.before_iff.mp (show (Jvm.Cond.and given_1 narrow_1).before args s = true from hpre))
  obtain ⟨g1, g2⟩ := and_e hg
  obtain ⟨g3, g4⟩ := and_e g2
  obtain ⟨w0, w1, rfl⟩ : ∃ w0 w1 : Value, args = #[w0, w1] := by
    have hs : args.size = 2 := by simpa [Cond.value, given_1] using g1
    obtain ⟨L⟩ := args
    match L, hs with
    | [w0, w1], _ => exact ⟨w0, w1, rfl⟩
  have hw := fun d (hd : d ∈ tables_1) => atoms_spec (ws := Jvm.Cond.code x code maxLocals ret :: tables_1) hat d (List.mem_cons_of_mem _ hd)
  have hfit : Fit s := fun {y c} hc i hi => by
    obtain ⟨ha, rfl⟩ := Array.getElem?_eq_some_iff.mp hc
    have q := List.all_eq_true.mp ((Array.all_eq_true_iff_forall_mem.mp hF) _ (Array.getElem_mem ha)) i (List.mem_range.mpr hi)
    simpa [Array.getElem?_eq_getElem hi] using q
  obtain ⟨i0, ei0⟩ := isL_v g3
  obtain rfl : w0 = (.long i0) := Option.some.inj ei0
  obtain ⟨i1, ei1⟩ := isL_v g4
  obtain rfl : w1 = (.long i1) := Option.some.inj ei1
  obtain ⟨hn1, hn2⟩ := and_e hn
  obtain ⟨hn21, hn22⟩ := and_e hn2
  obtain ⟨hn221, hn222⟩ := and_e hn22
  obtain ⟨hn2221, hn2222⟩ := and_e hn222
  obtain ⟨hn22221, hn22222⟩ := and_e hn2222
  obtain ⟨hn222221, hn222222⟩ := and_e hn22222
  obtain ⟨hn2222221, hn2222222⟩ := and_e hn222222
  obtain ⟨a_ALL, ev_ALL⟩ := exa_v hn1
  have S_ALL : Sta s s.heap "com/example/salp/salp/model/ListFilter" "ALL" "Lcom/example/salp/salp/model/ListFilter;" (.ref a_ALL) := Sta.start ev_ALL (Or.inr ⟨(hw _ (List.mem_of_getElem? (i := 19) rfl)), (hw _ (List.mem_of_getElem? (i := 20) rfl))⟩)
  have X_ALL : Exa s s.heap a_ALL "com/example/salp/salp/model/ListFilter" := Exa.start ev_ALL hn1
  obtain ⟨a_NORMAL, ev_NORMAL⟩ := exa_v hn222221
  have S_NORMAL : Sta s s.heap "com/example/salp/salp/model/ListFilter" "NORMAL" "Lcom/example/salp/salp/model/ListFilter;" (.ref a_NORMAL) := Sta.start ev_NORMAL (Or.inr ⟨(hw _ (List.mem_of_getElem? (i := 19) rfl)), (hw _ (List.mem_of_getElem? (i := 39) rfl))⟩)
  have X_NORMAL : Exa s s.heap a_NORMAL "com/example/salp/salp/model/ListFilter" := Exa.start ev_NORMAL hn222221
  have F_ALL_ordinal : Fld s s.heap a_ALL "java/lang/Enum" "ordinal" "I" (.int (0 : Int32)) := own_fldI hn2221 ev_ALL
  have F_NORMAL_ordinal : Fld s s.heap a_NORMAL "java/lang/Enum" "ordinal" "I" (.int (1 : Int32)) := own_fldI hn2222221 ev_NORMAL
  obtain ⟨a__SwitchMap_com_example_salp_salp_model_ListFilter, ev__SwitchMap_com_example_salp_salp_model_ListFilter⟩ := arr_v hn21
  have S__SwitchMap_com_example_salp_salp_model_ListFilter : Sta s s.heap "com/example/salp/salp/model/ListCounts$1" "$SwitchMap$com$example$salp$salp$model$ListFilter" "[I" (.ref a__SwitchMap_com_example_salp_salp_model_ListFilter) := Sta.start ev__SwitchMap_com_example_salp_salp_model_ListFilter (Or.inr ⟨(hw _ (List.mem_of_getElem? (i := 27) rfl)), (hw _ (List.mem_of_getElem? (i := 28) rfl))⟩)
  obtain ⟨cl__SwitchMap_com_example_salp_salp_model_ListFilter, A__SwitchMap_com_example_salp_salp_model_ListFilter⟩ := Arr.start ev__SwitchMap_com_example_salp_salp_model_ListFilter hn21
  -- its length: not used
  obtain ⟨in__SwitchMap_com_example_salp_salp_model_ListFilter_0, at__SwitchMap_com_example_salp_salp_model_ListFilter_0⟩ := own_elemI hn22221 ev__SwitchMap_com_example_salp_salp_model_ListFilter A__SwitchMap_com_example_salp_salp_model_ListFilter.1
  obtain ⟨in__SwitchMap_com_example_salp_salp_model_ListFilter_1, at__SwitchMap_com_example_salp_salp_model_ListFilter_1⟩ := own_elemI hn2222222 ev__SwitchMap_com_example_salp_salp_model_ListFilter A__SwitchMap_com_example_salp_salp_model_ListFilter.1
  obtain ⟨n, o, h1, h2, h3, _, L, rfl, ⟨rfl, N, -⟩, hq⟩ := rm_law l s _ hw tables_1 i0 i1 a_ALL a_NORMAL a__SwitchMap_com_example_salp_salp_model_ListFilter cl__SwitchMap_com_example_salp_salp_model_ListFilter s.heap ⟨Nat.le_refl _, fun _ _ q => q⟩ ⟨S_ALL, X_ALL, S_NORMAL, X_NORMAL, F_ALL_ordinal, F_NORMAL_ordinal, S__SwitchMap_com_example_salp_salp_model_ListFilter, A__SwitchMap_com_example_salp_salp_model_ListFilter, in__SwitchMap_com_example_salp_salp_model_ListFilter_0, at__SwitchMap_com_example_salp_salp_model_ListFilter_0, in__SwitchMap_com_example_salp_salp_model_ListFilter_1, at__SwitchMap_com_example_salp_salp_model_ListFilter_1⟩  p e ha hc hk s m _ below hf ((Spec.applies_iff_loose hf).mp happ).1 ⟨rfl, State.Warmed39.refl s, rfl⟩ trivial
  refine ⟨n, _, h1, h2, h3, hpost _ _ _ _ _ _ ⟨Cond.after_iff.mpr rfl, Cond.after_iff.mpr (eq_i res_at (Term.int_eval (1)) rfl), trivial⟩ ⟨hq.1, hq.2.1, (hq.2.2.sift fun y hy => Or.inr (N y hy)).mono (by decide) (by decide)⟩⟩
theorem main_1_1 : Claimed_1_1 := comes_1 fun _ _ _ _ _ _ h hF => ⟨h.1, hF⟩
theorem main_1_2 : Claimed_1_2 := comes_1 fun _ _ _ _ _ _ h hF => ⟨h.2.1, hF⟩
end Jvm.Pilot.@@N@@
namespace Jvm.Pilot.@@N@@
open Jvm Jvm.ClassFile Sem Op Lib Jvm.Free Jvm.Stand Jvm.Pilot.@@N@@.Jvm.D
/-! MADE BY PROGRAM (witnessworld.py) out of the Statement's table words and the real class files: 15 classes; the members and pool entries that the words name. The judged class is class 1, her method 1. -/
namespace start1
open Jvm.ClassFile
def u (s : String) : CpInfo := .utf8 (stringToUtf16 s)
/-- a pool by its gaps: so many unusable entries, then the entry; so many at the end -/
def gap : Nat → List CpInfo → List CpInfo
  | 0, r => r
  | n + 1, r => .unusable :: gap n r
def poolList (es : List (Nat × CpInfo)) (last : Nat) : List CpInfo := es.foldr (fun e r => gap e.1 (e.2 :: r)) (gap last [])
def pool (es : List (Nat × CpInfo)) (last : Nat) : Array CpInfo := ⟨poolList es last⟩
def fileOf (pool : Array CpInfo) (this : Nat) (attrs : Array Attribute := #[]) (ms : Array MethodInfo := #[]) (fl : Nat := 33) (sup : Nat := 0) (ifs : Array Nat := #[]) (fds : Array FieldInfo := #[]) : ClassFile where
  minorVersion := 0
  majorVersion := 65
  constantPool := pool
  accessFlags := fl
  thisClass := this
  superClass := sup
  interfaces := ifs
  fields := fds
  methods := ms
  attributes := attrs
def plain (name : String) (sup : Option ClassId) : Class where
  name := name
  kind := .ordinary
  loader := none
  accessFlags := 33
  super := sup
  interfaces := #[]
  cf := none
  fields := #[]
  methods := #[]
  instanceTypes := #[]
  staticTypes := #[]
  resolved := #[]
  callSites := []
  init := .initialized
  statics := none
  mirror := none

def pool0 : Array CpInfo := pool [(5, u "<init>"), (0, u "()V"), (1, .class_ 10), (1, u "java/lang/Object")] 113

def k0c0 : Code := { maxStack := 0, maxLocals := 1, code := object_method_1_code, exceptionTable := #[], attributes := #[] }
def k0m0 : Method := { name := "<init>", desc := "()V", sig := { parameters := [], returnType := none }, accessFlags := 1, code := some k0c0 }
/-- java/lang/Object -/
def k0 : Class := { plain "java/lang/Object" none with
  accessFlags := 33
  interfaces := #[]
  cf := some (fileOf pool0 8 #[] #[{ accessFlags := 1, nameIndex := 5, descriptorIndex := 6, attributes := #[] }] 33 0 #[] #[])
  fields := #[]
  methods := #[k0m0]
  instanceTypes := #[]
  staticTypes := #[]
  resolved := Array.replicate 124 none
  statics := none }

def pool1 : Array CpInfo := pool [(2, .class_ 4), (1, u "java/lang/Object"), (0, u "<init>"), (0, u "()V"), (0, .class_ 8), (0, u "com/example/salp/salp/model/ListCounts"), (0, .methodref 7 10), (0, .nameAndType 5 11), (0, u "(JJ)V"), (0, .fieldref 13 14), (0, .class_ 15), (0, .nameAndType 16 17), (0, u "com/example/salp/salp/model/ListFilter"), (0, u "ALL"), (0, u "Lcom/example/salp/salp/model/ListFilter;"), (0, .methodref 7 19), (0, .nameAndType 20 21), (0, u "taken"), (0, u "(Lcom/example/salp/salp/model/ListFilter;)J"), (0, .fieldref 13 23), (0, .nameAndType 24 17), (0, u "NORMAL"), (0, .class_ 26), (0, u "com/example/salp/salp/model/ListCountsTakenPinLaw"), (2, u "law"), (0, u "(JJ)Z")] 3

def k1m0 : Method := { name := "<init>", desc := "()V", sig := { parameters := [], returnType := none }, accessFlags := 1, code := none }
def k1c1 : Code := { maxStack := 6, maxLocals := 9, code := code, exceptionTable := #[], attributes := #[] }
def k1m1 : Method := { name := "law", desc := "(JJ)Z", sig := { parameters := [.long, .long], returnType := some .boolean }, accessFlags := 9, code := some k1c1 }
/-- com/example/salp/salp/model/ListCountsTakenPinLaw -/
def k1 : Class := { plain "com/example/salp/salp/model/ListCountsTakenPinLaw" (some 0) with
  accessFlags := 49
  interfaces := #[]
  cf := some (fileOf pool1 25 #[] #[{ accessFlags := 1, nameIndex := 5, descriptorIndex := 6, attributes := #[] }, { accessFlags := 9, nameIndex := 29, descriptorIndex := 30, attributes := #[] }] 49 2 #[] #[])
  fields := #[]
  methods := #[k1m0, k1m1]
  instanceTypes := #[]
  staticTypes := #[]
  resolved := Array.replicate 34 none
  statics := none }

def pool2 : Array CpInfo := pool [(1, .methodref 2 3), (0, .class_ 4), (0, .nameAndType 5 6), (0, u "java/lang/Object"), (0, u "<init>"), (0, u "()V"), (0, .class_ 8), (0, u "java/lang/Record")] 13

def k2c0 : Code := { maxStack := 1, maxLocals := 1, code := jdk_30_method_1_code, exceptionTable := #[], attributes := #[] }
def k2m0 : Method := { name := "<init>", desc := "()V", sig := { parameters := [], returnType := none }, accessFlags := 4, code := some k2c0 }
/-- java/lang/Record -/
def k2 : Class := { plain "java/lang/Record" (some 0) with
  accessFlags := 1057
  interfaces := #[]
  cf := some (fileOf pool2 7 #[] #[{ accessFlags := 4, nameIndex := 5, descriptorIndex := 6, attributes := #[] }] 1057 2 #[] #[])
  fields := #[]
  methods := #[k2m0]
  instanceTypes := #[]
  staticTypes := #[]
  resolved := Array.replicate 22 none
  statics := none }

def pool3 : Array CpInfo := pool [(1, .methodref 2 3), (0, .class_ 4), (0, .nameAndType 5 6), (0, u "java/lang/Record"), (0, u "<init>"), (0, u "()V"), (0, .fieldref 8 9), (0, .class_ 10), (0, .nameAndType 11 12), (0, u "com/example/salp/salp/model/ListCounts"), (0, u "all"), (0, u "J"), (0, .fieldref 8 14), (0, .nameAndType 15 12), (0, u "normal"), (0, .fieldref 17 18), (0, .class_ 19), (0, .nameAndType 20 21), (0, u "com/example/salp/salp/model/ListCounts$1"), (0, u "$SwitchMap$com$example$salp$salp$model$ListFilter"), (0, u "[I"), (0, .methodref 23 24), (0, .class_ 25), (0, .nameAndType 26 27), (0, u "com/example/salp/salp/model/ListFilter"), (0, u "ordinal"), (0, u "()I"), (17, u "(JJ)V"), (3, u "taken"), (0, u "(Lcom/example/salp/salp/model/ListFilter;)J")] 26

def k3c0 : Code := { maxStack := 3, maxLocals := 5, code := prog_8_method_1_code, exceptionTable := #[], attributes := #[] }
def k3m0 : Method := { name := "<init>", desc := "(JJ)V", sig := { parameters := [.long, .long], returnType := none }, accessFlags := 1, code := some k3c0 }
def k3c1 : Code := { maxStack := 4, maxLocals := 2, code := prog_8_method_2_code, exceptionTable := #[], attributes := #[] }
def k3m1 : Method := { name := "taken", desc := "(Lcom/example/salp/salp/model/ListFilter;)J", sig := { parameters := [(.object "com/example/salp/salp/model/ListFilter")], returnType := some .long }, accessFlags := 1, code := some k3c1 }
/-- com/example/salp/salp/model/ListCounts -/
def k3 : Class := { plain "com/example/salp/salp/model/ListCounts" (some 2) with
  accessFlags := 49
  interfaces := #[]
  cf := some (fileOf pool3 8 #[.nestMembers #[17]] #[{ accessFlags := 1, nameIndex := 5, descriptorIndex := 45, attributes := #[] }, { accessFlags := 1, nameIndex := 49, descriptorIndex := 50, attributes := #[] }] 49 2 #[] #[{ accessFlags := 18, nameIndex := 11, descriptorIndex := 12, attributes := #[] }, { accessFlags := 18, nameIndex := 15, descriptorIndex := 12, attributes := #[] }])
  fields := #[{ name := "all", type := .long, accessFlags := 18, slot := 0, constantValue := 0 }, { name := "normal", type := .long, accessFlags := 18, slot := 1, constantValue := 0 }]
  methods := #[k3m0, k3m1]
  instanceTypes := #[.long, .long]
  staticTypes := #[]
  resolved := Array.replicate 77 none
  statics := none }

def pool4 : Array CpInfo := pool [(1, .class_ 2), (0, u "java/lang/constant/Constable"), (0, .class_ 4), (0, u "java/lang/Object")] 6

/-- java/lang/constant/Constable -/
def k4 : Class := { plain "java/lang/constant/Constable" (some 0) with
  accessFlags := 1537
  interfaces := #[]
  cf := some (fileOf pool4 1 #[] #[] 1537 3 #[] #[])
  fields := #[]
  methods := #[]
  instanceTypes := #[]
  staticTypes := #[]
  resolved := Array.replicate 11 none
  statics := none }

def pool5 : Array CpInfo := pool [(1, .class_ 2), (0, u "java/lang/Comparable"), (0, .class_ 4), (0, u "java/lang/Object")] 7

/-- java/lang/Comparable -/
def k5 : Class := { plain "java/lang/Comparable" (some 0) with
  accessFlags := 1537
  interfaces := #[]
  cf := some (fileOf pool5 1 #[] #[] 1537 3 #[] #[])
  fields := #[]
  methods := #[]
  instanceTypes := #[]
  staticTypes := #[]
  resolved := Array.replicate 12 none
  statics := none }

def pool6 : Array CpInfo := pool [(1, .class_ 2), (0, u "java/io/Serializable"), (0, .class_ 4), (0, u "java/lang/Object")] 2

/-- java/io/Serializable -/
def k6 : Class := { plain "java/io/Serializable" (some 0) with
  accessFlags := 1537
  interfaces := #[]
  cf := some (fileOf pool6 1 #[] #[] 1537 3 #[] #[])
  fields := #[]
  methods := #[]
  instanceTypes := #[]
  staticTypes := #[]
  resolved := Array.replicate 7 none
  statics := none }

def pool7 : Array CpInfo := pool [(2, .class_ 4), (1, u "java/lang/Enum"), (0, u "name"), (0, u "Ljava/lang/String;"), (0, .fieldref 2 8), (0, .nameAndType 9 10), (0, u "ordinal"), (0, u "I"), (1, .class_ 14), (1, u "java/lang/Object"), (4, u "hash"), (86, .class_ 108), (1, u "java/lang/Enum$EnumDesc"), (2, .class_ 112), (0, u "java/lang/constant/Constable"), (0, .class_ 114), (0, u "java/lang/Comparable"), (0, .class_ 116), (0, u "java/io/Serializable"), (9, u "()I")] 77

def k7c0 : Code := { maxStack := 1, maxLocals := 1, code := jdk_37_method_2_code, exceptionTable := #[], attributes := #[] }
def k7m0 : Method := { name := "ordinal", desc := "()I", sig := { parameters := [], returnType := some .int }, accessFlags := 17, code := some k7c0 }
/-- java/lang/Enum -/
def k7 : Class := { plain "java/lang/Enum" (some 0) with
  accessFlags := 1057
  interfaces := #[4, 5, 6]
  cf := some (fileOf pool7 2 #[.nestMembers #[106]] #[{ accessFlags := 17, nameIndex := 9, descriptorIndex := 126, attributes := #[] }] 1057 12 #[111, 113, 115] #[{ accessFlags := 18, nameIndex := 5, descriptorIndex := 6, attributes := #[] }, { accessFlags := 18, nameIndex := 9, descriptorIndex := 10, attributes := #[] }, { accessFlags := 2, nameIndex := 19, descriptorIndex := 10, attributes := #[] }])
  fields := #[{ name := "name", type := (.object "java/lang/String"), accessFlags := 18, slot := 0, constantValue := 0 }, { name := "ordinal", type := .int, accessFlags := 18, slot := 1, constantValue := 0 }, { name := "hash", type := .int, accessFlags := 2, slot := 2, constantValue := 0 }]
  methods := #[k7m0]
  instanceTypes := #[(.object "java/lang/String"), .int, .int]
  staticTypes := #[]
  resolved := Array.replicate 204 none
  statics := none }

def pool8 : Array CpInfo := pool [(1, .class_ 2), (0, u "com/example/salp/salp/model/ListFilter"), (2, u "ALL"), (0, u "Lcom/example/salp/salp/model/ListFilter;"), (2, u "NORMAL"), (2, u "$VALUES"), (0, u "[Lcom/example/salp/salp/model/ListFilter;"), (6, .class_ 22), (1, u "java/lang/Enum")] 24

/-- com/example/salp/salp/model/ListFilter -/
def k8 : Class := { plain "com/example/salp/salp/model/ListFilter" (some 7) with
  accessFlags := 16433
  interfaces := #[]
  cf := some (fileOf pool8 1 #[] #[] 16433 20 #[] #[{ accessFlags := 16409, nameIndex := 5, descriptorIndex := 6, attributes := #[] }, { accessFlags := 16409, nameIndex := 9, descriptorIndex := 6, attributes := #[] }, { accessFlags := 4122, nameIndex := 12, descriptorIndex := 13, attributes := #[] }])
  fields := #[{ name := "ALL", type := (.object "com/example/salp/salp/model/ListFilter"), accessFlags := 16409, slot := 0, constantValue := 0 }, { name := "NORMAL", type := (.object "com/example/salp/salp/model/ListFilter"), accessFlags := 16409, slot := 1, constantValue := 0 }, { name := "$VALUES", type := (.array (.object "com/example/salp/salp/model/ListFilter")), accessFlags := 4122, slot := 2, constantValue := 0 }]
  methods := #[]
  instanceTypes := #[(.object "java/lang/String"), .int, .int]
  staticTypes := #[(.object "com/example/salp/salp/model/ListFilter"), (.object "com/example/salp/salp/model/ListFilter"), (.array (.object "com/example/salp/salp/model/ListFilter"))]
  resolved := Array.replicate 47 none
  statics := some 0 }

def pool9 : Array CpInfo := pool [(8, .class_ 10), (1, u "com/example/salp/salp/model/ListCounts$1"), (0, u "$SwitchMap$com$example$salp$salp$model$ListFilter"), (0, u "[I"), (13, .class_ 27), (0, u "java/lang/Object"), (8, .class_ 37), (0, u "com/example/salp/salp/model/ListCounts")] 2

/-- com/example/salp/salp/model/ListCounts$1 -/
def k9 : Class := { plain "com/example/salp/salp/model/ListCounts$1" (some 0) with
  accessFlags := 4128
  interfaces := #[]
  cf := some (fileOf pool9 8 #[.nestHost 36] #[] 4128 26 #[] #[{ accessFlags := 4120, nameIndex := 11, descriptorIndex := 12, attributes := #[] }])
  fields := #[{ name := "$SwitchMap$com$example$salp$salp$model$ListFilter", type := (.array .int), accessFlags := 4120, slot := 0, constantValue := 0 }]
  methods := #[]
  instanceTypes := #[]
  staticTypes := #[(.array .int)]
  resolved := Array.replicate 40 none
  statics := some 1 }

def pool10 : Array CpInfo := pool [(1, u "java/lang/Cloneable"), (0, .class_ 1), (0, u "java/lang/Object"), (0, .class_ 3)] 3

/-- java/lang/Cloneable -/
def k10 : Class := { plain "java/lang/Cloneable" (some 0) with
  accessFlags := 1537
  interfaces := #[]
  cf := some (fileOf pool10 2 #[] #[] 1537 4 #[] #[])
  fields := #[]
  methods := #[]
  instanceTypes := #[]
  staticTypes := #[]
  resolved := Array.replicate 8 none
  statics := none }

/-- the primitive byte -/
def k11 : Class := { plain "byte" none with kind := .primitive 'B', accessFlags := 0x411 }
/-- [B -/
def k12 : Class := { plain "[B" (some 0) with kind := .array 11 .byte, interfaces := #[10, 6], accessFlags := 1041 }

/-- the primitive int -/
def k13 : Class := { plain "int" none with kind := .primitive 'I', accessFlags := 0x411 }
/-- [I -/
def k14 : Class := { plain "[I" (some 0) with kind := .array 13 .int, interfaces := #[10, 6], accessFlags := 1041 }

def heap : Heap := #[{ cls := 8, slots := #[.ref 2, .ref 3, .null], vm := .statics 8 },
  { cls := 9, slots := #[.ref 4], vm := .statics 9 },
  { cls := 8, slots := #[.null, .int 0, .int 0], vm := .none },
  { cls := 8, slots := #[.null, .int 1, .int 0], vm := .none },
  { cls := 14, slots := #[.int 1, .int 2], vm := .none }]
def classes : Array Class := #[k0, k1, k2, k3, k4, k5, k6, k7, k8, k9, k10, k11, k12, k13, k14]
def interned : List (Array UInt16 × Addr) := []
def slotsUsed : Nat := 12
def theMethod : MethodId := ⟨1, 1⟩
def args0 : Array Value := #[.long 5, .long 7]
def aboutOver (below : List Frame) : State where
  vm := { classes := classes, interned := interned.toArray }
  heap := heap
  slotsUsed := slotsUsed
  threads := #[{ frames := .invoking theMethod args0 :: below }]
def below0 : List Frame := [.native { method := ⟨0, 0⟩, args := #[] }]
def about1 : State := aboutOver below0
def p0 : Program := .bare "" "" ""
def e0 : Env := launch0.env 0 0 0
theorem w_frames : about1.frames = Frame.invoking theMethod args0 :: below0 := rfl
set_option maxRecDepth 65536 in
theorem w_args : argsFit about1.vm theMethod args0 = true := by decide +kernel
set_option maxRecDepth 65536 in
theorem w_heap : heapFits about1 = true := by decide +kernel
set_option maxRecDepth 65536 in
theorem w_runnable : about1.curStatus? = some .runnable := by decide +kernel
set_option maxRecDepth 65536 in
theorem w_alone : about1.alone = true := by decide +kernel
set_option maxRecDepth 65536 in
theorem w_named : about1.methodNamed? x = some theMethod := by decide +kernel
set_option maxRecDepth 65536 in
theorem w_hears : about1.hears theMethod below0 = true := by decide +kernel
set_option maxRecDepth 65536 in
theorem w_ripe : about1.ripe theMethod args0 below0 = true := by decide +kernel
theorem w_running : about1.status = .running := rfl
set_option maxRecDepth 65536 in
theorem w_room : about1.hasRoom e0.platform room_1 = true :=
  launch0.hasRoom_least _ room_1 (by decide +kernel) (by decide +kernel) (by decide +kernel) (by decide +kernel) (by decide +kernel) (by decide +kernel)
theorem allAtoms_all (ts : List Jvm.Cond) (a : Array Jvm.Value) (st : Jvm.State) : (allAtoms ts).before a st = ts.all (fun c => c.before a st) := by
  induction ts with
  | nil => rfl
  | cons c t ih =>
    show (Jvm.Cond.and c (allAtoms t)).before a st = _
    rw [Jvm.Cond.before_and, ih, List.all_cons]
def words1 : List Jvm.Cond := Jvm.Cond.code x code maxLocals ret :: tables_1
/-- a 'code' word, met by the world's own term for the bytes: nothing is compared byte by byte -/
theorem code_word {y : MethodName} {bytes : ByteArray} {mx : Nat} {rt : Option FieldType} {a : Array Value} {s : State} {m : MethodId} {meth : Method} {c : Code} (h1 : s.methodNamed? y = some m) (h2 : s.vm.method? m = some meth) (h3 : meth.code = some c) (h4 : c.code = bytes)
    (h5 : (c.maxLocals == mx && c.exceptionTable.isEmpty && decide (c.maxStack ≤ mostOperands) && decide (meth.sig.returnType = rt) && !meth.locks && decide (parseMethodDescriptor y.desc = some meth.sig)) = true) : (Jvm.Cond.code y bytes mx rt).before a s = true := by
  simp only [Bool.and_eq_true, beq_iff_eq, Bool.not_eq_true', decide_eq_true_eq] at h5
  obtain ⟨⟨⟨⟨⟨g1, g2⟩, g3⟩, g4⟩, g5⟩, g6⟩ := h5
  simp [Cond.before, Cond.holds, Cond.value, h1, h2, h3, h4, g1, g2, g3, g4, g5, g6]
def isCode : Jvm.Cond → Bool
  | .code _ _ _ _ => true
  | _ => false
theorem all_split {L : List Jvm.Cond} {P : Jvm.Cond → Bool} (h1 : L.all (fun c => isCode c || P c) = true) (h2 : ∀ c ∈ L.filter isCode, P c = true) : L.all P = true := by
  refine List.all_eq_true.mpr fun c hc => ?_
  have h := List.all_eq_true.mp h1 c hc
  rcases Bool.eq_false_or_eq_true (isCode c) with hi | hi
  · exact h2 c (List.mem_filter.mpr ⟨hc, hi⟩)
  · simpa [hi] using h
set_option maxRecDepth 65536 in
theorem w_c0 : (Jvm.Cond.code x code maxLocals ret).before args0 about1 = true := code_word (m := ⟨1, 1⟩) (meth := k1m1) (c := k1c1) (by decide +kernel) rfl rfl rfl (by decide +kernel)
set_option maxRecDepth 65536 in
theorem w_c1 : (Jvm.Cond.code ({ cls := "com/example/salp/salp/model/ListCounts", name := "<init>", desc := "(JJ)V" } : Jvm.MethodName) prog_8_method_1_code (5 : Nat) (Option.none : Option Jvm.ClassFile.FieldType)).before args0 about1 = true := code_word (m := ⟨3, 0⟩) (meth := k3m0) (c := k3c0) (by decide +kernel) rfl rfl rfl (by decide +kernel)
set_option maxRecDepth 65536 in
theorem w_c2 : (Jvm.Cond.code ({ cls := "java/lang/Record", name := "<init>", desc := "()V" } : Jvm.MethodName) jdk_30_method_1_code (1 : Nat) (Option.none : Option Jvm.ClassFile.FieldType)).before args0 about1 = true := code_word (m := ⟨2, 0⟩) (meth := k2m0) (c := k2c0) (by decide +kernel) rfl rfl rfl (by decide +kernel)
set_option maxRecDepth 65536 in
theorem w_c3 : (Jvm.Cond.code ({ cls := "java/lang/Object", name := "<init>", desc := "()V" } : Jvm.MethodName) object_method_1_code (1 : Nat) (Option.none : Option Jvm.ClassFile.FieldType)).before args0 about1 = true := code_word (m := ⟨0, 0⟩) (meth := k0m0) (c := k0c0) (by decide +kernel) rfl rfl rfl (by decide +kernel)
set_option maxRecDepth 65536 in
theorem w_c4 : (Jvm.Cond.code ({ cls := "com/example/salp/salp/model/ListCounts", name := "taken", desc := "(Lcom/example/salp/salp/model/ListFilter;)J" } : Jvm.MethodName) prog_8_method_2_code (2 : Nat) (Option.some Jvm.ClassFile.FieldType.long)).before args0 about1 = true := code_word (m := ⟨3, 1⟩) (meth := k3m1) (c := k3c1) (by decide +kernel) rfl rfl rfl (by decide +kernel)
set_option maxRecDepth 65536 in
theorem w_c5 : (Jvm.Cond.code ({ cls := "java/lang/Enum", name := "ordinal", desc := "()I" } : Jvm.MethodName) jdk_37_method_2_code (1 : Nat) (Option.some Jvm.ClassFile.FieldType.int)).before args0 about1 = true := code_word (m := ⟨7, 0⟩) (meth := k7m0) (c := k7c0) (by decide +kernel) rfl rfl rfl (by decide +kernel)
def codes1 : List Jvm.Cond := [Jvm.Cond.code x code maxLocals ret, Jvm.Cond.code ({ cls := "com/example/salp/salp/model/ListCounts", name := "<init>", desc := "(JJ)V" } : Jvm.MethodName) prog_8_method_1_code (5 : Nat) (Option.none : Option Jvm.ClassFile.FieldType), Jvm.Cond.code ({ cls := "java/lang/Record", name := "<init>", desc := "()V" } : Jvm.MethodName) jdk_30_method_1_code (1 : Nat) (Option.none : Option Jvm.ClassFile.FieldType), Jvm.Cond.code ({ cls := "java/lang/Object", name := "<init>", desc := "()V" } : Jvm.MethodName) object_method_1_code (1 : Nat) (Option.none : Option Jvm.ClassFile.FieldType), Jvm.Cond.code ({ cls := "com/example/salp/salp/model/ListCounts", name := "taken", desc := "(Lcom/example/salp/salp/model/ListFilter;)J" } : Jvm.MethodName) prog_8_method_2_code (2 : Nat) (Option.some Jvm.ClassFile.FieldType.long), Jvm.Cond.code ({ cls := "java/lang/Enum", name := "ordinal", desc := "()I" } : Jvm.MethodName) jdk_37_method_2_code (1 : Nat) (Option.some Jvm.ClassFile.FieldType.int)]
set_option maxRecDepth 65536 in
theorem codes_eq : words1.filter isCode = codes1 := rfl
theorem w_codes : ∀ c ∈ words1.filter isCode, c.before args0 about1 = true := by
  rw [codes_eq]
  intro c hc
  simp only [codes1, List.mem_cons, List.not_mem_nil, or_false] at hc
  rcases hc with rfl | rfl | rfl | rfl | rfl | rfl
  · exact w_c0
  · exact w_c1
  · exact w_c2
  · exact w_c3
  · exact w_c4
  · exact w_c5
set_option maxRecDepth 65536 in
theorem w_t1 : (words1.take 24).all (fun c => isCode c || c.before args0 about1) = true := by decide +kernel
set_option maxRecDepth 65536 in
theorem w_t2 : (words1.drop 24).all (fun c => isCode c || c.before args0 about1) = true := by decide +kernel
theorem w_tables : (allAtoms (Jvm.Cond.code x code maxLocals ret :: tables_1)).before args0 about1 = true := by
  rw [allAtoms_all]
  show words1.all (fun c => c.before args0 about1) = true
  refine all_split ?_ w_codes
  rw [← List.take_append_drop 24 words1, List.all_append, w_t1, w_t2]
  rfl
set_option maxRecDepth 65536 in
theorem w_case : (Jvm.Cond.and given_1 narrow_1).before args0 about1 = true := by decide +kernel
theorem w_applies : (headSpec (Jvm.Cond.code x code maxLocals ret :: tables_1) room_1).applies x e0.platform about1 = true :=
  (Spec.applies_iff w_frames).mpr ⟨w_running, w_runnable, w_alone, w_named, w_hears, w_ripe, w_room, w_tables⟩
theorem atStart : AtStart classFile x code maxLocals ret World_1 tables_1 room_1 Calls_1 rest_1 Pre_1 launch0 p0 e0 about1 theMethod args0 below0 :=
  ⟨lists_1, trivial, launch0.admits_env _ _ _, launch0.least_env, fairChoices_fair.cas, fairChoices_fair.clock, w_frames, w_args, w_heap, w_applies, trivial, trivial, w_case⟩
end start1
theorem witness_1 : WitnessClaimed_1 := ⟨start1.p0, start1.e0, start1.about1, start1.theMethod, start1.args0, start1.below0, start1.atStart⟩
end Jvm.Pilot.@@N@@
