import JvmDerived
import JvmDerived.Pilot.@@N@@Statement
import JvmDerived.Pilot.@@N@@Code
set_option linter.unusedVariables false
set_option linter.unusedSimpArgs false
namespace Jvm.RoadKit
open Sem ClassFile Op Lib Jvm.Stand Jvm.Free Jvm.LawKit
section New
variable {p : Program} {l : Launch} {e : Env} {R : Room} {s : State} {m : MethodId} {args : Array Value} {below : List Frame} {meth : Method} {c : Code} {T : State} {locs : List Loc} {cells slots : Nat}
theorem retI (X : Stand p l e R s m args below meth c T locs cells slots) (hx : p.tables.exec = Jvm.exec) {pc : Nat} {Ls : Array Slot} {z : Int32} {rest : List Value} (hret : meth.sig.returnType = some .int) (hd : decode c.code pc = .ok (.ireturn, 1)) {fs : List Frame}
    (hl : ∀ (f : JFrame) (acts : List Action), f.method = m → f.locked = none → f.entered = [] → (doReturn e (T.setTop f) acts (some (.int z))).1 = T.setFrames fs) : Steps p.tables e below (T.setTop (mkF m pc Ls (.int z :: rest))) (T.setFrames fs) := by
  have hm' : T.vm.method? m = some meth := X.method'
  have hn : narrow .int (.int z) = .int z := rfl
  show Steps p.tables e below (T.setTop { method := m, pc := pc, locals := Ls, stack := _ :: rest, locked := none }) _
  jvm_step X.here [X.here.top, hx, hd, hm', hret, hn]
  first | (intro acts; rw [hl _ acts rfl rfl rfl]) | rw [hl _ _ rfl rfl rfl]
  exact Steps.refl _
end New
end Jvm.RoadKit
namespace Jvm.Pilot.@@N@@
open Jvm Jvm.ClassFile Sem Op Lib Jvm.Free Jvm.Stand Jvm.LawKit Jvm.RoadKit Bundle Jvm.Pilot.@@N@@.Jvm.D
/-- a run from here that ends well -/
def own_G (p : Program) (e : Env) (below : List Frame) (P : Outcome → State → Prop) (S : State) : Prop := ∃ s₂ o, Steps p.tables e below S s₂ ∧ s₂.status = .running ∧ Ended s₂ below o ∧ P o s₂
theorem own_go {p : Program} {e : Env} {below : List Frame} {P : Outcome → State → Prop} {S : State} (S' : State) (k : ∀ t, Steps p.tables e below S' t → Steps p.tables e below S t) (h : own_G p e below P S') : own_G p e below P S := by
  obtain ⟨s₂, o, h1, h2⟩ := h
  exact ⟨s₂, o, k _ h1, h2⟩
theorem own_one {x : Slot} (h : One x) : (match x with | .second => False | .val old => old.category = 1 | .unset => True) := by
  rcases h with rfl | ⟨w, rfl, hw⟩
  · trivial
  · exact hw
theorem own_selp {s : State} {args : Array Value} {D : String} {y z : MethodName} (h : (Cond.selects D z z).before args s = true) (hc : z.cls = y.cls) (hpriv : s.PrivateAt y) (hinst : (Cond.instanceMethod y).before args s = true) (hy : y.cls ≠ "java/lang/invoke/MethodHandle" ∧ y.cls ≠ "java/lang/invoke/VarHandle") : (Cond.selects y.cls y y).before args s = true := by
  obtain ⟨c, r, m, q1, q2, q3, q4, mk, hk, hi⟩ := Cond.selects_spec h
  exact selects_self_of_private (hc ▸ findClass_of_methodNamed q3) hk hi hpriv hinst hy
theorem own_same {s : State} {args : Array Value} {D : String} {y z : MethodName} (hinst : (Cond.instanceMethod y).before args s = true) (hsel : (Cond.selects D z z).before args s = true) (hc : z.cls = y.cls) (hy : y.cls ≠ "java/lang/invoke/MethodHandle" ∧ y.cls ≠ "java/lang/invoke/VarHandle") : (Cond.sameMethod y.cls y.cls y.name y.desc).before args s = true := by
  obtain ⟨mk, methM, hnamed, hmethM, -, -⟩ := Cond.instanceMethod_spec hinst
  obtain ⟨c, r, m, q1, q2, q3, q4, k, hk, hi⟩ := Cond.selects_spec hsel
  have hfound := State.methodFound?_of_named hnamed hy
  have hcn := findClass_of_methodNamed hnamed
  have e : m.cls = mk.cls := Option.some.inj ((findClass_of_methodNamed q3).symm.trans (hc ▸ hcn))
  rw [e] at hk
  obtain ⟨yc, yn, yd⟩ := y
  simp_all [Cond.before, Cond.holds, Cond.value]
theorem own_nf {s : State} {args : Array Value} {D : String} {y z : MethodName} (hsel : (Cond.selects D z z).before args s = true) (hc : z.cls = y.cls) : NotFace s y := fun r0 h0 => by
  obtain ⟨c, r, m, q1, q2, q3, q4, k, hk, hi⟩ := Cond.selects_spec hsel
  have e : m.cls = r0.cls := Option.some.inj ((findClass_of_methodNamed q3).symm.trans (hc ▸ findClass_of_methodNamed h0))
  exact ⟨k, e ▸ hk, hi⟩
theorem own_lt {x y : Int64} : lcmpW x y < 0 ↔ x < y := by rw [lcW]; exact lc_lt x y
theorem own_gt {x y : Int64} : (0 : Int32) < lcmpW x y ↔ y < x := by rw [lcW]; exact lc_gt x y
theorem own_eq {x y : Int64} : lcmpW x y = 0 ↔ x = y := by rw [lcW]; exact lc_eq x y
theorem own_extK {Z : State} {h h' : Heap} {ws : List Addr} (O : Ext Z.heap h) (K : Keep h h' ws) (q : ∀ x ∈ ws, Z.heap.size ≤ x) : Ext Z.heap h' :=
  (Old.keep (n0 := Z.heap.size) ⟨rfl, O⟩ K q).2
theorem own_ext {h h1 h2 : Heap} (E : Ext h h1) (F : Ext h1 h2) : Ext h h2 := ⟨Nat.le_trans E.1 F.1, fun a c q => F.2 a c (E.2 a c q)⟩
theorem own_extW {Z : State} {h h' : Heap} {a : Addr} {sl : Nat} {v : Value} (O : Ext Z.heap h) (W : Wr h h' a sl v) (q : Z.heap.size ≤ a) : Ext Z.heap h' := own_extK O (Keep.of_wr W) (allS q all0)
theorem own_fldI {s : State} {args : Array Value} {t : Term} {C n d : String} {k : Int32} {a : Addr} (h : (Cond.eq (Term.field t C n d) (Term.int k)).value args s none s [] = some true) (ev : t.eval args s none [] s = some (.ref a)) : Fld s s.heap a C n d (.int k) := by
  obtain ⟨x, y, h1, h2, h3, -⟩ := cmp_v (Or.inl h)
  have h4 : s.fieldOf? a C n d = some x := (fld_at ev).symm.trans h1
  have h5 : y = .int k := (Option.some.inj (h2.symm.trans (Term.int_eval k)))
  subst h5
  cases x with
  | int z =>
    simp only [Cond.value, h1, h2] at h
    have e : z = k := by simpa using h
    subst e
    exact Fld.start h4
  | _ => simp [Kin, Value.isRef] at h3
theorem own_fldV {s : State} {args : Array Value} {t u : Term} {C n d : String} {b : Addr} {a : Addr} (h : (Cond.eq (Term.field t C n d) u).value args s none s [] = some true) (ev : t.eval args s none [] s = some (.ref a)) (eu : u.eval args s none [] s = some (.ref b)) : Fld s s.heap a C n d (.ref b) := by
  obtain ⟨x, y, h1, h2, h3, -⟩ := cmp_v (Or.inl h)
  have h4 : s.fieldOf? a C n d = some x := (fld_at ev).symm.trans h1
  have h5 : y = .ref b := (Option.some.inj (h2.symm.trans eu))
  subst h5
  cases x with
  | ref z =>
    simp only [Cond.value, h1, h2] at h
    have e : z = b := by simpa using h
    subst e
    exact Fld.start h4
  | null => simp [Cond.value, h1, h2] at h
  | _ => simp [Kin, Value.isRef] at h3
theorem own_elemI {s : State} {args : Array Value} {t : Term} {j k : Int32} {a : Addr} {cl : Cell} (h : (Cond.eq (Term.elem t (Term.int j)) (Term.int k)).value args s none s [] = some true) (ev : t.eval args s none [] s = some (.ref a)) (hc : s.heap[a]? = some cl) : ¬ (j < 0 ∨ cl.slots.size ≤ j.toNatClampNeg) ∧ cl.slots[j.toNatClampNeg]? = some (.int k) := by
  obtain ⟨x, y, h1, h2, h3, -⟩ := cmp_v (Or.inl h)
  have h4 := elem_in h1 ev (Term.int_eval j) hc
  have h5 : y = .int k := (Option.some.inj (h2.symm.trans (Term.int_eval k)))
  subst h5
  cases x with
  | int z =>
    simp only [Cond.value, h1, h2] at h
    have e : z = k := by simpa using h
    subst e
    exact h4
  | _ => simp [Kin, Value.isRef] at h3
theorem own_elemV {s : State} {args : Array Value} {t u : Term} {j : Int32} {a b : Addr} {cl : Cell} (h : (Cond.eq (Term.elem t (Term.int j)) u).value args s none s [] = some true) (ev : t.eval args s none [] s = some (.ref a)) (eu : u.eval args s none [] s = some (.ref b)) (hc : s.heap[a]? = some cl) : ¬ (j < 0 ∨ cl.slots.size ≤ j.toNatClampNeg) ∧ cl.slots[j.toNatClampNeg]? = some (.ref b) := by
  obtain ⟨x, y, h1, h2, h3, -⟩ := cmp_v (Or.inl h)
  have h4 := elem_in h1 ev (Term.int_eval j) hc
  have h5 : y = .ref b := (Option.some.inj (h2.symm.trans eu))
  subst h5
  cases x with
  | ref z =>
    simp only [Cond.value, h1, h2] at h
    have e : z = b := by simpa using h
    subst e
    exact h4
  | null => simp [Cond.value, h1, h2] at h
  | _ => simp [Kin, Value.isRef] at h3
theorem own_fldN {s : State} {args : Array Value} {t : Term} {C n d : String} {a : Addr} (h : (Cond.eq (Term.field t C n d) Term.null).value args s none s [] = some true) (ev : t.eval args s none [] s = some (.ref a)) : Fld s s.heap a C n d .null :=
  Fld.start ((fld_at ev).symm.trans (null_v h))
def own_W (Z : State) (a_MISSED : Addr) (a_FOUND : Addr) : Prop := (Sta Z Z.heap "com/example/tuplebag/tuplebag/bench/Call$Outcome" "MISSED" "Lcom/example/tuplebag/tuplebag/bench/Call$Outcome;" (.ref a_MISSED)) ∧ (Exa Z Z.heap a_MISSED "com/example/tuplebag/tuplebag/bench/Call$Outcome") ∧ (Sta Z Z.heap "com/example/tuplebag/tuplebag/bench/Call$Outcome" "FOUND" "Lcom/example/tuplebag/tuplebag/bench/Call$Outcome;" (.ref a_FOUND)) ∧ (Exa Z Z.heap a_FOUND "com/example/tuplebag/tuplebag/bench/Call$Outcome") ∧ (Fld Z Z.heap a_MISSED "com/example/tuplebag/tuplebag/bench/Call$Outcome" "next" "Lcom/example/tuplebag/tuplebag/bench/Call;" .null) ∧ (Fld Z Z.heap a_MISSED "com/example/tuplebag/tuplebag/bench/Call$Outcome" "found" "Z" (.int (0 : Int32))) ∧ (Fld Z Z.heap a_FOUND "com/example/tuplebag/tuplebag/bench/Call$Outcome" "next" "Lcom/example/tuplebag/tuplebag/bench/Call;" .null) ∧ (Fld Z Z.heap a_FOUND "com/example/tuplebag/tuplebag/bench/Call$Outcome" "found" "Z" (.int (1 : Int32)))
theorem own_pn0 : plainName "com/example/tuplebag/tuplebag/bench/Call$Outcome" = true := by first | (simp [plainName, overriddenIn]; done) | decide +kernel
theorem own_ef_dn (m : MethodId) (z : Int32) : entryFrame m #[(.int z)] 1 = mkF m 0 #[.val (.int z)] [] := by first | (simp [entryFrame, mkF, argsToLocals, Value.category]; done) | rfl
theorem own_d_prog_6_method_3_0 : decode prog_6_method_3_code 0 = .ok (.iload_n 0, 1) := by decide +kernel
theorem own_d_prog_6_method_3_1 : decode prog_6_method_3_code 1 = .ok (.ifCond .eq 9, 3) := by decide +kernel
theorem own_d_prog_6_method_3_10 : decode prog_6_method_3_code 10 = .ok (.getstatic 24, 3) := by decide +kernel
theorem own_d_prog_6_method_3_13 : decode prog_6_method_3_code 13 = .ok (.areturn, 1) := by decide +kernel
theorem own_d_prog_6_method_3_4 : decode prog_6_method_3_code 4 = .ok (.getstatic 20, 3) := by decide +kernel
theorem own_d_prog_6_method_3_7 : decode prog_6_method_3_code 7 = .ok (.goto 6, 3) := by decide +kernel
def Q_dn (Z : State) (z : Int32) (a_MISSED : Addr) (a_FOUND : Addr) (h0 : Heap) (v_ : Option Value) (h : Heap) (L_ : List Loc) : Prop := v_ = some (.ref (if z = 0 then a_MISSED else a_FOUND)) ∧ Fr Z.heap.size L_ ∧ (h = h0)
set_option maxRecDepth 65536 in
set_option maxHeartbeats 40000000 in
theorem rm_dn (l : Launch) (Z : State) (a0 : Array Value) (hw : ∀ d ∈ tables_1, d.before a0 Z = true) (ws : List Jvm.Cond) (z : Int32) (a_MISSED : Addr) (a_FOUND : Addr) (h0 : Heap) (O : Ext Z.heap h0) (w : own_W Z a_MISSED a_FOUND) :
    MetFree l (⟨"com/example/tuplebag/tuplebag/bench/Call$Outcome", "done", "(Z)Lcom/example/tuplebag/tuplebag/bench/Call$Outcome;"⟩ : MethodName) (head1 (Jvm.Cond.code (⟨"com/example/tuplebag/tuplebag/bench/Call$Outcome", "done", "(Z)Lcom/example/tuplebag/tuplebag/bench/Call$Outcome;"⟩ : MethodName) prog_6_method_3_code 1 (some (.object "com/example/tuplebag/tuplebag/bench/Call$Outcome")) :: ws) ({ frames := 0, cells := 0, slots := 0, locals := 0 } : Room)) (fun a_ U_ => a_ = #[(.int z)] ∧ Z.Warmed39 U_.vm ∧ U_.heap = h0) (fun _ _ _ _ _ => True) (fun _ U_ o_ U2_ => ∃ v_ L_, o_ = .returned v_ ∧ Q_dn Z z a_MISSED a_FOUND h0 v_ U2_.heap L_ ∧ FrameEnd U_ o_ U2_ L_ ({ frames := 0, cells := 0, slots := 0, locals := 0 } : Room).cells ({ frames := 0, cells := 0, slots := 0, locals := 0 } : Room).slots) := by
  refine MetFree.of_bodySF (plainFor_of_name own_pn0) hisR ?_
  intro p e s m args below meth c s₁ Bd hml0 hP hK
  obtain ⟨rfl, hZ, hh⟩ := hP
  have hx := Bd.exec
  have hby := Bd.bytes
  have hml : c.maxLocals = 1 := hml0
  have hown : s.vm.findClass "com/example/tuplebag/tuplebag/bench/Call$Outcome" = some m.cls := findClass_of_methodNamed Bd.named
  have hnm := (name_of_methodNamed Bd.named Bd.method).1
  have X0 : Stand p l e ({ frames := 0, cells := 0, slots := 0, locals := 0 } : Room) s m #[(.int z)] below meth c s₁ [] 0 0 := Stand.of_body Bd
  have e0 : s₁.heap = h0 := by rw [← hh, Bd.state]; rfl
  have N0 := Fr.nil Z.heap.size
  show own_G p e below (fun o_ s₂ => ∃ v_ L_, o_ = .returned v_ ∧ Q_dn Z z a_MISSED a_FOUND h0 v_ s₂.heap L_ ∧ FrameEnd s o_ s₂ L_ ({ frames := 0, cells := 0, slots := 0, locals := 0 } : Room).cells ({ frames := 0, cells := 0, slots := 0, locals := 0 } : Room).slots) (s₁.setTop (entryFrame m #[(.int z)] 1))
  refine own_go (s₁.setTop (mkF m 0 #[.val (.int z)] [])) (fun t_ k_ => castTop (own_ef_dn m z) k_) ?_
  have w' := w
  obtain ⟨S_MISSED, X_MISSED, S_FOUND, X_FOUND, F_MISSED_next, F_MISSED_found, F_FOUND_next, F_FOUND_found⟩ := w'
  refine own_go (s₁.setTop (mkF m 1 #[.val (.int z)] [(.int z)])) (fun t_ k_ => XS.iloadN X0.here hx rfl (hb hby own_d_prog_6_method_3_0) rfl k_) ?_
  by_cases hc1_1 : z = (0 : Int32)
  ·
    refine own_go (s₁.setTop (mkF m 10 #[.val (.int z)] [])) (fun t_ k_ => XS.ifYes X0.here hx rfl (pc0 := 1) (pc' := 10) rfl (hb hby own_d_prog_6_method_3_1) rfl ((if0 _ _).trans (teq hc1_1).1) (by decide) (by decide) k_) ?_
    obtain ⟨T2, X2, e2, st2⟩ := getS2 X0 hx hZ hown (host := "") (Or.inl (hw _ (List.mem_of_getElem? (i := 4) rfl))) Via.refl e0 (S_MISSED.ext O) (g := (mkF m 10 #[.val (.int z)] [])) rfl (hb hby own_d_prog_6_method_3_10)
    refine own_go (T2.setTop (mkF m 13 #[.val (.int z)] [(.ref a_MISSED)])) (fun t_ k_ => st2 _ k_) ?_
    obtain ⟨fs, hr, hrun, hended, hW, hsame⟩ := X2.leave (v := some (.ref a_MISSED)) (fun h => by rw [Bd.returns] at h; cases h)
    refine ⟨_, _, Jvm.RoadKit.retOut X2 hx Bd.returns rfl (Or.inr (Or.inr (Or.inr (Or.inr ⟨rfl, rfl, rfl⟩)))) (hb hby own_d_prog_6_method_3_13) hr, hrun, hended, _, _, rfl, ?_, ⟨_, rfl⟩, hW, hsame.mono (by decide) (by decide)⟩
    show Q_dn Z z a_MISSED a_FOUND h0 _ T2.heap _
    exact ⟨by simp [hc1_1], N0, e2⟩
  ·
    refine own_go (s₁.setTop (mkF m 4 #[.val (.int z)] [])) (fun t_ k_ => XS.ifNo X0.here hx rfl (hb hby own_d_prog_6_method_3_1) rfl ((if0 _ _).trans (feq hc1_1).1) k_) ?_
    obtain ⟨T3, X3, e3, st3⟩ := getS2 X0 hx hZ hown (host := "") (Or.inl (hw _ (List.mem_of_getElem? (i := 20) rfl))) Via.refl e0 (S_FOUND.ext O) (g := (mkF m 4 #[.val (.int z)] [])) rfl (hb hby own_d_prog_6_method_3_4)
    refine own_go (T3.setTop (mkF m 7 #[.val (.int z)] [(.ref a_FOUND)])) (fun t_ k_ => st3 _ k_) ?_
    refine own_go (T3.setTop (mkF m 13 #[.val (.int z)] [(.ref a_FOUND)])) (fun t_ k_ => XS.goto X3.here hx rfl (pc0 := 7) (pc' := 13) rfl (hb hby own_d_prog_6_method_3_7) (by decide) (by decide) k_) ?_
    obtain ⟨fs, hr, hrun, hended, hW, hsame⟩ := X3.leave (v := some (.ref a_FOUND)) (fun h => by rw [Bd.returns] at h; cases h)
    refine ⟨_, _, Jvm.RoadKit.retOut X3 hx Bd.returns rfl (Or.inr (Or.inr (Or.inr (Or.inr ⟨rfl, rfl, rfl⟩)))) (hb hby own_d_prog_6_method_3_13) hr, hrun, hended, _, _, rfl, ?_, ⟨_, rfl⟩, hW, hsame.mono (by decide) (by decide)⟩
    show Q_dn Z z a_MISSED a_FOUND h0 _ T3.heap _
    exact ⟨by simp [hc1_1], N0, e3⟩
theorem own_ef_nx (m : MethodId) (a : Addr) : entryFrame m #[(.ref a)] 1 = mkF m 0 #[.val (.ref a)] [] := by first | (simp [entryFrame, mkF, argsToLocals, Value.category]; done) | rfl
theorem own_d_prog_6_method_4_0 : decode prog_6_method_4_code 0 = .ok (.aload_n 0, 1) := by decide +kernel
theorem own_d_prog_6_method_4_1 : decode prog_6_method_4_code 1 = .ok (.getfield 7, 3) := by decide +kernel
theorem own_d_prog_6_method_4_4 : decode prog_6_method_4_code 4 = .ok (.areturn, 1) := by decide +kernel
def Q_nx (Z : State) (a : Addr) (h0 : Heap) (v_ : Option Value) (h : Heap) (L_ : List Loc) : Prop := v_ = some .null ∧ Fr Z.heap.size L_ ∧ (h = h0)
set_option maxRecDepth 65536 in
set_option maxHeartbeats 40000000 in
theorem rm_nx (l : Launch) (Z : State) (a0 : Array Value) (hw : ∀ d ∈ tables_1, d.before a0 Z = true) (ws : List Jvm.Cond) (a : Addr) (h0 : Heap) (O : Ext Z.heap h0) (F : Fld Z Z.heap a "com/example/tuplebag/tuplebag/bench/Call$Outcome" "next" "Lcom/example/tuplebag/tuplebag/bench/Call;" .null) :
    MetFree l (⟨"com/example/tuplebag/tuplebag/bench/Call$Outcome", "next", "()Lcom/example/tuplebag/tuplebag/bench/Call;"⟩ : MethodName) (head1 (Jvm.Cond.code (⟨"com/example/tuplebag/tuplebag/bench/Call$Outcome", "next", "()Lcom/example/tuplebag/tuplebag/bench/Call;"⟩ : MethodName) prog_6_method_4_code 1 (some (.object "com/example/tuplebag/tuplebag/bench/Call")) :: ws) ({ frames := 0, cells := 0, slots := 0, locals := 0 } : Room)) (fun a_ U_ => a_ = #[(.ref a)] ∧ Z.Warmed39 U_.vm ∧ U_.heap = h0) (fun _ _ _ _ _ => True) (fun _ U_ o_ U2_ => ∃ v_ L_, o_ = .returned v_ ∧ Q_nx Z a h0 v_ U2_.heap L_ ∧ FrameEnd U_ o_ U2_ L_ ({ frames := 0, cells := 0, slots := 0, locals := 0 } : Room).cells ({ frames := 0, cells := 0, slots := 0, locals := 0 } : Room).slots) := by
  refine MetFree.of_bodySF (plainFor_of_name own_pn0) hisR ?_
  intro p e s m args below meth c s₁ Bd hml0 hP hK
  obtain ⟨rfl, hZ, hh⟩ := hP
  have hx := Bd.exec
  have hby := Bd.bytes
  have hml : c.maxLocals = 1 := hml0
  have hown : s.vm.findClass "com/example/tuplebag/tuplebag/bench/Call$Outcome" = some m.cls := findClass_of_methodNamed Bd.named
  have hnm := (name_of_methodNamed Bd.named Bd.method).1
  have X0 : Stand p l e ({ frames := 0, cells := 0, slots := 0, locals := 0 } : Room) s m #[(.ref a)] below meth c s₁ [] 0 0 := Stand.of_body Bd
  have e0 : s₁.heap = h0 := by rw [← hh, Bd.state]; rfl
  have N0 := Fr.nil Z.heap.size
  show own_G p e below (fun o_ s₂ => ∃ v_ L_, o_ = .returned v_ ∧ Q_nx Z a h0 v_ s₂.heap L_ ∧ FrameEnd s o_ s₂ L_ ({ frames := 0, cells := 0, slots := 0, locals := 0 } : Room).cells ({ frames := 0, cells := 0, slots := 0, locals := 0 } : Room).slots) (s₁.setTop (entryFrame m #[(.ref a)] 1))
  refine own_go (s₁.setTop (mkF m 0 #[.val (.ref a)] [])) (fun t_ k_ => castTop (own_ef_nx m a) k_) ?_
  refine own_go (s₁.setTop (mkF m 1 #[.val (.ref a)] [(.ref a)])) (fun t_ k_ => XS.aloadN X0.here hx rfl (hb hby own_d_prog_6_method_4_0) rfl rfl k_) ?_
  obtain ⟨T1, X1, e1, st1⟩ := getF X0 hx hZ hown (host := "") (Or.inl (hw _ (List.mem_of_getElem? (i := 11) rfl))) Via.refl e0 (F.ext O) (g := (mkF m 1 #[.val (.ref a)] [(.ref a)])) rfl rfl (hb hby own_d_prog_6_method_4_1)
  refine own_go (T1.setTop (mkF m 4 #[.val (.ref a)] [.null])) (fun t_ k_ => st1 _ k_) ?_
  obtain ⟨fs, hr, hrun, hended, hW, hsame⟩ := X1.leave (v := some .null) (fun h => by rw [Bd.returns] at h; cases h)
  refine ⟨_, _, Jvm.RoadKit.retOut X1 hx Bd.returns rfl (Or.inr (Or.inr (Or.inr (Or.inr ⟨rfl, rfl, rfl⟩)))) (hb hby own_d_prog_6_method_4_4) hr, hrun, hended, _, _, rfl, ?_, ⟨_, rfl⟩, hW, hsame.mono (by decide) (by decide)⟩
  show Q_nx Z a h0 _ T1.heap _
  exact ⟨rfl, N0, e1⟩
theorem own_ef_fd (m : MethodId) (a : Addr) : entryFrame m #[(.ref a)] 1 = mkF m 0 #[.val (.ref a)] [] := by first | (simp [entryFrame, mkF, argsToLocals, Value.category]; done) | rfl
theorem own_d_prog_6_method_5_0 : decode prog_6_method_5_code 0 = .ok (.aload_n 0, 1) := by decide +kernel
theorem own_d_prog_6_method_5_1 : decode prog_6_method_5_code 1 = .ok (.getfield 13, 3) := by decide +kernel
theorem own_d_prog_6_method_5_4 : decode prog_6_method_5_code 4 = .ok (.ireturn, 1) := by decide +kernel
def Q_fd (Z : State) (a : Addr) (n : Int32) (h0 : Heap) (v_ : Option Value) (h : Heap) (L_ : List Loc) : Prop := v_ = some (.int (n &&& 1)) ∧ Fr Z.heap.size L_ ∧ (h = h0)
set_option maxRecDepth 65536 in
set_option maxHeartbeats 40000000 in
theorem rm_fd (l : Launch) (Z : State) (a0 : Array Value) (hw : ∀ d ∈ tables_1, d.before a0 Z = true) (ws : List Jvm.Cond) (a : Addr) (n : Int32) (h0 : Heap) (O : Ext Z.heap h0) (F : Fld Z Z.heap a "com/example/tuplebag/tuplebag/bench/Call$Outcome" "found" "Z" (.int n)) :
    MetFree l (⟨"com/example/tuplebag/tuplebag/bench/Call$Outcome", "found", "()Z"⟩ : MethodName) (head1 (Jvm.Cond.code (⟨"com/example/tuplebag/tuplebag/bench/Call$Outcome", "found", "()Z"⟩ : MethodName) prog_6_method_5_code 1 (some .boolean) :: ws) ({ frames := 0, cells := 0, slots := 0, locals := 0 } : Room)) (fun a_ U_ => a_ = #[(.ref a)] ∧ Z.Warmed39 U_.vm ∧ U_.heap = h0) (fun _ _ _ _ _ => True) (fun _ U_ o_ U2_ => ∃ v_ L_, o_ = .returned v_ ∧ Q_fd Z a n h0 v_ U2_.heap L_ ∧ FrameEnd U_ o_ U2_ L_ ({ frames := 0, cells := 0, slots := 0, locals := 0 } : Room).cells ({ frames := 0, cells := 0, slots := 0, locals := 0 } : Room).slots) := by
  refine MetFree.of_bodySF (plainFor_of_name own_pn0) hisR ?_
  intro p e s m args below meth c s₁ Bd hml0 hP hK
  obtain ⟨rfl, hZ, hh⟩ := hP
  have hx := Bd.exec
  have hby := Bd.bytes
  have hml : c.maxLocals = 1 := hml0
  have hown : s.vm.findClass "com/example/tuplebag/tuplebag/bench/Call$Outcome" = some m.cls := findClass_of_methodNamed Bd.named
  have hnm := (name_of_methodNamed Bd.named Bd.method).1
  have X0 : Stand p l e ({ frames := 0, cells := 0, slots := 0, locals := 0 } : Room) s m #[(.ref a)] below meth c s₁ [] 0 0 := Stand.of_body Bd
  have e0 : s₁.heap = h0 := by rw [← hh, Bd.state]; rfl
  have N0 := Fr.nil Z.heap.size
  show own_G p e below (fun o_ s₂ => ∃ v_ L_, o_ = .returned v_ ∧ Q_fd Z a n h0 v_ s₂.heap L_ ∧ FrameEnd s o_ s₂ L_ ({ frames := 0, cells := 0, slots := 0, locals := 0 } : Room).cells ({ frames := 0, cells := 0, slots := 0, locals := 0 } : Room).slots) (s₁.setTop (entryFrame m #[(.ref a)] 1))
  refine own_go (s₁.setTop (mkF m 0 #[.val (.ref a)] [])) (fun t_ k_ => castTop (own_ef_fd m a) k_) ?_
  refine own_go (s₁.setTop (mkF m 1 #[.val (.ref a)] [(.ref a)])) (fun t_ k_ => XS.aloadN X0.here hx rfl (hb hby own_d_prog_6_method_5_0) rfl rfl k_) ?_
  obtain ⟨T1, X1, e1, st1⟩ := getF X0 hx hZ hown (host := "") (Or.inl (hw _ (List.mem_of_getElem? (i := 18) rfl))) Via.refl e0 (F.ext O) (g := (mkF m 1 #[.val (.ref a)] [(.ref a)])) rfl rfl (hb hby own_d_prog_6_method_5_1)
  refine own_go (T1.setTop (mkF m 4 #[.val (.ref a)] [(.int n)])) (fun t_ k_ => st1 _ k_) ?_
  obtain ⟨fs, hr, hrun, hended, hW, hsame⟩ := X1.leave (v := some (.int (nar .boolean n))) (fun h => by rw [Bd.returns] at h; cases h)
  refine ⟨_, _, retN X1 hx (t := .boolean) Bd.returns (by simp) (hb hby own_d_prog_6_method_5_4) hr, hrun, hended, _, _, rfl, ?_, ⟨_, rfl⟩, hW, hsame.mono (by decide) (by decide)⟩
  show Q_fd Z a n h0 _ T1.heap _
  exact ⟨rfl, N0, e1⟩
theorem own_pn1 : plainName "com/example/tuplebag/tuplebag/bench/OutcomeDonePinLaw" = true := by first | (simp [plainName, overriddenIn]; done) | decide +kernel
theorem own_ef_law (m : MethodId) (p0 : Int32) : entryFrame m #[(.int p0)] maxLocals = mkF m 0 #[.val (.int p0), .unset, .unset] [] := by first | (simp [entryFrame, mkF, argsToLocals, Value.category, maxLocals]; done) | rfl
theorem own_pd0 : parseMethodDescriptor "(Z)Lcom/example/tuplebag/tuplebag/bench/Call$Outcome;" = some ⟨[.boolean], some (.object "com/example/tuplebag/tuplebag/bench/Call$Outcome")⟩ := by decide +kernel
theorem own_pd1 : parseMethodDescriptor "()Lcom/example/tuplebag/tuplebag/bench/Call;" = some ⟨[], some (.object "com/example/tuplebag/tuplebag/bench/Call")⟩ := by decide +kernel
theorem own_pd2 : parseMethodDescriptor "()Z" = some ⟨[], some .boolean⟩ := by decide +kernel
def Q_law (Z : State) (p0 : Int32) (a_MISSED : Addr) (a_FOUND : Addr) (h0 : Heap) (v_ : Option Value) (h : Heap) (L_ : List Loc) : Prop := v_ = some (.int 1) ∧ Fr Z.heap.size L_ ∧ (True)
set_option maxRecDepth 65536 in
set_option maxHeartbeats 40000000 in
theorem rm_law (l : Launch) (Z : State) (a0 : Array Value) (hw : ∀ d ∈ tables_1, d.before a0 Z = true) (ws : List Jvm.Cond) (p0 : Int32) (a_MISSED : Addr) (a_FOUND : Addr) (h0 : Heap) (O : Ext Z.heap h0) (w : own_W Z a_MISSED a_FOUND) :
    MetFree l x (head1 (Jvm.Cond.code x code maxLocals ret :: ws) room_1) (fun a_ U_ => a_ = #[(.int p0)] ∧ Z.Warmed39 U_.vm ∧ U_.heap = h0) (fun _ _ _ _ _ => True) (fun _ U_ o_ U2_ => ∃ v_ L_, o_ = .returned v_ ∧ Q_law Z p0 a_MISSED a_FOUND h0 v_ U2_.heap L_ ∧ FrameEnd U_ o_ U2_ L_ room_1.cells room_1.slots) := by
  refine MetFree.of_bodySF (plainFor_of_name own_pn1) hisR ?_
  intro p e s m args below meth c s₁ Bd hml0 hP hK
  obtain ⟨rfl, hZ, hh⟩ := hP
  have hx := Bd.exec
  have hby := Bd.bytes
  have hml : c.maxLocals = 3 := hml0
  have hown : s.vm.findClass "com/example/tuplebag/tuplebag/bench/OutcomeDonePinLaw" = some m.cls := findClass_of_methodNamed Bd.named
  have hnm := (name_of_methodNamed Bd.named Bd.method).1
  have X0 : Stand p l e room_1 s m #[(.int p0)] below meth c s₁ [] 0 0 := Stand.of_body Bd
  have e0 : s₁.heap = h0 := by rw [← hh, Bd.state]; rfl
  have N0 := Fr.nil Z.heap.size
  show own_G p e below (fun o_ s₂ => ∃ v_ L_, o_ = .returned v_ ∧ Q_law Z p0 a_MISSED a_FOUND h0 v_ s₂.heap L_ ∧ FrameEnd s o_ s₂ L_ room_1.cells room_1.slots) (s₁.setTop (entryFrame m #[(.int p0)] maxLocals))
  refine own_go (s₁.setTop (mkF m 0 #[.val (.int p0), .unset, .unset] [])) (fun t_ k_ => castTop (own_ef_law m p0) k_) ?_
  have w' := w
  obtain ⟨S_MISSED, X_MISSED, S_FOUND, X_FOUND, F_MISSED_next, F_MISSED_found, F_FOUND_next, F_FOUND_found⟩ := w'
  refine own_go (s₁.setTop (mkF m 1 #[.val (.int p0), .unset, .unset] [(.int p0)])) (fun t_ k_ => XS.iloadN X0.here hx rfl (hb hby at_0) rfl k_) ?_
  refine own_go (s₁.setTop (mkF m 2 #[.val (.int p0), .unset, .unset] [(.int (1 : Int32)), (.int p0)])) (fun t_ k_ => XS.iconst X0.here hx rfl (hb hby at_1) k_) ?_
  refine own_go (s₁.setTop (mkF m 3 #[.val (.int p0), .unset, .unset] [(.int (p0 &&& (1 : Int32)))])) (fun t_ k_ => XS.iand X0.here hx rfl (hb hby at_2) rfl k_) ?_
  by_cases hc3_1 : (p0 &&& (1 : Int32)) = (0 : Int32)
  ·
    refine own_go (s₁.setTop (mkF m 10 #[.val (.int p0), .unset, .unset] [])) (fun t_ k_ => XS.ifYes X0.here hx rfl (pc0 := 3) (pc' := 10) rfl (hb hby at_3) rfl ((if0 _ _).trans (teq hc3_1).1) (by decide) (by decide) k_) ?_
    refine own_go (s₁.setTop (mkF m 11 #[.val (.int p0), .unset, .unset] [(.int (0 : Int32))])) (fun t_ k_ => XS.iconst X0.here hx rfl (hb hby at_10) k_) ?_
    refine own_go (s₁.setTop (mkF m 12 #[.val (.int p0), .val (.int (0 : Int32)), .unset] [])) (fun t_ k_ => XS.istoreN X0.here hx rfl (hb hby at_11) rfl (l' := #[.val (.int p0), .val (.int (0 : Int32)), .unset]) rfl k_) ?_
    refine own_go (s₁.setTop (mkF m 13 #[.val (.int p0), .val (.int (0 : Int32)), .unset] [(.int (0 : Int32))])) (fun t_ k_ => XS.iloadN X0.here hx rfl (hb hby at_12) rfl k_) ?_
    obtain ⟨_, _, ⟨T2, Lu2, ku2, nu2⟩, -, X2, ⟨Lc2, hQ2, lu2, yu2, zu2⟩, st2⟩ := Jvm.LawKit.callS X0 hx (y := (⟨"com/example/tuplebag/tuplebag/bench/Call$Outcome", "done", "(Z)Lcom/example/tuplebag/tuplebag/bench/Call$Outcome;"⟩ : MethodName)) hown (mvT hZ (hw _ (List.mem_of_getElem? (i := 0) rfl))) (mvT hZ (hw _ (List.mem_of_getElem? (i := 1) rfl))) (mvT hZ (hw _ (List.mem_of_getElem? (i := 2) rfl))) (mvT hZ (hw _ (List.mem_of_getElem? (i := 3) rfl))) (by decide) (backOf (W := 0) (rm_dn l Z a0 hw [] ((0 : Int32)) (a_MISSED) (a_FOUND) h0 O w) hZ (hw _ (List.mem_of_getElem? (i := 3) rfl)) (hw _ (List.mem_of_getElem? (i := 2) rfl)) (by decide) (by decide)) (g := (mkF m 13 #[.val (.int p0), .val (.int (0 : Int32)), .unset] [(.int (0 : Int32))])) rfl (by rw [hml]; rfl) (argsL := [(.int (0 : Int32))]) (rest := []) (lenOf own_pd0 rfl) rfl (by show 2 * 0 + _ ≤ _; exact Nat.le_of_eq rfl) (hb hby at_13) (fun _ _ => ⟨rfl, e0, (by decide : 0 + 0 ≤ _), (by decide : 0 + 0 ≤ _)⟩)
    dsimp only [Pt.U, Pt.locs, Pt.cells, Pt.slots] at X2 lu2 yu2 zu2 st2 hQ2
    subst lu2 yu2 zu2
    obtain ⟨rfl, N2q, e2⟩ := hQ2
    have N2 := Fr.app N0 N2q
    refine own_go (T2.setTop (mkF m 16 #[.val (.int p0), .val (.int (0 : Int32)), .unset] [(.ref a_MISSED)])) (fun t_ k_ => st2 _ k_) ?_
    refine own_go (T2.setTop (mkF m 17 #[.val (.int p0), .val (.int (0 : Int32)), .val (.ref a_MISSED)] [])) (fun t_ k_ => XS.astoreN X2.here hx rfl (hb hby at_16) rfl rfl (l' := #[.val (.int p0), .val (.int (0 : Int32)), .val (.ref a_MISSED)]) rfl k_) ?_
    refine own_go (T2.setTop (mkF m 18 #[.val (.int p0), .val (.int (0 : Int32)), .val (.ref a_MISSED)] [(.ref a_MISSED)])) (fun t_ k_ => XS.aloadN X2.here hx rfl (hb hby at_17) rfl rfl k_) ?_
    refine own_go (T2.setTop (mkF m 23 #[.val (.int p0), .val (.int (0 : Int32)), .val (.ref a_MISSED)] [])) (fun t_ k_ => XS.ifnonnullYes X2.here hx rfl (pc0 := 18) (pc' := 23) rfl (hb hby at_18) rfl (by decide) (by decide) k_) ?_
    refine own_go (T2.setTop (mkF m 24 #[.val (.int p0), .val (.int (0 : Int32)), .val (.ref a_MISSED)] [(.ref a_MISSED)])) (fun t_ k_ => XS.aloadN X2.here hx rfl (hb hby at_23) rfl rfl k_) ?_
    obtain ⟨cq3, kq3, q3a, q3b, q3c⟩ := isOf hZ e2 (X_MISSED.ext O)
    obtain ⟨_, _, ⟨T3, Lu3, ku3, nu3⟩, -, X3, ⟨Lc3, hQ3, lu3, yu3, zu3⟩, st3⟩ := X2.virtualBack hx (y := (⟨"com/example/tuplebag/tuplebag/bench/Call$Outcome", "next", "()Lcom/example/tuplebag/tuplebag/bench/Call;"⟩ : MethodName)) (z := (⟨"com/example/tuplebag/tuplebag/bench/Call$Outcome", "next", "()Lcom/example/tuplebag/tuplebag/bench/Call;"⟩ : MethodName)) hown (mvT hZ (hw _ (List.mem_of_getElem? (i := 6) rfl))) (mvT hZ (hw _ (List.mem_of_getElem? (i := 7) rfl))) (notFace_of_selects (args := #[]) (mvT hZ (hw _ (List.mem_of_getElem? (i := 9) rfl)))) (mvT hZ (hw _ (List.mem_of_getElem? (i := 9) rfl))) (mvT hZ (hw _ (List.mem_of_getElem? (i := 8) rfl))) (by decide) (backOf (W := 0) (rm_nx l Z a0 hw [] (a_MISSED) h0 O F_MISSED_next) hZ (hw _ (List.mem_of_getElem? (i := 10) rfl)) (hw _ (List.mem_of_getElem? (i := 2) rfl)) (by decide) (by decide)) q3a q3c (g := (mkF m 24 #[.val (.int p0), .val (.int (0 : Int32)), .val (.ref a_MISSED)] [(.ref a_MISSED)])) rfl (by rw [hml]; rfl) (Steps.refl _) (argsL := []) (rest := []) (lenOf own_pd1 rfl) rfl (by show 2 * 0 + _ ≤ _; exact Nat.le_of_eq rfl) (hb hby at_24) (fun _ _ => ⟨rfl, e2, (by decide : 0 + 0 ≤ _), (by decide : 0 + 0 ≤ _)⟩)
    dsimp only [Pt.U, Pt.locs, Pt.cells, Pt.slots] at X3 lu3 yu3 zu3 st3 hQ3
    subst lu3 yu3 zu3
    obtain ⟨rfl, N3q, e3⟩ := hQ3
    have N3 := Fr.app N2 N3q
    refine own_go (T3.setTop (mkF m 27 #[.val (.int p0), .val (.int (0 : Int32)), .val (.ref a_MISSED)] [.null])) (fun t_ k_ => st3.trans k_) ?_
    refine own_go (T3.setTop (mkF m 30 #[.val (.int p0), .val (.int (0 : Int32)), .val (.ref a_MISSED)] [])) (fun t_ k_ => XS.ifnonnullNo X3.here hx rfl (hb hby at_27) rfl k_) ?_
    refine own_go (T3.setTop (mkF m 31 #[.val (.int p0), .val (.int (0 : Int32)), .val (.ref a_MISSED)] [(.ref a_MISSED)])) (fun t_ k_ => XS.aloadN X3.here hx rfl (hb hby at_30) rfl rfl k_) ?_
    obtain ⟨cq4, kq4, q4a, q4b, q4c⟩ := isOf hZ e3 (X_MISSED.ext O)
    obtain ⟨_, _, ⟨T4, Lu4, ku4, nu4⟩, -, X4, ⟨Lc4, hQ4, lu4, yu4, zu4⟩, st4⟩ := X3.virtualBack hx (y := (⟨"com/example/tuplebag/tuplebag/bench/Call$Outcome", "found", "()Z"⟩ : MethodName)) (z := (⟨"com/example/tuplebag/tuplebag/bench/Call$Outcome", "found", "()Z"⟩ : MethodName)) hown (mvT hZ (hw _ (List.mem_of_getElem? (i := 13) rfl))) (mvT hZ (hw _ (List.mem_of_getElem? (i := 14) rfl))) (notFace_of_selects (args := #[]) (mvT hZ (hw _ (List.mem_of_getElem? (i := 16) rfl)))) (mvT hZ (hw _ (List.mem_of_getElem? (i := 16) rfl))) (mvT hZ (hw _ (List.mem_of_getElem? (i := 15) rfl))) (by decide) (backOf (W := 0) (rm_fd l Z a0 hw [] (a_MISSED) ((0 : Int32)) h0 O F_MISSED_found) hZ (hw _ (List.mem_of_getElem? (i := 17) rfl)) (hw _ (List.mem_of_getElem? (i := 2) rfl)) (by decide) (by decide)) q4a q4c (g := (mkF m 31 #[.val (.int p0), .val (.int (0 : Int32)), .val (.ref a_MISSED)] [(.ref a_MISSED)])) rfl (by rw [hml]; rfl) (Steps.refl _) (argsL := []) (rest := []) (lenOf own_pd2 rfl) rfl (by show 2 * 0 + _ ≤ _; exact Nat.le_of_eq rfl) (hb hby at_31) (fun _ _ => ⟨rfl, e3, (by decide : 0 + 0 ≤ _), (by decide : 0 + 0 ≤ _)⟩)
    dsimp only [Pt.U, Pt.locs, Pt.cells, Pt.slots] at X4 lu4 yu4 zu4 st4 hQ4
    subst lu4 yu4 zu4
    obtain ⟨rfl, N4q, e4⟩ := hQ4
    have N4 := Fr.app N3 N4q
    refine own_go (T4.setTop (mkF m 34 #[.val (.int p0), .val (.int (0 : Int32)), .val (.ref a_MISSED)] [(.int (0 : Int32))])) (fun t_ k_ => st4.trans k_) ?_
    refine own_go (T4.setTop (mkF m 35 #[.val (.int p0), .val (.int (0 : Int32)), .val (.ref a_MISSED)] [(.int (0 : Int32)), (.int (0 : Int32))])) (fun t_ k_ => XS.iloadN X4.here hx rfl (hb hby at_34) rfl k_) ?_
    refine own_go (T4.setTop (mkF m 38 #[.val (.int p0), .val (.int (0 : Int32)), .val (.ref a_MISSED)] [])) (fun t_ k_ => XS.icmpNo X4.here hx rfl (hb hby at_35) rfl (teq (by decide : (0 : Int32) = (0 : Int32))).2 k_) ?_
    refine own_go (T4.setTop (mkF m 39 #[.val (.int p0), .val (.int (0 : Int32)), .val (.ref a_MISSED)] [(.int (1 : Int32))])) (fun t_ k_ => XS.iconst X4.here hx rfl (hb hby at_38) k_) ?_
    refine own_go (T4.setTop (mkF m 43 #[.val (.int p0), .val (.int (0 : Int32)), .val (.ref a_MISSED)] [(.int (1 : Int32))])) (fun t_ k_ => XS.goto X4.here hx rfl (pc0 := 39) (pc' := 43) rfl (hb hby at_39) (by decide) (by decide) k_) ?_
    obtain ⟨fs, hr, hrun, hended, hW, hsame⟩ := X4.leave (v := some (.int (nar .boolean (1 : Int32)))) (fun h => by rw [Bd.returns] at h; cases h)
    refine ⟨_, _, retN X4 hx (t := .boolean) Bd.returns (by simp) (hb hby at_43) hr, hrun, hended, _, _, rfl, ?_, ⟨_, rfl⟩, hW, hsame.mono (by decide) (by decide)⟩
    show Q_law Z p0 a_MISSED a_FOUND h0 _ T4.heap _
    exact ⟨rfl, N4, trivial⟩
  ·
    refine own_go (s₁.setTop (mkF m 6 #[.val (.int p0), .unset, .unset] [])) (fun t_ k_ => XS.ifNo X0.here hx rfl (hb hby at_3) rfl ((if0 _ _).trans (feq hc3_1).1) k_) ?_
    refine own_go (s₁.setTop (mkF m 7 #[.val (.int p0), .unset, .unset] [(.int (1 : Int32))])) (fun t_ k_ => XS.iconst X0.here hx rfl (hb hby at_6) k_) ?_
    refine own_go (s₁.setTop (mkF m 11 #[.val (.int p0), .unset, .unset] [(.int (1 : Int32))])) (fun t_ k_ => XS.goto X0.here hx rfl (pc0 := 7) (pc' := 11) rfl (hb hby at_7) (by decide) (by decide) k_) ?_
    refine own_go (s₁.setTop (mkF m 12 #[.val (.int p0), .val (.int (1 : Int32)), .unset] [])) (fun t_ k_ => XS.istoreN X0.here hx rfl (hb hby at_11) rfl (l' := #[.val (.int p0), .val (.int (1 : Int32)), .unset]) rfl k_) ?_
    refine own_go (s₁.setTop (mkF m 13 #[.val (.int p0), .val (.int (1 : Int32)), .unset] [(.int (1 : Int32))])) (fun t_ k_ => XS.iloadN X0.here hx rfl (hb hby at_12) rfl k_) ?_
    obtain ⟨_, _, ⟨T5, Lu5, ku5, nu5⟩, -, X5, ⟨Lc5, hQ5, lu5, yu5, zu5⟩, st5⟩ := Jvm.LawKit.callS X0 hx (y := (⟨"com/example/tuplebag/tuplebag/bench/Call$Outcome", "done", "(Z)Lcom/example/tuplebag/tuplebag/bench/Call$Outcome;"⟩ : MethodName)) hown (mvT hZ (hw _ (List.mem_of_getElem? (i := 0) rfl))) (mvT hZ (hw _ (List.mem_of_getElem? (i := 1) rfl))) (mvT hZ (hw _ (List.mem_of_getElem? (i := 2) rfl))) (mvT hZ (hw _ (List.mem_of_getElem? (i := 3) rfl))) (by decide) (backOf (W := 0) (rm_dn l Z a0 hw [] ((1 : Int32)) (a_MISSED) (a_FOUND) h0 O w) hZ (hw _ (List.mem_of_getElem? (i := 3) rfl)) (hw _ (List.mem_of_getElem? (i := 2) rfl)) (by decide) (by decide)) (g := (mkF m 13 #[.val (.int p0), .val (.int (1 : Int32)), .unset] [(.int (1 : Int32))])) rfl (by rw [hml]; rfl) (argsL := [(.int (1 : Int32))]) (rest := []) (lenOf own_pd0 rfl) rfl (by show 2 * 0 + _ ≤ _; exact Nat.le_of_eq rfl) (hb hby at_13) (fun _ _ => ⟨rfl, e0, (by decide : 0 + 0 ≤ _), (by decide : 0 + 0 ≤ _)⟩)
    dsimp only [Pt.U, Pt.locs, Pt.cells, Pt.slots] at X5 lu5 yu5 zu5 st5 hQ5
    subst lu5 yu5 zu5
    obtain ⟨rfl, N5q, e5⟩ := hQ5
    have N5 := Fr.app N0 N5q
    refine own_go (T5.setTop (mkF m 16 #[.val (.int p0), .val (.int (1 : Int32)), .unset] [(.ref a_FOUND)])) (fun t_ k_ => st5 _ k_) ?_
    refine own_go (T5.setTop (mkF m 17 #[.val (.int p0), .val (.int (1 : Int32)), .val (.ref a_FOUND)] [])) (fun t_ k_ => XS.astoreN X5.here hx rfl (hb hby at_16) rfl rfl (l' := #[.val (.int p0), .val (.int (1 : Int32)), .val (.ref a_FOUND)]) rfl k_) ?_
    refine own_go (T5.setTop (mkF m 18 #[.val (.int p0), .val (.int (1 : Int32)), .val (.ref a_FOUND)] [(.ref a_FOUND)])) (fun t_ k_ => XS.aloadN X5.here hx rfl (hb hby at_17) rfl rfl k_) ?_
    refine own_go (T5.setTop (mkF m 23 #[.val (.int p0), .val (.int (1 : Int32)), .val (.ref a_FOUND)] [])) (fun t_ k_ => XS.ifnonnullYes X5.here hx rfl (pc0 := 18) (pc' := 23) rfl (hb hby at_18) rfl (by decide) (by decide) k_) ?_
    refine own_go (T5.setTop (mkF m 24 #[.val (.int p0), .val (.int (1 : Int32)), .val (.ref a_FOUND)] [(.ref a_FOUND)])) (fun t_ k_ => XS.aloadN X5.here hx rfl (hb hby at_23) rfl rfl k_) ?_
    obtain ⟨cq6, kq6, q6a, q6b, q6c⟩ := isOf hZ e5 (X_FOUND.ext O)
    obtain ⟨_, _, ⟨T6, Lu6, ku6, nu6⟩, -, X6, ⟨Lc6, hQ6, lu6, yu6, zu6⟩, st6⟩ := X5.virtualBack hx (y := (⟨"com/example/tuplebag/tuplebag/bench/Call$Outcome", "next", "()Lcom/example/tuplebag/tuplebag/bench/Call;"⟩ : MethodName)) (z := (⟨"com/example/tuplebag/tuplebag/bench/Call$Outcome", "next", "()Lcom/example/tuplebag/tuplebag/bench/Call;"⟩ : MethodName)) hown (mvT hZ (hw _ (List.mem_of_getElem? (i := 6) rfl))) (mvT hZ (hw _ (List.mem_of_getElem? (i := 7) rfl))) (notFace_of_selects (args := #[]) (mvT hZ (hw _ (List.mem_of_getElem? (i := 9) rfl)))) (mvT hZ (hw _ (List.mem_of_getElem? (i := 9) rfl))) (mvT hZ (hw _ (List.mem_of_getElem? (i := 8) rfl))) (by decide) (backOf (W := 0) (rm_nx l Z a0 hw [] (a_FOUND) h0 O F_FOUND_next) hZ (hw _ (List.mem_of_getElem? (i := 10) rfl)) (hw _ (List.mem_of_getElem? (i := 2) rfl)) (by decide) (by decide)) q6a q6c (g := (mkF m 24 #[.val (.int p0), .val (.int (1 : Int32)), .val (.ref a_FOUND)] [(.ref a_FOUND)])) rfl (by rw [hml]; rfl) (Steps.refl _) (argsL := []) (rest := []) (lenOf own_pd1 rfl) rfl (by show 2 * 0 + _ ≤ _; exact Nat.le_of_eq rfl) (hb hby at_24) (fun _ _ => ⟨rfl, e5, (by decide : 0 + 0 ≤ _), (by decide : 0 + 0 ≤ _)⟩)
    dsimp only [Pt.U, Pt.locs, Pt.cells, Pt.slots] at X6 lu6 yu6 zu6 st6 hQ6
    subst lu6 yu6 zu6
    obtain ⟨rfl, N6q, e6⟩ := hQ6
    have N6 := Fr.app N5 N6q
    refine own_go (T6.setTop (mkF m 27 #[.val (.int p0), .val (.int (1 : Int32)), .val (.ref a_FOUND)] [.null])) (fun t_ k_ => st6.trans k_) ?_
    refine own_go (T6.setTop (mkF m 30 #[.val (.int p0), .val (.int (1 : Int32)), .val (.ref a_FOUND)] [])) (fun t_ k_ => XS.ifnonnullNo X6.here hx rfl (hb hby at_27) rfl k_) ?_
    refine own_go (T6.setTop (mkF m 31 #[.val (.int p0), .val (.int (1 : Int32)), .val (.ref a_FOUND)] [(.ref a_FOUND)])) (fun t_ k_ => XS.aloadN X6.here hx rfl (hb hby at_30) rfl rfl k_) ?_
    obtain ⟨cq7, kq7, q7a, q7b, q7c⟩ := isOf hZ e6 (X_FOUND.ext O)
    obtain ⟨_, _, ⟨T7, Lu7, ku7, nu7⟩, -, X7, ⟨Lc7, hQ7, lu7, yu7, zu7⟩, st7⟩ := X6.virtualBack hx (y := (⟨"com/example/tuplebag/tuplebag/bench/Call$Outcome", "found", "()Z"⟩ : MethodName)) (z := (⟨"com/example/tuplebag/tuplebag/bench/Call$Outcome", "found", "()Z"⟩ : MethodName)) hown (mvT hZ (hw _ (List.mem_of_getElem? (i := 13) rfl))) (mvT hZ (hw _ (List.mem_of_getElem? (i := 14) rfl))) (notFace_of_selects (args := #[]) (mvT hZ (hw _ (List.mem_of_getElem? (i := 16) rfl)))) (mvT hZ (hw _ (List.mem_of_getElem? (i := 16) rfl))) (mvT hZ (hw _ (List.mem_of_getElem? (i := 15) rfl))) (by decide) (backOf (W := 0) (rm_fd l Z a0 hw [] (a_FOUND) ((1 : Int32)) h0 O F_FOUND_found) hZ (hw _ (List.mem_of_getElem? (i := 17) rfl)) (hw _ (List.mem_of_getElem? (i := 2) rfl)) (by decide) (by decide)) q7a q7c (g := (mkF m 31 #[.val (.int p0), .val (.int (1 : Int32)), .val (.ref a_FOUND)] [(.ref a_FOUND)])) rfl (by rw [hml]; rfl) (Steps.refl _) (argsL := []) (rest := []) (lenOf own_pd2 rfl) rfl (by show 2 * 0 + _ ≤ _; exact Nat.le_of_eq rfl) (hb hby at_31) (fun _ _ => ⟨rfl, e6, (by decide : 0 + 0 ≤ _), (by decide : 0 + 0 ≤ _)⟩)
    dsimp only [Pt.U, Pt.locs, Pt.cells, Pt.slots] at X7 lu7 yu7 zu7 st7 hQ7
    subst lu7 yu7 zu7
    obtain ⟨rfl, N7q, e7⟩ := hQ7
    have N7 := Fr.app N6 N7q
    refine own_go (T7.setTop (mkF m 34 #[.val (.int p0), .val (.int (1 : Int32)), .val (.ref a_FOUND)] [(.int (1 : Int32))])) (fun t_ k_ => st7.trans k_) ?_
    refine own_go (T7.setTop (mkF m 35 #[.val (.int p0), .val (.int (1 : Int32)), .val (.ref a_FOUND)] [(.int (1 : Int32)), (.int (1 : Int32))])) (fun t_ k_ => XS.iloadN X7.here hx rfl (hb hby at_34) rfl k_) ?_
    refine own_go (T7.setTop (mkF m 38 #[.val (.int p0), .val (.int (1 : Int32)), .val (.ref a_FOUND)] [])) (fun t_ k_ => XS.icmpNo X7.here hx rfl (hb hby at_35) rfl (teq (by decide : (1 : Int32) = (1 : Int32))).2 k_) ?_
    refine own_go (T7.setTop (mkF m 39 #[.val (.int p0), .val (.int (1 : Int32)), .val (.ref a_FOUND)] [(.int (1 : Int32))])) (fun t_ k_ => XS.iconst X7.here hx rfl (hb hby at_38) k_) ?_
    refine own_go (T7.setTop (mkF m 43 #[.val (.int p0), .val (.int (1 : Int32)), .val (.ref a_FOUND)] [(.int (1 : Int32))])) (fun t_ k_ => XS.goto X7.here hx rfl (pc0 := 39) (pc' := 43) rfl (hb hby at_39) (by decide) (by decide) k_) ?_
    obtain ⟨fs, hr, hrun, hended, hW, hsame⟩ := X7.leave (v := some (.int (nar .boolean (1 : Int32)))) (fun h => by rw [Bd.returns] at h; cases h)
    refine ⟨_, _, retN X7 hx (t := .boolean) Bd.returns (by simp) (hb hby at_43) hr, hrun, hended, _, _, rfl, ?_, ⟨_, rfl⟩, hW, hsame.mono (by decide) (by decide)⟩
    show Q_law Z p0 a_MISSED a_FOUND h0 _ T7.heap _
    exact ⟨rfl, N7, trivial⟩
set_option maxRecDepth 65536 in
set_option maxHeartbeats 40000000 in
theorem comes_1 {Post : Tables → Env → Array Value → State → Outcome → State → Prop} (hpost : ∀ tb e args s v u, (limb_1_1.after args s (.returned v) u = true ∧ limb_1_2.after args s (.returned v) u = true ∧ True) → FrameEnd s (.returned v) u (Jvm.fieldLocs frame_1_writes args s ++ Jvm.arrayLocs frame_1_arrays args s ++ Jvm.staticLocs frame_1_statics s) 0 0 → Post tb e args s (.returned v) u) :
    ArmFor flags0 classFile x code maxLocals ret World_1 tables_1 room_1 Calls_1 rest_1 Pre_1 Post := by
  intro l hfl _ _ p e ha hc hk s m args below hf hA hF happ hP
  obtain ⟨hcalls, hrest, hpre⟩ := hP
  obtain ⟨-, -, -, hnamed, -, -, -, hat⟩ := (Spec.applies_iff hf).mp happ
  obtain ⟨hg, hn⟩ := and_e (Cond.before_iff.mp (show (Jvm.Cond.and given_1 narrow_1).before args s = true from hpre))
  obtain ⟨g1, g2⟩ := and_e hg
  obtain ⟨w0, rfl⟩ : ∃ w0 : Value, args = #[w0] := by
    have hs : args.size = 1 := by simpa [Cond.value, given_1] using g1
    obtain ⟨L⟩ := args
    match L, hs with
    | [w0], _ => exact ⟨w0, rfl⟩
  have hw := fun d (hd : d ∈ tables_1) => atoms_spec (ws := Jvm.Cond.code x code maxLocals ret :: tables_1) hat d (List.mem_cons_of_mem _ hd)
  have hfit : Fit s := fun {y c} hc i hi => by
    obtain ⟨ha, rfl⟩ := Array.getElem?_eq_some_iff.mp hc
    have q := List.all_eq_true.mp ((Array.all_eq_true_iff_forall_mem.mp hF) _ (Array.getElem_mem ha)) i (List.mem_range.mpr hi)
    simpa [Array.getElem?_eq_getElem hi] using q
  obtain ⟨i0, ei0⟩ := is_v g2
  obtain rfl : w0 = (.int i0) := Option.some.inj ei0
  obtain ⟨hn1, hn2⟩ := and_e hn
  obtain ⟨hn21, hn22⟩ := and_e hn2
  obtain ⟨hn221, hn222⟩ := and_e hn22
  obtain ⟨hn2221, hn2222⟩ := and_e hn222
  obtain ⟨hn22221, hn22222⟩ := and_e hn2222
  obtain ⟨a_MISSED, ev_MISSED⟩ := exa_v hn1
  have S_MISSED : Sta s s.heap "com/example/tuplebag/tuplebag/bench/Call$Outcome" "MISSED" "Lcom/example/tuplebag/tuplebag/bench/Call$Outcome;" (.ref a_MISSED) := Sta.start ev_MISSED (Or.inr ⟨(hw _ (List.mem_of_getElem? (i := 2) rfl)), (hw _ (List.mem_of_getElem? (i := 5) rfl))⟩)
  have X_MISSED : Exa s s.heap a_MISSED "com/example/tuplebag/tuplebag/bench/Call$Outcome" := Exa.start ev_MISSED hn1
  obtain ⟨a_FOUND, ev_FOUND⟩ := exa_v hn2221
  have S_FOUND : Sta s s.heap "com/example/tuplebag/tuplebag/bench/Call$Outcome" "FOUND" "Lcom/example/tuplebag/tuplebag/bench/Call$Outcome;" (.ref a_FOUND) := Sta.start ev_FOUND (Or.inr ⟨(hw _ (List.mem_of_getElem? (i := 2) rfl)), (hw _ (List.mem_of_getElem? (i := 21) rfl))⟩)
  have X_FOUND : Exa s s.heap a_FOUND "com/example/tuplebag/tuplebag/bench/Call$Outcome" := Exa.start ev_FOUND hn2221
  have F_MISSED_next : Fld s s.heap a_MISSED "com/example/tuplebag/tuplebag/bench/Call$Outcome" "next" "Lcom/example/tuplebag/tuplebag/bench/Call;" .null := own_fldN hn21 ev_MISSED
  have F_MISSED_found : Fld s s.heap a_MISSED "com/example/tuplebag/tuplebag/bench/Call$Outcome" "found" "Z" (.int (0 : Int32)) := own_fldI hn221 ev_MISSED
  have F_FOUND_next : Fld s s.heap a_FOUND "com/example/tuplebag/tuplebag/bench/Call$Outcome" "next" "Lcom/example/tuplebag/tuplebag/bench/Call;" .null := own_fldN hn22221 ev_FOUND
  have F_FOUND_found : Fld s s.heap a_FOUND "com/example/tuplebag/tuplebag/bench/Call$Outcome" "found" "Z" (.int (1 : Int32)) := own_fldI hn22222 ev_FOUND
  obtain ⟨n, o, h1, h2, h3, _, L, rfl, ⟨rfl, N, -⟩, hq⟩ := rm_law l s _ hw tables_1 i0 a_MISSED a_FOUND s.heap ⟨Nat.le_refl _, fun _ _ q => q⟩ ⟨S_MISSED, X_MISSED, S_FOUND, X_FOUND, F_MISSED_next, F_MISSED_found, F_FOUND_next, F_FOUND_found⟩  p e ha hc hk s m _ below hf ((Spec.applies_iff_loose hf).mp happ).1 ⟨rfl, State.Warmed39.refl s, rfl⟩ trivial
  refine ⟨n, _, h1, h2, h3, hpost _ _ _ _ _ _ ⟨Cond.after_iff.mpr rfl, Cond.after_iff.mpr (eq_i res_at (Term.int_eval (1)) rfl), trivial⟩ ⟨hq.1, hq.2.1, (hq.2.2.sift fun y hy => Or.inr (N y hy)).mono (by decide) (by decide)⟩⟩
theorem main_1_1 : Claimed_1_1 := comes_1 fun _ _ _ _ _ _ h hF => ⟨h.1, hF⟩
theorem main_1_2 : Claimed_1_2 := comes_1 fun _ _ _ _ _ _ h hF => ⟨h.2.1, hF⟩
end Jvm.Pilot.@@N@@
namespace Jvm.Pilot.@@N@@
open Jvm Jvm.ClassFile Sem Op Lib Jvm.Free Jvm.Stand Jvm.Pilot.@@N@@.Jvm.D
/-! MADE BY PROGRAM (witnessworld.py) out of the Statement's table words and the real class files: 9 classes; the members and pool entries that the words name. The judged class is class 1, her method 1. -/
namespace start1
open Jvm.ClassFile
def u (s : String) : CpInfo := .utf8 (stringToUtf16 s)
/-- a pool by its gaps: so many unusable entries, then the entry; so many at the end -/
def gap : Nat → List CpInfo → List CpInfo
  | 0, r => r
  | n + 1, r => .unusable :: gap n r
def poolList (es : List (Nat × CpInfo)) (last : Nat) : List CpInfo := es.foldr (fun e r => gap e.1 (e.2 :: r)) (gap last [])
def pool (es : List (Nat × CpInfo)) (last : Nat) : Array CpInfo := ⟨poolList es last⟩
def fileOf (pool : Array CpInfo) (this : Nat) (attrs : Array Attribute := #[]) (ms : Array MethodInfo := #[]) (fl : Nat := 33) (sup : Nat := 0) (ifs : Array Nat := #[]) (fds : Array FieldInfo := #[]) : ClassFile where
  minorVersion := 0
  majorVersion := 65
  constantPool := pool
  accessFlags := fl
  thisClass := this
  superClass := sup
  interfaces := ifs
  fields := fds
  methods := ms
  attributes := attrs
def plain (name : String) (sup : Option ClassId) : Class where
  name := name
  kind := .ordinary
  loader := none
  accessFlags := 33
  super := sup
  interfaces := #[]
  cf := none
  fields := #[]
  methods := #[]
  instanceTypes := #[]
  staticTypes := #[]
  resolved := #[]
  callSites := []
  init := .initialized
  statics := none
  mirror := none

def pool0 : Array CpInfo := pool [(5, u "<init>"), (0, u "()V"), (1, .class_ 10), (1, u "java/lang/Object")] 113

def k0m0 : Method := { name := "<init>", desc := "()V", sig := { parameters := [], returnType := none }, accessFlags := 1, code := none }
/-- java/lang/Object -/
def k0 : Class := { plain "java/lang/Object" none with
  accessFlags := 33
  interfaces := #[]
  cf := some (fileOf pool0 8 #[] #[{ accessFlags := 1, nameIndex := 5, descriptorIndex := 6, attributes := #[] }] 33 0 #[] #[])
  fields := #[]
  methods := #[k0m0]
  instanceTypes := #[]
  staticTypes := #[]
  resolved := Array.replicate 124 none
  statics := none }

def pool1 : Array CpInfo := pool [(2, .class_ 4), (1, u "java/lang/Object"), (0, u "<init>"), (0, u "()V"), (0, .methodref 8 9), (0, .class_ 10), (0, .nameAndType 11 12), (0, u "com/example/tuplebag/tuplebag/bench/Call$Outcome"), (0, u "done"), (0, u "(Z)Lcom/example/tuplebag/tuplebag/bench/Call$Outcome;"), (0, .methodref 8 14), (0, .nameAndType 15 16), (0, u "next"), (0, u "()Lcom/example/tuplebag/tuplebag/bench/Call;"), (0, .methodref 8 18), (0, .nameAndType 19 20), (0, u "found"), (0, u "()Z"), (0, .class_ 22), (0, u "com/example/tuplebag/tuplebag/bench/OutcomeDonePinLaw"), (2, u "law"), (0, u "(I)Z")] 7

def k1m0 : Method := { name := "<init>", desc := "()V", sig := { parameters := [], returnType := none }, accessFlags := 1, code := none }
def k1c1 : Code := { maxStack := 2, maxLocals := 3, code := code, exceptionTable := #[], attributes := #[] }
def k1m1 : Method := { name := "law", desc := "(I)Z", sig := { parameters := [.int], returnType := some .boolean }, accessFlags := 9, code := some k1c1 }
/-- com/example/tuplebag/tuplebag/bench/OutcomeDonePinLaw -/
def k1 : Class := { plain "com/example/tuplebag/tuplebag/bench/OutcomeDonePinLaw" (some 0) with
  accessFlags := 49
  interfaces := #[]
  cf := some (fileOf pool1 21 #[] #[{ accessFlags := 1, nameIndex := 5, descriptorIndex := 6, attributes := #[] }, { accessFlags := 9, nameIndex := 25, descriptorIndex := 26, attributes := #[] }] 49 2 #[] #[])
  fields := #[]
  methods := #[k1m0, k1m1]
  instanceTypes := #[]
  staticTypes := #[]
  resolved := Array.replicate 34 none
  statics := none }

def pool2 : Array CpInfo := pool [(2, .class_ 4), (1, u "java/lang/Object"), (2, .fieldref 8 9), (0, .class_ 10), (0, .nameAndType 11 12), (0, u "com/example/tuplebag/tuplebag/bench/Call$Outcome"), (0, u "next"), (0, u "Lcom/example/tuplebag/tuplebag/bench/Call;"), (0, .fieldref 8 14), (0, .nameAndType 15 16), (0, u "found"), (0, u "Z"), (3, .fieldref 8 21), (0, .nameAndType 22 23), (0, u "FOUND"), (0, u "Lcom/example/tuplebag/tuplebag/bench/Call$Outcome;"), (0, .fieldref 8 25), (0, .nameAndType 26 23), (0, u "MISSED"), (4, u "done"), (0, u "(Z)Lcom/example/tuplebag/tuplebag/bench/Call$Outcome;"), (1, u "()Lcom/example/tuplebag/tuplebag/bench/Call;"), (0, u "()Z"), (4, .class_ 41), (0, u "com/example/tuplebag/tuplebag/bench/Call")] 2

def k2c0 : Code := { maxStack := 1, maxLocals := 1, code := prog_6_method_3_code, exceptionTable := #[], attributes := #[] }
def k2m0 : Method := { name := "done", desc := "(Z)Lcom/example/tuplebag/tuplebag/bench/Call$Outcome;", sig := { parameters := [.boolean], returnType := some (.object "com/example/tuplebag/tuplebag/bench/Call$Outcome") }, accessFlags := 8, code := some k2c0 }
def k2c1 : Code := { maxStack := 1, maxLocals := 1, code := prog_6_method_4_code, exceptionTable := #[], attributes := #[] }
def k2m1 : Method := { name := "next", desc := "()Lcom/example/tuplebag/tuplebag/bench/Call;", sig := { parameters := [], returnType := some (.object "com/example/tuplebag/tuplebag/bench/Call") }, accessFlags := 0, code := some k2c1 }
def k2c2 : Code := { maxStack := 1, maxLocals := 1, code := prog_6_method_5_code, exceptionTable := #[], attributes := #[] }
def k2m2 : Method := { name := "found", desc := "()Z", sig := { parameters := [], returnType := some .boolean }, accessFlags := 0, code := some k2c2 }
/-- com/example/tuplebag/tuplebag/bench/Call$Outcome -/
def k2 : Class := { plain "com/example/tuplebag/tuplebag/bench/Call$Outcome" (some 0) with
  accessFlags := 48
  interfaces := #[]
  cf := some (fileOf pool2 8 #[.nestHost 40] #[{ accessFlags := 8, nameIndex := 31, descriptorIndex := 32, attributes := #[] }, { accessFlags := 0, nameIndex := 11, descriptorIndex := 34, attributes := #[] }, { accessFlags := 0, nameIndex := 15, descriptorIndex := 35, attributes := #[] }] 48 2 #[] #[{ accessFlags := 26, nameIndex := 22, descriptorIndex := 23, attributes := #[] }, { accessFlags := 26, nameIndex := 26, descriptorIndex := 23, attributes := #[] }, { accessFlags := 18, nameIndex := 11, descriptorIndex := 12, attributes := #[] }, { accessFlags := 18, nameIndex := 15, descriptorIndex := 16, attributes := #[] }])
  fields := #[{ name := "FOUND", type := (.object "com/example/tuplebag/tuplebag/bench/Call$Outcome"), accessFlags := 26, slot := 0, constantValue := 0 }, { name := "MISSED", type := (.object "com/example/tuplebag/tuplebag/bench/Call$Outcome"), accessFlags := 26, slot := 1, constantValue := 0 }, { name := "next", type := (.object "com/example/tuplebag/tuplebag/bench/Call"), accessFlags := 18, slot := 0, constantValue := 0 }, { name := "found", type := .boolean, accessFlags := 18, slot := 1, constantValue := 0 }]
  methods := #[k2m0, k2m1, k2m2]
  instanceTypes := #[(.object "com/example/tuplebag/tuplebag/bench/Call"), .boolean]
  staticTypes := #[(.object "com/example/tuplebag/tuplebag/bench/Call$Outcome"), (.object "com/example/tuplebag/tuplebag/bench/Call$Outcome")]
  resolved := Array.replicate 44 none
  statics := some 0 }

def pool3 : Array CpInfo := pool [(1, u "java/lang/Cloneable"), (0, .class_ 1), (0, u "java/lang/Object"), (0, .class_ 3)] 3

/-- java/lang/Cloneable -/
def k3 : Class := { plain "java/lang/Cloneable" (some 0) with
  accessFlags := 1537
  interfaces := #[]
  cf := some (fileOf pool3 2 #[] #[] 1537 4 #[] #[])
  fields := #[]
  methods := #[]
  instanceTypes := #[]
  staticTypes := #[]
  resolved := Array.replicate 8 none
  statics := none }

def pool4 : Array CpInfo := pool [(1, u "java/io/Serializable"), (0, .class_ 1), (0, u "java/lang/Object"), (0, .class_ 3)] 3

/-- java/io/Serializable -/
def k4 : Class := { plain "java/io/Serializable" (some 0) with
  accessFlags := 1537
  interfaces := #[]
  cf := some (fileOf pool4 2 #[] #[] 1537 4 #[] #[])
  fields := #[]
  methods := #[]
  instanceTypes := #[]
  staticTypes := #[]
  resolved := Array.replicate 8 none
  statics := none }

/-- the primitive byte -/
def k5 : Class := { plain "byte" none with kind := .primitive 'B', accessFlags := 0x411 }
/-- [B -/
def k6 : Class := { plain "[B" (some 0) with kind := .array 5 .byte, interfaces := #[3, 4], accessFlags := 1041 }

/-- the primitive int -/
def k7 : Class := { plain "int" none with kind := .primitive 'I', accessFlags := 0x411 }
/-- [I -/
def k8 : Class := { plain "[I" (some 0) with kind := .array 7 .int, interfaces := #[3, 4], accessFlags := 1041 }

def heap : Heap := #[{ cls := 2, slots := #[.ref 2, .ref 1], vm := .statics 2 },
  { cls := 2, slots := #[.null, .int 0], vm := .none },
  { cls := 2, slots := #[.null, .int 1], vm := .none }]
def classes : Array Class := #[k0, k1, k2, k3, k4, k5, k6, k7, k8]
def interned : List (Array UInt16 × Addr) := []
def slotsUsed : Nat := 6
def theMethod : MethodId := ⟨1, 1⟩
def args0 : Array Value := #[.int 1]
def aboutOver (below : List Frame) : State where
  vm := { classes := classes, interned := interned.toArray }
  heap := heap
  slotsUsed := slotsUsed
  threads := #[{ frames := .invoking theMethod args0 :: below }]
def below0 : List Frame := [.native { method := ⟨0, 0⟩, args := #[] }]
def about1 : State := aboutOver below0
def p0 : Program := .bare "" "" ""
def e0 : Env := launch0.env 0 0 0
theorem w_frames : about1.frames = Frame.invoking theMethod args0 :: below0 := rfl
set_option maxRecDepth 65536 in
theorem w_args : argsFit about1.vm theMethod args0 = true := by decide +kernel
set_option maxRecDepth 65536 in
theorem w_heap : heapFits about1 = true := by decide +kernel
set_option maxRecDepth 65536 in
theorem w_runnable : about1.curStatus? = some .runnable := by decide +kernel
set_option maxRecDepth 65536 in
theorem w_alone : about1.alone = true := by decide +kernel
set_option maxRecDepth 65536 in
theorem w_named : about1.methodNamed? x = some theMethod := by decide +kernel
set_option maxRecDepth 65536 in
theorem w_hears : about1.hears theMethod below0 = true := by decide +kernel
set_option maxRecDepth 65536 in
theorem w_ripe : about1.ripe theMethod args0 below0 = true := by decide +kernel
theorem w_running : about1.status = .running := rfl
set_option maxRecDepth 65536 in
theorem w_room : about1.hasRoom e0.platform room_1 = true :=
  launch0.hasRoom_least _ room_1 (by decide +kernel) (by decide +kernel) (by decide +kernel) (by decide +kernel) (by decide +kernel) (by decide +kernel)
theorem allAtoms_all (ts : List Jvm.Cond) (a : Array Jvm.Value) (st : Jvm.State) : (allAtoms ts).before a st = ts.all (fun c => c.before a st) := by
  induction ts with
  | nil => rfl
  | cons c t ih =>
    show (Jvm.Cond.and c (allAtoms t)).before a st = _
    rw [Jvm.Cond.before_and, ih, List.all_cons]
def words1 : List Jvm.Cond := Jvm.Cond.code x code maxLocals ret :: tables_1
/-- a 'code' word, met by the world's own term for the bytes: nothing is compared byte by byte -/
theorem code_word {y : MethodName} {bytes : ByteArray} {mx : Nat} {rt : Option FieldType} {a : Array Value} {s : State} {m : MethodId} {meth : Method} {c : Code} (h1 : s.methodNamed? y = some m) (h2 : s.vm.method? m = some meth) (h3 : meth.code = some c) (h4 : c.code = bytes)
    (h5 : (c.maxLocals == mx && c.exceptionTable.isEmpty && decide (c.maxStack ≤ mostOperands) && decide (meth.sig.returnType = rt) && !meth.locks && decide (parseMethodDescriptor y.desc = some meth.sig)) = true) : (Jvm.Cond.code y bytes mx rt).before a s = true := by
  simp only [Bool.and_eq_true, beq_iff_eq, Bool.not_eq_true', decide_eq_true_eq] at h5
  obtain ⟨⟨⟨⟨⟨g1, g2⟩, g3⟩, g4⟩, g5⟩, g6⟩ := h5
  simp [Cond.before, Cond.holds, Cond.value, h1, h2, h3, h4, g1, g2, g3, g4, g5, g6]
def isCode : Jvm.Cond → Bool
  | .code _ _ _ _ => true
  | _ => false
theorem all_split {L : List Jvm.Cond} {P : Jvm.Cond → Bool} (h1 : L.all (fun c => isCode c || P c) = true) (h2 : ∀ c ∈ L.filter isCode, P c = true) : L.all P = true := by
  refine List.all_eq_true.mpr fun c hc => ?_
  have h := List.all_eq_true.mp h1 c hc
  rcases Bool.eq_false_or_eq_true (isCode c) with hi | hi
  · exact h2 c (List.mem_filter.mpr ⟨hc, hi⟩)
  · simpa [hi] using h
set_option maxRecDepth 65536 in
theorem w_c0 : (Jvm.Cond.code x code maxLocals ret).before args0 about1 = true := code_word (m := ⟨1, 1⟩) (meth := k1m1) (c := k1c1) (by decide +kernel) rfl rfl rfl (by decide +kernel)
set_option maxRecDepth 65536 in
theorem w_c1 : (Jvm.Cond.code ({ cls := "com/example/tuplebag/tuplebag/bench/Call$Outcome", name := "done", desc := "(Z)Lcom/example/tuplebag/tuplebag/bench/Call$Outcome;" } : Jvm.MethodName) prog_6_method_3_code (1 : Nat) (Option.some (Jvm.ClassFile.FieldType.object "com/example/tuplebag/tuplebag/bench/Call$Outcome"))).before args0 about1 = true := code_word (m := ⟨2, 0⟩) (meth := k2m0) (c := k2c0) (by decide +kernel) rfl rfl rfl (by decide +kernel)
set_option maxRecDepth 65536 in
theorem w_c2 : (Jvm.Cond.code ({ cls := "com/example/tuplebag/tuplebag/bench/Call$Outcome", name := "next", desc := "()Lcom/example/tuplebag/tuplebag/bench/Call;" } : Jvm.MethodName) prog_6_method_4_code (1 : Nat) (Option.some (Jvm.ClassFile.FieldType.object "com/example/tuplebag/tuplebag/bench/Call"))).before args0 about1 = true := code_word (m := ⟨2, 1⟩) (meth := k2m1) (c := k2c1) (by decide +kernel) rfl rfl rfl (by decide +kernel)
set_option maxRecDepth 65536 in
theorem w_c3 : (Jvm.Cond.code ({ cls := "com/example/tuplebag/tuplebag/bench/Call$Outcome", name := "found", desc := "()Z" } : Jvm.MethodName) prog_6_method_5_code (1 : Nat) (Option.some Jvm.ClassFile.FieldType.boolean)).before args0 about1 = true := code_word (m := ⟨2, 2⟩) (meth := k2m2) (c := k2c2) (by decide +kernel) rfl rfl rfl (by decide +kernel)
def codes1 : List Jvm.Cond := [Jvm.Cond.code x code maxLocals ret, Jvm.Cond.code ({ cls := "com/example/tuplebag/tuplebag/bench/Call$Outcome", name := "done", desc := "(Z)Lcom/example/tuplebag/tuplebag/bench/Call$Outcome;" } : Jvm.MethodName) prog_6_method_3_code (1 : Nat) (Option.some (Jvm.ClassFile.FieldType.object "com/example/tuplebag/tuplebag/bench/Call$Outcome")), Jvm.Cond.code ({ cls := "com/example/tuplebag/tuplebag/bench/Call$Outcome", name := "next", desc := "()Lcom/example/tuplebag/tuplebag/bench/Call;" } : Jvm.MethodName) prog_6_method_4_code (1 : Nat) (Option.some (Jvm.ClassFile.FieldType.object "com/example/tuplebag/tuplebag/bench/Call")), Jvm.Cond.code ({ cls := "com/example/tuplebag/tuplebag/bench/Call$Outcome", name := "found", desc := "()Z" } : Jvm.MethodName) prog_6_method_5_code (1 : Nat) (Option.some Jvm.ClassFile.FieldType.boolean)]
set_option maxRecDepth 65536 in
theorem codes_eq : words1.filter isCode = codes1 := rfl
theorem w_codes : ∀ c ∈ words1.filter isCode, c.before args0 about1 = true := by
  rw [codes_eq]
  intro c hc
  simp only [codes1, List.mem_cons, List.not_mem_nil, or_false] at hc
  rcases hc with rfl | rfl | rfl | rfl
  · exact w_c0
  · exact w_c1
  · exact w_c2
  · exact w_c3
set_option maxRecDepth 65536 in
theorem w_t1 : words1.all (fun c => isCode c || c.before args0 about1) = true := by decide +kernel
theorem w_tables : (allAtoms (Jvm.Cond.code x code maxLocals ret :: tables_1)).before args0 about1 = true := by
  rw [allAtoms_all]
  show words1.all (fun c => c.before args0 about1) = true
  refine all_split ?_ w_codes
  rw [w_t1]
set_option maxRecDepth 65536 in
theorem w_case : (Jvm.Cond.and given_1 narrow_1).before args0 about1 = true := by decide +kernel
theorem w_applies : (headSpec (Jvm.Cond.code x code maxLocals ret :: tables_1) room_1).applies x e0.platform about1 = true :=
  (Spec.applies_iff w_frames).mpr ⟨w_running, w_runnable, w_alone, w_named, w_hears, w_ripe, w_room, w_tables⟩
theorem atStart : AtStart classFile x code maxLocals ret World_1 tables_1 room_1 Calls_1 rest_1 Pre_1 launch0 p0 e0 about1 theMethod args0 below0 :=
  ⟨lists_1, trivial, launch0.admits_env _ _ _, launch0.least_env, fairChoices_fair.cas, fairChoices_fair.clock, w_frames, w_args, w_heap, w_applies, trivial, trivial, w_case⟩
end start1
theorem witness_1 : WitnessClaimed_1 := ⟨start1.p0, start1.e0, start1.about1, start1.theMethod, start1.args0, start1.below0, start1.atStart⟩
end Jvm.Pilot.@@N@@
