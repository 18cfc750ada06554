import JvmDerived
import JvmDerived.Pilot.@@N@@Statement
import JvmDerived.Pilot.@@N@@Code
set_option linter.unusedVariables false
set_option linter.unusedSimpArgs false
namespace Jvm.RoadKit
open Sem ClassFile Op Lib Jvm.Stand Jvm.Free Jvm.LawKit
section New
variable {p : Program} {l : Launch} {e : Env} {R : Room} {s : State} {m : MethodId} {args : Array Value} {below : List Frame} {meth : Method} {c : Code} {T : State} {locs : List Loc} {cells slots : Nat}
theorem retI (X : Stand p l e R s m args below meth c T locs cells slots) (hx : p.tables.exec = Jvm.exec) {pc : Nat} {Ls : Array Slot} {z : Int32} {rest : List Value} (hret : meth.sig.returnType = some .int) (hd : decode c.code pc = .ok (.ireturn, 1)) {fs : List Frame}
    (hl : ∀ (f : JFrame) (acts : List Action), f.method = m → f.locked = none → f.entered = [] → (doReturn e (T.setTop f) acts (some (.int z))).1 = T.setFrames fs) : Steps p.tables e below (T.setTop (mkF m pc Ls (.int z :: rest))) (T.setFrames fs) := by
  have hm' : T.vm.method? m = some meth := X.method'
  have hn : narrow .int (.int z) = .int z := rfl
  show Steps p.tables e below (T.setTop { method := m, pc := pc, locals := Ls, stack := _ :: rest, locked := none }) _
  jvm_step X.here [X.here.top, hx, hd, hm', hret, hn]
  first | (intro acts; rw [hl _ acts rfl rfl rfl]) | rw [hl _ _ rfl rfl rfl]
  exact Steps.refl _
end New
end Jvm.RoadKit
namespace Jvm.Pilot.@@N@@
open Jvm Jvm.ClassFile Sem Op Lib Jvm.Free Jvm.Stand Jvm.LawKit Jvm.RoadKit Bundle Jvm.Pilot.@@N@@.Jvm.D
/-- a run from here that ends well -/
def own_G (p : Program) (e : Env) (below : List Frame) (P : Outcome → State → Prop) (S : State) : Prop := ∃ s₂ o, Steps p.tables e below S s₂ ∧ s₂.status = .running ∧ Ended s₂ below o ∧ P o s₂
theorem own_go {p : Program} {e : Env} {below : List Frame} {P : Outcome → State → Prop} {S : State} (S' : State) (k : ∀ t, Steps p.tables e below S' t → Steps p.tables e below S t) (h : own_G p e below P S') : own_G p e below P S := by
  obtain ⟨s₂, o, h1, h2⟩ := h
  exact ⟨s₂, o, k _ h1, h2⟩
theorem own_one {x : Slot} (h : One x) : (match x with | .second => False | .val old => old.category = 1 | .unset => True) := by
  rcases h with rfl | ⟨w, rfl, hw⟩
  · trivial
  · exact hw
theorem own_selp {s : State} {args : Array Value} {D : String} {y z : MethodName} (h : (Cond.selects D z z).before args s = true) (hc : z.cls = y.cls) (hpriv : s.PrivateAt y) (hinst : (Cond.instanceMethod y).before args s = true) (hy : y.cls ≠ "java/lang/invoke/MethodHandle" ∧ y.cls ≠ "java/lang/invoke/VarHandle") : (Cond.selects y.cls y y).before args s = true := by
  obtain ⟨c, r, m, q1, q2, q3, q4, mk, hk, hi⟩ := Cond.selects_spec h
  exact selects_self_of_private (hc ▸ findClass_of_methodNamed q3) hk hi hpriv hinst hy
theorem own_same {s : State} {args : Array Value} {D : String} {y z : MethodName} (hinst : (Cond.instanceMethod y).before args s = true) (hsel : (Cond.selects D z z).before args s = true) (hc : z.cls = y.cls) (hy : y.cls ≠ "java/lang/invoke/MethodHandle" ∧ y.cls ≠ "java/lang/invoke/VarHandle") : (Cond.sameMethod y.cls y.cls y.name y.desc).before args s = true := by
  obtain ⟨mk, methM, hnamed, hmethM, -, -⟩ := Cond.instanceMethod_spec hinst
  obtain ⟨c, r, m, q1, q2, q3, q4, k, hk, hi⟩ := Cond.selects_spec hsel
  have hfound := State.methodFound?_of_named hnamed hy
  have hcn := findClass_of_methodNamed hnamed
  have e : m.cls = mk.cls := Option.some.inj ((findClass_of_methodNamed q3).symm.trans (hc ▸ hcn))
  rw [e] at hk
  obtain ⟨yc, yn, yd⟩ := y
  simp_all [Cond.before, Cond.holds, Cond.value]
theorem own_nf {s : State} {args : Array Value} {D : String} {y z : MethodName} (hsel : (Cond.selects D z z).before args s = true) (hc : z.cls = y.cls) : NotFace s y := fun r0 h0 => by
  obtain ⟨c, r, m, q1, q2, q3, q4, k, hk, hi⟩ := Cond.selects_spec hsel
  have e : m.cls = r0.cls := Option.some.inj ((findClass_of_methodNamed q3).symm.trans (hc ▸ findClass_of_methodNamed h0))
  exact ⟨k, e ▸ hk, hi⟩
theorem own_lt {x y : Int64} : lcmpW x y < 0 ↔ x < y := by rw [lcW]; exact lc_lt x y
theorem own_gt {x y : Int64} : (0 : Int32) < lcmpW x y ↔ y < x := by rw [lcW]; exact lc_gt x y
theorem own_eq {x y : Int64} : lcmpW x y = 0 ↔ x = y := by rw [lcW]; exact lc_eq x y
theorem own_extK {Z : State} {h h' : Heap} {ws : List Addr} (O : Ext Z.heap h) (K : Keep h h' ws) (q : ∀ x ∈ ws, Z.heap.size ≤ x) : Ext Z.heap h' :=
  (Old.keep (n0 := Z.heap.size) ⟨rfl, O⟩ K q).2
theorem own_ext {h h1 h2 : Heap} (E : Ext h h1) (F : Ext h1 h2) : Ext h h2 := ⟨Nat.le_trans E.1 F.1, fun a c q => F.2 a c (E.2 a c q)⟩
theorem own_extW {Z : State} {h h' : Heap} {a : Addr} {sl : Nat} {v : Value} (O : Ext Z.heap h) (W : Wr h h' a sl v) (q : Z.heap.size ≤ a) : Ext Z.heap h' := own_extK O (Keep.of_wr W) (allS q all0)
theorem own_fldI {s : State} {args : Array Value} {t : Term} {C n d : String} {k : Int32} {a : Addr} (h : (Cond.eq (Term.field t C n d) (Term.int k)).value args s none s [] = some true) (ev : t.eval args s none [] s = some (.ref a)) : Fld s s.heap a C n d (.int k) := by
  obtain ⟨x, y, h1, h2, h3, -⟩ := cmp_v (Or.inl h)
  have h4 : s.fieldOf? a C n d = some x := (fld_at ev).symm.trans h1
  have h5 : y = .int k := (Option.some.inj (h2.symm.trans (Term.int_eval k)))
  subst h5
  cases x with
  | int z =>
    simp only [Cond.value, h1, h2] at h
    have e : z = k := by simpa using h
    subst e
    exact Fld.start h4
  | _ => simp [Kin, Value.isRef] at h3
theorem own_fldV {s : State} {args : Array Value} {t u : Term} {C n d : String} {b : Addr} {a : Addr} (h : (Cond.eq (Term.field t C n d) u).value args s none s [] = some true) (ev : t.eval args s none [] s = some (.ref a)) (eu : u.eval args s none [] s = some (.ref b)) : Fld s s.heap a C n d (.ref b) := by
  obtain ⟨x, y, h1, h2, h3, -⟩ := cmp_v (Or.inl h)
  have h4 : s.fieldOf? a C n d = some x := (fld_at ev).symm.trans h1
  have h5 : y = .ref b := (Option.some.inj (h2.symm.trans eu))
  subst h5
  cases x with
  | ref z =>
    simp only [Cond.value, h1, h2] at h
    have e : z = b := by simpa using h
    subst e
    exact Fld.start h4
  | null => simp [Cond.value, h1, h2] at h
  | _ => simp [Kin, Value.isRef] at h3
theorem own_elemI {s : State} {args : Array Value} {t : Term} {j k : Int32} {a : Addr} {cl : Cell} (h : (Cond.eq (Term.elem t (Term.int j)) (Term.int k)).value args s none s [] = some true) (ev : t.eval args s none [] s = some (.ref a)) (hc : s.heap[a]? = some cl) : ¬ (j < 0 ∨ cl.slots.size ≤ j.toNatClampNeg) ∧ cl.slots[j.toNatClampNeg]? = some (.int k) := by
  obtain ⟨x, y, h1, h2, h3, -⟩ := cmp_v (Or.inl h)
  have h4 := elem_in h1 ev (Term.int_eval j) hc
  have h5 : y = .int k := (Option.some.inj (h2.symm.trans (Term.int_eval k)))
  subst h5
  cases x with
  | int z =>
    simp only [Cond.value, h1, h2] at h
    have e : z = k := by simpa using h
    subst e
    exact h4
  | _ => simp [Kin, Value.isRef] at h3
theorem own_elemV {s : State} {args : Array Value} {t u : Term} {j : Int32} {a b : Addr} {cl : Cell} (h : (Cond.eq (Term.elem t (Term.int j)) u).value args s none s [] = some true) (ev : t.eval args s none [] s = some (.ref a)) (eu : u.eval args s none [] s = some (.ref b)) (hc : s.heap[a]? = some cl) : ¬ (j < 0 ∨ cl.slots.size ≤ j.toNatClampNeg) ∧ cl.slots[j.toNatClampNeg]? = some (.ref b) := by
  obtain ⟨x, y, h1, h2, h3, -⟩ := cmp_v (Or.inl h)
  have h4 := elem_in h1 ev (Term.int_eval j) hc
  have h5 : y = .ref b := (Option.some.inj (h2.symm.trans eu))
  subst h5
  cases x with
  | ref z =>
    simp only [Cond.value, h1, h2] at h
    have e : z = b := by simpa using h
    subst e
    exact h4
  | null => simp [Cond.value, h1, h2] at h
  | _ => simp [Kin, Value.isRef] at h3
theorem own_fldN {s : State} {args : Array Value} {t : Term} {C n d : String} {a : Addr} (h : (Cond.eq (Term.field t C n d) Term.null).value args s none s [] = some true) (ev : t.eval args s none [] s = some (.ref a)) : Fld s s.heap a C n d .null :=
  Fld.start ((fld_at ev).symm.trans (null_v h))
def own_W (Z : State) (a_HEFT : Addr) (a_FIT : Addr) (a_PCH : Addr) (a_MARGIN : Addr) (a_NONE : Addr) : Prop := (Sta Z Z.heap "com/example/pokfulam/pokfulam/plan/Heuristic" "HEFT" "Lcom/example/pokfulam/pokfulam/plan/Heuristic;" (.ref a_HEFT)) ∧ (Exa Z Z.heap a_HEFT "com/example/pokfulam/pokfulam/plan/Heuristic$1") ∧ (Sta Z Z.heap "com/example/pokfulam/pokfulam/plan/Insertion" "FIT" "Lcom/example/pokfulam/pokfulam/plan/Insertion;" (.ref a_FIT)) ∧ (Exa Z Z.heap a_FIT "com/example/pokfulam/pokfulam/plan/Insertion") ∧ (Sta Z Z.heap "com/example/pokfulam/pokfulam/plan/Heuristic" "PCH" "Lcom/example/pokfulam/pokfulam/plan/Heuristic;" (.ref a_PCH)) ∧ (Exa Z Z.heap a_PCH "com/example/pokfulam/pokfulam/plan/Heuristic$2") ∧ (Sta Z Z.heap "com/example/pokfulam/pokfulam/plan/Insertion" "MARGIN" "Lcom/example/pokfulam/pokfulam/plan/Insertion;" (.ref a_MARGIN)) ∧ (Exa Z Z.heap a_MARGIN "com/example/pokfulam/pokfulam/plan/Insertion") ∧ (Sta Z Z.heap "com/example/pokfulam/pokfulam/plan/Insertion" "NONE" "Lcom/example/pokfulam/pokfulam/plan/Insertion;" (.ref a_NONE)) ∧ (Exa Z Z.heap a_NONE "com/example/pokfulam/pokfulam/plan/Insertion") ∧ (Fld Z Z.heap a_HEFT "com/example/pokfulam/pokfulam/plan/Heuristic" "insertion" "Lcom/example/pokfulam/pokfulam/plan/Insertion;" (.ref a_FIT)) ∧ (Fld Z Z.heap a_HEFT "com/example/pokfulam/pokfulam/plan/Heuristic" "gapSearchInsertion" "Lcom/example/pokfulam/pokfulam/plan/Insertion;" (.ref a_FIT)) ∧ (Fld Z Z.heap a_PCH "com/example/pokfulam/pokfulam/plan/Heuristic" "insertion" "Lcom/example/pokfulam/pokfulam/plan/Insertion;" (.ref a_NONE)) ∧ (Fld Z Z.heap a_PCH "com/example/pokfulam/pokfulam/plan/Heuristic" "gapSearchInsertion" "Lcom/example/pokfulam/pokfulam/plan/Insertion;" (.ref a_MARGIN))
theorem own_pn0 : plainName "com/example/pokfulam/pokfulam/plan/Heuristic" = true := by first | (simp [plainName, overriddenIn]; done) | decide +kernel
theorem own_ef_ii (m : MethodId) (a : Addr) (z : Int32) : entryFrame m #[(.ref a), (.int z)] 3 = mkF m 0 #[.val (.ref a), .val (.int z), .unset] [] := by first | (simp [entryFrame, mkF, argsToLocals, Value.category]; done) | rfl
theorem own_d_prog_44_method_9_0 : decode prog_44_method_9_code 0 = .ok (.aload_n 0, 1) := by decide +kernel
theorem own_d_prog_44_method_9_1 : decode prog_44_method_9_code 1 = .ok (.getfield 43, 3) := by decide +kernel
theorem own_d_prog_44_method_9_4 : decode prog_44_method_9_code 4 = .ok (.astore_n 2, 1) := by decide +kernel
theorem own_d_prog_44_method_9_5 : decode prog_44_method_9_code 5 = .ok (.iload_n 1, 1) := by decide +kernel
theorem own_d_prog_44_method_9_6 : decode prog_44_method_9_code 6 = .ok (.ifCond .eq 8, 3) := by decide +kernel
theorem own_d_prog_44_method_9_14 : decode prog_44_method_9_code 14 = .ok (.aload_n 2, 1) := by decide +kernel
theorem own_d_prog_44_method_9_15 : decode prog_44_method_9_code 15 = .ok (.areturn, 1) := by decide +kernel
theorem own_d_prog_44_method_9_9 : decode prog_44_method_9_code 9 = .ok (.aload_n 0, 1) := by decide +kernel
theorem own_d_prog_44_method_9_10 : decode prog_44_method_9_code 10 = .ok (.getfield 47, 3) := by decide +kernel
theorem own_d_prog_44_method_9_13 : decode prog_44_method_9_code 13 = .ok (.astore_n 2, 1) := by decide +kernel
def Q_ii (Z : State) (a : Addr) (z : Int32) (u : Addr) (v : Addr) (h0 : Heap) (v_ : Option Value) (h : Heap) (L_ : List Loc) : Prop := v_ = some (.ref (if z = 0 then u else v)) ∧ Fr Z.heap.size L_ ∧ (h = h0)
set_option maxRecDepth 65536 in
set_option maxHeartbeats 40000000 in
theorem rm_ii (l : Launch) (Z : State) (a0 : Array Value) (hw : ∀ d ∈ tables_1, d.before a0 Z = true) (ws : List Jvm.Cond) (a : Addr) (z : Int32) (u : Addr) (v : Addr) (h0 : Heap) (O : Ext Z.heap h0) (F : Fld Z Z.heap a "com/example/pokfulam/pokfulam/plan/Heuristic" "insertion" "Lcom/example/pokfulam/pokfulam/plan/Insertion;" (.ref u)) (G : Fld Z Z.heap a "com/example/pokfulam/pokfulam/plan/Heuristic" "gapSearchInsertion" "Lcom/example/pokfulam/pokfulam/plan/Insertion;" (.ref v)) :
    MetFree l (⟨"com/example/pokfulam/pokfulam/plan/Heuristic", "insertion", "(Z)Lcom/example/pokfulam/pokfulam/plan/Insertion;"⟩ : MethodName) (head1 (Jvm.Cond.code (⟨"com/example/pokfulam/pokfulam/plan/Heuristic", "insertion", "(Z)Lcom/example/pokfulam/pokfulam/plan/Insertion;"⟩ : MethodName) prog_44_method_9_code 3 (some (.object "com/example/pokfulam/pokfulam/plan/Insertion")) :: ws) ({ frames := 0, cells := 0, slots := 0, locals := 0 } : Room)) (fun a_ U_ => a_ = #[(.ref a), (.int z)] ∧ Z.Warmed39 U_.vm ∧ U_.heap = h0) (fun _ _ _ _ _ => True) (fun _ U_ o_ U2_ => ∃ v_ L_, o_ = .returned v_ ∧ Q_ii Z a z u v h0 v_ U2_.heap L_ ∧ FrameEnd U_ o_ U2_ L_ ({ frames := 0, cells := 0, slots := 0, locals := 0 } : Room).cells ({ frames := 0, cells := 0, slots := 0, locals := 0 } : Room).slots) := by
  refine MetFree.of_bodySF (plainFor_of_name own_pn0) hisR ?_
  intro p e s m args below meth c s₁ Bd hml0 hP hK
  obtain ⟨rfl, hZ, hh⟩ := hP
  have hx := Bd.exec
  have hby := Bd.bytes
  have hml : c.maxLocals = 3 := hml0
  have hown : s.vm.findClass "com/example/pokfulam/pokfulam/plan/Heuristic" = some m.cls := findClass_of_methodNamed Bd.named
  have hnm := (name_of_methodNamed Bd.named Bd.method).1
  have X0 : Stand p l e ({ frames := 0, cells := 0, slots := 0, locals := 0 } : Room) s m #[(.ref a), (.int z)] below meth c s₁ [] 0 0 := Stand.of_body Bd
  have e0 : s₁.heap = h0 := by rw [← hh, Bd.state]; rfl
  have N0 := Fr.nil Z.heap.size
  show own_G p e below (fun o_ s₂ => ∃ v_ L_, o_ = .returned v_ ∧ Q_ii Z a z u v h0 v_ s₂.heap L_ ∧ FrameEnd s o_ s₂ L_ ({ frames := 0, cells := 0, slots := 0, locals := 0 } : Room).cells ({ frames := 0, cells := 0, slots := 0, locals := 0 } : Room).slots) (s₁.setTop (entryFrame m #[(.ref a), (.int z)] 3))
  refine own_go (s₁.setTop (mkF m 0 #[.val (.ref a), .val (.int z), .unset] [])) (fun t_ k_ => castTop (own_ef_ii m a z) k_) ?_
  refine own_go (s₁.setTop (mkF m 1 #[.val (.ref a), .val (.int z), .unset] [(.ref a)])) (fun t_ k_ => XS.aloadN X0.here hx rfl (hb hby own_d_prog_44_method_9_0) rfl rfl k_) ?_
  obtain ⟨T1, X1, e1, st1⟩ := getF X0 hx hZ hown (host := "") (Or.inl (hw _ (List.mem_of_getElem? (i := 11) rfl))) Via.refl e0 (F.ext O) (g := (mkF m 1 #[.val (.ref a), .val (.int z), .unset] [(.ref a)])) rfl rfl (hb hby own_d_prog_44_method_9_1)
  refine own_go (T1.setTop (mkF m 4 #[.val (.ref a), .val (.int z), .unset] [(.ref u)])) (fun t_ k_ => st1 _ k_) ?_
  refine own_go (T1.setTop (mkF m 5 #[.val (.ref a), .val (.int z), .val (.ref u)] [])) (fun t_ k_ => XS.astoreN X1.here hx rfl (hb hby own_d_prog_44_method_9_4) rfl rfl (l' := #[.val (.ref a), .val (.int z), .val (.ref u)]) rfl k_) ?_
  refine own_go (T1.setTop (mkF m 6 #[.val (.ref a), .val (.int z), .val (.ref u)] [(.int z)])) (fun t_ k_ => XS.iloadN X1.here hx rfl (hb hby own_d_prog_44_method_9_5) rfl k_) ?_
  by_cases hc6_2 : z = (0 : Int32)
  ·
    refine own_go (T1.setTop (mkF m 14 #[.val (.ref a), .val (.int z), .val (.ref u)] [])) (fun t_ k_ => XS.ifYes X1.here hx rfl (pc0 := 6) (pc' := 14) rfl (hb hby own_d_prog_44_method_9_6) rfl ((if0 _ _).trans (teq hc6_2).1) (by decide) (by decide) k_) ?_
    refine own_go (T1.setTop (mkF m 15 #[.val (.ref a), .val (.int z), .val (.ref u)] [(.ref u)])) (fun t_ k_ => XS.aloadN X1.here hx rfl (hb hby own_d_prog_44_method_9_14) rfl rfl k_) ?_
    obtain ⟨fs, hr, hrun, hended, hW, hsame⟩ := X1.leave (v := some (.ref u)) (fun h => by rw [Bd.returns] at h; cases h)
    refine ⟨_, _, Jvm.RoadKit.retOut X1 hx Bd.returns rfl (Or.inr (Or.inr (Or.inr (Or.inr ⟨rfl, rfl, rfl⟩)))) (hb hby own_d_prog_44_method_9_15) hr, hrun, hended, _, _, rfl, ?_, ⟨_, rfl⟩, hW, hsame.mono (by decide) (by decide)⟩
    show Q_ii Z a z u v h0 _ T1.heap _
    exact ⟨by simp [hc6_2], N0, e1⟩
  ·
    refine own_go (T1.setTop (mkF m 9 #[.val (.ref a), .val (.int z), .val (.ref u)] [])) (fun t_ k_ => XS.ifNo X1.here hx rfl (hb hby own_d_prog_44_method_9_6) rfl ((if0 _ _).trans (feq hc6_2).1) k_) ?_
    refine own_go (T1.setTop (mkF m 10 #[.val (.ref a), .val (.int z), .val (.ref u)] [(.ref a)])) (fun t_ k_ => XS.aloadN X1.here hx rfl (hb hby own_d_prog_44_method_9_9) rfl rfl k_) ?_
    obtain ⟨T3, X3, e3, st3⟩ := getF X1 hx hZ hown (host := "") (Or.inl (hw _ (List.mem_of_getElem? (i := 13) rfl))) Via.refl e1 (G.ext O) (g := (mkF m 10 #[.val (.ref a), .val (.int z), .val (.ref u)] [(.ref a)])) rfl rfl (hb hby own_d_prog_44_method_9_10)
    refine own_go (T3.setTop (mkF m 13 #[.val (.ref a), .val (.int z), .val (.ref u)] [(.ref v)])) (fun t_ k_ => st3 _ k_) ?_
    refine own_go (T3.setTop (mkF m 14 #[.val (.ref a), .val (.int z), .val (.ref v)] [])) (fun t_ k_ => XS.astoreN X3.here hx rfl (hb hby own_d_prog_44_method_9_13) rfl rfl (l' := #[.val (.ref a), .val (.int z), .val (.ref v)]) rfl k_) ?_
    refine own_go (T3.setTop (mkF m 15 #[.val (.ref a), .val (.int z), .val (.ref v)] [(.ref v)])) (fun t_ k_ => XS.aloadN X3.here hx rfl (hb hby own_d_prog_44_method_9_14) rfl rfl k_) ?_
    obtain ⟨fs, hr, hrun, hended, hW, hsame⟩ := X3.leave (v := some (.ref v)) (fun h => by rw [Bd.returns] at h; cases h)
    refine ⟨_, _, Jvm.RoadKit.retOut X3 hx Bd.returns rfl (Or.inr (Or.inr (Or.inr (Or.inr ⟨rfl, rfl, rfl⟩)))) (hb hby own_d_prog_44_method_9_15) hr, hrun, hended, _, _, rfl, ?_, ⟨_, rfl⟩, hW, hsame.mono (by decide) (by decide)⟩
    show Q_ii Z a z u v h0 _ T3.heap _
    exact ⟨by simp [hc6_2], N0, e3⟩
theorem own_pn1 : plainName "com/example/pokfulam/pokfulam/plan/HeuristicInsertionPinLaw" = true := by first | (simp [plainName, overriddenIn]; done) | decide +kernel
theorem own_ef_law (m : MethodId) (p0 : Int32) (p1 : Int32) : entryFrame m #[(.int p0), (.int p1)] maxLocals = mkF m 0 #[.val (.int p0), .val (.int p1), .unset, .unset, .unset, .unset] [] := by first | (simp [entryFrame, mkF, argsToLocals, Value.category, maxLocals]; done) | rfl
theorem own_pd0 : parseMethodDescriptor "(Z)Lcom/example/pokfulam/pokfulam/plan/Insertion;" = some ⟨[.boolean], some (.object "com/example/pokfulam/pokfulam/plan/Insertion")⟩ := by decide +kernel
def Q_law (Z : State) (p0 : Int32) (p1 : Int32) (a_HEFT : Addr) (a_FIT : Addr) (a_PCH : Addr) (a_MARGIN : Addr) (a_NONE : Addr) (h0 : Heap) (v_ : Option Value) (h : Heap) (L_ : List Loc) : Prop := v_ = some (.int 1) ∧ Fr Z.heap.size L_ ∧ (True)
set_option maxRecDepth 65536 in
set_option maxHeartbeats 40000000 in
theorem rm_law (l : Launch) (Z : State) (a0 : Array Value) (hw : ∀ d ∈ tables_1, d.before a0 Z = true) (ws : List Jvm.Cond) (p0 : Int32) (p1 : Int32) (a_HEFT : Addr) (a_FIT : Addr) (a_PCH : Addr) (a_MARGIN : Addr) (a_NONE : Addr) (h0 : Heap) (O : Ext Z.heap h0) (w : own_W Z a_HEFT a_FIT a_PCH a_MARGIN a_NONE) :
    MetFree l x (head1 (Jvm.Cond.code x code maxLocals ret :: ws) room_1) (fun a_ U_ => a_ = #[(.int p0), (.int p1)] ∧ Z.Warmed39 U_.vm ∧ U_.heap = h0) (fun _ _ _ _ _ => True) (fun _ U_ o_ U2_ => ∃ v_ L_, o_ = .returned v_ ∧ Q_law Z p0 p1 a_HEFT a_FIT a_PCH a_MARGIN a_NONE h0 v_ U2_.heap L_ ∧ FrameEnd U_ o_ U2_ L_ room_1.cells room_1.slots) := by
  refine MetFree.of_bodySF (plainFor_of_name own_pn1) hisR ?_
  intro p e s m args below meth c s₁ Bd hml0 hP hK
  obtain ⟨rfl, hZ, hh⟩ := hP
  have hx := Bd.exec
  have hby := Bd.bytes
  have hml : c.maxLocals = 6 := hml0
  have hown : s.vm.findClass "com/example/pokfulam/pokfulam/plan/HeuristicInsertionPinLaw" = some m.cls := findClass_of_methodNamed Bd.named
  have hnm := (name_of_methodNamed Bd.named Bd.method).1
  have X0 : Stand p l e room_1 s m #[(.int p0), (.int p1)] below meth c s₁ [] 0 0 := Stand.of_body Bd
  have e0 : s₁.heap = h0 := by rw [← hh, Bd.state]; rfl
  have N0 := Fr.nil Z.heap.size
  show own_G p e below (fun o_ s₂ => ∃ v_ L_, o_ = .returned v_ ∧ Q_law Z p0 p1 a_HEFT a_FIT a_PCH a_MARGIN a_NONE h0 v_ s₂.heap L_ ∧ FrameEnd s o_ s₂ L_ room_1.cells room_1.slots) (s₁.setTop (entryFrame m #[(.int p0), (.int p1)] maxLocals))
  refine own_go (s₁.setTop (mkF m 0 #[.val (.int p0), .val (.int p1), .unset, .unset, .unset, .unset] [])) (fun t_ k_ => castTop (own_ef_law m p0 p1) k_) ?_
  have w' := w
  obtain ⟨S_HEFT, X_HEFT, S_FIT, X_FIT, S_PCH, X_PCH, S_MARGIN, X_MARGIN, S_NONE, X_NONE, F_HEFT_insertion, F_HEFT_gapSearchInsertion, F_PCH_insertion, F_PCH_gapSearchInsertion⟩ := w'
  refine own_go (s₁.setTop (mkF m 1 #[.val (.int p0), .val (.int p1), .unset, .unset, .unset, .unset] [(.int p0)])) (fun t_ k_ => XS.iloadN X0.here hx rfl (hb hby at_0) rfl k_) ?_
  refine own_go (s₁.setTop (mkF m 2 #[.val (.int p0), .val (.int p1), .unset, .unset, .unset, .unset] [(.int (1 : Int32)), (.int p0)])) (fun t_ k_ => XS.iconst X0.here hx rfl (hb hby at_1) k_) ?_
  refine own_go (s₁.setTop (mkF m 3 #[.val (.int p0), .val (.int p1), .unset, .unset, .unset, .unset] [(.int (p0 &&& (1 : Int32)))])) (fun t_ k_ => XS.iand X0.here hx rfl (hb hby at_2) rfl k_) ?_
  by_cases hc3_1 : (p0 &&& (1 : Int32)) = (0 : Int32)
  ·
    refine own_go (s₁.setTop (mkF m 10 #[.val (.int p0), .val (.int p1), .unset, .unset, .unset, .unset] [])) (fun t_ k_ => XS.ifYes X0.here hx rfl (pc0 := 3) (pc' := 10) rfl (hb hby at_3) rfl ((if0 _ _).trans (teq hc3_1).1) (by decide) (by decide) k_) ?_
    refine own_go (s₁.setTop (mkF m 11 #[.val (.int p0), .val (.int p1), .unset, .unset, .unset, .unset] [(.int (0 : Int32))])) (fun t_ k_ => XS.iconst X0.here hx rfl (hb hby at_10) k_) ?_
    refine own_go (s₁.setTop (mkF m 12 #[.val (.int p0), .val (.int p1), .val (.int (0 : Int32)), .unset, .unset, .unset] [])) (fun t_ k_ => XS.istoreN X0.here hx rfl (hb hby at_11) rfl (l' := #[.val (.int p0), .val (.int p1), .val (.int (0 : Int32)), .unset, .unset, .unset]) rfl k_) ?_
    refine own_go (s₁.setTop (mkF m 13 #[.val (.int p0), .val (.int p1), .val (.int (0 : Int32)), .unset, .unset, .unset] [(.int p1)])) (fun t_ k_ => XS.iloadN X0.here hx rfl (hb hby at_12) rfl k_) ?_
    refine own_go (s₁.setTop (mkF m 14 #[.val (.int p0), .val (.int p1), .val (.int (0 : Int32)), .unset, .unset, .unset] [(.int (1 : Int32)), (.int p1)])) (fun t_ k_ => XS.iconst X0.here hx rfl (hb hby at_13) k_) ?_
    refine own_go (s₁.setTop (mkF m 15 #[.val (.int p0), .val (.int p1), .val (.int (0 : Int32)), .unset, .unset, .unset] [(.int (p1 &&& (1 : Int32)))])) (fun t_ k_ => XS.iand X0.here hx rfl (hb hby at_14) rfl k_) ?_
    by_cases hc15_2 : (p1 &&& (1 : Int32)) = (0 : Int32)
    ·
      refine own_go (s₁.setTop (mkF m 22 #[.val (.int p0), .val (.int p1), .val (.int (0 : Int32)), .unset, .unset, .unset] [])) (fun t_ k_ => XS.ifYes X0.here hx rfl (pc0 := 15) (pc' := 22) rfl (hb hby at_15) rfl ((if0 _ _).trans (teq hc15_2).1) (by decide) (by decide) k_) ?_
      refine own_go (s₁.setTop (mkF m 23 #[.val (.int p0), .val (.int p1), .val (.int (0 : Int32)), .unset, .unset, .unset] [(.int (0 : Int32))])) (fun t_ k_ => XS.iconst X0.here hx rfl (hb hby at_22) k_) ?_
      refine own_go (s₁.setTop (mkF m 24 #[.val (.int p0), .val (.int p1), .val (.int (0 : Int32)), .val (.int (0 : Int32)), .unset, .unset] [])) (fun t_ k_ => XS.istoreN X0.here hx rfl (hb hby at_23) rfl (l' := #[.val (.int p0), .val (.int p1), .val (.int (0 : Int32)), .val (.int (0 : Int32)), .unset, .unset]) rfl k_) ?_
      refine own_go (s₁.setTop (mkF m 25 #[.val (.int p0), .val (.int p1), .val (.int (0 : Int32)), .val (.int (0 : Int32)), .unset, .unset] [(.int (0 : Int32))])) (fun t_ k_ => XS.iloadN X0.here hx rfl (hb hby at_24) rfl k_) ?_
      refine own_go (s₁.setTop (mkF m 34 #[.val (.int p0), .val (.int p1), .val (.int (0 : Int32)), .val (.int (0 : Int32)), .unset, .unset] [])) (fun t_ k_ => XS.ifYes X0.here hx rfl (pc0 := 25) (pc' := 34) rfl (hb hby at_25) rfl ((if0 _ _).trans (teq (by decide : (0 : Int32) = (0 : Int32))).1) (by decide) (by decide) k_) ?_
      obtain ⟨T3, X3, e3, st3⟩ := getS2 X0 hx hZ hown (host := "") (Or.inl (hw _ (List.mem_of_getElem? (i := 0) rfl))) Via.refl e0 (S_HEFT.ext O) (g := (mkF m 34 #[.val (.int p0), .val (.int p1), .val (.int (0 : Int32)), .val (.int (0 : Int32)), .unset, .unset] [])) rfl (hb hby at_34)
      refine own_go (T3.setTop (mkF m 37 #[.val (.int p0), .val (.int p1), .val (.int (0 : Int32)), .val (.int (0 : Int32)), .unset, .unset] [(.ref a_HEFT)])) (fun t_ k_ => st3 _ k_) ?_
      refine own_go (T3.setTop (mkF m 39 #[.val (.int p0), .val (.int p1), .val (.int (0 : Int32)), .val (.int (0 : Int32)), .val (.ref a_HEFT), .unset] [])) (fun t_ k_ => XS.astore X3.here hx rfl (hb hby at_37) rfl rfl (l' := #[.val (.int p0), .val (.int p1), .val (.int (0 : Int32)), .val (.int (0 : Int32)), .val (.ref a_HEFT), .unset]) rfl k_) ?_
      refine own_go (T3.setTop (mkF m 40 #[.val (.int p0), .val (.int p1), .val (.int (0 : Int32)), .val (.int (0 : Int32)), .val (.ref a_HEFT), .unset] [(.int (0 : Int32))])) (fun t_ k_ => XS.iloadN X3.here hx rfl (hb hby at_39) rfl k_) ?_
      refine own_go (T3.setTop (mkF m 43 #[.val (.int p0), .val (.int p1), .val (.int (0 : Int32)), .val (.int (0 : Int32)), .val (.ref a_HEFT), .unset] [])) (fun t_ k_ => XS.ifNo X3.here hx rfl (hb hby at_40) rfl ((if0 _ _).trans (teq (by decide : (0 : Int32) = (0 : Int32))).2) k_) ?_
      obtain ⟨T4, X4, e4, st4⟩ := getS2 X3 hx hZ hown (host := "") (Or.inl (hw _ (List.mem_of_getElem? (i := 3) rfl))) Via.refl e3 (S_FIT.ext O) (g := (mkF m 43 #[.val (.int p0), .val (.int p1), .val (.int (0 : Int32)), .val (.int (0 : Int32)), .val (.ref a_HEFT), .unset] [])) rfl (hb hby at_43)
      refine own_go (T4.setTop (mkF m 46 #[.val (.int p0), .val (.int p1), .val (.int (0 : Int32)), .val (.int (0 : Int32)), .val (.ref a_HEFT), .unset] [(.ref a_FIT)])) (fun t_ k_ => st4 _ k_) ?_
      refine own_go (T4.setTop (mkF m 48 #[.val (.int p0), .val (.int p1), .val (.int (0 : Int32)), .val (.int (0 : Int32)), .val (.ref a_HEFT), .val (.ref a_FIT)] [])) (fun t_ k_ => XS.astore X4.here hx rfl (hb hby at_46) rfl rfl (l' := #[.val (.int p0), .val (.int p1), .val (.int (0 : Int32)), .val (.int (0 : Int32)), .val (.ref a_HEFT), .val (.ref a_FIT)]) rfl k_) ?_
      refine own_go (T4.setTop (mkF m 68 #[.val (.int p0), .val (.int p1), .val (.int (0 : Int32)), .val (.int (0 : Int32)), .val (.ref a_HEFT), .val (.ref a_FIT)] [])) (fun t_ k_ => XS.goto X4.here hx rfl (pc0 := 48) (pc' := 68) rfl (hb hby at_48) (by decide) (by decide) k_) ?_
      refine own_go (T4.setTop (mkF m 70 #[.val (.int p0), .val (.int p1), .val (.int (0 : Int32)), .val (.int (0 : Int32)), .val (.ref a_HEFT), .val (.ref a_FIT)] [(.ref a_HEFT)])) (fun t_ k_ => XS.aload X4.here hx rfl (hb hby at_68) rfl rfl k_) ?_
      refine own_go (T4.setTop (mkF m 71 #[.val (.int p0), .val (.int p1), .val (.int (0 : Int32)), .val (.int (0 : Int32)), .val (.ref a_HEFT), .val (.ref a_FIT)] [(.int (0 : Int32)), (.ref a_HEFT)])) (fun t_ k_ => XS.iloadN X4.here hx rfl (hb hby at_70) rfl k_) ?_
      obtain ⟨cq5, kq5, q5a, q5b, q5c⟩ := isOf hZ e4 (X_HEFT.ext O)
      obtain ⟨_, _, ⟨T5, Lu5, ku5, nu5⟩, -, X5, ⟨Lc5, hQ5, lu5, yu5, zu5⟩, st5⟩ := X4.virtualBack hx (y := (⟨"com/example/pokfulam/pokfulam/plan/Heuristic", "insertion", "(Z)Lcom/example/pokfulam/pokfulam/plan/Insertion;"⟩ : MethodName)) (z := (⟨"com/example/pokfulam/pokfulam/plan/Heuristic", "insertion", "(Z)Lcom/example/pokfulam/pokfulam/plan/Insertion;"⟩ : MethodName)) hown (mvT hZ (hw _ (List.mem_of_getElem? (i := 6) rfl))) (mvT hZ (hw _ (List.mem_of_getElem? (i := 7) rfl))) (notFace_of_selects (args := #[]) (mvT hZ (hw _ (List.mem_of_getElem? (i := 9) rfl)))) (mvT hZ (hw _ (List.mem_of_getElem? (i := 9) rfl))) (mvT hZ (hw _ (List.mem_of_getElem? (i := 8) rfl))) (by decide) (backOf (W := 0) (rm_ii l Z a0 hw [] (a_HEFT) ((0 : Int32)) (a_FIT) (a_FIT) h0 O F_HEFT_insertion F_HEFT_gapSearchInsertion) hZ (hw _ (List.mem_of_getElem? (i := 10) rfl)) (hw _ (List.mem_of_getElem? (i := 1) rfl)) (by decide) (by decide)) q5a q5c (g := (mkF m 71 #[.val (.int p0), .val (.int p1), .val (.int (0 : Int32)), .val (.int (0 : Int32)), .val (.ref a_HEFT), .val (.ref a_FIT)] [(.int (0 : Int32)), (.ref a_HEFT)])) rfl (by rw [hml]; rfl) (Steps.refl _) (argsL := [(.int (0 : Int32))]) (rest := []) (lenOf own_pd0 rfl) rfl (by show 2 * 0 + _ ≤ _; exact Nat.le_of_eq rfl) (hb hby at_71) (fun _ _ => ⟨rfl, e4, (by decide : 0 + 0 ≤ _), (by decide : 0 + 0 ≤ _)⟩)
      dsimp only [Pt.U, Pt.locs, Pt.cells, Pt.slots] at X5 lu5 yu5 zu5 st5 hQ5
      subst lu5 yu5 zu5
      obtain ⟨rfl, N5q, e5⟩ := hQ5
      have N5 := Fr.app N0 N5q
      refine own_go (T5.setTop (mkF m 74 #[.val (.int p0), .val (.int p1), .val (.int (0 : Int32)), .val (.int (0 : Int32)), .val (.ref a_HEFT), .val (.ref a_FIT)] [(.ref a_FIT)])) (fun t_ k_ => st5.trans k_) ?_
      refine own_go (T5.setTop (mkF m 76 #[.val (.int p0), .val (.int p1), .val (.int (0 : Int32)), .val (.int (0 : Int32)), .val (.ref a_HEFT), .val (.ref a_FIT)] [(.ref a_FIT), (.ref a_FIT)])) (fun t_ k_ => XS.aload X5.here hx rfl (hb hby at_74) rfl rfl k_) ?_
      refine own_go (T5.setTop (mkF m 79 #[.val (.int p0), .val (.int p1), .val (.int (0 : Int32)), .val (.int (0 : Int32)), .val (.ref a_HEFT), .val (.ref a_FIT)] [])) (fun t_ k_ => Jvm.RoadKit.acmp (g := (mkF m 76 #[.val (.int p0), .val (.int p1), .val (.int (0 : Int32)), .val (.int (0 : Int32)), .val (.ref a_HEFT), .val (.ref a_FIT)] [(.ref a_FIT), (.ref a_FIT)])) X5 hx rfl rfl rfl (pc0 := 76) (pc' := 79) (same := true) rfl (hb hby at_76) rfl (decide_eq_true rfl) (by decide) (by decide) k_) ?_
      refine own_go (T5.setTop (mkF m 80 #[.val (.int p0), .val (.int p1), .val (.int (0 : Int32)), .val (.int (0 : Int32)), .val (.ref a_HEFT), .val (.ref a_FIT)] [(.int (1 : Int32))])) (fun t_ k_ => XS.iconst X5.here hx rfl (hb hby at_79) k_) ?_
      refine own_go (T5.setTop (mkF m 84 #[.val (.int p0), .val (.int p1), .val (.int (0 : Int32)), .val (.int (0 : Int32)), .val (.ref a_HEFT), .val (.ref a_FIT)] [(.int (1 : Int32))])) (fun t_ k_ => XS.goto X5.here hx rfl (pc0 := 80) (pc' := 84) rfl (hb hby at_80) (by decide) (by decide) k_) ?_
      obtain ⟨fs, hr, hrun, hended, hW, hsame⟩ := X5.leave (v := some (.int (nar .boolean (1 : Int32)))) (fun h => by rw [Bd.returns] at h; cases h)
      refine ⟨_, _, retN X5 hx (t := .boolean) Bd.returns (by simp) (hb hby at_84) hr, hrun, hended, _, _, rfl, ?_, ⟨_, rfl⟩, hW, hsame.mono (by decide) (by decide)⟩
      show Q_law Z p0 p1 a_HEFT a_FIT a_PCH a_MARGIN a_NONE h0 _ T5.heap _
      exact ⟨rfl, N5, trivial⟩
    ·
      refine own_go (s₁.setTop (mkF m 18 #[.val (.int p0), .val (.int p1), .val (.int (0 : Int32)), .unset, .unset, .unset] [])) (fun t_ k_ => XS.ifNo X0.here hx rfl (hb hby at_15) rfl ((if0 _ _).trans (feq hc15_2).1) k_) ?_
      refine own_go (s₁.setTop (mkF m 19 #[.val (.int p0), .val (.int p1), .val (.int (0 : Int32)), .unset, .unset, .unset] [(.int (1 : Int32))])) (fun t_ k_ => XS.iconst X0.here hx rfl (hb hby at_18) k_) ?_
      refine own_go (s₁.setTop (mkF m 23 #[.val (.int p0), .val (.int p1), .val (.int (0 : Int32)), .unset, .unset, .unset] [(.int (1 : Int32))])) (fun t_ k_ => XS.goto X0.here hx rfl (pc0 := 19) (pc' := 23) rfl (hb hby at_19) (by decide) (by decide) k_) ?_
      refine own_go (s₁.setTop (mkF m 24 #[.val (.int p0), .val (.int p1), .val (.int (0 : Int32)), .val (.int (1 : Int32)), .unset, .unset] [])) (fun t_ k_ => XS.istoreN X0.here hx rfl (hb hby at_23) rfl (l' := #[.val (.int p0), .val (.int p1), .val (.int (0 : Int32)), .val (.int (1 : Int32)), .unset, .unset]) rfl k_) ?_
      refine own_go (s₁.setTop (mkF m 25 #[.val (.int p0), .val (.int p1), .val (.int (0 : Int32)), .val (.int (1 : Int32)), .unset, .unset] [(.int (0 : Int32))])) (fun t_ k_ => XS.iloadN X0.here hx rfl (hb hby at_24) rfl k_) ?_
      refine own_go (s₁.setTop (mkF m 34 #[.val (.int p0), .val (.int p1), .val (.int (0 : Int32)), .val (.int (1 : Int32)), .unset, .unset] [])) (fun t_ k_ => XS.ifYes X0.here hx rfl (pc0 := 25) (pc' := 34) rfl (hb hby at_25) rfl ((if0 _ _).trans (teq (by decide : (0 : Int32) = (0 : Int32))).1) (by decide) (by decide) k_) ?_
      obtain ⟨T6, X6, e6, st6⟩ := getS2 X0 hx hZ hown (host := "") (Or.inl (hw _ (List.mem_of_getElem? (i := 0) rfl))) Via.refl e0 (S_HEFT.ext O) (g := (mkF m 34 #[.val (.int p0), .val (.int p1), .val (.int (0 : Int32)), .val (.int (1 : Int32)), .unset, .unset] [])) rfl (hb hby at_34)
      refine own_go (T6.setTop (mkF m 37 #[.val (.int p0), .val (.int p1), .val (.int (0 : Int32)), .val (.int (1 : Int32)), .unset, .unset] [(.ref a_HEFT)])) (fun t_ k_ => st6 _ k_) ?_
      refine own_go (T6.setTop (mkF m 39 #[.val (.int p0), .val (.int p1), .val (.int (0 : Int32)), .val (.int (1 : Int32)), .val (.ref a_HEFT), .unset] [])) (fun t_ k_ => XS.astore X6.here hx rfl (hb hby at_37) rfl rfl (l' := #[.val (.int p0), .val (.int p1), .val (.int (0 : Int32)), .val (.int (1 : Int32)), .val (.ref a_HEFT), .unset]) rfl k_) ?_
      refine own_go (T6.setTop (mkF m 40 #[.val (.int p0), .val (.int p1), .val (.int (0 : Int32)), .val (.int (1 : Int32)), .val (.ref a_HEFT), .unset] [(.int (0 : Int32))])) (fun t_ k_ => XS.iloadN X6.here hx rfl (hb hby at_39) rfl k_) ?_
      refine own_go (T6.setTop (mkF m 43 #[.val (.int p0), .val (.int p1), .val (.int (0 : Int32)), .val (.int (1 : Int32)), .val (.ref a_HEFT), .unset] [])) (fun t_ k_ => XS.ifNo X6.here hx rfl (hb hby at_40) rfl ((if0 _ _).trans (teq (by decide : (0 : Int32) = (0 : Int32))).2) k_) ?_
      obtain ⟨T7, X7, e7, st7⟩ := getS2 X6 hx hZ hown (host := "") (Or.inl (hw _ (List.mem_of_getElem? (i := 3) rfl))) Via.refl e6 (S_FIT.ext O) (g := (mkF m 43 #[.val (.int p0), .val (.int p1), .val (.int (0 : Int32)), .val (.int (1 : Int32)), .val (.ref a_HEFT), .unset] [])) rfl (hb hby at_43)
      refine own_go (T7.setTop (mkF m 46 #[.val (.int p0), .val (.int p1), .val (.int (0 : Int32)), .val (.int (1 : Int32)), .val (.ref a_HEFT), .unset] [(.ref a_FIT)])) (fun t_ k_ => st7 _ k_) ?_
      refine own_go (T7.setTop (mkF m 48 #[.val (.int p0), .val (.int p1), .val (.int (0 : Int32)), .val (.int (1 : Int32)), .val (.ref a_HEFT), .val (.ref a_FIT)] [])) (fun t_ k_ => XS.astore X7.here hx rfl (hb hby at_46) rfl rfl (l' := #[.val (.int p0), .val (.int p1), .val (.int (0 : Int32)), .val (.int (1 : Int32)), .val (.ref a_HEFT), .val (.ref a_FIT)]) rfl k_) ?_
      refine own_go (T7.setTop (mkF m 68 #[.val (.int p0), .val (.int p1), .val (.int (0 : Int32)), .val (.int (1 : Int32)), .val (.ref a_HEFT), .val (.ref a_FIT)] [])) (fun t_ k_ => XS.goto X7.here hx rfl (pc0 := 48) (pc' := 68) rfl (hb hby at_48) (by decide) (by decide) k_) ?_
      refine own_go (T7.setTop (mkF m 70 #[.val (.int p0), .val (.int p1), .val (.int (0 : Int32)), .val (.int (1 : Int32)), .val (.ref a_HEFT), .val (.ref a_FIT)] [(.ref a_HEFT)])) (fun t_ k_ => XS.aload X7.here hx rfl (hb hby at_68) rfl rfl k_) ?_
      refine own_go (T7.setTop (mkF m 71 #[.val (.int p0), .val (.int p1), .val (.int (0 : Int32)), .val (.int (1 : Int32)), .val (.ref a_HEFT), .val (.ref a_FIT)] [(.int (1 : Int32)), (.ref a_HEFT)])) (fun t_ k_ => XS.iloadN X7.here hx rfl (hb hby at_70) rfl k_) ?_
      obtain ⟨cq8, kq8, q8a, q8b, q8c⟩ := isOf hZ e7 (X_HEFT.ext O)
      obtain ⟨_, _, ⟨T8, Lu8, ku8, nu8⟩, -, X8, ⟨Lc8, hQ8, lu8, yu8, zu8⟩, st8⟩ := X7.virtualBack hx (y := (⟨"com/example/pokfulam/pokfulam/plan/Heuristic", "insertion", "(Z)Lcom/example/pokfulam/pokfulam/plan/Insertion;"⟩ : MethodName)) (z := (⟨"com/example/pokfulam/pokfulam/plan/Heuristic", "insertion", "(Z)Lcom/example/pokfulam/pokfulam/plan/Insertion;"⟩ : MethodName)) hown (mvT hZ (hw _ (List.mem_of_getElem? (i := 6) rfl))) (mvT hZ (hw _ (List.mem_of_getElem? (i := 7) rfl))) (notFace_of_selects (args := #[]) (mvT hZ (hw _ (List.mem_of_getElem? (i := 9) rfl)))) (mvT hZ (hw _ (List.mem_of_getElem? (i := 9) rfl))) (mvT hZ (hw _ (List.mem_of_getElem? (i := 8) rfl))) (by decide) (backOf (W := 0) (rm_ii l Z a0 hw [] (a_HEFT) ((1 : Int32)) (a_FIT) (a_FIT) h0 O F_HEFT_insertion F_HEFT_gapSearchInsertion) hZ (hw _ (List.mem_of_getElem? (i := 10) rfl)) (hw _ (List.mem_of_getElem? (i := 1) rfl)) (by decide) (by decide)) q8a q8c (g := (mkF m 71 #[.val (.int p0), .val (.int p1), .val (.int (0 : Int32)), .val (.int (1 : Int32)), .val (.ref a_HEFT), .val (.ref a_FIT)] [(.int (1 : Int32)), (.ref a_HEFT)])) rfl (by rw [hml]; rfl) (Steps.refl _) (argsL := [(.int (1 : Int32))]) (rest := []) (lenOf own_pd0 rfl) rfl (by show 2 * 0 + _ ≤ _; exact Nat.le_of_eq rfl) (hb hby at_71) (fun _ _ => ⟨rfl, e7, (by decide : 0 + 0 ≤ _), (by decide : 0 + 0 ≤ _)⟩)
      dsimp only [Pt.U, Pt.locs, Pt.cells, Pt.slots] at X8 lu8 yu8 zu8 st8 hQ8
      subst lu8 yu8 zu8
      obtain ⟨rfl, N8q, e8⟩ := hQ8
      have N8 := Fr.app N0 N8q
      refine own_go (T8.setTop (mkF m 74 #[.val (.int p0), .val (.int p1), .val (.int (0 : Int32)), .val (.int (1 : Int32)), .val (.ref a_HEFT), .val (.ref a_FIT)] [(.ref a_FIT)])) (fun t_ k_ => st8.trans k_) ?_
      refine own_go (T8.setTop (mkF m 76 #[.val (.int p0), .val (.int p1), .val (.int (0 : Int32)), .val (.int (1 : Int32)), .val (.ref a_HEFT), .val (.ref a_FIT)] [(.ref a_FIT), (.ref a_FIT)])) (fun t_ k_ => XS.aload X8.here hx rfl (hb hby at_74) rfl rfl k_) ?_
      refine own_go (T8.setTop (mkF m 79 #[.val (.int p0), .val (.int p1), .val (.int (0 : Int32)), .val (.int (1 : Int32)), .val (.ref a_HEFT), .val (.ref a_FIT)] [])) (fun t_ k_ => Jvm.RoadKit.acmp (g := (mkF m 76 #[.val (.int p0), .val (.int p1), .val (.int (0 : Int32)), .val (.int (1 : Int32)), .val (.ref a_HEFT), .val (.ref a_FIT)] [(.ref a_FIT), (.ref a_FIT)])) X8 hx rfl rfl rfl (pc0 := 76) (pc' := 79) (same := true) rfl (hb hby at_76) rfl (decide_eq_true rfl) (by decide) (by decide) k_) ?_
      refine own_go (T8.setTop (mkF m 80 #[.val (.int p0), .val (.int p1), .val (.int (0 : Int32)), .val (.int (1 : Int32)), .val (.ref a_HEFT), .val (.ref a_FIT)] [(.int (1 : Int32))])) (fun t_ k_ => XS.iconst X8.here hx rfl (hb hby at_79) k_) ?_
      refine own_go (T8.setTop (mkF m 84 #[.val (.int p0), .val (.int p1), .val (.int (0 : Int32)), .val (.int (1 : Int32)), .val (.ref a_HEFT), .val (.ref a_FIT)] [(.int (1 : Int32))])) (fun t_ k_ => XS.goto X8.here hx rfl (pc0 := 80) (pc' := 84) rfl (hb hby at_80) (by decide) (by decide) k_) ?_
      obtain ⟨fs, hr, hrun, hended, hW, hsame⟩ := X8.leave (v := some (.int (nar .boolean (1 : Int32)))) (fun h => by rw [Bd.returns] at h; cases h)
      refine ⟨_, _, retN X8 hx (t := .boolean) Bd.returns (by simp) (hb hby at_84) hr, hrun, hended, _, _, rfl, ?_, ⟨_, rfl⟩, hW, hsame.mono (by decide) (by decide)⟩
      show Q_law Z p0 p1 a_HEFT a_FIT a_PCH a_MARGIN a_NONE h0 _ T8.heap _
      exact ⟨rfl, N8, trivial⟩
  ·
    refine own_go (s₁.setTop (mkF m 6 #[.val (.int p0), .val (.int p1), .unset, .unset, .unset, .unset] [])) (fun t_ k_ => XS.ifNo X0.here hx rfl (hb hby at_3) rfl ((if0 _ _).trans (feq hc3_1).1) k_) ?_
    refine own_go (s₁.setTop (mkF m 7 #[.val (.int p0), .val (.int p1), .unset, .unset, .unset, .unset] [(.int (1 : Int32))])) (fun t_ k_ => XS.iconst X0.here hx rfl (hb hby at_6) k_) ?_
    refine own_go (s₁.setTop (mkF m 11 #[.val (.int p0), .val (.int p1), .unset, .unset, .unset, .unset] [(.int (1 : Int32))])) (fun t_ k_ => XS.goto X0.here hx rfl (pc0 := 7) (pc' := 11) rfl (hb hby at_7) (by decide) (by decide) k_) ?_
    refine own_go (s₁.setTop (mkF m 12 #[.val (.int p0), .val (.int p1), .val (.int (1 : Int32)), .unset, .unset, .unset] [])) (fun t_ k_ => XS.istoreN X0.here hx rfl (hb hby at_11) rfl (l' := #[.val (.int p0), .val (.int p1), .val (.int (1 : Int32)), .unset, .unset, .unset]) rfl k_) ?_
    refine own_go (s₁.setTop (mkF m 13 #[.val (.int p0), .val (.int p1), .val (.int (1 : Int32)), .unset, .unset, .unset] [(.int p1)])) (fun t_ k_ => XS.iloadN X0.here hx rfl (hb hby at_12) rfl k_) ?_
    refine own_go (s₁.setTop (mkF m 14 #[.val (.int p0), .val (.int p1), .val (.int (1 : Int32)), .unset, .unset, .unset] [(.int (1 : Int32)), (.int p1)])) (fun t_ k_ => XS.iconst X0.here hx rfl (hb hby at_13) k_) ?_
    refine own_go (s₁.setTop (mkF m 15 #[.val (.int p0), .val (.int p1), .val (.int (1 : Int32)), .unset, .unset, .unset] [(.int (p1 &&& (1 : Int32)))])) (fun t_ k_ => XS.iand X0.here hx rfl (hb hby at_14) rfl k_) ?_
    by_cases hc15_9 : (p1 &&& (1 : Int32)) = (0 : Int32)
    ·
      refine own_go (s₁.setTop (mkF m 22 #[.val (.int p0), .val (.int p1), .val (.int (1 : Int32)), .unset, .unset, .unset] [])) (fun t_ k_ => XS.ifYes X0.here hx rfl (pc0 := 15) (pc' := 22) rfl (hb hby at_15) rfl ((if0 _ _).trans (teq hc15_9).1) (by decide) (by decide) k_) ?_
      refine own_go (s₁.setTop (mkF m 23 #[.val (.int p0), .val (.int p1), .val (.int (1 : Int32)), .unset, .unset, .unset] [(.int (0 : Int32))])) (fun t_ k_ => XS.iconst X0.here hx rfl (hb hby at_22) k_) ?_
      refine own_go (s₁.setTop (mkF m 24 #[.val (.int p0), .val (.int p1), .val (.int (1 : Int32)), .val (.int (0 : Int32)), .unset, .unset] [])) (fun t_ k_ => XS.istoreN X0.here hx rfl (hb hby at_23) rfl (l' := #[.val (.int p0), .val (.int p1), .val (.int (1 : Int32)), .val (.int (0 : Int32)), .unset, .unset]) rfl k_) ?_
      refine own_go (s₁.setTop (mkF m 25 #[.val (.int p0), .val (.int p1), .val (.int (1 : Int32)), .val (.int (0 : Int32)), .unset, .unset] [(.int (1 : Int32))])) (fun t_ k_ => XS.iloadN X0.here hx rfl (hb hby at_24) rfl k_) ?_
      refine own_go (s₁.setTop (mkF m 28 #[.val (.int p0), .val (.int p1), .val (.int (1 : Int32)), .val (.int (0 : Int32)), .unset, .unset] [])) (fun t_ k_ => XS.ifNo X0.here hx rfl (hb hby at_25) rfl ((if0 _ _).trans (feq (by decide : ¬ ((1 : Int32) = (0 : Int32)))).1) k_) ?_
      obtain ⟨T10, X10, e10, st10⟩ := getS2 X0 hx hZ hown (host := "") (Or.inl (hw _ (List.mem_of_getElem? (i := 15) rfl))) Via.refl e0 (S_PCH.ext O) (g := (mkF m 28 #[.val (.int p0), .val (.int p1), .val (.int (1 : Int32)), .val (.int (0 : Int32)), .unset, .unset] [])) rfl (hb hby at_28)
      refine own_go (T10.setTop (mkF m 31 #[.val (.int p0), .val (.int p1), .val (.int (1 : Int32)), .val (.int (0 : Int32)), .unset, .unset] [(.ref a_PCH)])) (fun t_ k_ => st10 _ k_) ?_
      refine own_go (T10.setTop (mkF m 37 #[.val (.int p0), .val (.int p1), .val (.int (1 : Int32)), .val (.int (0 : Int32)), .unset, .unset] [(.ref a_PCH)])) (fun t_ k_ => XS.goto X10.here hx rfl (pc0 := 31) (pc' := 37) rfl (hb hby at_31) (by decide) (by decide) k_) ?_
      refine own_go (T10.setTop (mkF m 39 #[.val (.int p0), .val (.int p1), .val (.int (1 : Int32)), .val (.int (0 : Int32)), .val (.ref a_PCH), .unset] [])) (fun t_ k_ => XS.astore X10.here hx rfl (hb hby at_37) rfl rfl (l' := #[.val (.int p0), .val (.int p1), .val (.int (1 : Int32)), .val (.int (0 : Int32)), .val (.ref a_PCH), .unset]) rfl k_) ?_
      refine own_go (T10.setTop (mkF m 40 #[.val (.int p0), .val (.int p1), .val (.int (1 : Int32)), .val (.int (0 : Int32)), .val (.ref a_PCH), .unset] [(.int (1 : Int32))])) (fun t_ k_ => XS.iloadN X10.here hx rfl (hb hby at_39) rfl k_) ?_
      refine own_go (T10.setTop (mkF m 51 #[.val (.int p0), .val (.int p1), .val (.int (1 : Int32)), .val (.int (0 : Int32)), .val (.ref a_PCH), .unset] [])) (fun t_ k_ => XS.ifYes X10.here hx rfl (pc0 := 40) (pc' := 51) rfl (hb hby at_40) rfl ((if0 _ _).trans (feq (by decide : ¬ ((1 : Int32) = (0 : Int32)))).2) (by decide) (by decide) k_) ?_
      refine own_go (T10.setTop (mkF m 52 #[.val (.int p0), .val (.int p1), .val (.int (1 : Int32)), .val (.int (0 : Int32)), .val (.ref a_PCH), .unset] [(.int (0 : Int32))])) (fun t_ k_ => XS.iloadN X10.here hx rfl (hb hby at_51) rfl k_) ?_
      refine own_go (T10.setTop (mkF m 63 #[.val (.int p0), .val (.int p1), .val (.int (1 : Int32)), .val (.int (0 : Int32)), .val (.ref a_PCH), .unset] [])) (fun t_ k_ => XS.ifYes X10.here hx rfl (pc0 := 52) (pc' := 63) rfl (hb hby at_52) rfl ((if0 _ _).trans (teq (by decide : (0 : Int32) = (0 : Int32))).1) (by decide) (by decide) k_) ?_
      obtain ⟨T11, X11, e11, st11⟩ := getS2 X10 hx hZ hown (host := "") (Or.inl (hw _ (List.mem_of_getElem? (i := 23) rfl))) Via.refl e10 (S_NONE.ext O) (g := (mkF m 63 #[.val (.int p0), .val (.int p1), .val (.int (1 : Int32)), .val (.int (0 : Int32)), .val (.ref a_PCH), .unset] [])) rfl (hb hby at_63)
      refine own_go (T11.setTop (mkF m 66 #[.val (.int p0), .val (.int p1), .val (.int (1 : Int32)), .val (.int (0 : Int32)), .val (.ref a_PCH), .unset] [(.ref a_NONE)])) (fun t_ k_ => st11 _ k_) ?_
      refine own_go (T11.setTop (mkF m 68 #[.val (.int p0), .val (.int p1), .val (.int (1 : Int32)), .val (.int (0 : Int32)), .val (.ref a_PCH), .val (.ref a_NONE)] [])) (fun t_ k_ => XS.astore X11.here hx rfl (hb hby at_66) rfl rfl (l' := #[.val (.int p0), .val (.int p1), .val (.int (1 : Int32)), .val (.int (0 : Int32)), .val (.ref a_PCH), .val (.ref a_NONE)]) rfl k_) ?_
      refine own_go (T11.setTop (mkF m 70 #[.val (.int p0), .val (.int p1), .val (.int (1 : Int32)), .val (.int (0 : Int32)), .val (.ref a_PCH), .val (.ref a_NONE)] [(.ref a_PCH)])) (fun t_ k_ => XS.aload X11.here hx rfl (hb hby at_68) rfl rfl k_) ?_
      refine own_go (T11.setTop (mkF m 71 #[.val (.int p0), .val (.int p1), .val (.int (1 : Int32)), .val (.int (0 : Int32)), .val (.ref a_PCH), .val (.ref a_NONE)] [(.int (0 : Int32)), (.ref a_PCH)])) (fun t_ k_ => XS.iloadN X11.here hx rfl (hb hby at_70) rfl k_) ?_
      obtain ⟨cq12, kq12, q12a, q12b, q12c⟩ := isOf hZ e11 (X_PCH.ext O)
      obtain ⟨_, _, ⟨T12, Lu12, ku12, nu12⟩, -, X12, ⟨Lc12, hQ12, lu12, yu12, zu12⟩, st12⟩ := X11.virtualBack hx (y := (⟨"com/example/pokfulam/pokfulam/plan/Heuristic", "insertion", "(Z)Lcom/example/pokfulam/pokfulam/plan/Insertion;"⟩ : MethodName)) (z := (⟨"com/example/pokfulam/pokfulam/plan/Heuristic", "insertion", "(Z)Lcom/example/pokfulam/pokfulam/plan/Insertion;"⟩ : MethodName)) hown (mvT hZ (hw _ (List.mem_of_getElem? (i := 6) rfl))) (mvT hZ (hw _ (List.mem_of_getElem? (i := 7) rfl))) (notFace_of_selects (args := #[]) (mvT hZ (hw _ (List.mem_of_getElem? (i := 19) rfl)))) (mvT hZ (hw _ (List.mem_of_getElem? (i := 19) rfl))) (mvT hZ (hw _ (List.mem_of_getElem? (i := 8) rfl))) (by decide) (backOf (W := 0) (rm_ii l Z a0 hw [] (a_PCH) ((0 : Int32)) (a_NONE) (a_MARGIN) h0 O F_PCH_insertion F_PCH_gapSearchInsertion) hZ (hw _ (List.mem_of_getElem? (i := 10) rfl)) (hw _ (List.mem_of_getElem? (i := 1) rfl)) (by decide) (by decide)) q12a q12c (g := (mkF m 71 #[.val (.int p0), .val (.int p1), .val (.int (1 : Int32)), .val (.int (0 : Int32)), .val (.ref a_PCH), .val (.ref a_NONE)] [(.int (0 : Int32)), (.ref a_PCH)])) rfl (by rw [hml]; rfl) (Steps.refl _) (argsL := [(.int (0 : Int32))]) (rest := []) (lenOf own_pd0 rfl) rfl (by show 2 * 0 + _ ≤ _; exact Nat.le_of_eq rfl) (hb hby at_71) (fun _ _ => ⟨rfl, e11, (by decide : 0 + 0 ≤ _), (by decide : 0 + 0 ≤ _)⟩)
      dsimp only [Pt.U, Pt.locs, Pt.cells, Pt.slots] at X12 lu12 yu12 zu12 st12 hQ12
      subst lu12 yu12 zu12
      obtain ⟨rfl, N12q, e12⟩ := hQ12
      have N12 := Fr.app N0 N12q
      refine own_go (T12.setTop (mkF m 74 #[.val (.int p0), .val (.int p1), .val (.int (1 : Int32)), .val (.int (0 : Int32)), .val (.ref a_PCH), .val (.ref a_NONE)] [(.ref a_NONE)])) (fun t_ k_ => st12.trans k_) ?_
      refine own_go (T12.setTop (mkF m 76 #[.val (.int p0), .val (.int p1), .val (.int (1 : Int32)), .val (.int (0 : Int32)), .val (.ref a_PCH), .val (.ref a_NONE)] [(.ref a_NONE), (.ref a_NONE)])) (fun t_ k_ => XS.aload X12.here hx rfl (hb hby at_74) rfl rfl k_) ?_
      refine own_go (T12.setTop (mkF m 79 #[.val (.int p0), .val (.int p1), .val (.int (1 : Int32)), .val (.int (0 : Int32)), .val (.ref a_PCH), .val (.ref a_NONE)] [])) (fun t_ k_ => Jvm.RoadKit.acmp (g := (mkF m 76 #[.val (.int p0), .val (.int p1), .val (.int (1 : Int32)), .val (.int (0 : Int32)), .val (.ref a_PCH), .val (.ref a_NONE)] [(.ref a_NONE), (.ref a_NONE)])) X12 hx rfl rfl rfl (pc0 := 76) (pc' := 79) (same := true) rfl (hb hby at_76) rfl (decide_eq_true rfl) (by decide) (by decide) k_) ?_
      refine own_go (T12.setTop (mkF m 80 #[.val (.int p0), .val (.int p1), .val (.int (1 : Int32)), .val (.int (0 : Int32)), .val (.ref a_PCH), .val (.ref a_NONE)] [(.int (1 : Int32))])) (fun t_ k_ => XS.iconst X12.here hx rfl (hb hby at_79) k_) ?_
      refine own_go (T12.setTop (mkF m 84 #[.val (.int p0), .val (.int p1), .val (.int (1 : Int32)), .val (.int (0 : Int32)), .val (.ref a_PCH), .val (.ref a_NONE)] [(.int (1 : Int32))])) (fun t_ k_ => XS.goto X12.here hx rfl (pc0 := 80) (pc' := 84) rfl (hb hby at_80) (by decide) (by decide) k_) ?_
      obtain ⟨fs, hr, hrun, hended, hW, hsame⟩ := X12.leave (v := some (.int (nar .boolean (1 : Int32)))) (fun h => by rw [Bd.returns] at h; cases h)
      refine ⟨_, _, retN X12 hx (t := .boolean) Bd.returns (by simp) (hb hby at_84) hr, hrun, hended, _, _, rfl, ?_, ⟨_, rfl⟩, hW, hsame.mono (by decide) (by decide)⟩
      show Q_law Z p0 p1 a_HEFT a_FIT a_PCH a_MARGIN a_NONE h0 _ T12.heap _
      exact ⟨rfl, N12, trivial⟩
    ·
      refine own_go (s₁.setTop (mkF m 18 #[.val (.int p0), .val (.int p1), .val (.int (1 : Int32)), .unset, .unset, .unset] [])) (fun t_ k_ => XS.ifNo X0.here hx rfl (hb hby at_15) rfl ((if0 _ _).trans (feq hc15_9).1) k_) ?_
      refine own_go (s₁.setTop (mkF m 19 #[.val (.int p0), .val (.int p1), .val (.int (1 : Int32)), .unset, .unset, .unset] [(.int (1 : Int32))])) (fun t_ k_ => XS.iconst X0.here hx rfl (hb hby at_18) k_) ?_
      refine own_go (s₁.setTop (mkF m 23 #[.val (.int p0), .val (.int p1), .val (.int (1 : Int32)), .unset, .unset, .unset] [(.int (1 : Int32))])) (fun t_ k_ => XS.goto X0.here hx rfl (pc0 := 19) (pc' := 23) rfl (hb hby at_19) (by decide) (by decide) k_) ?_
      refine own_go (s₁.setTop (mkF m 24 #[.val (.int p0), .val (.int p1), .val (.int (1 : Int32)), .val (.int (1 : Int32)), .unset, .unset] [])) (fun t_ k_ => XS.istoreN X0.here hx rfl (hb hby at_23) rfl (l' := #[.val (.int p0), .val (.int p1), .val (.int (1 : Int32)), .val (.int (1 : Int32)), .unset, .unset]) rfl k_) ?_
      refine own_go (s₁.setTop (mkF m 25 #[.val (.int p0), .val (.int p1), .val (.int (1 : Int32)), .val (.int (1 : Int32)), .unset, .unset] [(.int (1 : Int32))])) (fun t_ k_ => XS.iloadN X0.here hx rfl (hb hby at_24) rfl k_) ?_
      refine own_go (s₁.setTop (mkF m 28 #[.val (.int p0), .val (.int p1), .val (.int (1 : Int32)), .val (.int (1 : Int32)), .unset, .unset] [])) (fun t_ k_ => XS.ifNo X0.here hx rfl (hb hby at_25) rfl ((if0 _ _).trans (feq (by decide : ¬ ((1 : Int32) = (0 : Int32)))).1) k_) ?_
      obtain ⟨T13, X13, e13, st13⟩ := getS2 X0 hx hZ hown (host := "") (Or.inl (hw _ (List.mem_of_getElem? (i := 15) rfl))) Via.refl e0 (S_PCH.ext O) (g := (mkF m 28 #[.val (.int p0), .val (.int p1), .val (.int (1 : Int32)), .val (.int (1 : Int32)), .unset, .unset] [])) rfl (hb hby at_28)
      refine own_go (T13.setTop (mkF m 31 #[.val (.int p0), .val (.int p1), .val (.int (1 : Int32)), .val (.int (1 : Int32)), .unset, .unset] [(.ref a_PCH)])) (fun t_ k_ => st13 _ k_) ?_
      refine own_go (T13.setTop (mkF m 37 #[.val (.int p0), .val (.int p1), .val (.int (1 : Int32)), .val (.int (1 : Int32)), .unset, .unset] [(.ref a_PCH)])) (fun t_ k_ => XS.goto X13.here hx rfl (pc0 := 31) (pc' := 37) rfl (hb hby at_31) (by decide) (by decide) k_) ?_
      refine own_go (T13.setTop (mkF m 39 #[.val (.int p0), .val (.int p1), .val (.int (1 : Int32)), .val (.int (1 : Int32)), .val (.ref a_PCH), .unset] [])) (fun t_ k_ => XS.astore X13.here hx rfl (hb hby at_37) rfl rfl (l' := #[.val (.int p0), .val (.int p1), .val (.int (1 : Int32)), .val (.int (1 : Int32)), .val (.ref a_PCH), .unset]) rfl k_) ?_
      refine own_go (T13.setTop (mkF m 40 #[.val (.int p0), .val (.int p1), .val (.int (1 : Int32)), .val (.int (1 : Int32)), .val (.ref a_PCH), .unset] [(.int (1 : Int32))])) (fun t_ k_ => XS.iloadN X13.here hx rfl (hb hby at_39) rfl k_) ?_
      refine own_go (T13.setTop (mkF m 51 #[.val (.int p0), .val (.int p1), .val (.int (1 : Int32)), .val (.int (1 : Int32)), .val (.ref a_PCH), .unset] [])) (fun t_ k_ => XS.ifYes X13.here hx rfl (pc0 := 40) (pc' := 51) rfl (hb hby at_40) rfl ((if0 _ _).trans (feq (by decide : ¬ ((1 : Int32) = (0 : Int32)))).2) (by decide) (by decide) k_) ?_
      refine own_go (T13.setTop (mkF m 52 #[.val (.int p0), .val (.int p1), .val (.int (1 : Int32)), .val (.int (1 : Int32)), .val (.ref a_PCH), .unset] [(.int (1 : Int32))])) (fun t_ k_ => XS.iloadN X13.here hx rfl (hb hby at_51) rfl k_) ?_
      refine own_go (T13.setTop (mkF m 55 #[.val (.int p0), .val (.int p1), .val (.int (1 : Int32)), .val (.int (1 : Int32)), .val (.ref a_PCH), .unset] [])) (fun t_ k_ => XS.ifNo X13.here hx rfl (hb hby at_52) rfl ((if0 _ _).trans (feq (by decide : ¬ ((1 : Int32) = (0 : Int32)))).1) k_) ?_
      obtain ⟨T14, X14, e14, st14⟩ := getS2 X13 hx hZ hown (host := "") (Or.inl (hw _ (List.mem_of_getElem? (i := 17) rfl))) Via.refl e13 (S_MARGIN.ext O) (g := (mkF m 55 #[.val (.int p0), .val (.int p1), .val (.int (1 : Int32)), .val (.int (1 : Int32)), .val (.ref a_PCH), .unset] [])) rfl (hb hby at_55)
      refine own_go (T14.setTop (mkF m 58 #[.val (.int p0), .val (.int p1), .val (.int (1 : Int32)), .val (.int (1 : Int32)), .val (.ref a_PCH), .unset] [(.ref a_MARGIN)])) (fun t_ k_ => st14 _ k_) ?_
      refine own_go (T14.setTop (mkF m 60 #[.val (.int p0), .val (.int p1), .val (.int (1 : Int32)), .val (.int (1 : Int32)), .val (.ref a_PCH), .val (.ref a_MARGIN)] [])) (fun t_ k_ => XS.astore X14.here hx rfl (hb hby at_58) rfl rfl (l' := #[.val (.int p0), .val (.int p1), .val (.int (1 : Int32)), .val (.int (1 : Int32)), .val (.ref a_PCH), .val (.ref a_MARGIN)]) rfl k_) ?_
      refine own_go (T14.setTop (mkF m 68 #[.val (.int p0), .val (.int p1), .val (.int (1 : Int32)), .val (.int (1 : Int32)), .val (.ref a_PCH), .val (.ref a_MARGIN)] [])) (fun t_ k_ => XS.goto X14.here hx rfl (pc0 := 60) (pc' := 68) rfl (hb hby at_60) (by decide) (by decide) k_) ?_
      refine own_go (T14.setTop (mkF m 70 #[.val (.int p0), .val (.int p1), .val (.int (1 : Int32)), .val (.int (1 : Int32)), .val (.ref a_PCH), .val (.ref a_MARGIN)] [(.ref a_PCH)])) (fun t_ k_ => XS.aload X14.here hx rfl (hb hby at_68) rfl rfl k_) ?_
      refine own_go (T14.setTop (mkF m 71 #[.val (.int p0), .val (.int p1), .val (.int (1 : Int32)), .val (.int (1 : Int32)), .val (.ref a_PCH), .val (.ref a_MARGIN)] [(.int (1 : Int32)), (.ref a_PCH)])) (fun t_ k_ => XS.iloadN X14.here hx rfl (hb hby at_70) rfl k_) ?_
      obtain ⟨cq15, kq15, q15a, q15b, q15c⟩ := isOf hZ e14 (X_PCH.ext O)
      obtain ⟨_, _, ⟨T15, Lu15, ku15, nu15⟩, -, X15, ⟨Lc15, hQ15, lu15, yu15, zu15⟩, st15⟩ := X14.virtualBack hx (y := (⟨"com/example/pokfulam/pokfulam/plan/Heuristic", "insertion", "(Z)Lcom/example/pokfulam/pokfulam/plan/Insertion;"⟩ : MethodName)) (z := (⟨"com/example/pokfulam/pokfulam/plan/Heuristic", "insertion", "(Z)Lcom/example/pokfulam/pokfulam/plan/Insertion;"⟩ : MethodName)) hown (mvT hZ (hw _ (List.mem_of_getElem? (i := 6) rfl))) (mvT hZ (hw _ (List.mem_of_getElem? (i := 7) rfl))) (notFace_of_selects (args := #[]) (mvT hZ (hw _ (List.mem_of_getElem? (i := 19) rfl)))) (mvT hZ (hw _ (List.mem_of_getElem? (i := 19) rfl))) (mvT hZ (hw _ (List.mem_of_getElem? (i := 8) rfl))) (by decide) (backOf (W := 0) (rm_ii l Z a0 hw [] (a_PCH) ((1 : Int32)) (a_NONE) (a_MARGIN) h0 O F_PCH_insertion F_PCH_gapSearchInsertion) hZ (hw _ (List.mem_of_getElem? (i := 10) rfl)) (hw _ (List.mem_of_getElem? (i := 1) rfl)) (by decide) (by decide)) q15a q15c (g := (mkF m 71 #[.val (.int p0), .val (.int p1), .val (.int (1 : Int32)), .val (.int (1 : Int32)), .val (.ref a_PCH), .val (.ref a_MARGIN)] [(.int (1 : Int32)), (.ref a_PCH)])) rfl (by rw [hml]; rfl) (Steps.refl _) (argsL := [(.int (1 : Int32))]) (rest := []) (lenOf own_pd0 rfl) rfl (by show 2 * 0 + _ ≤ _; exact Nat.le_of_eq rfl) (hb hby at_71) (fun _ _ => ⟨rfl, e14, (by decide : 0 + 0 ≤ _), (by decide : 0 + 0 ≤ _)⟩)
      dsimp only [Pt.U, Pt.locs, Pt.cells, Pt.slots] at X15 lu15 yu15 zu15 st15 hQ15
      subst lu15 yu15 zu15
      obtain ⟨rfl, N15q, e15⟩ := hQ15
      have N15 := Fr.app N0 N15q
      refine own_go (T15.setTop (mkF m 74 #[.val (.int p0), .val (.int p1), .val (.int (1 : Int32)), .val (.int (1 : Int32)), .val (.ref a_PCH), .val (.ref a_MARGIN)] [(.ref a_MARGIN)])) (fun t_ k_ => st15.trans k_) ?_
      refine own_go (T15.setTop (mkF m 76 #[.val (.int p0), .val (.int p1), .val (.int (1 : Int32)), .val (.int (1 : Int32)), .val (.ref a_PCH), .val (.ref a_MARGIN)] [(.ref a_MARGIN), (.ref a_MARGIN)])) (fun t_ k_ => XS.aload X15.here hx rfl (hb hby at_74) rfl rfl k_) ?_
      refine own_go (T15.setTop (mkF m 79 #[.val (.int p0), .val (.int p1), .val (.int (1 : Int32)), .val (.int (1 : Int32)), .val (.ref a_PCH), .val (.ref a_MARGIN)] [])) (fun t_ k_ => Jvm.RoadKit.acmp (g := (mkF m 76 #[.val (.int p0), .val (.int p1), .val (.int (1 : Int32)), .val (.int (1 : Int32)), .val (.ref a_PCH), .val (.ref a_MARGIN)] [(.ref a_MARGIN), (.ref a_MARGIN)])) X15 hx rfl rfl rfl (pc0 := 76) (pc' := 79) (same := true) rfl (hb hby at_76) rfl (decide_eq_true rfl) (by decide) (by decide) k_) ?_
      refine own_go (T15.setTop (mkF m 80 #[.val (.int p0), .val (.int p1), .val (.int (1 : Int32)), .val (.int (1 : Int32)), .val (.ref a_PCH), .val (.ref a_MARGIN)] [(.int (1 : Int32))])) (fun t_ k_ => XS.iconst X15.here hx rfl (hb hby at_79) k_) ?_
      refine own_go (T15.setTop (mkF m 84 #[.val (.int p0), .val (.int p1), .val (.int (1 : Int32)), .val (.int (1 : Int32)), .val (.ref a_PCH), .val (.ref a_MARGIN)] [(.int (1 : Int32))])) (fun t_ k_ => XS.goto X15.here hx rfl (pc0 := 80) (pc' := 84) rfl (hb hby at_80) (by decide) (by decide) k_) ?_
      obtain ⟨fs, hr, hrun, hended, hW, hsame⟩ := X15.leave (v := some (.int (nar .boolean (1 : Int32)))) (fun h => by rw [Bd.returns] at h; cases h)
      refine ⟨_, _, retN X15 hx (t := .boolean) Bd.returns (by simp) (hb hby at_84) hr, hrun, hended, _, _, rfl, ?_, ⟨_, rfl⟩, hW, hsame.mono (by decide) (by decide)⟩
      show Q_law Z p0 p1 a_HEFT a_FIT a_PCH a_MARGIN a_NONE h0 _ T15.heap _
      exact ⟨rfl, N15, trivial⟩
set_option maxRecDepth 65536 in
set_option maxHeartbeats 40000000 in
theorem comes_1 {Post : Tables → Env → Array Value → State → Outcome → State → Prop} (hpost : ∀ tb e args s v u, (limb_1_1.after args s (.returned v) u = true ∧ limb_1_2.after args s (.returned v) u = true ∧ True) → FrameEnd s (.returned v) u (Jvm.fieldLocs frame_1_writes args s ++ Jvm.arrayLocs frame_1_arrays args s ++ Jvm.staticLocs frame_1_statics s) 0 0 → Post tb e args s (.returned v) u) :
    ArmFor flags0 classFile x code maxLocals ret World_1 tables_1 room_1 Calls_1 rest_1 Pre_1 Post := by
  intro l hfl _ _ p e ha hc hk s m args below hf hA hF happ hP
  obtain ⟨hcalls, hrest, hpre⟩ := hP
  obtain ⟨-, -, -, hnamed, -, -, -, hat⟩ := (Spec.applies_iff hf).mp happ
  obtain ⟨hg, hn⟩ := and_e (Cond.before_iff.mp (show (Jvm.Cond.and given_1 narrow_1).before args s = true from hpre))
  obtain ⟨g1, g2⟩ := and_e hg
  obtain ⟨g3, g4⟩ := and_e g2
  obtain ⟨w0, w1, rfl⟩ : ∃ w0 w1 : Value, args = #[w0, w1] := by
    have hs : args.size = 2 := by simpa [Cond.value, given_1] using g1
    obtain ⟨L⟩ := args
    match L, hs with
    | [w0, w1], _ => exact ⟨w0, w1, rfl⟩
  have hw := fun d (hd : d ∈ tables_1) => atoms_spec (ws := Jvm.Cond.code x code maxLocals ret :: tables_1) hat d (List.mem_cons_of_mem _ hd)
  have hfit : Fit s := fun {y c} hc i hi => by
    obtain ⟨ha, rfl⟩ := Array.getElem?_eq_some_iff.mp hc
    have q := List.all_eq_true.mp ((Array.all_eq_true_iff_forall_mem.mp hF) _ (Array.getElem_mem ha)) i (List.mem_range.mpr hi)
    simpa [Array.getElem?_eq_getElem hi] using q
  obtain ⟨i0, ei0⟩ := is_v g3
  obtain rfl : w0 = (.int i0) := Option.some.inj ei0
  obtain ⟨i1, ei1⟩ := is_v g4
  obtain rfl : w1 = (.int i1) := Option.some.inj ei1
  obtain ⟨hn1, hn2⟩ := and_e hn
  obtain ⟨hn21, hn22⟩ := and_e hn2
  obtain ⟨hn221, hn222⟩ := and_e hn22
  obtain ⟨hn2221, hn2222⟩ := and_e hn222
  obtain ⟨hn22221, hn22222⟩ := and_e hn2222
  obtain ⟨hn222221, hn222222⟩ := and_e hn22222
  obtain ⟨hn2222221, hn2222222⟩ := and_e hn222222
  obtain ⟨hn22222221, hn22222222⟩ := and_e hn2222222
  obtain ⟨a_HEFT, ev_HEFT⟩ := exa_v hn1
  have S_HEFT : Sta s s.heap "com/example/pokfulam/pokfulam/plan/Heuristic" "HEFT" "Lcom/example/pokfulam/pokfulam/plan/Heuristic;" (.ref a_HEFT) := Sta.start ev_HEFT (Or.inr ⟨(hw _ (List.mem_of_getElem? (i := 1) rfl)), (hw _ (List.mem_of_getElem? (i := 2) rfl))⟩)
  have X_HEFT : Exa s s.heap a_HEFT "com/example/pokfulam/pokfulam/plan/Heuristic$1" := Exa.start ev_HEFT hn1
  obtain ⟨a_FIT, ev_FIT⟩ := exa_v hn21
  have S_FIT : Sta s s.heap "com/example/pokfulam/pokfulam/plan/Insertion" "FIT" "Lcom/example/pokfulam/pokfulam/plan/Insertion;" (.ref a_FIT) := Sta.start ev_FIT (Or.inr ⟨(hw _ (List.mem_of_getElem? (i := 4) rfl)), (hw _ (List.mem_of_getElem? (i := 5) rfl))⟩)
  have X_FIT : Exa s s.heap a_FIT "com/example/pokfulam/pokfulam/plan/Insertion" := Exa.start ev_FIT hn21
  obtain ⟨a_PCH, ev_PCH⟩ := exa_v hn22221
  have S_PCH : Sta s s.heap "com/example/pokfulam/pokfulam/plan/Heuristic" "PCH" "Lcom/example/pokfulam/pokfulam/plan/Heuristic;" (.ref a_PCH) := Sta.start ev_PCH (Or.inr ⟨(hw _ (List.mem_of_getElem? (i := 1) rfl)), (hw _ (List.mem_of_getElem? (i := 16) rfl))⟩)
  have X_PCH : Exa s s.heap a_PCH "com/example/pokfulam/pokfulam/plan/Heuristic$2" := Exa.start ev_PCH hn22221
  obtain ⟨a_MARGIN, ev_MARGIN⟩ := exa_v hn222221
  have S_MARGIN : Sta s s.heap "com/example/pokfulam/pokfulam/plan/Insertion" "MARGIN" "Lcom/example/pokfulam/pokfulam/plan/Insertion;" (.ref a_MARGIN) := Sta.start ev_MARGIN (Or.inr ⟨(hw _ (List.mem_of_getElem? (i := 4) rfl)), (hw _ (List.mem_of_getElem? (i := 18) rfl))⟩)
  have X_MARGIN : Exa s s.heap a_MARGIN "com/example/pokfulam/pokfulam/plan/Insertion" := Exa.start ev_MARGIN hn222221
  obtain ⟨a_NONE, ev_NONE⟩ := exa_v hn2222221
  have S_NONE : Sta s s.heap "com/example/pokfulam/pokfulam/plan/Insertion" "NONE" "Lcom/example/pokfulam/pokfulam/plan/Insertion;" (.ref a_NONE) := Sta.start ev_NONE (Or.inr ⟨(hw _ (List.mem_of_getElem? (i := 4) rfl)), (hw _ (List.mem_of_getElem? (i := 21) rfl))⟩)
  have X_NONE : Exa s s.heap a_NONE "com/example/pokfulam/pokfulam/plan/Insertion" := Exa.start ev_NONE hn2222221
  have F_HEFT_insertion : Fld s s.heap a_HEFT "com/example/pokfulam/pokfulam/plan/Heuristic" "insertion" "Lcom/example/pokfulam/pokfulam/plan/Insertion;" (.ref a_FIT) := own_fldV hn221 ev_HEFT ev_FIT
  have F_HEFT_gapSearchInsertion : Fld s s.heap a_HEFT "com/example/pokfulam/pokfulam/plan/Heuristic" "gapSearchInsertion" "Lcom/example/pokfulam/pokfulam/plan/Insertion;" (.ref a_FIT) := own_fldV hn2221 ev_HEFT ev_FIT
  have F_PCH_insertion : Fld s s.heap a_PCH "com/example/pokfulam/pokfulam/plan/Heuristic" "insertion" "Lcom/example/pokfulam/pokfulam/plan/Insertion;" (.ref a_NONE) := own_fldV hn22222221 ev_PCH ev_NONE
  have F_PCH_gapSearchInsertion : Fld s s.heap a_PCH "com/example/pokfulam/pokfulam/plan/Heuristic" "gapSearchInsertion" "Lcom/example/pokfulam/pokfulam/plan/Insertion;" (.ref a_MARGIN) := own_fldV hn22222222 ev_PCH ev_MARGIN
  obtain ⟨n, o, h1, h2, h3, _, L, rfl, ⟨rfl, N, -⟩, hq⟩ := rm_law l s _ hw tables_1 i0 i1 a_HEFT a_FIT a_PCH a_MARGIN a_NONE s.heap ⟨Nat.le_refl _, fun _ _ q => q⟩ ⟨S_HEFT, X_HEFT, S_FIT, X_FIT, S_PCH, X_PCH, S_MARGIN, X_MARGIN, S_NONE, X_NONE, F_HEFT_insertion, F_HEFT_gapSearchInsertion, F_PCH_insertion, F_PCH_gapSearchInsertion⟩  p e ha hc hk s m _ below hf ((Spec.applies_iff_loose hf).mp happ).1 ⟨rfl, State.Warmed39.refl s, rfl⟩ trivial
  refine ⟨n, _, h1, h2, h3, hpost _ _ _ _ _ _ ⟨Cond.after_iff.mpr rfl, Cond.after_iff.mpr (eq_i res_at (Term.int_eval (1)) rfl), trivial⟩ ⟨hq.1, hq.2.1, (hq.2.2.sift fun y hy => Or.inr (N y hy)).mono (by decide) (by decide)⟩⟩
theorem main_1_1 : Claimed_1_1 := comes_1 fun _ _ _ _ _ _ h hF => ⟨h.1, hF⟩
theorem main_1_2 : Claimed_1_2 := comes_1 fun _ _ _ _ _ _ h hF => ⟨h.2.1, hF⟩
end Jvm.Pilot.@@N@@
namespace Jvm.Pilot.@@N@@
open Jvm Jvm.ClassFile Sem Op Lib Jvm.Free Jvm.Stand Jvm.Pilot.@@N@@.Jvm.D
/-! MADE BY PROGRAM (witnessworld.py) out of the Statement's table words and the real class files: 15 classes; the members and pool entries that the words name. The judged class is class 1, her method 1. -/
namespace start1
open Jvm.ClassFile
def u (s : String) : CpInfo := .utf8 (stringToUtf16 s)
/-- a pool by its gaps: so many unusable entries, then the entry; so many at the end -/
def gap : Nat → List CpInfo → List CpInfo
  | 0, r => r
  | n + 1, r => .unusable :: gap n r
def poolList (es : List (Nat × CpInfo)) (last : Nat) : List CpInfo := es.foldr (fun e r => gap e.1 (e.2 :: r)) (gap last [])
def pool (es : List (Nat × CpInfo)) (last : Nat) : Array CpInfo := ⟨poolList es last⟩
def fileOf (pool : Array CpInfo) (this : Nat) (attrs : Array Attribute := #[]) (ms : Array MethodInfo := #[]) (fl : Nat := 33) (sup : Nat := 0) (ifs : Array Nat := #[]) (fds : Array FieldInfo := #[]) : ClassFile where
  minorVersion := 0
  majorVersion := 65
  constantPool := pool
  accessFlags := fl
  thisClass := this
  superClass := sup
  interfaces := ifs
  fields := fds
  methods := ms
  attributes := attrs
def plain (name : String) (sup : Option ClassId) : Class where
  name := name
  kind := .ordinary
  loader := none
  accessFlags := 33
  super := sup
  interfaces := #[]
  cf := none
  fields := #[]
  methods := #[]
  instanceTypes := #[]
  staticTypes := #[]
  resolved := #[]
  callSites := []
  init := .initialized
  statics := none
  mirror := none

def pool0 : Array CpInfo := pool [(5, u "<init>"), (0, u "()V"), (1, .class_ 10), (1, u "java/lang/Object")] 113

def k0m0 : Method := { name := "<init>", desc := "()V", sig := { parameters := [], returnType := none }, accessFlags := 1, code := none }
/-- java/lang/Object -/
def k0 : Class := { plain "java/lang/Object" none with
  accessFlags := 33
  interfaces := #[]
  cf := some (fileOf pool0 8 #[] #[{ accessFlags := 1, nameIndex := 5, descriptorIndex := 6, attributes := #[] }] 33 0 #[] #[])
  fields := #[]
  methods := #[k0m0]
  instanceTypes := #[]
  staticTypes := #[]
  resolved := Array.replicate 124 none
  statics := none }

def pool1 : Array CpInfo := pool [(2, .class_ 4), (1, u "java/lang/Object"), (0, u "<init>"), (0, u "()V"), (0, .fieldref 8 9), (0, .class_ 10), (0, .nameAndType 11 12), (0, u "com/example/pokfulam/pokfulam/plan/Heuristic"), (0, u "PCH"), (0, u "Lcom/example/pokfulam/pokfulam/plan/Heuristic;"), (0, .fieldref 8 14), (0, .nameAndType 15 12), (0, u "HEFT"), (0, .fieldref 17 18), (0, .class_ 19), (0, .nameAndType 20 21), (0, u "com/example/pokfulam/pokfulam/plan/Insertion"), (0, u "FIT"), (0, u "Lcom/example/pokfulam/pokfulam/plan/Insertion;"), (0, .fieldref 17 23), (0, .nameAndType 24 21), (0, u "MARGIN"), (0, .fieldref 17 26), (0, .nameAndType 27 21), (0, u "NONE"), (0, .methodref 8 29), (0, .nameAndType 30 31), (0, u "insertion"), (0, u "(Z)Lcom/example/pokfulam/pokfulam/plan/Insertion;"), (0, .class_ 33), (0, u "com/example/pokfulam/pokfulam/plan/HeuristicInsertionPinLaw"), (2, u "law"), (0, u "(II)Z")] 3

def k1m0 : Method := { name := "<init>", desc := "()V", sig := { parameters := [], returnType := none }, accessFlags := 2, code := none }
def k1c1 : Code := { maxStack := 2, maxLocals := 6, code := code, exceptionTable := #[], attributes := #[] }
def k1m1 : Method := { name := "law", desc := "(II)Z", sig := { parameters := [.int, .int], returnType := some .boolean }, accessFlags := 9, code := some k1c1 }
/-- com/example/pokfulam/pokfulam/plan/HeuristicInsertionPinLaw -/
def k1 : Class := { plain "com/example/pokfulam/pokfulam/plan/HeuristicInsertionPinLaw" (some 0) with
  accessFlags := 49
  interfaces := #[]
  cf := some (fileOf pool1 32 #[] #[{ accessFlags := 2, nameIndex := 5, descriptorIndex := 6, attributes := #[] }, { accessFlags := 9, nameIndex := 36, descriptorIndex := 37, attributes := #[] }] 49 2 #[] #[])
  fields := #[]
  methods := #[k1m0, k1m1]
  instanceTypes := #[]
  staticTypes := #[]
  resolved := Array.replicate 41 none
  statics := none }

def pool2 : Array CpInfo := pool [(1, .class_ 2), (0, u "java/lang/constant/Constable"), (0, .class_ 4), (0, u "java/lang/Object")] 6

/-- java/lang/constant/Constable -/
def k2 : Class := { plain "java/lang/constant/Constable" (some 0) with
  accessFlags := 1537
  interfaces := #[]
  cf := some (fileOf pool2 1 #[] #[] 1537 3 #[] #[])
  fields := #[]
  methods := #[]
  instanceTypes := #[]
  staticTypes := #[]
  resolved := Array.replicate 11 none
  statics := none }

def pool3 : Array CpInfo := pool [(1, .class_ 2), (0, u "java/lang/Comparable"), (0, .class_ 4), (0, u "java/lang/Object")] 7

/-- java/lang/Comparable -/
def k3 : Class := { plain "java/lang/Comparable" (some 0) with
  accessFlags := 1537
  interfaces := #[]
  cf := some (fileOf pool3 1 #[] #[] 1537 3 #[] #[])
  fields := #[]
  methods := #[]
  instanceTypes := #[]
  staticTypes := #[]
  resolved := Array.replicate 12 none
  statics := none }

def pool4 : Array CpInfo := pool [(1, .class_ 2), (0, u "java/io/Serializable"), (0, .class_ 4), (0, u "java/lang/Object")] 2

/-- java/io/Serializable -/
def k4 : Class := { plain "java/io/Serializable" (some 0) with
  accessFlags := 1537
  interfaces := #[]
  cf := some (fileOf pool4 1 #[] #[] 1537 3 #[] #[])
  fields := #[]
  methods := #[]
  instanceTypes := #[]
  staticTypes := #[]
  resolved := Array.replicate 7 none
  statics := none }

def pool5 : Array CpInfo := pool [(2, .class_ 4), (1, u "java/lang/Enum"), (0, u "name"), (0, u "Ljava/lang/String;"), (2, u "ordinal"), (0, u "I"), (1, .class_ 14), (1, u "java/lang/Object"), (4, u "hash"), (86, .class_ 108), (1, u "java/lang/Enum$EnumDesc"), (2, .class_ 112), (0, u "java/lang/constant/Constable"), (0, .class_ 114), (0, u "java/lang/Comparable"), (0, .class_ 116), (0, u "java/io/Serializable")] 87

/-- java/lang/Enum -/
def k5 : Class := { plain "java/lang/Enum" (some 0) with
  accessFlags := 1057
  interfaces := #[2, 3, 4]
  cf := some (fileOf pool5 2 #[.nestMembers #[106]] #[] 1057 12 #[111, 113, 115] #[{ accessFlags := 18, nameIndex := 5, descriptorIndex := 6, attributes := #[] }, { accessFlags := 18, nameIndex := 9, descriptorIndex := 10, attributes := #[] }, { accessFlags := 2, nameIndex := 19, descriptorIndex := 10, attributes := #[] }])
  fields := #[{ name := "name", type := (.object "java/lang/String"), accessFlags := 18, slot := 0, constantValue := 0 }, { name := "ordinal", type := .int, accessFlags := 18, slot := 1, constantValue := 0 }, { name := "hash", type := .int, accessFlags := 2, slot := 2, constantValue := 0 }]
  methods := #[]
  instanceTypes := #[(.object "java/lang/String"), .int, .int]
  staticTypes := #[]
  resolved := Array.replicate 204 none
  statics := none }

def pool6 : Array CpInfo := pool [(1, .class_ 2), (0, u "com/example/pokfulam/pokfulam/plan/Heuristic"), (2, u "HEFT"), (0, u "Lcom/example/pokfulam/pokfulam/plan/Heuristic;"), (2, u "PCH"), (2, u "$VALUES"), (0, u "[Lcom/example/pokfulam/pokfulam/plan/Heuristic;"), (6, .class_ 22), (1, u "java/lang/Enum"), (8, u "id"), (0, u "Ljava/lang/String;"), (2, u "clusters"), (0, u "Z"), (2, u "priorityName"), (2, u "priorityFullName"), (0, .fieldref 1 44), (0, .nameAndType 45 46), (0, u "insertion"), (0, u "Lcom/example/pokfulam/pokfulam/plan/Insertion;"), (0, .fieldref 1 48), (0, .nameAndType 49 46), (0, u "gapSearchInsertion"), (43, .class_ 94), (0, u "com/example/pokfulam/pokfulam/plan/Heuristic$1"), (15, .class_ 111), (0, u "com/example/pokfulam/pokfulam/plan/Heuristic$2"), (24, u "(Z)Lcom/example/pokfulam/pokfulam/plan/Insertion;")] 10

def k6c0 : Code := { maxStack := 1, maxLocals := 3, code := prog_44_method_9_code, exceptionTable := #[], attributes := #[] }
def k6m0 : Method := { name := "insertion", desc := "(Z)Lcom/example/pokfulam/pokfulam/plan/Insertion;", sig := { parameters := [.boolean], returnType := some (.object "com/example/pokfulam/pokfulam/plan/Insertion") }, accessFlags := 0, code := some k6c0 }
/-- com/example/pokfulam/pokfulam/plan/Heuristic -/
def k6 : Class := { plain "com/example/pokfulam/pokfulam/plan/Heuristic" (some 5) with
  accessFlags := 17441
  interfaces := #[]
  cf := some (fileOf pool6 1 #[.nestMembers #[110, 93]] #[{ accessFlags := 0, nameIndex := 45, descriptorIndex := 136, attributes := #[] }] 17441 20 #[] #[{ accessFlags := 16409, nameIndex := 5, descriptorIndex := 6, attributes := #[] }, { accessFlags := 16409, nameIndex := 9, descriptorIndex := 6, attributes := #[] }, { accessFlags := 18, nameIndex := 31, descriptorIndex := 32, attributes := #[] }, { accessFlags := 18, nameIndex := 35, descriptorIndex := 36, attributes := #[] }, { accessFlags := 18, nameIndex := 39, descriptorIndex := 32, attributes := #[] }, { accessFlags := 18, nameIndex := 42, descriptorIndex := 32, attributes := #[] }, { accessFlags := 18, nameIndex := 45, descriptorIndex := 46, attributes := #[] }, { accessFlags := 18, nameIndex := 49, descriptorIndex := 46, attributes := #[] }, { accessFlags := 4122, nameIndex := 12, descriptorIndex := 13, attributes := #[] }])
  fields := #[{ name := "HEFT", type := (.object "com/example/pokfulam/pokfulam/plan/Heuristic"), accessFlags := 16409, slot := 0, constantValue := 0 }, { name := "PCH", type := (.object "com/example/pokfulam/pokfulam/plan/Heuristic"), accessFlags := 16409, slot := 1, constantValue := 0 }, { name := "id", type := (.object "java/lang/String"), accessFlags := 18, slot := 3, constantValue := 0 }, { name := "clusters", type := .boolean, accessFlags := 18, slot := 4, constantValue := 0 }, { name := "priorityName", type := (.object "java/lang/String"), accessFlags := 18, slot := 5, constantValue := 0 }, { name := "priorityFullName", type := (.object "java/lang/String"), accessFlags := 18, slot := 6, constantValue := 0 }, { name := "insertion", type := (.object "com/example/pokfulam/pokfulam/plan/Insertion"), accessFlags := 18, slot := 7, constantValue := 0 }, { name := "gapSearchInsertion", type := (.object "com/example/pokfulam/pokfulam/plan/Insertion"), accessFlags := 18, slot := 8, constantValue := 0 }, { name := "$VALUES", type := (.array (.object "com/example/pokfulam/pokfulam/plan/Heuristic")), accessFlags := 4122, slot := 2, constantValue := 0 }]
  methods := #[k6m0]
  instanceTypes := #[(.object "java/lang/String"), .int, .int, (.object "java/lang/String"), .boolean, (.object "java/lang/String"), (.object "java/lang/String"), (.object "com/example/pokfulam/pokfulam/plan/Insertion"), (.object "com/example/pokfulam/pokfulam/plan/Insertion")]
  staticTypes := #[(.object "com/example/pokfulam/pokfulam/plan/Heuristic"), (.object "com/example/pokfulam/pokfulam/plan/Heuristic"), (.array (.object "com/example/pokfulam/pokfulam/plan/Heuristic"))]
  resolved := Array.replicate 147 none
  statics := some 0 }

def pool7 : Array CpInfo := pool [(1, .class_ 2), (0, u "com/example/pokfulam/pokfulam/plan/Insertion"), (2, u "FIT"), (0, u "Lcom/example/pokfulam/pokfulam/plan/Insertion;"), (2, u "MARGIN"), (2, u "NONE"), (2, u "$VALUES"), (0, u "[Lcom/example/pokfulam/pokfulam/plan/Insertion;"), (6, .class_ 25), (1, u "java/lang/Enum")] 25

/-- com/example/pokfulam/pokfulam/plan/Insertion -/
def k7 : Class := { plain "com/example/pokfulam/pokfulam/plan/Insertion" (some 5) with
  accessFlags := 16432
  interfaces := #[]
  cf := some (fileOf pool7 1 #[] #[] 16432 23 #[] #[{ accessFlags := 16409, nameIndex := 5, descriptorIndex := 6, attributes := #[] }, { accessFlags := 16409, nameIndex := 9, descriptorIndex := 6, attributes := #[] }, { accessFlags := 16409, nameIndex := 12, descriptorIndex := 6, attributes := #[] }, { accessFlags := 4122, nameIndex := 15, descriptorIndex := 16, attributes := #[] }])
  fields := #[{ name := "FIT", type := (.object "com/example/pokfulam/pokfulam/plan/Insertion"), accessFlags := 16409, slot := 0, constantValue := 0 }, { name := "MARGIN", type := (.object "com/example/pokfulam/pokfulam/plan/Insertion"), accessFlags := 16409, slot := 1, constantValue := 0 }, { name := "NONE", type := (.object "com/example/pokfulam/pokfulam/plan/Insertion"), accessFlags := 16409, slot := 2, constantValue := 0 }, { name := "$VALUES", type := (.array (.object "com/example/pokfulam/pokfulam/plan/Insertion")), accessFlags := 4122, slot := 3, constantValue := 0 }]
  methods := #[]
  instanceTypes := #[(.object "java/lang/String"), .int, .int]
  staticTypes := #[(.object "com/example/pokfulam/pokfulam/plan/Insertion"), (.object "com/example/pokfulam/pokfulam/plan/Insertion"), (.object "com/example/pokfulam/pokfulam/plan/Insertion"), (.array (.object "com/example/pokfulam/pokfulam/plan/Insertion"))]
  resolved := Array.replicate 51 none
  statics := some 1 }

def pool8 : Array CpInfo := pool [(2, .class_ 4), (1, u "com/example/pokfulam/pokfulam/plan/Heuristic"), (8, .class_ 14), (0, u "com/example/pokfulam/pokfulam/plan/Heuristic$1")] 8

/-- com/example/pokfulam/pokfulam/plan/Heuristic$1 -/
def k8 : Class := { plain "com/example/pokfulam/pokfulam/plan/Heuristic$1" (some 6) with
  accessFlags := 16432
  interfaces := #[]
  cf := some (fileOf pool8 13 #[.nestHost 2] #[] 16432 2 #[] #[])
  fields := #[]
  methods := #[]
  instanceTypes := #[(.object "java/lang/String"), .int, .int, (.object "java/lang/String"), .boolean, (.object "java/lang/String"), (.object "java/lang/String"), (.object "com/example/pokfulam/pokfulam/plan/Insertion"), (.object "com/example/pokfulam/pokfulam/plan/Insertion")]
  staticTypes := #[]
  resolved := Array.replicate 23 none
  statics := none }

def pool9 : Array CpInfo := pool [(2, .class_ 4), (1, u "com/example/pokfulam/pokfulam/plan/Heuristic"), (8, .class_ 14), (0, u "com/example/pokfulam/pokfulam/plan/Heuristic$2")] 8

/-- com/example/pokfulam/pokfulam/plan/Heuristic$2 -/
def k9 : Class := { plain "com/example/pokfulam/pokfulam/plan/Heuristic$2" (some 6) with
  accessFlags := 16432
  interfaces := #[]
  cf := some (fileOf pool9 13 #[.nestHost 2] #[] 16432 2 #[] #[])
  fields := #[]
  methods := #[]
  instanceTypes := #[(.object "java/lang/String"), .int, .int, (.object "java/lang/String"), .boolean, (.object "java/lang/String"), (.object "java/lang/String"), (.object "com/example/pokfulam/pokfulam/plan/Insertion"), (.object "com/example/pokfulam/pokfulam/plan/Insertion")]
  staticTypes := #[]
  resolved := Array.replicate 23 none
  statics := none }

def pool10 : Array CpInfo := pool [(1, u "java/lang/Cloneable"), (0, .class_ 1), (0, u "java/lang/Object"), (0, .class_ 3)] 3

/-- java/lang/Cloneable -/
def k10 : Class := { plain "java/lang/Cloneable" (some 0) with
  accessFlags := 1537
  interfaces := #[]
  cf := some (fileOf pool10 2 #[] #[] 1537 4 #[] #[])
  fields := #[]
  methods := #[]
  instanceTypes := #[]
  staticTypes := #[]
  resolved := Array.replicate 8 none
  statics := none }

/-- the primitive byte -/
def k11 : Class := { plain "byte" none with kind := .primitive 'B', accessFlags := 0x411 }
/-- [B -/
def k12 : Class := { plain "[B" (some 0) with kind := .array 11 .byte, interfaces := #[10, 4], accessFlags := 1041 }

/-- the primitive int -/
def k13 : Class := { plain "int" none with kind := .primitive 'I', accessFlags := 0x411 }
/-- [I -/
def k14 : Class := { plain "[I" (some 0) with kind := .array 13 .int, interfaces := #[10, 4], accessFlags := 1041 }

def heap : Heap := #[{ cls := 6, slots := #[.ref 2, .ref 4, .null], vm := .statics 6 },
  { cls := 7, slots := #[.ref 3, .ref 5, .ref 6, .null], vm := .statics 7 },
  { cls := 8, slots := #[.null, .int 0, .int 0, .null, .int 0, .null, .null, .ref 3, .ref 3], vm := .none },
  { cls := 7, slots := #[.null, .int 0, .int 0], vm := .none },
  { cls := 9, slots := #[.null, .int 0, .int 0, .null, .int 0, .null, .null, .ref 6, .ref 5], vm := .none },
  { cls := 7, slots := #[.null, .int 0, .int 0], vm := .none },
  { cls := 7, slots := #[.null, .int 0, .int 0], vm := .none }]
def classes : Array Class := #[k0, k1, k2, k3, k4, k5, k6, k7, k8, k9, k10, k11, k12, k13, k14]
def interned : List (Array UInt16 × Addr) := []
def slotsUsed : Nat := 34
def theMethod : MethodId := ⟨1, 1⟩
def args0 : Array Value := #[.int 1, .int 2]
def aboutOver (below : List Frame) : State where
  vm := { classes := classes, interned := interned.toArray }
  heap := heap
  slotsUsed := slotsUsed
  threads := #[{ frames := .invoking theMethod args0 :: below }]
def below0 : List Frame := [.native { method := ⟨0, 0⟩, args := #[] }]
def about1 : State := aboutOver below0
def p0 : Program := .bare "" "" ""
def e0 : Env := launch0.env 0 0 0
theorem w_frames : about1.frames = Frame.invoking theMethod args0 :: below0 := rfl
set_option maxRecDepth 65536 in
theorem w_args : argsFit about1.vm theMethod args0 = true := by decide +kernel
set_option maxRecDepth 65536 in
theorem w_heap : heapFits about1 = true := by decide +kernel
set_option maxRecDepth 65536 in
theorem w_runnable : about1.curStatus? = some .runnable := by decide +kernel
set_option maxRecDepth 65536 in
theorem w_alone : about1.alone = true := by decide +kernel
set_option maxRecDepth 65536 in
theorem w_named : about1.methodNamed? x = some theMethod := by decide +kernel
set_option maxRecDepth 65536 in
theorem w_hears : about1.hears theMethod below0 = true := by decide +kernel
set_option maxRecDepth 65536 in
theorem w_ripe : about1.ripe theMethod args0 below0 = true := by decide +kernel
theorem w_running : about1.status = .running := rfl
set_option maxRecDepth 65536 in
theorem w_room : about1.hasRoom e0.platform room_1 = true :=
  launch0.hasRoom_least _ room_1 (by decide +kernel) (by decide +kernel) (by decide +kernel) (by decide +kernel) (by decide +kernel) (by decide +kernel)
theorem allAtoms_all (ts : List Jvm.Cond) (a : Array Jvm.Value) (st : Jvm.State) : (allAtoms ts).before a st = ts.all (fun c => c.before a st) := by
  induction ts with
  | nil => rfl
  | cons c t ih =>
    show (Jvm.Cond.and c (allAtoms t)).before a st = _
    rw [Jvm.Cond.before_and, ih, List.all_cons]
def words1 : List Jvm.Cond := Jvm.Cond.code x code maxLocals ret :: tables_1
/-- a 'code' word, met by the world's own term for the bytes: nothing is compared byte by byte -/
theorem code_word {y : MethodName} {bytes : ByteArray} {mx : Nat} {rt : Option FieldType} {a : Array Value} {s : State} {m : MethodId} {meth : Method} {c : Code} (h1 : s.methodNamed? y = some m) (h2 : s.vm.method? m = some meth) (h3 : meth.code = some c) (h4 : c.code = bytes)
    (h5 : (c.maxLocals == mx && c.exceptionTable.isEmpty && decide (c.maxStack ≤ mostOperands) && decide (meth.sig.returnType = rt) && !meth.locks && decide (parseMethodDescriptor y.desc = some meth.sig)) = true) : (Jvm.Cond.code y bytes mx rt).before a s = true := by
  simp only [Bool.and_eq_true, beq_iff_eq, Bool.not_eq_true', decide_eq_true_eq] at h5
  obtain ⟨⟨⟨⟨⟨g1, g2⟩, g3⟩, g4⟩, g5⟩, g6⟩ := h5
  simp [Cond.before, Cond.holds, Cond.value, h1, h2, h3, h4, g1, g2, g3, g4, g5, g6]
def isCode : Jvm.Cond → Bool
  | .code _ _ _ _ => true
  | _ => false
theorem all_split {L : List Jvm.Cond} {P : Jvm.Cond → Bool} (h1 : L.all (fun c => isCode c || P c) = true) (h2 : ∀ c ∈ L.filter isCode, P c = true) : L.all P = true := by
  refine List.all_eq_true.mpr fun c hc => ?_
  have h := List.all_eq_true.mp h1 c hc
  rcases Bool.eq_false_or_eq_true (isCode c) with hi | hi
  · exact h2 c (List.mem_filter.mpr ⟨hc, hi⟩)
  · simpa [hi] using h
set_option maxRecDepth 65536 in
theorem w_c0 : (Jvm.Cond.code x code maxLocals ret).before args0 about1 = true := code_word (m := ⟨1, 1⟩) (meth := k1m1) (c := k1c1) (by decide +kernel) rfl rfl rfl (by decide +kernel)
set_option maxRecDepth 65536 in
theorem w_c1 : (Jvm.Cond.code ({ cls := "com/example/pokfulam/pokfulam/plan/Heuristic", name := "insertion", desc := "(Z)Lcom/example/pokfulam/pokfulam/plan/Insertion;" } : Jvm.MethodName) prog_44_method_9_code (3 : Nat) (Option.some (Jvm.ClassFile.FieldType.object "com/example/pokfulam/pokfulam/plan/Insertion"))).before args0 about1 = true := code_word (m := ⟨6, 0⟩) (meth := k6m0) (c := k6c0) (by decide +kernel) rfl rfl rfl (by decide +kernel)
def codes1 : List Jvm.Cond := [Jvm.Cond.code x code maxLocals ret, Jvm.Cond.code ({ cls := "com/example/pokfulam/pokfulam/plan/Heuristic", name := "insertion", desc := "(Z)Lcom/example/pokfulam/pokfulam/plan/Insertion;" } : Jvm.MethodName) prog_44_method_9_code (3 : Nat) (Option.some (Jvm.ClassFile.FieldType.object "com/example/pokfulam/pokfulam/plan/Insertion"))]
set_option maxRecDepth 65536 in
theorem codes_eq : words1.filter isCode = codes1 := rfl
theorem w_codes : ∀ c ∈ words1.filter isCode, c.before args0 about1 = true := by
  rw [codes_eq]
  intro c hc
  simp only [codes1, List.mem_cons, List.not_mem_nil, or_false] at hc
  rcases hc with rfl | rfl
  · exact w_c0
  · exact w_c1
set_option maxRecDepth 65536 in
theorem w_t1 : (words1.take 24).all (fun c => isCode c || c.before args0 about1) = true := by decide +kernel
set_option maxRecDepth 65536 in
theorem w_t2 : (words1.drop 24).all (fun c => isCode c || c.before args0 about1) = true := by decide +kernel
theorem w_tables : (allAtoms (Jvm.Cond.code x code maxLocals ret :: tables_1)).before args0 about1 = true := by
  rw [allAtoms_all]
  show words1.all (fun c => c.before args0 about1) = true
  refine all_split ?_ w_codes
  rw [← List.take_append_drop 24 words1, List.all_append, w_t1, w_t2]
  rfl
set_option maxRecDepth 65536 in
theorem w_case : (Jvm.Cond.and given_1 narrow_1).before args0 about1 = true := by decide +kernel
theorem w_applies : (headSpec (Jvm.Cond.code x code maxLocals ret :: tables_1) room_1).applies x e0.platform about1 = true :=
  (Spec.applies_iff w_frames).mpr ⟨w_running, w_runnable, w_alone, w_named, w_hears, w_ripe, w_room, w_tables⟩
theorem atStart : AtStart classFile x code maxLocals ret World_1 tables_1 room_1 Calls_1 rest_1 Pre_1 launch0 p0 e0 about1 theMethod args0 below0 :=
  ⟨lists_1, trivial, launch0.admits_env _ _ _, launch0.least_env, fairChoices_fair.cas, fairChoices_fair.clock, w_frames, w_args, w_heap, w_applies, trivial, trivial, w_case⟩
end start1
theorem witness_1 : WitnessClaimed_1 := ⟨start1.p0, start1.e0, start1.about1, start1.theMethod, start1.args0, start1.below0, start1.atStart⟩
end Jvm.Pilot.@@N@@
