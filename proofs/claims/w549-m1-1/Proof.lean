import JvmDerived
import JvmDerived.Pilot.@@N@@Statement
import JvmDerived.Pilot.@@N@@Code
set_option linter.unusedVariables false
set_option linter.unusedSimpArgs false
namespace Jvm.RoadKit
open Sem ClassFile Op Lib Jvm.Stand Jvm.Free Jvm.LawKit
section New
variable {p : Program} {l : Launch} {e : Env} {R : Room} {s : State} {m : MethodId} {args : Array Value} {below : List Frame} {meth : Method} {c : Code} {T : State} {locs : List Loc} {cells slots : Nat}
theorem retI (X : Stand p l e R s m args below meth c T locs cells slots) (hx : p.tables.exec = Jvm.exec) {pc : Nat} {Ls : Array Slot} {z : Int32} {rest : List Value} (hret : meth.sig.returnType = some .int) (hd : decode c.code pc = .ok (.ireturn, 1)) {fs : List Frame}
    (hl : ∀ (f : JFrame) (acts : List Action), f.method = m → f.locked = none → f.entered = [] → (doReturn e (T.setTop f) acts (some (.int z))).1 = T.setFrames fs) : Steps p.tables e below (T.setTop (mkF m pc Ls (.int z :: rest))) (T.setFrames fs) := by
  have hm' : T.vm.method? m = some meth := X.method'
  have hn : narrow .int (.int z) = .int z := rfl
  show Steps p.tables e below (T.setTop { method := m, pc := pc, locals := Ls, stack := _ :: rest, locked := none }) _
  jvm_step X.here [X.here.top, hx, hd, hm', hret, hn]
  first | (intro acts; rw [hl _ acts rfl rfl rfl]) | rw [hl _ _ rfl rfl rfl]
  exact Steps.refl _
end New
end Jvm.RoadKit
@@BLOCK:NumsL.lean.txt@@
namespace Jvm.Pilot.@@N@@
open Jvm Jvm.ClassFile Sem Op Lib Jvm.Free Jvm.Stand Jvm.LawKit Jvm.RoadKit Bundle Jvm.Pilot.@@N@@.Jvm.D
/-- a run from here that ends well -/
def own_G (p : Program) (e : Env) (below : List Frame) (P : Outcome → State → Prop) (S : State) : Prop := ∃ s₂ o, Steps p.tables e below S s₂ ∧ s₂.status = .running ∧ Ended s₂ below o ∧ P o s₂
theorem own_go {p : Program} {e : Env} {below : List Frame} {P : Outcome → State → Prop} {S : State} (S' : State) (k : ∀ t, Steps p.tables e below S' t → Steps p.tables e below S t) (h : own_G p e below P S') : own_G p e below P S := by
  obtain ⟨s₂, o, h1, h2⟩ := h
  exact ⟨s₂, o, k _ h1, h2⟩
theorem own_one {x : Slot} (h : One x) : (match x with | .second => False | .val old => old.category = 1 | .unset => True) := by
  rcases h with rfl | ⟨w, rfl, hw⟩
  · trivial
  · exact hw
theorem own_selp {s : State} {args : Array Value} {D : String} {y z : MethodName} (h : (Cond.selects D z z).before args s = true) (hc : z.cls = y.cls) (hpriv : s.PrivateAt y) (hinst : (Cond.instanceMethod y).before args s = true) (hy : y.cls ≠ "java/lang/invoke/MethodHandle" ∧ y.cls ≠ "java/lang/invoke/VarHandle") : (Cond.selects y.cls y y).before args s = true := by
  obtain ⟨c, r, m, q1, q2, q3, q4, mk, hk, hi⟩ := Cond.selects_spec h
  exact selects_self_of_private (hc ▸ findClass_of_methodNamed q3) hk hi hpriv hinst hy
theorem own_same {s : State} {args : Array Value} {D : String} {y z : MethodName} (hinst : (Cond.instanceMethod y).before args s = true) (hsel : (Cond.selects D z z).before args s = true) (hc : z.cls = y.cls) (hy : y.cls ≠ "java/lang/invoke/MethodHandle" ∧ y.cls ≠ "java/lang/invoke/VarHandle") : (Cond.sameMethod y.cls y.cls y.name y.desc).before args s = true := by
  obtain ⟨mk, methM, hnamed, hmethM, -, -⟩ := Cond.instanceMethod_spec hinst
  obtain ⟨c, r, m, q1, q2, q3, q4, k, hk, hi⟩ := Cond.selects_spec hsel
  have hfound := State.methodFound?_of_named hnamed hy
  have hcn := findClass_of_methodNamed hnamed
  have e : m.cls = mk.cls := Option.some.inj ((findClass_of_methodNamed q3).symm.trans (hc ▸ hcn))
  rw [e] at hk
  obtain ⟨yc, yn, yd⟩ := y
  simp_all [Cond.before, Cond.holds, Cond.value]
theorem own_nf {s : State} {args : Array Value} {D : String} {y z : MethodName} (hsel : (Cond.selects D z z).before args s = true) (hc : z.cls = y.cls) : NotFace s y := fun r0 h0 => by
  obtain ⟨c, r, m, q1, q2, q3, q4, k, hk, hi⟩ := Cond.selects_spec hsel
  have e : m.cls = r0.cls := Option.some.inj ((findClass_of_methodNamed q3).symm.trans (hc ▸ findClass_of_methodNamed h0))
  exact ⟨k, e ▸ hk, hi⟩
theorem own_lt {x y : Int64} : lcmpW x y < 0 ↔ x < y := by rw [lcW]; exact lc_lt x y
theorem own_gt {x y : Int64} : (0 : Int32) < lcmpW x y ↔ y < x := by rw [lcW]; exact lc_gt x y
theorem own_eq {x y : Int64} : lcmpW x y = 0 ↔ x = y := by rw [lcW]; exact lc_eq x y
theorem own_extK {Z : State} {h h' : Heap} {ws : List Addr} (O : Ext Z.heap h) (K : Keep h h' ws) (q : ∀ x ∈ ws, Z.heap.size ≤ x) : Ext Z.heap h' :=
  (Old.keep (n0 := Z.heap.size) ⟨rfl, O⟩ K q).2
theorem own_ext {h h1 h2 : Heap} (E : Ext h h1) (F : Ext h1 h2) : Ext h h2 := ⟨Nat.le_trans E.1 F.1, fun a c q => F.2 a c (E.2 a c q)⟩
theorem own_extW {Z : State} {h h' : Heap} {a : Addr} {sl : Nat} {v : Value} (O : Ext Z.heap h) (W : Wr h h' a sl v) (q : Z.heap.size ≤ a) : Ext Z.heap h' := own_extK O (Keep.of_wr W) (allS q all0)
theorem own_fldI {s : State} {args : Array Value} {t : Term} {C n d : String} {k : Int32} {a : Addr} (h : (Cond.eq (Term.field t C n d) (Term.int k)).value args s none s [] = some true) (ev : t.eval args s none [] s = some (.ref a)) : Fld s s.heap a C n d (.int k) := by
  obtain ⟨x, y, h1, h2, h3, -⟩ := cmp_v (Or.inl h)
  have h4 : s.fieldOf? a C n d = some x := (fld_at ev).symm.trans h1
  have h5 : y = .int k := (Option.some.inj (h2.symm.trans (Term.int_eval k)))
  subst h5
  cases x with
  | int z =>
    simp only [Cond.value, h1, h2] at h
    have e : z = k := by simpa using h
    subst e
    exact Fld.start h4
  | _ => simp [Kin, Value.isRef] at h3
theorem own_fldV {s : State} {args : Array Value} {t u : Term} {C n d : String} {b : Addr} {a : Addr} (h : (Cond.eq (Term.field t C n d) u).value args s none s [] = some true) (ev : t.eval args s none [] s = some (.ref a)) (eu : u.eval args s none [] s = some (.ref b)) : Fld s s.heap a C n d (.ref b) := by
  obtain ⟨x, y, h1, h2, h3, -⟩ := cmp_v (Or.inl h)
  have h4 : s.fieldOf? a C n d = some x := (fld_at ev).symm.trans h1
  have h5 : y = .ref b := (Option.some.inj (h2.symm.trans eu))
  subst h5
  cases x with
  | ref z =>
    simp only [Cond.value, h1, h2] at h
    have e : z = b := by simpa using h
    subst e
    exact Fld.start h4
  | null => simp [Cond.value, h1, h2] at h
  | _ => simp [Kin, Value.isRef] at h3
theorem own_elemI {s : State} {args : Array Value} {t : Term} {j k : Int32} {a : Addr} {cl : Cell} (h : (Cond.eq (Term.elem t (Term.int j)) (Term.int k)).value args s none s [] = some true) (ev : t.eval args s none [] s = some (.ref a)) (hc : s.heap[a]? = some cl) : ¬ (j < 0 ∨ cl.slots.size ≤ j.toNatClampNeg) ∧ cl.slots[j.toNatClampNeg]? = some (.int k) := by
  obtain ⟨x, y, h1, h2, h3, -⟩ := cmp_v (Or.inl h)
  have h4 := elem_in h1 ev (Term.int_eval j) hc
  have h5 : y = .int k := (Option.some.inj (h2.symm.trans (Term.int_eval k)))
  subst h5
  cases x with
  | int z =>
    simp only [Cond.value, h1, h2] at h
    have e : z = k := by simpa using h
    subst e
    exact h4
  | _ => simp [Kin, Value.isRef] at h3
theorem own_elemV {s : State} {args : Array Value} {t u : Term} {j : Int32} {a b : Addr} {cl : Cell} (h : (Cond.eq (Term.elem t (Term.int j)) u).value args s none s [] = some true) (ev : t.eval args s none [] s = some (.ref a)) (eu : u.eval args s none [] s = some (.ref b)) (hc : s.heap[a]? = some cl) : ¬ (j < 0 ∨ cl.slots.size ≤ j.toNatClampNeg) ∧ cl.slots[j.toNatClampNeg]? = some (.ref b) := by
  obtain ⟨x, y, h1, h2, h3, -⟩ := cmp_v (Or.inl h)
  have h4 := elem_in h1 ev (Term.int_eval j) hc
  have h5 : y = .ref b := (Option.some.inj (h2.symm.trans eu))
  subst h5
  cases x with
  | ref z =>
    simp only [Cond.value, h1, h2] at h
    have e : z = b := by simpa using h
    subst e
    exact h4
  | null => simp [Cond.value, h1, h2] at h
  | _ => simp [Kin, Value.isRef] at h3
theorem own_fldN {s : State} {args : Array Value} {t : Term} {C n d : String} {a : Addr} (h : (Cond.eq (Term.field t C n d) Term.null).value args s none s [] = some true) (ev : t.eval args s none [] s = some (.ref a)) : Fld s s.heap a C n d .null :=
  Fld.start ((fld_at ev).symm.trans (null_v h))
def own_W (Z : State) (a_CCP_AGAINST_MEMBER : Addr) (a_MEMBER_AGAINST_CCP : Addr) (a_CLIENT_AGAINST_MEMBER : Addr) (a_MEMBER_AGAINST_CLIENT : Addr) : Prop := (Sta Z Z.heap "com/example/cleardraft/cleardraft/draft/Leg" "CCP_AGAINST_MEMBER" "Lcom/example/cleardraft/cleardraft/draft/Leg;" (.ref a_CCP_AGAINST_MEMBER)) ∧ (Exa Z Z.heap a_CCP_AGAINST_MEMBER "com/example/cleardraft/cleardraft/draft/Leg") ∧ (Sta Z Z.heap "com/example/cleardraft/cleardraft/draft/Leg" "MEMBER_AGAINST_CCP" "Lcom/example/cleardraft/cleardraft/draft/Leg;" (.ref a_MEMBER_AGAINST_CCP)) ∧ (Exa Z Z.heap a_MEMBER_AGAINST_CCP "com/example/cleardraft/cleardraft/draft/Leg") ∧ (Sta Z Z.heap "com/example/cleardraft/cleardraft/draft/Leg" "CLIENT_AGAINST_MEMBER" "Lcom/example/cleardraft/cleardraft/draft/Leg;" (.ref a_CLIENT_AGAINST_MEMBER)) ∧ (Exa Z Z.heap a_CLIENT_AGAINST_MEMBER "com/example/cleardraft/cleardraft/draft/Leg") ∧ (Sta Z Z.heap "com/example/cleardraft/cleardraft/draft/Leg" "MEMBER_AGAINST_CLIENT" "Lcom/example/cleardraft/cleardraft/draft/Leg;" (.ref a_MEMBER_AGAINST_CLIENT)) ∧ (Exa Z Z.heap a_MEMBER_AGAINST_CLIENT "com/example/cleardraft/cleardraft/draft/Leg") ∧ (Fld Z Z.heap a_CCP_AGAINST_MEMBER "java/lang/Enum" "ordinal" "I" (.int (0 : Int32))) ∧ (Fld Z Z.heap a_MEMBER_AGAINST_CCP "java/lang/Enum" "ordinal" "I" (.int (1 : Int32))) ∧ (Fld Z Z.heap a_CLIENT_AGAINST_MEMBER "java/lang/Enum" "ordinal" "I" (.int (3 : Int32))) ∧ (Fld Z Z.heap a_MEMBER_AGAINST_CLIENT "java/lang/Enum" "ordinal" "I" (.int (2 : Int32)))
theorem own_case {i : Int32} {k : Int} (c : Int32) (h : i.toInt = k) (hc : c.toInt = k) : i = c := Int32.toInt_inj.mp (h.trans hc.symm)
theorem own_mask (x : Int32) : 0 ≤ (x &&& 2147483647).toInt := by
  have e := Jvm.Kit.i32_mask x 2147483647 (k := 31) (by decide) (by decide)
  omega
theorem own_mod (x n : Int32) (hn : 0 < n.toInt) : 0 ≤ ((x &&& 2147483647) % n).toInt ∧ ((x &&& 2147483647) % n).toInt < n.toInt := by
  rw [Jvm.Kit.i32_rem_nonneg (own_mask x)]
  exact ⟨Int.emod_nonneg _ (by omega), Int.emod_lt_of_pos _ hn⟩
theorem own_and3 (x : Int32) : (x &&& 3) = 0 ∨ (x &&& 3) = 1 ∨ (x &&& 3) = 2 ∨ (x &&& 3) = 3 := by
  have e := Jvm.Kit.i32_mask x 3 (k := 2) (by decide) (by decide)
  rcases (by omega : (x &&& 3).toInt = 0 ∨ (x &&& 3).toInt = 1 ∨ (x &&& 3).toInt = 2 ∨ (x &&& 3).toInt = 3) with q | q | q | q
  · exact Or.inl (own_case 0 q (by decide))
  · exact Or.inr (Or.inl (own_case 1 q (by decide)))
  · exact Or.inr (Or.inr (Or.inl (own_case 2 q (by decide))))
  · exact Or.inr (Or.inr (Or.inr (own_case 3 q (by decide))))
theorem own_pn0 : plainName "com/example/cleardraft/cleardraft/draft/Leg" = true := by first | (simp [plainName, overriddenIn]; done) | decide +kernel
theorem own_ef_rb (m : MethodId) (a : Addr) : entryFrame m #[(.ref a)] 1 = mkF m 0 #[.val (.ref a)] [] := by first | (simp [entryFrame, mkF, argsToLocals, Value.category]; done) | rfl
theorem own_d_prog_25_method_9_0 : decode prog_25_method_9_code 0 = .ok (.aload_n 0, 1) := by decide +kernel
theorem own_d_prog_25_method_9_1 : decode prog_25_method_9_code 1 = .ok (.getstatic 7, 3) := by decide +kernel
theorem own_d_prog_25_method_9_4 : decode prog_25_method_9_code 4 = .ok (.if_acmp .eq 10, 3) := by decide +kernel
theorem own_d_prog_25_method_9_14 : decode prog_25_method_9_code 14 = .ok (.iconst 1, 1) := by decide +kernel
theorem own_d_prog_25_method_9_15 : decode prog_25_method_9_code 15 = .ok (.goto 4, 3) := by decide +kernel
theorem own_d_prog_25_method_9_19 : decode prog_25_method_9_code 19 = .ok (.ireturn, 1) := by decide +kernel
theorem own_d_prog_25_method_9_7 : decode prog_25_method_9_code 7 = .ok (.aload_n 0, 1) := by decide +kernel
theorem own_d_prog_25_method_9_8 : decode prog_25_method_9_code 8 = .ok (.getstatic 13, 3) := by decide +kernel
theorem own_d_prog_25_method_9_11 : decode prog_25_method_9_code 11 = .ok (.if_acmp .ne 7, 3) := by decide +kernel
theorem own_d_prog_25_method_9_18 : decode prog_25_method_9_code 18 = .ok (.iconst 0, 1) := by decide +kernel
def Q_rb (Z : State) (a : Addr) (a_CCP_AGAINST_MEMBER : Addr) (a_MEMBER_AGAINST_CCP : Addr) (a_CLIENT_AGAINST_MEMBER : Addr) (a_MEMBER_AGAINST_CLIENT : Addr) (h0 : Heap) (v_ : Option Value) (h : Heap) (L_ : List Loc) : Prop := v_ = some (.int (if a = a_MEMBER_AGAINST_CCP then 1 else if a = a_CLIENT_AGAINST_MEMBER then 1 else 0)) ∧ Fr Z.heap.size L_ ∧ (h = h0)
set_option maxRecDepth 65536 in
set_option maxHeartbeats 40000000 in
theorem rm_rb (l : Launch) (Z : State) (a0 : Array Value) (hw : ∀ d ∈ tables_1, d.before a0 Z = true) (ws : List Jvm.Cond) (a : Addr) (a_CCP_AGAINST_MEMBER : Addr) (a_MEMBER_AGAINST_CCP : Addr) (a_CLIENT_AGAINST_MEMBER : Addr) (a_MEMBER_AGAINST_CLIENT : Addr) (h0 : Heap) (O : Ext Z.heap h0) (w : own_W Z a_CCP_AGAINST_MEMBER a_MEMBER_AGAINST_CCP a_CLIENT_AGAINST_MEMBER a_MEMBER_AGAINST_CLIENT) :
    MetFree l (⟨"com/example/cleardraft/cleardraft/draft/Leg", "reportedByHolder", "()Z"⟩ : MethodName) (head1 (Jvm.Cond.code (⟨"com/example/cleardraft/cleardraft/draft/Leg", "reportedByHolder", "()Z"⟩ : MethodName) prog_25_method_9_code 1 (some .boolean) :: ws) ({ frames := 0, cells := 0, slots := 0, locals := 0 } : Room)) (fun a_ U_ => a_ = #[(.ref a)] ∧ Z.Warmed39 U_.vm ∧ U_.heap = h0) (fun _ _ _ _ _ => True) (fun _ U_ o_ U2_ => ∃ v_ L_, o_ = .returned v_ ∧ Q_rb Z a a_CCP_AGAINST_MEMBER a_MEMBER_AGAINST_CCP a_CLIENT_AGAINST_MEMBER a_MEMBER_AGAINST_CLIENT h0 v_ U2_.heap L_ ∧ FrameEnd U_ o_ U2_ L_ ({ frames := 0, cells := 0, slots := 0, locals := 0 } : Room).cells ({ frames := 0, cells := 0, slots := 0, locals := 0 } : Room).slots) := by
  refine MetFree.of_bodySF (plainFor_of_name own_pn0) hisR ?_
  intro p e s m args below meth c s₁ Bd hml0 hP hK
  obtain ⟨rfl, hZ, hh⟩ := hP
  have hx := Bd.exec
  have hby := Bd.bytes
  have hml : c.maxLocals = 1 := hml0
  have hown : s.vm.findClass "com/example/cleardraft/cleardraft/draft/Leg" = some m.cls := findClass_of_methodNamed Bd.named
  have hnm := (name_of_methodNamed Bd.named Bd.method).1
  have X0 : Stand p l e ({ frames := 0, cells := 0, slots := 0, locals := 0 } : Room) s m #[(.ref a)] below meth c s₁ [] 0 0 := Stand.of_body Bd
  have e0 : s₁.heap = h0 := by rw [← hh, Bd.state]; rfl
  have N0 := Fr.nil Z.heap.size
  show own_G p e below (fun o_ s₂ => ∃ v_ L_, o_ = .returned v_ ∧ Q_rb Z a a_CCP_AGAINST_MEMBER a_MEMBER_AGAINST_CCP a_CLIENT_AGAINST_MEMBER a_MEMBER_AGAINST_CLIENT h0 v_ s₂.heap L_ ∧ FrameEnd s o_ s₂ L_ ({ frames := 0, cells := 0, slots := 0, locals := 0 } : Room).cells ({ frames := 0, cells := 0, slots := 0, locals := 0 } : Room).slots) (s₁.setTop (entryFrame m #[(.ref a)] 1))
  refine own_go (s₁.setTop (mkF m 0 #[.val (.ref a)] [])) (fun t_ k_ => castTop (own_ef_rb m a) k_) ?_
  have w' := w
  obtain ⟨S_CCP_AGAINST_MEMBER, X_CCP_AGAINST_MEMBER, S_MEMBER_AGAINST_CCP, X_MEMBER_AGAINST_CCP, S_CLIENT_AGAINST_MEMBER, X_CLIENT_AGAINST_MEMBER, S_MEMBER_AGAINST_CLIENT, X_MEMBER_AGAINST_CLIENT, F_CCP_AGAINST_MEMBER_ordinal, F_MEMBER_AGAINST_CCP_ordinal, F_CLIENT_AGAINST_MEMBER_ordinal, F_MEMBER_AGAINST_CLIENT_ordinal⟩ := w'
  refine own_go (s₁.setTop (mkF m 1 #[.val (.ref a)] [(.ref a)])) (fun t_ k_ => XS.aloadN X0.here hx rfl (hb hby own_d_prog_25_method_9_0) rfl rfl k_) ?_
  obtain ⟨T1, X1, e1, st1⟩ := getS2 X0 hx hZ hown (host := "") (Or.inl (hw _ (List.mem_of_getElem? (i := 8) rfl))) Via.refl e0 (S_MEMBER_AGAINST_CCP.ext O) (g := (mkF m 1 #[.val (.ref a)] [(.ref a)])) rfl (hb hby own_d_prog_25_method_9_1)
  refine own_go (T1.setTop (mkF m 4 #[.val (.ref a)] [(.ref a_MEMBER_AGAINST_CCP), (.ref a)])) (fun t_ k_ => st1 _ k_) ?_
  by_cases ha4_2 : a = a_MEMBER_AGAINST_CCP
  ·
    refine own_go (T1.setTop (mkF m 14 #[.val (.ref a)] [])) (fun t_ k_ => Jvm.RoadKit.acmp (g := (mkF m 4 #[.val (.ref a)] [(.ref a_MEMBER_AGAINST_CCP), (.ref a)])) X1 hx rfl rfl rfl (pc0 := 4) (pc' := 14) (same := true) rfl (hb hby own_d_prog_25_method_9_4) rfl (decide_eq_true (congrArg Value.ref ha4_2)) (by decide) (by decide) k_) ?_
    refine own_go (T1.setTop (mkF m 15 #[.val (.ref a)] [(.int (1 : Int32))])) (fun t_ k_ => XS.iconst X1.here hx rfl (hb hby own_d_prog_25_method_9_14) k_) ?_
    refine own_go (T1.setTop (mkF m 19 #[.val (.ref a)] [(.int (1 : Int32))])) (fun t_ k_ => XS.goto X1.here hx rfl (pc0 := 15) (pc' := 19) rfl (hb hby own_d_prog_25_method_9_15) (by decide) (by decide) k_) ?_
    obtain ⟨fs, hr, hrun, hended, hW, hsame⟩ := X1.leave (v := some (.int (nar .boolean (1 : Int32)))) (fun h => by rw [Bd.returns] at h; cases h)
    refine ⟨_, _, retN X1 hx (t := .boolean) Bd.returns (by simp) (hb hby own_d_prog_25_method_9_19) hr, hrun, hended, _, _, rfl, ?_, ⟨_, rfl⟩, hW, hsame.mono (by decide) (by decide)⟩
    show Q_rb Z a a_CCP_AGAINST_MEMBER a_MEMBER_AGAINST_CCP a_CLIENT_AGAINST_MEMBER a_MEMBER_AGAINST_CLIENT h0 _ T1.heap _
    exact ⟨by first | (simp [ha4_2]; done) | (simp [ha4_2]; rfl), N0, e1⟩
  ·
    refine own_go (T1.setTop (mkF m 7 #[.val (.ref a)] [])) (fun t_ k_ => Jvm.RoadKit.acmp (g := (mkF m 4 #[.val (.ref a)] [(.ref a_MEMBER_AGAINST_CCP), (.ref a)])) X1 hx rfl rfl rfl (pc0 := 4) (pc' := 7) (same := false) rfl (hb hby own_d_prog_25_method_9_4) rfl (decide_eq_false fun q => ha4_2 (Value.ref.inj q)) (by decide) (by decide) k_) ?_
    refine own_go (T1.setTop (mkF m 8 #[.val (.ref a)] [(.ref a)])) (fun t_ k_ => XS.aloadN X1.here hx rfl (hb hby own_d_prog_25_method_9_7) rfl rfl k_) ?_
    obtain ⟨T3, X3, e3, st3⟩ := getS2 X1 hx hZ hown (host := "") (Or.inl (hw _ (List.mem_of_getElem? (i := 10) rfl))) Via.refl e1 (S_CLIENT_AGAINST_MEMBER.ext O) (g := (mkF m 8 #[.val (.ref a)] [(.ref a)])) rfl (hb hby own_d_prog_25_method_9_8)
    refine own_go (T3.setTop (mkF m 11 #[.val (.ref a)] [(.ref a_CLIENT_AGAINST_MEMBER), (.ref a)])) (fun t_ k_ => st3 _ k_) ?_
    by_cases ha11_4 : a = a_CLIENT_AGAINST_MEMBER
    ·
      refine own_go (T3.setTop (mkF m 14 #[.val (.ref a)] [])) (fun t_ k_ => Jvm.RoadKit.acmp (g := (mkF m 11 #[.val (.ref a)] [(.ref a_CLIENT_AGAINST_MEMBER), (.ref a)])) X3 hx rfl rfl rfl (pc0 := 11) (pc' := 14) (same := true) rfl (hb hby own_d_prog_25_method_9_11) rfl (decide_eq_true (congrArg Value.ref ha11_4)) (by decide) (by decide) k_) ?_
      refine own_go (T3.setTop (mkF m 15 #[.val (.ref a)] [(.int (1 : Int32))])) (fun t_ k_ => XS.iconst X3.here hx rfl (hb hby own_d_prog_25_method_9_14) k_) ?_
      refine own_go (T3.setTop (mkF m 19 #[.val (.ref a)] [(.int (1 : Int32))])) (fun t_ k_ => XS.goto X3.here hx rfl (pc0 := 15) (pc' := 19) rfl (hb hby own_d_prog_25_method_9_15) (by decide) (by decide) k_) ?_
      obtain ⟨fs, hr, hrun, hended, hW, hsame⟩ := X3.leave (v := some (.int (nar .boolean (1 : Int32)))) (fun h => by rw [Bd.returns] at h; cases h)
      refine ⟨_, _, retN X3 hx (t := .boolean) Bd.returns (by simp) (hb hby own_d_prog_25_method_9_19) hr, hrun, hended, _, _, rfl, ?_, ⟨_, rfl⟩, hW, hsame.mono (by decide) (by decide)⟩
      show Q_rb Z a a_CCP_AGAINST_MEMBER a_MEMBER_AGAINST_CCP a_CLIENT_AGAINST_MEMBER a_MEMBER_AGAINST_CLIENT h0 _ T3.heap _
      exact ⟨by first | (simp [ha4_2, ha11_4]; done) | (simp [ha4_2, ha11_4]; rfl), N0, e3⟩
    ·
      refine own_go (T3.setTop (mkF m 18 #[.val (.ref a)] [])) (fun t_ k_ => Jvm.RoadKit.acmp (g := (mkF m 11 #[.val (.ref a)] [(.ref a_CLIENT_AGAINST_MEMBER), (.ref a)])) X3 hx rfl rfl rfl (pc0 := 11) (pc' := 18) (same := false) rfl (hb hby own_d_prog_25_method_9_11) rfl (decide_eq_false fun q => ha11_4 (Value.ref.inj q)) (by decide) (by decide) k_) ?_
      refine own_go (T3.setTop (mkF m 19 #[.val (.ref a)] [(.int (0 : Int32))])) (fun t_ k_ => XS.iconst X3.here hx rfl (hb hby own_d_prog_25_method_9_18) k_) ?_
      obtain ⟨fs, hr, hrun, hended, hW, hsame⟩ := X3.leave (v := some (.int (nar .boolean (0 : Int32)))) (fun h => by rw [Bd.returns] at h; cases h)
      refine ⟨_, _, retN X3 hx (t := .boolean) Bd.returns (by simp) (hb hby own_d_prog_25_method_9_19) hr, hrun, hended, _, _, rfl, ?_, ⟨_, rfl⟩, hW, hsame.mono (by decide) (by decide)⟩
      show Q_rb Z a a_CCP_AGAINST_MEMBER a_MEMBER_AGAINST_CCP a_CLIENT_AGAINST_MEMBER a_MEMBER_AGAINST_CLIENT h0 _ T3.heap _
      exact ⟨by first | (simp [ha4_2, ha11_4]; done) | (simp [ha4_2, ha11_4]; rfl), N0, e3⟩
theorem own_pn1 : plainName "com/example/cleardraft/cleardraft/draft/LegReportedByHolderPinLaw" = true := by first | (simp [plainName, overriddenIn]; done) | decide +kernel
theorem own_ef_law (m : MethodId) (p0 : Int32) : entryFrame m #[(.int p0)] maxLocals = mkF m 0 #[.val (.int p0), .unset, .unset, .unset] [] := by first | (simp [entryFrame, mkF, argsToLocals, Value.category, maxLocals]; done) | rfl
theorem own_pd0 : parseMethodDescriptor "()Z" = some ⟨[], some .boolean⟩ := by decide +kernel
def Q_law (Z : State) (p0 : Int32) (a_CCP_AGAINST_MEMBER : Addr) (a_MEMBER_AGAINST_CCP : Addr) (a_CLIENT_AGAINST_MEMBER : Addr) (a_MEMBER_AGAINST_CLIENT : Addr) (h0 : Heap) (v_ : Option Value) (h : Heap) (L_ : List Loc) : Prop := v_ = some (.int 1) ∧ Fr Z.heap.size L_ ∧ (True)
set_option maxRecDepth 65536 in
set_option maxHeartbeats 40000000 in
theorem rm_law (l : Launch) (Z : State) (a0 : Array Value) (hw : ∀ d ∈ tables_1, d.before a0 Z = true) (ws : List Jvm.Cond) (p0 : Int32) (a_CCP_AGAINST_MEMBER : Addr) (a_MEMBER_AGAINST_CCP : Addr) (a_CLIENT_AGAINST_MEMBER : Addr) (a_MEMBER_AGAINST_CLIENT : Addr) (h0 : Heap) (O : Ext Z.heap h0) (w : own_W Z a_CCP_AGAINST_MEMBER a_MEMBER_AGAINST_CCP a_CLIENT_AGAINST_MEMBER a_MEMBER_AGAINST_CLIENT) :
    MetFree l x (head1 (Jvm.Cond.code x code maxLocals ret :: ws) room_1) (fun a_ U_ => a_ = #[(.int p0)] ∧ Z.Warmed39 U_.vm ∧ U_.heap = h0) (fun _ _ _ _ _ => True) (fun _ U_ o_ U2_ => ∃ v_ L_, o_ = .returned v_ ∧ Q_law Z p0 a_CCP_AGAINST_MEMBER a_MEMBER_AGAINST_CCP a_CLIENT_AGAINST_MEMBER a_MEMBER_AGAINST_CLIENT h0 v_ U2_.heap L_ ∧ FrameEnd U_ o_ U2_ L_ room_1.cells room_1.slots) := by
  refine MetFree.of_bodySF (plainFor_of_name own_pn1) hisR ?_
  intro p e s m args below meth c s₁ Bd hml0 hP hK
  obtain ⟨rfl, hZ, hh⟩ := hP
  have hx := Bd.exec
  have hby := Bd.bytes
  have hml : c.maxLocals = 4 := hml0
  have hown : s.vm.findClass "com/example/cleardraft/cleardraft/draft/LegReportedByHolderPinLaw" = some m.cls := findClass_of_methodNamed Bd.named
  have hnm := (name_of_methodNamed Bd.named Bd.method).1
  have X0 : Stand p l e room_1 s m #[(.int p0)] below meth c s₁ [] 0 0 := Stand.of_body Bd
  have e0 : s₁.heap = h0 := by rw [← hh, Bd.state]; rfl
  have N0 := Fr.nil Z.heap.size
  show own_G p e below (fun o_ s₂ => ∃ v_ L_, o_ = .returned v_ ∧ Q_law Z p0 a_CCP_AGAINST_MEMBER a_MEMBER_AGAINST_CCP a_CLIENT_AGAINST_MEMBER a_MEMBER_AGAINST_CLIENT h0 v_ s₂.heap L_ ∧ FrameEnd s o_ s₂ L_ room_1.cells room_1.slots) (s₁.setTop (entryFrame m #[(.int p0)] maxLocals))
  refine own_go (s₁.setTop (mkF m 0 #[.val (.int p0), .unset, .unset, .unset] [])) (fun t_ k_ => castTop (own_ef_law m p0) k_) ?_
  have w' := w
  obtain ⟨S_CCP_AGAINST_MEMBER, X_CCP_AGAINST_MEMBER, S_MEMBER_AGAINST_CCP, X_MEMBER_AGAINST_CCP, S_CLIENT_AGAINST_MEMBER, X_CLIENT_AGAINST_MEMBER, S_MEMBER_AGAINST_CLIENT, X_MEMBER_AGAINST_CLIENT, F_CCP_AGAINST_MEMBER_ordinal, F_MEMBER_AGAINST_CCP_ordinal, F_CLIENT_AGAINST_MEMBER_ordinal, F_MEMBER_AGAINST_CLIENT_ordinal⟩ := w'
  have n_CCP_AGAINST_MEMBER_MEMBER_AGAINST_CCP : ¬ a_CCP_AGAINST_MEMBER = a_MEMBER_AGAINST_CCP := Fld.ne F_CCP_AGAINST_MEMBER_ordinal F_MEMBER_AGAINST_CCP_ordinal (by decide)
  have n_MEMBER_AGAINST_CCP_CCP_AGAINST_MEMBER : ¬ a_MEMBER_AGAINST_CCP = a_CCP_AGAINST_MEMBER := fun q => n_CCP_AGAINST_MEMBER_MEMBER_AGAINST_CCP q.symm
  have n_CCP_AGAINST_MEMBER_CLIENT_AGAINST_MEMBER : ¬ a_CCP_AGAINST_MEMBER = a_CLIENT_AGAINST_MEMBER := Fld.ne F_CCP_AGAINST_MEMBER_ordinal F_CLIENT_AGAINST_MEMBER_ordinal (by decide)
  have n_CLIENT_AGAINST_MEMBER_CCP_AGAINST_MEMBER : ¬ a_CLIENT_AGAINST_MEMBER = a_CCP_AGAINST_MEMBER := fun q => n_CCP_AGAINST_MEMBER_CLIENT_AGAINST_MEMBER q.symm
  have n_CCP_AGAINST_MEMBER_MEMBER_AGAINST_CLIENT : ¬ a_CCP_AGAINST_MEMBER = a_MEMBER_AGAINST_CLIENT := Fld.ne F_CCP_AGAINST_MEMBER_ordinal F_MEMBER_AGAINST_CLIENT_ordinal (by decide)
  have n_MEMBER_AGAINST_CLIENT_CCP_AGAINST_MEMBER : ¬ a_MEMBER_AGAINST_CLIENT = a_CCP_AGAINST_MEMBER := fun q => n_CCP_AGAINST_MEMBER_MEMBER_AGAINST_CLIENT q.symm
  have n_MEMBER_AGAINST_CCP_CLIENT_AGAINST_MEMBER : ¬ a_MEMBER_AGAINST_CCP = a_CLIENT_AGAINST_MEMBER := Fld.ne F_MEMBER_AGAINST_CCP_ordinal F_CLIENT_AGAINST_MEMBER_ordinal (by decide)
  have n_CLIENT_AGAINST_MEMBER_MEMBER_AGAINST_CCP : ¬ a_CLIENT_AGAINST_MEMBER = a_MEMBER_AGAINST_CCP := fun q => n_MEMBER_AGAINST_CCP_CLIENT_AGAINST_MEMBER q.symm
  have n_MEMBER_AGAINST_CCP_MEMBER_AGAINST_CLIENT : ¬ a_MEMBER_AGAINST_CCP = a_MEMBER_AGAINST_CLIENT := Fld.ne F_MEMBER_AGAINST_CCP_ordinal F_MEMBER_AGAINST_CLIENT_ordinal (by decide)
  have n_MEMBER_AGAINST_CLIENT_MEMBER_AGAINST_CCP : ¬ a_MEMBER_AGAINST_CLIENT = a_MEMBER_AGAINST_CCP := fun q => n_MEMBER_AGAINST_CCP_MEMBER_AGAINST_CLIENT q.symm
  have n_CLIENT_AGAINST_MEMBER_MEMBER_AGAINST_CLIENT : ¬ a_CLIENT_AGAINST_MEMBER = a_MEMBER_AGAINST_CLIENT := Fld.ne F_CLIENT_AGAINST_MEMBER_ordinal F_MEMBER_AGAINST_CLIENT_ordinal (by decide)
  have n_MEMBER_AGAINST_CLIENT_CLIENT_AGAINST_MEMBER : ¬ a_MEMBER_AGAINST_CLIENT = a_CLIENT_AGAINST_MEMBER := fun q => n_CLIENT_AGAINST_MEMBER_MEMBER_AGAINST_CLIENT q.symm
  refine own_go (s₁.setTop (mkF m 1 #[.val (.int p0), .unset, .unset, .unset] [(.int p0)])) (fun t_ k_ => XS.iloadN X0.here hx rfl (hb hby at_0) rfl k_) ?_
  refine own_go (s₁.setTop (mkF m 2 #[.val (.int p0), .unset, .unset, .unset] [(.int (3 : Int32)), (.int p0)])) (fun t_ k_ => XS.iconst X0.here hx rfl (hb hby at_1) k_) ?_
  refine own_go (s₁.setTop (mkF m 3 #[.val (.int p0), .unset, .unset, .unset] [(.int (p0 &&& (3 : Int32)))])) (fun t_ k_ => XS.iand X0.here hx rfl (hb hby at_2) rfl k_) ?_
  refine own_go (s₁.setTop (mkF m 4 #[.val (.int p0), .val (.int (p0 &&& (3 : Int32))), .unset, .unset] [])) (fun t_ k_ => XS.istoreN X0.here hx rfl (hb hby at_3) rfl (l' := #[.val (.int p0), .val (.int (p0 &&& (3 : Int32))), .unset, .unset]) rfl k_) ?_
  refine own_go (s₁.setTop (mkF m 5 #[.val (.int p0), .val (.int (p0 &&& (3 : Int32))), .unset, .unset] [(.int (p0 &&& (3 : Int32)))])) (fun t_ k_ => XS.iloadN X0.here hx rfl (hb hby at_4) rfl k_) ?_
  by_cases hc5_1 : (p0 &&& (3 : Int32)) = (0 : Int32)
  ·
    refine own_go (s₁.setTop (mkF m 8 #[.val (.int p0), .val (.int (p0 &&& (3 : Int32))), .unset, .unset] [])) (fun t_ k_ => XS.ifNo X0.here hx rfl (hb hby at_5) rfl ((if0 _ _).trans (teq hc5_1).2) k_) ?_
    obtain ⟨T2, X2, e2, st2⟩ := getS2 X0 hx hZ hown (host := "") (Or.inl (hw _ (List.mem_of_getElem? (i := 0) rfl))) Via.refl e0 (S_CCP_AGAINST_MEMBER.ext O) (g := (mkF m 8 #[.val (.int p0), .val (.int (p0 &&& (3 : Int32))), .unset, .unset] [])) rfl (hb hby at_8)
    refine own_go (T2.setTop (mkF m 11 #[.val (.int p0), .val (.int (p0 &&& (3 : Int32))), .unset, .unset] [(.ref a_CCP_AGAINST_MEMBER)])) (fun t_ k_ => st2 _ k_) ?_
    refine own_go (T2.setTop (mkF m 12 #[.val (.int p0), .val (.int (p0 &&& (3 : Int32))), .val (.ref a_CCP_AGAINST_MEMBER), .unset] [])) (fun t_ k_ => XS.astoreN X2.here hx rfl (hb hby at_11) rfl rfl (l' := #[.val (.int p0), .val (.int (p0 &&& (3 : Int32))), .val (.ref a_CCP_AGAINST_MEMBER), .unset]) rfl k_) ?_
    refine own_go (T2.setTop (mkF m 43 #[.val (.int p0), .val (.int (p0 &&& (3 : Int32))), .val (.ref a_CCP_AGAINST_MEMBER), .unset] [])) (fun t_ k_ => XS.goto X2.here hx rfl (pc0 := 12) (pc' := 43) rfl (hb hby at_12) (by decide) (by decide) k_) ?_
    refine own_go (T2.setTop (mkF m 44 #[.val (.int p0), .val (.int (p0 &&& (3 : Int32))), .val (.ref a_CCP_AGAINST_MEMBER), .unset] [(.int (p0 &&& (3 : Int32)))])) (fun t_ k_ => XS.iloadN X2.here hx rfl (hb hby at_43) rfl k_) ?_
    refine own_go (T2.setTop (mkF m 45 #[.val (.int p0), .val (.int (p0 &&& (3 : Int32))), .val (.ref a_CCP_AGAINST_MEMBER), .unset] [(.int (1 : Int32)), (.int (p0 &&& (3 : Int32)))])) (fun t_ k_ => XS.iconst X2.here hx rfl (hb hby at_44) k_) ?_
    refine own_go (T2.setTop (mkF m 48 #[.val (.int p0), .val (.int (p0 &&& (3 : Int32))), .val (.ref a_CCP_AGAINST_MEMBER), .unset] [])) (fun t_ k_ => XS.icmpNo X2.here hx rfl (hb hby at_45) rfl (feq (by rw [hc5_1] <;> decide : ¬ ((p0 &&& (3 : Int32)) = (1 : Int32)))).1 k_) ?_
    refine own_go (T2.setTop (mkF m 49 #[.val (.int p0), .val (.int (p0 &&& (3 : Int32))), .val (.ref a_CCP_AGAINST_MEMBER), .unset] [(.int (p0 &&& (3 : Int32)))])) (fun t_ k_ => XS.iloadN X2.here hx rfl (hb hby at_48) rfl k_) ?_
    refine own_go (T2.setTop (mkF m 50 #[.val (.int p0), .val (.int (p0 &&& (3 : Int32))), .val (.ref a_CCP_AGAINST_MEMBER), .unset] [(.int (3 : Int32)), (.int (p0 &&& (3 : Int32)))])) (fun t_ k_ => XS.iconst X2.here hx rfl (hb hby at_49) k_) ?_
    refine own_go (T2.setTop (mkF m 57 #[.val (.int p0), .val (.int (p0 &&& (3 : Int32))), .val (.ref a_CCP_AGAINST_MEMBER), .unset] [])) (fun t_ k_ => XS.icmpYes X2.here hx rfl (pc0 := 50) (pc' := 57) rfl (hb hby at_50) rfl (feq (by rw [hc5_1] <;> decide : ¬ ((p0 &&& (3 : Int32)) = (3 : Int32)))).2 (by decide) (by decide) k_) ?_
    refine own_go (T2.setTop (mkF m 58 #[.val (.int p0), .val (.int (p0 &&& (3 : Int32))), .val (.ref a_CCP_AGAINST_MEMBER), .unset] [(.int (0 : Int32))])) (fun t_ k_ => XS.iconst X2.here hx rfl (hb hby at_57) k_) ?_
    refine own_go (T2.setTop (mkF m 59 #[.val (.int p0), .val (.int (p0 &&& (3 : Int32))), .val (.ref a_CCP_AGAINST_MEMBER), .val (.int (0 : Int32))] [])) (fun t_ k_ => XS.istoreN X2.here hx rfl (hb hby at_58) rfl (l' := #[.val (.int p0), .val (.int (p0 &&& (3 : Int32))), .val (.ref a_CCP_AGAINST_MEMBER), .val (.int (0 : Int32))]) rfl k_) ?_
    refine own_go (T2.setTop (mkF m 60 #[.val (.int p0), .val (.int (p0 &&& (3 : Int32))), .val (.ref a_CCP_AGAINST_MEMBER), .val (.int (0 : Int32))] [(.ref a_CCP_AGAINST_MEMBER)])) (fun t_ k_ => XS.aloadN X2.here hx rfl (hb hby at_59) rfl rfl k_) ?_
    obtain ⟨cq3, kq3, q3a, q3b, q3c⟩ := isOf hZ e2 (X_CCP_AGAINST_MEMBER.ext O)
    obtain ⟨_, _, ⟨T3, Lu3, ku3, nu3⟩, -, X3, ⟨Lc3, hQ3, lu3, yu3, zu3⟩, st3⟩ := X2.virtualBack hx (y := (⟨"com/example/cleardraft/cleardraft/draft/Leg", "reportedByHolder", "()Z"⟩ : MethodName)) (z := (⟨"com/example/cleardraft/cleardraft/draft/Leg", "reportedByHolder", "()Z"⟩ : MethodName)) hown (mvT hZ (hw _ (List.mem_of_getElem? (i := 3) rfl))) (mvT hZ (hw _ (List.mem_of_getElem? (i := 4) rfl))) (notFace_of_selects (args := #[]) (mvT hZ (hw _ (List.mem_of_getElem? (i := 6) rfl)))) (mvT hZ (hw _ (List.mem_of_getElem? (i := 6) rfl))) (mvT hZ (hw _ (List.mem_of_getElem? (i := 5) rfl))) (by decide) (backOf (W := 0) (rm_rb l Z a0 hw [] (a_CCP_AGAINST_MEMBER) (a_CCP_AGAINST_MEMBER) (a_MEMBER_AGAINST_CCP) (a_CLIENT_AGAINST_MEMBER) (a_MEMBER_AGAINST_CLIENT) h0 O w) hZ (hw _ (List.mem_of_getElem? (i := 7) rfl)) (hw _ (List.mem_of_getElem? (i := 1) rfl)) (by decide) (by decide)) q3a q3c (g := (mkF m 60 #[.val (.int p0), .val (.int (p0 &&& (3 : Int32))), .val (.ref a_CCP_AGAINST_MEMBER), .val (.int (0 : Int32))] [(.ref a_CCP_AGAINST_MEMBER)])) rfl (by rw [hml]; rfl) (Steps.refl _) (argsL := []) (rest := []) (lenOf own_pd0 rfl) rfl (by show 2 * 0 + _ ≤ _; exact Nat.le_of_eq rfl) (hb hby at_60) (fun _ _ => ⟨rfl, e2, (by decide : 0 + 0 ≤ _), (by decide : 0 + 0 ≤ _)⟩)
    dsimp only [Pt.U, Pt.locs, Pt.cells, Pt.slots] at X3 lu3 yu3 zu3 st3 hQ3
    subst lu3 yu3 zu3
    obtain ⟨rfl, N3q, e3⟩ := hQ3
    have N3 := Fr.app N0 N3q
    refine own_go (T3.setTop (mkF m 63 #[.val (.int p0), .val (.int (p0 &&& (3 : Int32))), .val (.ref a_CCP_AGAINST_MEMBER), .val (.int (0 : Int32))] [(.int (if a_CCP_AGAINST_MEMBER = a_MEMBER_AGAINST_CCP then 1 else if a_CCP_AGAINST_MEMBER = a_CLIENT_AGAINST_MEMBER then 1 else 0))])) (fun t_ k_ => st3.trans k_) ?_
    refine own_go (T3.setTop (mkF m 64 #[.val (.int p0), .val (.int (p0 &&& (3 : Int32))), .val (.ref a_CCP_AGAINST_MEMBER), .val (.int (0 : Int32))] [(.int (0 : Int32)), (.int (if a_CCP_AGAINST_MEMBER = a_MEMBER_AGAINST_CCP then 1 else if a_CCP_AGAINST_MEMBER = a_CLIENT_AGAINST_MEMBER then 1 else 0))])) (fun t_ k_ => XS.iloadN X3.here hx rfl (hb hby at_63) rfl k_) ?_
    refine own_go (T3.setTop (mkF m 67 #[.val (.int p0), .val (.int (p0 &&& (3 : Int32))), .val (.ref a_CCP_AGAINST_MEMBER), .val (.int (0 : Int32))] [])) (fun t_ k_ => XS.icmpNo X3.here hx rfl (hb hby at_64) rfl (teq (by simp [n_CCP_AGAINST_MEMBER_MEMBER_AGAINST_CCP, n_CCP_AGAINST_MEMBER_CLIENT_AGAINST_MEMBER, n_CCP_AGAINST_MEMBER_MEMBER_AGAINST_CLIENT, n_MEMBER_AGAINST_CCP_CCP_AGAINST_MEMBER, n_MEMBER_AGAINST_CCP_CLIENT_AGAINST_MEMBER, n_MEMBER_AGAINST_CCP_MEMBER_AGAINST_CLIENT, n_CLIENT_AGAINST_MEMBER_CCP_AGAINST_MEMBER, n_CLIENT_AGAINST_MEMBER_MEMBER_AGAINST_CCP, n_CLIENT_AGAINST_MEMBER_MEMBER_AGAINST_CLIENT, n_MEMBER_AGAINST_CLIENT_CCP_AGAINST_MEMBER, n_MEMBER_AGAINST_CLIENT_MEMBER_AGAINST_CCP, n_MEMBER_AGAINST_CLIENT_CLIENT_AGAINST_MEMBER] : (if a_CCP_AGAINST_MEMBER = a_MEMBER_AGAINST_CCP then 1 else if a_CCP_AGAINST_MEMBER = a_CLIENT_AGAINST_MEMBER then 1 else 0) = (0 : Int32))).2 k_) ?_
    refine own_go (T3.setTop (mkF m 68 #[.val (.int p0), .val (.int (p0 &&& (3 : Int32))), .val (.ref a_CCP_AGAINST_MEMBER), .val (.int (0 : Int32))] [(.int (1 : Int32))])) (fun t_ k_ => XS.iconst X3.here hx rfl (hb hby at_67) k_) ?_
    refine own_go (T3.setTop (mkF m 72 #[.val (.int p0), .val (.int (p0 &&& (3 : Int32))), .val (.ref a_CCP_AGAINST_MEMBER), .val (.int (0 : Int32))] [(.int (1 : Int32))])) (fun t_ k_ => XS.goto X3.here hx rfl (pc0 := 68) (pc' := 72) rfl (hb hby at_68) (by decide) (by decide) k_) ?_
    obtain ⟨fs, hr, hrun, hended, hW, hsame⟩ := X3.leave (v := some (.int (nar .boolean (1 : Int32)))) (fun h => by rw [Bd.returns] at h; cases h)
    refine ⟨_, _, retN X3 hx (t := .boolean) Bd.returns (by simp) (hb hby at_72) hr, hrun, hended, _, _, rfl, ?_, ⟨_, rfl⟩, hW, hsame.mono (by decide) (by decide)⟩
    show Q_law Z p0 a_CCP_AGAINST_MEMBER a_MEMBER_AGAINST_CCP a_CLIENT_AGAINST_MEMBER a_MEMBER_AGAINST_CLIENT h0 _ T3.heap _
    exact ⟨rfl, N3, trivial⟩
  ·
    refine own_go (s₁.setTop (mkF m 15 #[.val (.int p0), .val (.int (p0 &&& (3 : Int32))), .unset, .unset] [])) (fun t_ k_ => XS.ifYes X0.here hx rfl (pc0 := 5) (pc' := 15) rfl (hb hby at_5) rfl ((if0 _ _).trans (feq hc5_1).2) (by decide) (by decide) k_) ?_
    refine own_go (s₁.setTop (mkF m 16 #[.val (.int p0), .val (.int (p0 &&& (3 : Int32))), .unset, .unset] [(.int (p0 &&& (3 : Int32)))])) (fun t_ k_ => XS.iloadN X0.here hx rfl (hb hby at_15) rfl k_) ?_
    refine own_go (s₁.setTop (mkF m 17 #[.val (.int p0), .val (.int (p0 &&& (3 : Int32))), .unset, .unset] [(.int (1 : Int32)), (.int (p0 &&& (3 : Int32)))])) (fun t_ k_ => XS.iconst X0.here hx rfl (hb hby at_16) k_) ?_
    by_cases hc17_4 : (p0 &&& (3 : Int32)) = (1 : Int32)
    ·
      refine own_go (s₁.setTop (mkF m 20 #[.val (.int p0), .val (.int (p0 &&& (3 : Int32))), .unset, .unset] [])) (fun t_ k_ => XS.icmpNo X0.here hx rfl (hb hby at_17) rfl (teq hc17_4).2 k_) ?_
      obtain ⟨T5, X5, e5, st5⟩ := getS2 X0 hx hZ hown (host := "") (Or.inl (hw _ (List.mem_of_getElem? (i := 15) rfl))) Via.refl e0 (S_MEMBER_AGAINST_CCP.ext O) (g := (mkF m 20 #[.val (.int p0), .val (.int (p0 &&& (3 : Int32))), .unset, .unset] [])) rfl (hb hby at_20)
      refine own_go (T5.setTop (mkF m 23 #[.val (.int p0), .val (.int (p0 &&& (3 : Int32))), .unset, .unset] [(.ref a_MEMBER_AGAINST_CCP)])) (fun t_ k_ => st5 _ k_) ?_
      refine own_go (T5.setTop (mkF m 24 #[.val (.int p0), .val (.int (p0 &&& (3 : Int32))), .val (.ref a_MEMBER_AGAINST_CCP), .unset] [])) (fun t_ k_ => XS.astoreN X5.here hx rfl (hb hby at_23) rfl rfl (l' := #[.val (.int p0), .val (.int (p0 &&& (3 : Int32))), .val (.ref a_MEMBER_AGAINST_CCP), .unset]) rfl k_) ?_
      refine own_go (T5.setTop (mkF m 43 #[.val (.int p0), .val (.int (p0 &&& (3 : Int32))), .val (.ref a_MEMBER_AGAINST_CCP), .unset] [])) (fun t_ k_ => XS.goto X5.here hx rfl (pc0 := 24) (pc' := 43) rfl (hb hby at_24) (by decide) (by decide) k_) ?_
      refine own_go (T5.setTop (mkF m 44 #[.val (.int p0), .val (.int (p0 &&& (3 : Int32))), .val (.ref a_MEMBER_AGAINST_CCP), .unset] [(.int (p0 &&& (3 : Int32)))])) (fun t_ k_ => XS.iloadN X5.here hx rfl (hb hby at_43) rfl k_) ?_
      refine own_go (T5.setTop (mkF m 45 #[.val (.int p0), .val (.int (p0 &&& (3 : Int32))), .val (.ref a_MEMBER_AGAINST_CCP), .unset] [(.int (1 : Int32)), (.int (p0 &&& (3 : Int32)))])) (fun t_ k_ => XS.iconst X5.here hx rfl (hb hby at_44) k_) ?_
      refine own_go (T5.setTop (mkF m 53 #[.val (.int p0), .val (.int (p0 &&& (3 : Int32))), .val (.ref a_MEMBER_AGAINST_CCP), .unset] [])) (fun t_ k_ => XS.icmpYes X5.here hx rfl (pc0 := 45) (pc' := 53) rfl (hb hby at_45) rfl (teq (by rw [hc17_4] <;> decide : (p0 &&& (3 : Int32)) = (1 : Int32))).1 (by decide) (by decide) k_) ?_
      refine own_go (T5.setTop (mkF m 54 #[.val (.int p0), .val (.int (p0 &&& (3 : Int32))), .val (.ref a_MEMBER_AGAINST_CCP), .unset] [(.int (1 : Int32))])) (fun t_ k_ => XS.iconst X5.here hx rfl (hb hby at_53) k_) ?_
      refine own_go (T5.setTop (mkF m 58 #[.val (.int p0), .val (.int (p0 &&& (3 : Int32))), .val (.ref a_MEMBER_AGAINST_CCP), .unset] [(.int (1 : Int32))])) (fun t_ k_ => XS.goto X5.here hx rfl (pc0 := 54) (pc' := 58) rfl (hb hby at_54) (by decide) (by decide) k_) ?_
      refine own_go (T5.setTop (mkF m 59 #[.val (.int p0), .val (.int (p0 &&& (3 : Int32))), .val (.ref a_MEMBER_AGAINST_CCP), .val (.int (1 : Int32))] [])) (fun t_ k_ => XS.istoreN X5.here hx rfl (hb hby at_58) rfl (l' := #[.val (.int p0), .val (.int (p0 &&& (3 : Int32))), .val (.ref a_MEMBER_AGAINST_CCP), .val (.int (1 : Int32))]) rfl k_) ?_
      refine own_go (T5.setTop (mkF m 60 #[.val (.int p0), .val (.int (p0 &&& (3 : Int32))), .val (.ref a_MEMBER_AGAINST_CCP), .val (.int (1 : Int32))] [(.ref a_MEMBER_AGAINST_CCP)])) (fun t_ k_ => XS.aloadN X5.here hx rfl (hb hby at_59) rfl rfl k_) ?_
      obtain ⟨cq6, kq6, q6a, q6b, q6c⟩ := isOf hZ e5 (X_MEMBER_AGAINST_CCP.ext O)
      obtain ⟨_, _, ⟨T6, Lu6, ku6, nu6⟩, -, X6, ⟨Lc6, hQ6, lu6, yu6, zu6⟩, st6⟩ := X5.virtualBack hx (y := (⟨"com/example/cleardraft/cleardraft/draft/Leg", "reportedByHolder", "()Z"⟩ : MethodName)) (z := (⟨"com/example/cleardraft/cleardraft/draft/Leg", "reportedByHolder", "()Z"⟩ : MethodName)) hown (mvT hZ (hw _ (List.mem_of_getElem? (i := 3) rfl))) (mvT hZ (hw _ (List.mem_of_getElem? (i := 4) rfl))) (notFace_of_selects (args := #[]) (mvT hZ (hw _ (List.mem_of_getElem? (i := 6) rfl)))) (mvT hZ (hw _ (List.mem_of_getElem? (i := 6) rfl))) (mvT hZ (hw _ (List.mem_of_getElem? (i := 5) rfl))) (by decide) (backOf (W := 0) (rm_rb l Z a0 hw [] (a_MEMBER_AGAINST_CCP) (a_CCP_AGAINST_MEMBER) (a_MEMBER_AGAINST_CCP) (a_CLIENT_AGAINST_MEMBER) (a_MEMBER_AGAINST_CLIENT) h0 O w) hZ (hw _ (List.mem_of_getElem? (i := 7) rfl)) (hw _ (List.mem_of_getElem? (i := 1) rfl)) (by decide) (by decide)) q6a q6c (g := (mkF m 60 #[.val (.int p0), .val (.int (p0 &&& (3 : Int32))), .val (.ref a_MEMBER_AGAINST_CCP), .val (.int (1 : Int32))] [(.ref a_MEMBER_AGAINST_CCP)])) rfl (by rw [hml]; rfl) (Steps.refl _) (argsL := []) (rest := []) (lenOf own_pd0 rfl) rfl (by show 2 * 0 + _ ≤ _; exact Nat.le_of_eq rfl) (hb hby at_60) (fun _ _ => ⟨rfl, e5, (by decide : 0 + 0 ≤ _), (by decide : 0 + 0 ≤ _)⟩)
      dsimp only [Pt.U, Pt.locs, Pt.cells, Pt.slots] at X6 lu6 yu6 zu6 st6 hQ6
      subst lu6 yu6 zu6
      obtain ⟨rfl, N6q, e6⟩ := hQ6
      have N6 := Fr.app N0 N6q
      refine own_go (T6.setTop (mkF m 63 #[.val (.int p0), .val (.int (p0 &&& (3 : Int32))), .val (.ref a_MEMBER_AGAINST_CCP), .val (.int (1 : Int32))] [(.int (if a_MEMBER_AGAINST_CCP = a_MEMBER_AGAINST_CCP then 1 else if a_MEMBER_AGAINST_CCP = a_CLIENT_AGAINST_MEMBER then 1 else 0))])) (fun t_ k_ => st6.trans k_) ?_
      refine own_go (T6.setTop (mkF m 64 #[.val (.int p0), .val (.int (p0 &&& (3 : Int32))), .val (.ref a_MEMBER_AGAINST_CCP), .val (.int (1 : Int32))] [(.int (1 : Int32)), (.int (if a_MEMBER_AGAINST_CCP = a_MEMBER_AGAINST_CCP then 1 else if a_MEMBER_AGAINST_CCP = a_CLIENT_AGAINST_MEMBER then 1 else 0))])) (fun t_ k_ => XS.iloadN X6.here hx rfl (hb hby at_63) rfl k_) ?_
      refine own_go (T6.setTop (mkF m 67 #[.val (.int p0), .val (.int (p0 &&& (3 : Int32))), .val (.ref a_MEMBER_AGAINST_CCP), .val (.int (1 : Int32))] [])) (fun t_ k_ => XS.icmpNo X6.here hx rfl (hb hby at_64) rfl (teq (by simp [n_CCP_AGAINST_MEMBER_MEMBER_AGAINST_CCP, n_CCP_AGAINST_MEMBER_CLIENT_AGAINST_MEMBER, n_CCP_AGAINST_MEMBER_MEMBER_AGAINST_CLIENT, n_MEMBER_AGAINST_CCP_CCP_AGAINST_MEMBER, n_MEMBER_AGAINST_CCP_CLIENT_AGAINST_MEMBER, n_MEMBER_AGAINST_CCP_MEMBER_AGAINST_CLIENT, n_CLIENT_AGAINST_MEMBER_CCP_AGAINST_MEMBER, n_CLIENT_AGAINST_MEMBER_MEMBER_AGAINST_CCP, n_CLIENT_AGAINST_MEMBER_MEMBER_AGAINST_CLIENT, n_MEMBER_AGAINST_CLIENT_CCP_AGAINST_MEMBER, n_MEMBER_AGAINST_CLIENT_MEMBER_AGAINST_CCP, n_MEMBER_AGAINST_CLIENT_CLIENT_AGAINST_MEMBER] : (if a_MEMBER_AGAINST_CCP = a_MEMBER_AGAINST_CCP then 1 else if a_MEMBER_AGAINST_CCP = a_CLIENT_AGAINST_MEMBER then 1 else 0) = (1 : Int32))).2 k_) ?_
      refine own_go (T6.setTop (mkF m 68 #[.val (.int p0), .val (.int (p0 &&& (3 : Int32))), .val (.ref a_MEMBER_AGAINST_CCP), .val (.int (1 : Int32))] [(.int (1 : Int32))])) (fun t_ k_ => XS.iconst X6.here hx rfl (hb hby at_67) k_) ?_
      refine own_go (T6.setTop (mkF m 72 #[.val (.int p0), .val (.int (p0 &&& (3 : Int32))), .val (.ref a_MEMBER_AGAINST_CCP), .val (.int (1 : Int32))] [(.int (1 : Int32))])) (fun t_ k_ => XS.goto X6.here hx rfl (pc0 := 68) (pc' := 72) rfl (hb hby at_68) (by decide) (by decide) k_) ?_
      obtain ⟨fs, hr, hrun, hended, hW, hsame⟩ := X6.leave (v := some (.int (nar .boolean (1 : Int32)))) (fun h => by rw [Bd.returns] at h; cases h)
      refine ⟨_, _, retN X6 hx (t := .boolean) Bd.returns (by simp) (hb hby at_72) hr, hrun, hended, _, _, rfl, ?_, ⟨_, rfl⟩, hW, hsame.mono (by decide) (by decide)⟩
      show Q_law Z p0 a_CCP_AGAINST_MEMBER a_MEMBER_AGAINST_CCP a_CLIENT_AGAINST_MEMBER a_MEMBER_AGAINST_CLIENT h0 _ T6.heap _
      exact ⟨rfl, N6, trivial⟩
    ·
      refine own_go (s₁.setTop (mkF m 27 #[.val (.int p0), .val (.int (p0 &&& (3 : Int32))), .unset, .unset] [])) (fun t_ k_ => XS.icmpYes X0.here hx rfl (pc0 := 17) (pc' := 27) rfl (hb hby at_17) rfl (feq hc17_4).2 (by decide) (by decide) k_) ?_
      refine own_go (s₁.setTop (mkF m 28 #[.val (.int p0), .val (.int (p0 &&& (3 : Int32))), .unset, .unset] [(.int (p0 &&& (3 : Int32)))])) (fun t_ k_ => XS.iloadN X0.here hx rfl (hb hby at_27) rfl k_) ?_
      refine own_go (s₁.setTop (mkF m 29 #[.val (.int p0), .val (.int (p0 &&& (3 : Int32))), .unset, .unset] [(.int (2 : Int32)), (.int (p0 &&& (3 : Int32)))])) (fun t_ k_ => XS.iconst X0.here hx rfl (hb hby at_28) k_) ?_
      by_cases hc29_7 : (p0 &&& (3 : Int32)) = (2 : Int32)
      ·
        refine own_go (s₁.setTop (mkF m 32 #[.val (.int p0), .val (.int (p0 &&& (3 : Int32))), .unset, .unset] [])) (fun t_ k_ => XS.icmpNo X0.here hx rfl (hb hby at_29) rfl (teq hc29_7).2 k_) ?_
        obtain ⟨T8, X8, e8, st8⟩ := getS2 X0 hx hZ hown (host := "") (Or.inl (hw _ (List.mem_of_getElem? (i := 13) rfl))) Via.refl e0 (S_MEMBER_AGAINST_CLIENT.ext O) (g := (mkF m 32 #[.val (.int p0), .val (.int (p0 &&& (3 : Int32))), .unset, .unset] [])) rfl (hb hby at_32)
        refine own_go (T8.setTop (mkF m 35 #[.val (.int p0), .val (.int (p0 &&& (3 : Int32))), .unset, .unset] [(.ref a_MEMBER_AGAINST_CLIENT)])) (fun t_ k_ => st8 _ k_) ?_
        refine own_go (T8.setTop (mkF m 36 #[.val (.int p0), .val (.int (p0 &&& (3 : Int32))), .val (.ref a_MEMBER_AGAINST_CLIENT), .unset] [])) (fun t_ k_ => XS.astoreN X8.here hx rfl (hb hby at_35) rfl rfl (l' := #[.val (.int p0), .val (.int (p0 &&& (3 : Int32))), .val (.ref a_MEMBER_AGAINST_CLIENT), .unset]) rfl k_) ?_
        refine own_go (T8.setTop (mkF m 43 #[.val (.int p0), .val (.int (p0 &&& (3 : Int32))), .val (.ref a_MEMBER_AGAINST_CLIENT), .unset] [])) (fun t_ k_ => XS.goto X8.here hx rfl (pc0 := 36) (pc' := 43) rfl (hb hby at_36) (by decide) (by decide) k_) ?_
        refine own_go (T8.setTop (mkF m 44 #[.val (.int p0), .val (.int (p0 &&& (3 : Int32))), .val (.ref a_MEMBER_AGAINST_CLIENT), .unset] [(.int (p0 &&& (3 : Int32)))])) (fun t_ k_ => XS.iloadN X8.here hx rfl (hb hby at_43) rfl k_) ?_
        refine own_go (T8.setTop (mkF m 45 #[.val (.int p0), .val (.int (p0 &&& (3 : Int32))), .val (.ref a_MEMBER_AGAINST_CLIENT), .unset] [(.int (1 : Int32)), (.int (p0 &&& (3 : Int32)))])) (fun t_ k_ => XS.iconst X8.here hx rfl (hb hby at_44) k_) ?_
        refine own_go (T8.setTop (mkF m 48 #[.val (.int p0), .val (.int (p0 &&& (3 : Int32))), .val (.ref a_MEMBER_AGAINST_CLIENT), .unset] [])) (fun t_ k_ => XS.icmpNo X8.here hx rfl (hb hby at_45) rfl (feq (by rw [hc29_7] <;> decide : ¬ ((p0 &&& (3 : Int32)) = (1 : Int32)))).1 k_) ?_
        refine own_go (T8.setTop (mkF m 49 #[.val (.int p0), .val (.int (p0 &&& (3 : Int32))), .val (.ref a_MEMBER_AGAINST_CLIENT), .unset] [(.int (p0 &&& (3 : Int32)))])) (fun t_ k_ => XS.iloadN X8.here hx rfl (hb hby at_48) rfl k_) ?_
        refine own_go (T8.setTop (mkF m 50 #[.val (.int p0), .val (.int (p0 &&& (3 : Int32))), .val (.ref a_MEMBER_AGAINST_CLIENT), .unset] [(.int (3 : Int32)), (.int (p0 &&& (3 : Int32)))])) (fun t_ k_ => XS.iconst X8.here hx rfl (hb hby at_49) k_) ?_
        refine own_go (T8.setTop (mkF m 57 #[.val (.int p0), .val (.int (p0 &&& (3 : Int32))), .val (.ref a_MEMBER_AGAINST_CLIENT), .unset] [])) (fun t_ k_ => XS.icmpYes X8.here hx rfl (pc0 := 50) (pc' := 57) rfl (hb hby at_50) rfl (feq (by rw [hc29_7] <;> decide : ¬ ((p0 &&& (3 : Int32)) = (3 : Int32)))).2 (by decide) (by decide) k_) ?_
        refine own_go (T8.setTop (mkF m 58 #[.val (.int p0), .val (.int (p0 &&& (3 : Int32))), .val (.ref a_MEMBER_AGAINST_CLIENT), .unset] [(.int (0 : Int32))])) (fun t_ k_ => XS.iconst X8.here hx rfl (hb hby at_57) k_) ?_
        refine own_go (T8.setTop (mkF m 59 #[.val (.int p0), .val (.int (p0 &&& (3 : Int32))), .val (.ref a_MEMBER_AGAINST_CLIENT), .val (.int (0 : Int32))] [])) (fun t_ k_ => XS.istoreN X8.here hx rfl (hb hby at_58) rfl (l' := #[.val (.int p0), .val (.int (p0 &&& (3 : Int32))), .val (.ref a_MEMBER_AGAINST_CLIENT), .val (.int (0 : Int32))]) rfl k_) ?_
        refine own_go (T8.setTop (mkF m 60 #[.val (.int p0), .val (.int (p0 &&& (3 : Int32))), .val (.ref a_MEMBER_AGAINST_CLIENT), .val (.int (0 : Int32))] [(.ref a_MEMBER_AGAINST_CLIENT)])) (fun t_ k_ => XS.aloadN X8.here hx rfl (hb hby at_59) rfl rfl k_) ?_
        obtain ⟨cq9, kq9, q9a, q9b, q9c⟩ := isOf hZ e8 (X_MEMBER_AGAINST_CLIENT.ext O)
        obtain ⟨_, _, ⟨T9, Lu9, ku9, nu9⟩, -, X9, ⟨Lc9, hQ9, lu9, yu9, zu9⟩, st9⟩ := X8.virtualBack hx (y := (⟨"com/example/cleardraft/cleardraft/draft/Leg", "reportedByHolder", "()Z"⟩ : MethodName)) (z := (⟨"com/example/cleardraft/cleardraft/draft/Leg", "reportedByHolder", "()Z"⟩ : MethodName)) hown (mvT hZ (hw _ (List.mem_of_getElem? (i := 3) rfl))) (mvT hZ (hw _ (List.mem_of_getElem? (i := 4) rfl))) (notFace_of_selects (args := #[]) (mvT hZ (hw _ (List.mem_of_getElem? (i := 6) rfl)))) (mvT hZ (hw _ (List.mem_of_getElem? (i := 6) rfl))) (mvT hZ (hw _ (List.mem_of_getElem? (i := 5) rfl))) (by decide) (backOf (W := 0) (rm_rb l Z a0 hw [] (a_MEMBER_AGAINST_CLIENT) (a_CCP_AGAINST_MEMBER) (a_MEMBER_AGAINST_CCP) (a_CLIENT_AGAINST_MEMBER) (a_MEMBER_AGAINST_CLIENT) h0 O w) hZ (hw _ (List.mem_of_getElem? (i := 7) rfl)) (hw _ (List.mem_of_getElem? (i := 1) rfl)) (by decide) (by decide)) q9a q9c (g := (mkF m 60 #[.val (.int p0), .val (.int (p0 &&& (3 : Int32))), .val (.ref a_MEMBER_AGAINST_CLIENT), .val (.int (0 : Int32))] [(.ref a_MEMBER_AGAINST_CLIENT)])) rfl (by rw [hml]; rfl) (Steps.refl _) (argsL := []) (rest := []) (lenOf own_pd0 rfl) rfl (by show 2 * 0 + _ ≤ _; exact Nat.le_of_eq rfl) (hb hby at_60) (fun _ _ => ⟨rfl, e8, (by decide : 0 + 0 ≤ _), (by decide : 0 + 0 ≤ _)⟩)
        dsimp only [Pt.U, Pt.locs, Pt.cells, Pt.slots] at X9 lu9 yu9 zu9 st9 hQ9
        subst lu9 yu9 zu9
        obtain ⟨rfl, N9q, e9⟩ := hQ9
        have N9 := Fr.app N0 N9q
        refine own_go (T9.setTop (mkF m 63 #[.val (.int p0), .val (.int (p0 &&& (3 : Int32))), .val (.ref a_MEMBER_AGAINST_CLIENT), .val (.int (0 : Int32))] [(.int (if a_MEMBER_AGAINST_CLIENT = a_MEMBER_AGAINST_CCP then 1 else if a_MEMBER_AGAINST_CLIENT = a_CLIENT_AGAINST_MEMBER then 1 else 0))])) (fun t_ k_ => st9.trans k_) ?_
        refine own_go (T9.setTop (mkF m 64 #[.val (.int p0), .val (.int (p0 &&& (3 : Int32))), .val (.ref a_MEMBER_AGAINST_CLIENT), .val (.int (0 : Int32))] [(.int (0 : Int32)), (.int (if a_MEMBER_AGAINST_CLIENT = a_MEMBER_AGAINST_CCP then 1 else if a_MEMBER_AGAINST_CLIENT = a_CLIENT_AGAINST_MEMBER then 1 else 0))])) (fun t_ k_ => XS.iloadN X9.here hx rfl (hb hby at_63) rfl k_) ?_
        refine own_go (T9.setTop (mkF m 67 #[.val (.int p0), .val (.int (p0 &&& (3 : Int32))), .val (.ref a_MEMBER_AGAINST_CLIENT), .val (.int (0 : Int32))] [])) (fun t_ k_ => XS.icmpNo X9.here hx rfl (hb hby at_64) rfl (teq (by simp [n_CCP_AGAINST_MEMBER_MEMBER_AGAINST_CCP, n_CCP_AGAINST_MEMBER_CLIENT_AGAINST_MEMBER, n_CCP_AGAINST_MEMBER_MEMBER_AGAINST_CLIENT, n_MEMBER_AGAINST_CCP_CCP_AGAINST_MEMBER, n_MEMBER_AGAINST_CCP_CLIENT_AGAINST_MEMBER, n_MEMBER_AGAINST_CCP_MEMBER_AGAINST_CLIENT, n_CLIENT_AGAINST_MEMBER_CCP_AGAINST_MEMBER, n_CLIENT_AGAINST_MEMBER_MEMBER_AGAINST_CCP, n_CLIENT_AGAINST_MEMBER_MEMBER_AGAINST_CLIENT, n_MEMBER_AGAINST_CLIENT_CCP_AGAINST_MEMBER, n_MEMBER_AGAINST_CLIENT_MEMBER_AGAINST_CCP, n_MEMBER_AGAINST_CLIENT_CLIENT_AGAINST_MEMBER] : (if a_MEMBER_AGAINST_CLIENT = a_MEMBER_AGAINST_CCP then 1 else if a_MEMBER_AGAINST_CLIENT = a_CLIENT_AGAINST_MEMBER then 1 else 0) = (0 : Int32))).2 k_) ?_
        refine own_go (T9.setTop (mkF m 68 #[.val (.int p0), .val (.int (p0 &&& (3 : Int32))), .val (.ref a_MEMBER_AGAINST_CLIENT), .val (.int (0 : Int32))] [(.int (1 : Int32))])) (fun t_ k_ => XS.iconst X9.here hx rfl (hb hby at_67) k_) ?_
        refine own_go (T9.setTop (mkF m 72 #[.val (.int p0), .val (.int (p0 &&& (3 : Int32))), .val (.ref a_MEMBER_AGAINST_CLIENT), .val (.int (0 : Int32))] [(.int (1 : Int32))])) (fun t_ k_ => XS.goto X9.here hx rfl (pc0 := 68) (pc' := 72) rfl (hb hby at_68) (by decide) (by decide) k_) ?_
        obtain ⟨fs, hr, hrun, hended, hW, hsame⟩ := X9.leave (v := some (.int (nar .boolean (1 : Int32)))) (fun h => by rw [Bd.returns] at h; cases h)
        refine ⟨_, _, retN X9 hx (t := .boolean) Bd.returns (by simp) (hb hby at_72) hr, hrun, hended, _, _, rfl, ?_, ⟨_, rfl⟩, hW, hsame.mono (by decide) (by decide)⟩
        show Q_law Z p0 a_CCP_AGAINST_MEMBER a_MEMBER_AGAINST_CCP a_CLIENT_AGAINST_MEMBER a_MEMBER_AGAINST_CLIENT h0 _ T9.heap _
        exact ⟨rfl, N9, trivial⟩
      ·
        refine own_go (s₁.setTop (mkF m 39 #[.val (.int p0), .val (.int (p0 &&& (3 : Int32))), .unset, .unset] [])) (fun t_ k_ => XS.icmpYes X0.here hx rfl (pc0 := 29) (pc' := 39) rfl (hb hby at_29) rfl (feq hc29_7).2 (by decide) (by decide) k_) ?_
        have h3 : (p0 &&& (3 : Int32)) = (3 : Int32) := by rcases own_and3 p0 with q | q | q | q <;> first | exact q | (exfalso; simp_all)
        obtain ⟨T10, X10, e10, st10⟩ := getS2 X0 hx hZ hown (host := "") (Or.inl (hw _ (List.mem_of_getElem? (i := 12) rfl))) Via.refl e0 (S_CLIENT_AGAINST_MEMBER.ext O) (g := (mkF m 39 #[.val (.int p0), .val (.int (p0 &&& (3 : Int32))), .unset, .unset] [])) rfl (hb hby at_39)
        refine own_go (T10.setTop (mkF m 42 #[.val (.int p0), .val (.int (p0 &&& (3 : Int32))), .unset, .unset] [(.ref a_CLIENT_AGAINST_MEMBER)])) (fun t_ k_ => st10 _ k_) ?_
        refine own_go (T10.setTop (mkF m 43 #[.val (.int p0), .val (.int (p0 &&& (3 : Int32))), .val (.ref a_CLIENT_AGAINST_MEMBER), .unset] [])) (fun t_ k_ => XS.astoreN X10.here hx rfl (hb hby at_42) rfl rfl (l' := #[.val (.int p0), .val (.int (p0 &&& (3 : Int32))), .val (.ref a_CLIENT_AGAINST_MEMBER), .unset]) rfl k_) ?_
        refine own_go (T10.setTop (mkF m 44 #[.val (.int p0), .val (.int (p0 &&& (3 : Int32))), .val (.ref a_CLIENT_AGAINST_MEMBER), .unset] [(.int (p0 &&& (3 : Int32)))])) (fun t_ k_ => XS.iloadN X10.here hx rfl (hb hby at_43) rfl k_) ?_
        refine own_go (T10.setTop (mkF m 45 #[.val (.int p0), .val (.int (p0 &&& (3 : Int32))), .val (.ref a_CLIENT_AGAINST_MEMBER), .unset] [(.int (1 : Int32)), (.int (p0 &&& (3 : Int32)))])) (fun t_ k_ => XS.iconst X10.here hx rfl (hb hby at_44) k_) ?_
        refine own_go (T10.setTop (mkF m 48 #[.val (.int p0), .val (.int (p0 &&& (3 : Int32))), .val (.ref a_CLIENT_AGAINST_MEMBER), .unset] [])) (fun t_ k_ => XS.icmpNo X10.here hx rfl (hb hby at_45) rfl (feq (by rw [h3] <;> decide : ¬ ((p0 &&& (3 : Int32)) = (1 : Int32)))).1 k_) ?_
        refine own_go (T10.setTop (mkF m 49 #[.val (.int p0), .val (.int (p0 &&& (3 : Int32))), .val (.ref a_CLIENT_AGAINST_MEMBER), .unset] [(.int (p0 &&& (3 : Int32)))])) (fun t_ k_ => XS.iloadN X10.here hx rfl (hb hby at_48) rfl k_) ?_
        refine own_go (T10.setTop (mkF m 50 #[.val (.int p0), .val (.int (p0 &&& (3 : Int32))), .val (.ref a_CLIENT_AGAINST_MEMBER), .unset] [(.int (3 : Int32)), (.int (p0 &&& (3 : Int32)))])) (fun t_ k_ => XS.iconst X10.here hx rfl (hb hby at_49) k_) ?_
        refine own_go (T10.setTop (mkF m 53 #[.val (.int p0), .val (.int (p0 &&& (3 : Int32))), .val (.ref a_CLIENT_AGAINST_MEMBER), .unset] [])) (fun t_ k_ => XS.icmpNo X10.here hx rfl (hb hby at_50) rfl (teq (by rw [h3] <;> decide : (p0 &&& (3 : Int32)) = (3 : Int32))).2 k_) ?_
        refine own_go (T10.setTop (mkF m 54 #[.val (.int p0), .val (.int (p0 &&& (3 : Int32))), .val (.ref a_CLIENT_AGAINST_MEMBER), .unset] [(.int (1 : Int32))])) (fun t_ k_ => XS.iconst X10.here hx rfl (hb hby at_53) k_) ?_
        refine own_go (T10.setTop (mkF m 58 #[.val (.int p0), .val (.int (p0 &&& (3 : Int32))), .val (.ref a_CLIENT_AGAINST_MEMBER), .unset] [(.int (1 : Int32))])) (fun t_ k_ => XS.goto X10.here hx rfl (pc0 := 54) (pc' := 58) rfl (hb hby at_54) (by decide) (by decide) k_) ?_
        refine own_go (T10.setTop (mkF m 59 #[.val (.int p0), .val (.int (p0 &&& (3 : Int32))), .val (.ref a_CLIENT_AGAINST_MEMBER), .val (.int (1 : Int32))] [])) (fun t_ k_ => XS.istoreN X10.here hx rfl (hb hby at_58) rfl (l' := #[.val (.int p0), .val (.int (p0 &&& (3 : Int32))), .val (.ref a_CLIENT_AGAINST_MEMBER), .val (.int (1 : Int32))]) rfl k_) ?_
        refine own_go (T10.setTop (mkF m 60 #[.val (.int p0), .val (.int (p0 &&& (3 : Int32))), .val (.ref a_CLIENT_AGAINST_MEMBER), .val (.int (1 : Int32))] [(.ref a_CLIENT_AGAINST_MEMBER)])) (fun t_ k_ => XS.aloadN X10.here hx rfl (hb hby at_59) rfl rfl k_) ?_
        obtain ⟨cq11, kq11, q11a, q11b, q11c⟩ := isOf hZ e10 (X_CLIENT_AGAINST_MEMBER.ext O)
        obtain ⟨_, _, ⟨T11, Lu11, ku11, nu11⟩, -, X11, ⟨Lc11, hQ11, lu11, yu11, zu11⟩, st11⟩ := X10.virtualBack hx (y := (⟨"com/example/cleardraft/cleardraft/draft/Leg", "reportedByHolder", "()Z"⟩ : MethodName)) (z := (⟨"com/example/cleardraft/cleardraft/draft/Leg", "reportedByHolder", "()Z"⟩ : MethodName)) hown (mvT hZ (hw _ (List.mem_of_getElem? (i := 3) rfl))) (mvT hZ (hw _ (List.mem_of_getElem? (i := 4) rfl))) (notFace_of_selects (args := #[]) (mvT hZ (hw _ (List.mem_of_getElem? (i := 6) rfl)))) (mvT hZ (hw _ (List.mem_of_getElem? (i := 6) rfl))) (mvT hZ (hw _ (List.mem_of_getElem? (i := 5) rfl))) (by decide) (backOf (W := 0) (rm_rb l Z a0 hw [] (a_CLIENT_AGAINST_MEMBER) (a_CCP_AGAINST_MEMBER) (a_MEMBER_AGAINST_CCP) (a_CLIENT_AGAINST_MEMBER) (a_MEMBER_AGAINST_CLIENT) h0 O w) hZ (hw _ (List.mem_of_getElem? (i := 7) rfl)) (hw _ (List.mem_of_getElem? (i := 1) rfl)) (by decide) (by decide)) q11a q11c (g := (mkF m 60 #[.val (.int p0), .val (.int (p0 &&& (3 : Int32))), .val (.ref a_CLIENT_AGAINST_MEMBER), .val (.int (1 : Int32))] [(.ref a_CLIENT_AGAINST_MEMBER)])) rfl (by rw [hml]; rfl) (Steps.refl _) (argsL := []) (rest := []) (lenOf own_pd0 rfl) rfl (by show 2 * 0 + _ ≤ _; exact Nat.le_of_eq rfl) (hb hby at_60) (fun _ _ => ⟨rfl, e10, (by decide : 0 + 0 ≤ _), (by decide : 0 + 0 ≤ _)⟩)
        dsimp only [Pt.U, Pt.locs, Pt.cells, Pt.slots] at X11 lu11 yu11 zu11 st11 hQ11
        subst lu11 yu11 zu11
        obtain ⟨rfl, N11q, e11⟩ := hQ11
        have N11 := Fr.app N0 N11q
        refine own_go (T11.setTop (mkF m 63 #[.val (.int p0), .val (.int (p0 &&& (3 : Int32))), .val (.ref a_CLIENT_AGAINST_MEMBER), .val (.int (1 : Int32))] [(.int (if a_CLIENT_AGAINST_MEMBER = a_MEMBER_AGAINST_CCP then 1 else if a_CLIENT_AGAINST_MEMBER = a_CLIENT_AGAINST_MEMBER then 1 else 0))])) (fun t_ k_ => st11.trans k_) ?_
        refine own_go (T11.setTop (mkF m 64 #[.val (.int p0), .val (.int (p0 &&& (3 : Int32))), .val (.ref a_CLIENT_AGAINST_MEMBER), .val (.int (1 : Int32))] [(.int (1 : Int32)), (.int (if a_CLIENT_AGAINST_MEMBER = a_MEMBER_AGAINST_CCP then 1 else if a_CLIENT_AGAINST_MEMBER = a_CLIENT_AGAINST_MEMBER then 1 else 0))])) (fun t_ k_ => XS.iloadN X11.here hx rfl (hb hby at_63) rfl k_) ?_
        refine own_go (T11.setTop (mkF m 67 #[.val (.int p0), .val (.int (p0 &&& (3 : Int32))), .val (.ref a_CLIENT_AGAINST_MEMBER), .val (.int (1 : Int32))] [])) (fun t_ k_ => XS.icmpNo X11.here hx rfl (hb hby at_64) rfl (teq (by simp [n_CCP_AGAINST_MEMBER_MEMBER_AGAINST_CCP, n_CCP_AGAINST_MEMBER_CLIENT_AGAINST_MEMBER, n_CCP_AGAINST_MEMBER_MEMBER_AGAINST_CLIENT, n_MEMBER_AGAINST_CCP_CCP_AGAINST_MEMBER, n_MEMBER_AGAINST_CCP_CLIENT_AGAINST_MEMBER, n_MEMBER_AGAINST_CCP_MEMBER_AGAINST_CLIENT, n_CLIENT_AGAINST_MEMBER_CCP_AGAINST_MEMBER, n_CLIENT_AGAINST_MEMBER_MEMBER_AGAINST_CCP, n_CLIENT_AGAINST_MEMBER_MEMBER_AGAINST_CLIENT, n_MEMBER_AGAINST_CLIENT_CCP_AGAINST_MEMBER, n_MEMBER_AGAINST_CLIENT_MEMBER_AGAINST_CCP, n_MEMBER_AGAINST_CLIENT_CLIENT_AGAINST_MEMBER] : (if a_CLIENT_AGAINST_MEMBER = a_MEMBER_AGAINST_CCP then 1 else if a_CLIENT_AGAINST_MEMBER = a_CLIENT_AGAINST_MEMBER then 1 else 0) = (1 : Int32))).2 k_) ?_
        refine own_go (T11.setTop (mkF m 68 #[.val (.int p0), .val (.int (p0 &&& (3 : Int32))), .val (.ref a_CLIENT_AGAINST_MEMBER), .val (.int (1 : Int32))] [(.int (1 : Int32))])) (fun t_ k_ => XS.iconst X11.here hx rfl (hb hby at_67) k_) ?_
        refine own_go (T11.setTop (mkF m 72 #[.val (.int p0), .val (.int (p0 &&& (3 : Int32))), .val (.ref a_CLIENT_AGAINST_MEMBER), .val (.int (1 : Int32))] [(.int (1 : Int32))])) (fun t_ k_ => XS.goto X11.here hx rfl (pc0 := 68) (pc' := 72) rfl (hb hby at_68) (by decide) (by decide) k_) ?_
        obtain ⟨fs, hr, hrun, hended, hW, hsame⟩ := X11.leave (v := some (.int (nar .boolean (1 : Int32)))) (fun h => by rw [Bd.returns] at h; cases h)
        refine ⟨_, _, retN X11 hx (t := .boolean) Bd.returns (by simp) (hb hby at_72) hr, hrun, hended, _, _, rfl, ?_, ⟨_, rfl⟩, hW, hsame.mono (by decide) (by decide)⟩
        show Q_law Z p0 a_CCP_AGAINST_MEMBER a_MEMBER_AGAINST_CCP a_CLIENT_AGAINST_MEMBER a_MEMBER_AGAINST_CLIENT h0 _ T11.heap _
        exact ⟨rfl, N11, trivial⟩
set_option maxRecDepth 65536 in
set_option maxHeartbeats 40000000 in
theorem comes_1 {Post : Tables → Env → Array Value → State → Outcome → State → Prop} (hpost : ∀ tb e args s v u, (limb_1_1.after args s (.returned v) u = true ∧ limb_1_2.after args s (.returned v) u = true ∧ True) → FrameEnd s (.returned v) u (Jvm.fieldLocs frame_1_writes args s ++ Jvm.arrayLocs frame_1_arrays args s ++ Jvm.staticLocs frame_1_statics s) 0 0 → Post tb e args s (.returned v) u) :
    ArmFor flags0 classFile x code maxLocals ret World_1 tables_1 room_1 Calls_1 rest_1 Pre_1 Post := by
  intro l hfl _ _ p e ha hc hk s m args below hf hA hF happ hP
  obtain ⟨hcalls, hrest, hpre⟩ := hP
  obtain ⟨-, -, -, hnamed, -, -, -, hat⟩ := (Spec.applies_iff hf).mp happ
  obtain ⟨hg, hn⟩ := and_e (Cond.before_iff.mp (show (Jvm.Cond.and given_1 narrow_1).before args s = true from hpre))
  obtain ⟨g1, g2⟩ := and_e hg
  obtain ⟨w0, rfl⟩ : ∃ w0 : Value, args = #[w0] := by
    have hs : args.size = 1 := by simpa [Cond.value, given_1] using g1
    obtain ⟨L⟩ := args
    match L, hs with
    | [w0], _ => exact ⟨w0, rfl⟩
  have hw := fun d (hd : d ∈ tables_1) => atoms_spec (ws := Jvm.Cond.code x code maxLocals ret :: tables_1) hat d (List.mem_cons_of_mem _ hd)
  have hfit : Fit s := fun {y c} hc i hi => by
    obtain ⟨ha, rfl⟩ := Array.getElem?_eq_some_iff.mp hc
    have q := List.all_eq_true.mp ((Array.all_eq_true_iff_forall_mem.mp hF) _ (Array.getElem_mem ha)) i (List.mem_range.mpr hi)
    simpa [Array.getElem?_eq_getElem hi] using q
  obtain ⟨i0, ei0⟩ := is_v g2
  obtain rfl : w0 = (.int i0) := Option.some.inj ei0
  obtain ⟨hn1, hn2⟩ := and_e hn
  obtain ⟨hn21, hn22⟩ := and_e hn2
  obtain ⟨hn221, hn222⟩ := and_e hn22
  obtain ⟨hn2221, hn2222⟩ := and_e hn222
  obtain ⟨hn22221, hn22222⟩ := and_e hn2222
  obtain ⟨hn222221, hn222222⟩ := and_e hn22222
  obtain ⟨hn2222221, hn2222222⟩ := and_e hn222222
  obtain ⟨a_CCP_AGAINST_MEMBER, ev_CCP_AGAINST_MEMBER⟩ := exa_v hn1
  have S_CCP_AGAINST_MEMBER : Sta s s.heap "com/example/cleardraft/cleardraft/draft/Leg" "CCP_AGAINST_MEMBER" "Lcom/example/cleardraft/cleardraft/draft/Leg;" (.ref a_CCP_AGAINST_MEMBER) := Sta.start ev_CCP_AGAINST_MEMBER (Or.inr ⟨(hw _ (List.mem_of_getElem? (i := 1) rfl)), (hw _ (List.mem_of_getElem? (i := 2) rfl))⟩)
  have X_CCP_AGAINST_MEMBER : Exa s s.heap a_CCP_AGAINST_MEMBER "com/example/cleardraft/cleardraft/draft/Leg" := Exa.start ev_CCP_AGAINST_MEMBER hn1
  obtain ⟨a_MEMBER_AGAINST_CCP, ev_MEMBER_AGAINST_CCP⟩ := exa_v hn21
  have S_MEMBER_AGAINST_CCP : Sta s s.heap "com/example/cleardraft/cleardraft/draft/Leg" "MEMBER_AGAINST_CCP" "Lcom/example/cleardraft/cleardraft/draft/Leg;" (.ref a_MEMBER_AGAINST_CCP) := Sta.start ev_MEMBER_AGAINST_CCP (Or.inr ⟨(hw _ (List.mem_of_getElem? (i := 1) rfl)), (hw _ (List.mem_of_getElem? (i := 9) rfl))⟩)
  have X_MEMBER_AGAINST_CCP : Exa s s.heap a_MEMBER_AGAINST_CCP "com/example/cleardraft/cleardraft/draft/Leg" := Exa.start ev_MEMBER_AGAINST_CCP hn21
  obtain ⟨a_CLIENT_AGAINST_MEMBER, ev_CLIENT_AGAINST_MEMBER⟩ := exa_v hn22221
  have S_CLIENT_AGAINST_MEMBER : Sta s s.heap "com/example/cleardraft/cleardraft/draft/Leg" "CLIENT_AGAINST_MEMBER" "Lcom/example/cleardraft/cleardraft/draft/Leg;" (.ref a_CLIENT_AGAINST_MEMBER) := Sta.start ev_CLIENT_AGAINST_MEMBER (Or.inr ⟨(hw _ (List.mem_of_getElem? (i := 1) rfl)), (hw _ (List.mem_of_getElem? (i := 11) rfl))⟩)
  have X_CLIENT_AGAINST_MEMBER : Exa s s.heap a_CLIENT_AGAINST_MEMBER "com/example/cleardraft/cleardraft/draft/Leg" := Exa.start ev_CLIENT_AGAINST_MEMBER hn22221
  obtain ⟨a_MEMBER_AGAINST_CLIENT, ev_MEMBER_AGAINST_CLIENT⟩ := exa_v hn2222221
  have S_MEMBER_AGAINST_CLIENT : Sta s s.heap "com/example/cleardraft/cleardraft/draft/Leg" "MEMBER_AGAINST_CLIENT" "Lcom/example/cleardraft/cleardraft/draft/Leg;" (.ref a_MEMBER_AGAINST_CLIENT) := Sta.start ev_MEMBER_AGAINST_CLIENT (Or.inr ⟨(hw _ (List.mem_of_getElem? (i := 1) rfl)), (hw _ (List.mem_of_getElem? (i := 14) rfl))⟩)
  have X_MEMBER_AGAINST_CLIENT : Exa s s.heap a_MEMBER_AGAINST_CLIENT "com/example/cleardraft/cleardraft/draft/Leg" := Exa.start ev_MEMBER_AGAINST_CLIENT hn2222221
  have F_CCP_AGAINST_MEMBER_ordinal : Fld s s.heap a_CCP_AGAINST_MEMBER "java/lang/Enum" "ordinal" "I" (.int (0 : Int32)) := own_fldI hn221 ev_CCP_AGAINST_MEMBER
  have F_MEMBER_AGAINST_CCP_ordinal : Fld s s.heap a_MEMBER_AGAINST_CCP "java/lang/Enum" "ordinal" "I" (.int (1 : Int32)) := own_fldI hn2221 ev_MEMBER_AGAINST_CCP
  have F_CLIENT_AGAINST_MEMBER_ordinal : Fld s s.heap a_CLIENT_AGAINST_MEMBER "java/lang/Enum" "ordinal" "I" (.int (3 : Int32)) := own_fldI hn222221 ev_CLIENT_AGAINST_MEMBER
  have F_MEMBER_AGAINST_CLIENT_ordinal : Fld s s.heap a_MEMBER_AGAINST_CLIENT "java/lang/Enum" "ordinal" "I" (.int (2 : Int32)) := own_fldI hn2222222 ev_MEMBER_AGAINST_CLIENT
  obtain ⟨n, o, h1, h2, h3, _, L, rfl, ⟨rfl, N, -⟩, hq⟩ := rm_law l s _ hw tables_1 i0 a_CCP_AGAINST_MEMBER a_MEMBER_AGAINST_CCP a_CLIENT_AGAINST_MEMBER a_MEMBER_AGAINST_CLIENT s.heap ⟨Nat.le_refl _, fun _ _ q => q⟩ ⟨S_CCP_AGAINST_MEMBER, X_CCP_AGAINST_MEMBER, S_MEMBER_AGAINST_CCP, X_MEMBER_AGAINST_CCP, S_CLIENT_AGAINST_MEMBER, X_CLIENT_AGAINST_MEMBER, S_MEMBER_AGAINST_CLIENT, X_MEMBER_AGAINST_CLIENT, F_CCP_AGAINST_MEMBER_ordinal, F_MEMBER_AGAINST_CCP_ordinal, F_CLIENT_AGAINST_MEMBER_ordinal, F_MEMBER_AGAINST_CLIENT_ordinal⟩  p e ha hc hk s m _ below hf ((Spec.applies_iff_loose hf).mp happ).1 ⟨rfl, State.Warmed39.refl s, rfl⟩ trivial
  refine ⟨n, _, h1, h2, h3, hpost _ _ _ _ _ _ ⟨Cond.after_iff.mpr rfl, Cond.after_iff.mpr (eq_i res_at (Term.int_eval (1)) rfl), trivial⟩ ⟨hq.1, hq.2.1, (hq.2.2.sift fun y hy => Or.inr (N y hy)).mono (by decide) (by decide)⟩⟩
theorem main_1_1 : Claimed_1_1 := comes_1 fun _ _ _ _ _ _ h hF => ⟨h.1, hF⟩
theorem main_1_2 : Claimed_1_2 := comes_1 fun _ _ _ _ _ _ h hF => ⟨h.2.1, hF⟩
end Jvm.Pilot.@@N@@
namespace Jvm.Pilot.@@N@@
open Jvm Jvm.ClassFile Sem Op Lib Jvm.Free Jvm.Stand Jvm.Pilot.@@N@@.Jvm.D
/-! MADE BY PROGRAM (witnessworld.py) out of the Statement's table words and the real class files: 12 classes; the members and pool entries that the words name. The judged class is class 1, her method 1. -/
namespace start1
open Jvm.ClassFile
def u (s : String) : CpInfo := .utf8 (stringToUtf16 s)
/-- a pool by its gaps: so many unusable entries, then the entry; so many at the end -/
def gap : Nat → List CpInfo → List CpInfo
  | 0, r => r
  | n + 1, r => .unusable :: gap n r
def poolList (es : List (Nat × CpInfo)) (last : Nat) : List CpInfo := es.foldr (fun e r => gap e.1 (e.2 :: r)) (gap last [])
def pool (es : List (Nat × CpInfo)) (last : Nat) : Array CpInfo := ⟨poolList es last⟩
def fileOf (pool : Array CpInfo) (this : Nat) (attrs : Array Attribute := #[]) (ms : Array MethodInfo := #[]) (fl : Nat := 33) (sup : Nat := 0) (ifs : Array Nat := #[]) (fds : Array FieldInfo := #[]) : ClassFile where
  minorVersion := 0
  majorVersion := 65
  constantPool := pool
  accessFlags := fl
  thisClass := this
  superClass := sup
  interfaces := ifs
  fields := fds
  methods := ms
  attributes := attrs
def plain (name : String) (sup : Option ClassId) : Class where
  name := name
  kind := .ordinary
  loader := none
  accessFlags := 33
  super := sup
  interfaces := #[]
  cf := none
  fields := #[]
  methods := #[]
  instanceTypes := #[]
  staticTypes := #[]
  resolved := #[]
  callSites := []
  init := .initialized
  statics := none
  mirror := none

def pool0 : Array CpInfo := pool [(5, u "<init>"), (0, u "()V"), (1, .class_ 10), (1, u "java/lang/Object")] 113

def k0m0 : Method := { name := "<init>", desc := "()V", sig := { parameters := [], returnType := none }, accessFlags := 1, code := none }
/-- java/lang/Object -/
def k0 : Class := { plain "java/lang/Object" none with
  accessFlags := 33
  interfaces := #[]
  cf := some (fileOf pool0 8 #[] #[{ accessFlags := 1, nameIndex := 5, descriptorIndex := 6, attributes := #[] }] 33 0 #[] #[])
  fields := #[]
  methods := #[k0m0]
  instanceTypes := #[]
  staticTypes := #[]
  resolved := Array.replicate 124 none
  statics := none }

def pool1 : Array CpInfo := pool [(2, .class_ 4), (1, u "java/lang/Object"), (0, u "<init>"), (0, u "()V"), (0, .fieldref 8 9), (0, .class_ 10), (0, .nameAndType 11 12), (0, u "com/example/cleardraft/cleardraft/draft/Leg"), (0, u "CCP_AGAINST_MEMBER"), (0, u "Lcom/example/cleardraft/cleardraft/draft/Leg;"), (0, .fieldref 8 14), (0, .nameAndType 15 12), (0, u "MEMBER_AGAINST_CCP"), (0, .fieldref 8 17), (0, .nameAndType 18 12), (0, u "MEMBER_AGAINST_CLIENT"), (0, .fieldref 8 20), (0, .nameAndType 21 12), (0, u "CLIENT_AGAINST_MEMBER"), (0, .methodref 8 23), (0, .nameAndType 24 25), (0, u "reportedByHolder"), (0, u "()Z"), (0, .class_ 27), (0, u "com/example/cleardraft/cleardraft/draft/LegReportedByHolderPinLaw"), (2, u "law"), (0, u "(I)Z")] 3

def k1m0 : Method := { name := "<init>", desc := "()V", sig := { parameters := [], returnType := none }, accessFlags := 1, code := none }
def k1c1 : Code := { maxStack := 2, maxLocals := 4, code := code, exceptionTable := #[], attributes := #[] }
def k1m1 : Method := { name := "law", desc := "(I)Z", sig := { parameters := [.int], returnType := some .boolean }, accessFlags := 9, code := some k1c1 }
/-- com/example/cleardraft/cleardraft/draft/LegReportedByHolderPinLaw -/
def k1 : Class := { plain "com/example/cleardraft/cleardraft/draft/LegReportedByHolderPinLaw" (some 0) with
  accessFlags := 49
  interfaces := #[]
  cf := some (fileOf pool1 26 #[] #[{ accessFlags := 1, nameIndex := 5, descriptorIndex := 6, attributes := #[] }, { accessFlags := 9, nameIndex := 30, descriptorIndex := 31, attributes := #[] }] 49 2 #[] #[])
  fields := #[]
  methods := #[k1m0, k1m1]
  instanceTypes := #[]
  staticTypes := #[]
  resolved := Array.replicate 35 none
  statics := none }

def pool2 : Array CpInfo := pool [(1, .class_ 2), (0, u "java/lang/constant/Constable"), (0, .class_ 4), (0, u "java/lang/Object")] 6

/-- java/lang/constant/Constable -/
def k2 : Class := { plain "java/lang/constant/Constable" (some 0) with
  accessFlags := 1537
  interfaces := #[]
  cf := some (fileOf pool2 1 #[] #[] 1537 3 #[] #[])
  fields := #[]
  methods := #[]
  instanceTypes := #[]
  staticTypes := #[]
  resolved := Array.replicate 11 none
  statics := none }

def pool3 : Array CpInfo := pool [(1, .class_ 2), (0, u "java/lang/Comparable"), (0, .class_ 4), (0, u "java/lang/Object")] 7

/-- java/lang/Comparable -/
def k3 : Class := { plain "java/lang/Comparable" (some 0) with
  accessFlags := 1537
  interfaces := #[]
  cf := some (fileOf pool3 1 #[] #[] 1537 3 #[] #[])
  fields := #[]
  methods := #[]
  instanceTypes := #[]
  staticTypes := #[]
  resolved := Array.replicate 12 none
  statics := none }

def pool4 : Array CpInfo := pool [(1, .class_ 2), (0, u "java/io/Serializable"), (0, .class_ 4), (0, u "java/lang/Object")] 2

/-- java/io/Serializable -/
def k4 : Class := { plain "java/io/Serializable" (some 0) with
  accessFlags := 1537
  interfaces := #[]
  cf := some (fileOf pool4 1 #[] #[] 1537 3 #[] #[])
  fields := #[]
  methods := #[]
  instanceTypes := #[]
  staticTypes := #[]
  resolved := Array.replicate 7 none
  statics := none }

def pool5 : Array CpInfo := pool [(2, .class_ 4), (1, u "java/lang/Enum"), (0, u "name"), (0, u "Ljava/lang/String;"), (2, u "ordinal"), (0, u "I"), (1, .class_ 14), (1, u "java/lang/Object"), (4, u "hash"), (86, .class_ 108), (1, u "java/lang/Enum$EnumDesc"), (2, .class_ 112), (0, u "java/lang/constant/Constable"), (0, .class_ 114), (0, u "java/lang/Comparable"), (0, .class_ 116), (0, u "java/io/Serializable")] 87

/-- java/lang/Enum -/
def k5 : Class := { plain "java/lang/Enum" (some 0) with
  accessFlags := 1057
  interfaces := #[2, 3, 4]
  cf := some (fileOf pool5 2 #[.nestMembers #[106]] #[] 1057 12 #[111, 113, 115] #[{ accessFlags := 18, nameIndex := 5, descriptorIndex := 6, attributes := #[] }, { accessFlags := 18, nameIndex := 9, descriptorIndex := 10, attributes := #[] }, { accessFlags := 2, nameIndex := 19, descriptorIndex := 10, attributes := #[] }])
  fields := #[{ name := "name", type := (.object "java/lang/String"), accessFlags := 18, slot := 0, constantValue := 0 }, { name := "ordinal", type := .int, accessFlags := 18, slot := 1, constantValue := 0 }, { name := "hash", type := .int, accessFlags := 2, slot := 2, constantValue := 0 }]
  methods := #[]
  instanceTypes := #[(.object "java/lang/String"), .int, .int]
  staticTypes := #[]
  resolved := Array.replicate 204 none
  statics := none }

def pool6 : Array CpInfo := pool [(1, .class_ 2), (0, u "com/example/cleardraft/cleardraft/draft/Leg"), (2, u "CCP_AGAINST_MEMBER"), (0, u "Lcom/example/cleardraft/cleardraft/draft/Leg;"), (0, .fieldref 1 8), (0, .nameAndType 9 6), (0, u "MEMBER_AGAINST_CCP"), (2, u "MEMBER_AGAINST_CLIENT"), (0, .fieldref 1 14), (0, .nameAndType 15 6), (0, u "CLIENT_AGAINST_MEMBER"), (2, u "$VALUES"), (0, u "[Lcom/example/cleardraft/cleardraft/draft/Leg;"), (6, .class_ 28), (1, u "java/lang/Enum"), (8, u "number"), (0, u "I"), (9, u "()Z"), (12, u "LEGS_1_TO_4"), (0, u "Ljava/util/List;"), (2, u "LEGS_1_TO_3"), (2, u "LEGS_1_AND_2"), (2, u "LEG_1"), (41, u "reportedByHolder")] 5

def k6c0 : Code := { maxStack := 2, maxLocals := 1, code := prog_25_method_9_code, exceptionTable := #[], attributes := #[] }
def k6m0 : Method := { name := "reportedByHolder", desc := "()Z", sig := { parameters := [], returnType := some .boolean }, accessFlags := 1, code := some k6c0 }
/-- com/example/cleardraft/cleardraft/draft/Leg -/
def k6 : Class := { plain "com/example/cleardraft/cleardraft/draft/Leg" (some 5) with
  accessFlags := 16433
  interfaces := #[]
  cf := some (fileOf pool6 1 #[] #[{ accessFlags := 1, nameIndex := 113, descriptorIndex := 48, attributes := #[] }] 16433 26 #[] #[{ accessFlags := 16409, nameIndex := 5, descriptorIndex := 6, attributes := #[] }, { accessFlags := 16409, nameIndex := 9, descriptorIndex := 6, attributes := #[] }, { accessFlags := 16409, nameIndex := 12, descriptorIndex := 6, attributes := #[] }, { accessFlags := 16409, nameIndex := 15, descriptorIndex := 6, attributes := #[] }, { accessFlags := 26, nameIndex := 71, descriptorIndex := 62, attributes := #[] }, { accessFlags := 26, nameIndex := 68, descriptorIndex := 62, attributes := #[] }, { accessFlags := 26, nameIndex := 65, descriptorIndex := 62, attributes := #[] }, { accessFlags := 26, nameIndex := 61, descriptorIndex := 62, attributes := #[] }, { accessFlags := 18, nameIndex := 37, descriptorIndex := 38, attributes := #[] }, { accessFlags := 4122, nameIndex := 18, descriptorIndex := 19, attributes := #[] }])
  fields := #[{ name := "CCP_AGAINST_MEMBER", type := (.object "com/example/cleardraft/cleardraft/draft/Leg"), accessFlags := 16409, slot := 0, constantValue := 0 }, { name := "MEMBER_AGAINST_CCP", type := (.object "com/example/cleardraft/cleardraft/draft/Leg"), accessFlags := 16409, slot := 1, constantValue := 0 }, { name := "MEMBER_AGAINST_CLIENT", type := (.object "com/example/cleardraft/cleardraft/draft/Leg"), accessFlags := 16409, slot := 2, constantValue := 0 }, { name := "CLIENT_AGAINST_MEMBER", type := (.object "com/example/cleardraft/cleardraft/draft/Leg"), accessFlags := 16409, slot := 3, constantValue := 0 }, { name := "LEG_1", type := (.object "java/util/List"), accessFlags := 26, slot := 4, constantValue := 0 }, { name := "LEGS_1_AND_2", type := (.object "java/util/List"), accessFlags := 26, slot := 5, constantValue := 0 }, { name := "LEGS_1_TO_3", type := (.object "java/util/List"), accessFlags := 26, slot := 6, constantValue := 0 }, { name := "LEGS_1_TO_4", type := (.object "java/util/List"), accessFlags := 26, slot := 7, constantValue := 0 }, { name := "number", type := .int, accessFlags := 18, slot := 3, constantValue := 0 }, { name := "$VALUES", type := (.array (.object "com/example/cleardraft/cleardraft/draft/Leg")), accessFlags := 4122, slot := 8, constantValue := 0 }]
  methods := #[k6m0]
  instanceTypes := #[(.object "java/lang/String"), .int, .int, .int]
  staticTypes := #[(.object "com/example/cleardraft/cleardraft/draft/Leg"), (.object "com/example/cleardraft/cleardraft/draft/Leg"), (.object "com/example/cleardraft/cleardraft/draft/Leg"), (.object "com/example/cleardraft/cleardraft/draft/Leg"), (.object "java/util/List"), (.object "java/util/List"), (.object "java/util/List"), (.object "java/util/List"), (.array (.object "com/example/cleardraft/cleardraft/draft/Leg"))]
  resolved := Array.replicate 119 none
  statics := some 0 }

def pool7 : Array CpInfo := pool [(1, u "java/lang/Cloneable"), (0, .class_ 1), (0, u "java/lang/Object"), (0, .class_ 3)] 3

/-- java/lang/Cloneable -/
def k7 : Class := { plain "java/lang/Cloneable" (some 0) with
  accessFlags := 1537
  interfaces := #[]
  cf := some (fileOf pool7 2 #[] #[] 1537 4 #[] #[])
  fields := #[]
  methods := #[]
  instanceTypes := #[]
  staticTypes := #[]
  resolved := Array.replicate 8 none
  statics := none }

/-- the primitive byte -/
def k8 : Class := { plain "byte" none with kind := .primitive 'B', accessFlags := 0x411 }
/-- [B -/
def k9 : Class := { plain "[B" (some 0) with kind := .array 8 .byte, interfaces := #[7, 4], accessFlags := 1041 }

/-- the primitive int -/
def k10 : Class := { plain "int" none with kind := .primitive 'I', accessFlags := 0x411 }
/-- [I -/
def k11 : Class := { plain "[I" (some 0) with kind := .array 10 .int, interfaces := #[7, 4], accessFlags := 1041 }

def heap : Heap := #[{ cls := 6, slots := #[.ref 1, .ref 2, .ref 4, .ref 3, .null, .null, .null, .null, .null], vm := .statics 6 },
  { cls := 6, slots := #[.null, .int 0, .int 0, .int 0], vm := .none },
  { cls := 6, slots := #[.null, .int 1, .int 0, .int 0], vm := .none },
  { cls := 6, slots := #[.null, .int 3, .int 0, .int 0], vm := .none },
  { cls := 6, slots := #[.null, .int 2, .int 0, .int 0], vm := .none }]
def classes : Array Class := #[k0, k1, k2, k3, k4, k5, k6, k7, k8, k9, k10, k11]
def interned : List (Array UInt16 × Addr) := []
def slotsUsed : Nat := 25
def theMethod : MethodId := ⟨1, 1⟩
def args0 : Array Value := #[.int 1]
def aboutOver (below : List Frame) : State where
  vm := { classes := classes, interned := interned.toArray }
  heap := heap
  slotsUsed := slotsUsed
  threads := #[{ frames := .invoking theMethod args0 :: below }]
def below0 : List Frame := [.native { method := ⟨0, 0⟩, args := #[] }]
def about1 : State := aboutOver below0
def p0 : Program := .bare "" "" ""
def e0 : Env := launch0.env 0 0 0
theorem w_frames : about1.frames = Frame.invoking theMethod args0 :: below0 := rfl
set_option maxRecDepth 65536 in
theorem w_args : argsFit about1.vm theMethod args0 = true := by decide +kernel
set_option maxRecDepth 65536 in
theorem w_heap : heapFits about1 = true := by decide +kernel
set_option maxRecDepth 65536 in
theorem w_runnable : about1.curStatus? = some .runnable := by decide +kernel
set_option maxRecDepth 65536 in
theorem w_alone : about1.alone = true := by decide +kernel
set_option maxRecDepth 65536 in
theorem w_named : about1.methodNamed? x = some theMethod := by decide +kernel
set_option maxRecDepth 65536 in
theorem w_hears : about1.hears theMethod below0 = true := by decide +kernel
set_option maxRecDepth 65536 in
theorem w_ripe : about1.ripe theMethod args0 below0 = true := by decide +kernel
theorem w_running : about1.status = .running := rfl
set_option maxRecDepth 65536 in
theorem w_room : about1.hasRoom e0.platform room_1 = true :=
  launch0.hasRoom_least _ room_1 (by decide +kernel) (by decide +kernel) (by decide +kernel) (by decide +kernel) (by decide +kernel) (by decide +kernel)
theorem allAtoms_all (ts : List Jvm.Cond) (a : Array Jvm.Value) (st : Jvm.State) : (allAtoms ts).before a st = ts.all (fun c => c.before a st) := by
  induction ts with
  | nil => rfl
  | cons c t ih =>
    show (Jvm.Cond.and c (allAtoms t)).before a st = _
    rw [Jvm.Cond.before_and, ih, List.all_cons]
def words1 : List Jvm.Cond := Jvm.Cond.code x code maxLocals ret :: tables_1
/-- a 'code' word, met by the world's own term for the bytes: nothing is compared byte by byte -/
theorem code_word {y : MethodName} {bytes : ByteArray} {mx : Nat} {rt : Option FieldType} {a : Array Value} {s : State} {m : MethodId} {meth : Method} {c : Code} (h1 : s.methodNamed? y = some m) (h2 : s.vm.method? m = some meth) (h3 : meth.code = some c) (h4 : c.code = bytes)
    (h5 : (c.maxLocals == mx && c.exceptionTable.isEmpty && decide (c.maxStack ≤ mostOperands) && decide (meth.sig.returnType = rt) && !meth.locks && decide (parseMethodDescriptor y.desc = some meth.sig)) = true) : (Jvm.Cond.code y bytes mx rt).before a s = true := by
  simp only [Bool.and_eq_true, beq_iff_eq, Bool.not_eq_true', decide_eq_true_eq] at h5
  obtain ⟨⟨⟨⟨⟨g1, g2⟩, g3⟩, g4⟩, g5⟩, g6⟩ := h5
  simp [Cond.before, Cond.holds, Cond.value, h1, h2, h3, h4, g1, g2, g3, g4, g5, g6]
def isCode : Jvm.Cond → Bool
  | .code _ _ _ _ => true
  | _ => false
theorem all_split {L : List Jvm.Cond} {P : Jvm.Cond → Bool} (h1 : L.all (fun c => isCode c || P c) = true) (h2 : ∀ c ∈ L.filter isCode, P c = true) : L.all P = true := by
  refine List.all_eq_true.mpr fun c hc => ?_
  have h := List.all_eq_true.mp h1 c hc
  rcases Bool.eq_false_or_eq_true (isCode c) with hi | hi
  · exact h2 c (List.mem_filter.mpr ⟨hc, hi⟩)
  · simpa [hi] using h
set_option maxRecDepth 65536 in
theorem w_c0 : (Jvm.Cond.code x code maxLocals ret).before args0 about1 = true := code_word (m := ⟨1, 1⟩) (meth := k1m1) (c := k1c1) (by decide +kernel) rfl rfl rfl (by decide +kernel)
set_option maxRecDepth 65536 in
theorem w_c1 : (Jvm.Cond.code ({ cls := "com/example/cleardraft/cleardraft/draft/Leg", name := "reportedByHolder", desc := "()Z" } : Jvm.MethodName) prog_25_method_9_code (1 : Nat) (Option.some Jvm.ClassFile.FieldType.boolean)).before args0 about1 = true := code_word (m := ⟨6, 0⟩) (meth := k6m0) (c := k6c0) (by decide +kernel) rfl rfl rfl (by decide +kernel)
def codes1 : List Jvm.Cond := [Jvm.Cond.code x code maxLocals ret, Jvm.Cond.code ({ cls := "com/example/cleardraft/cleardraft/draft/Leg", name := "reportedByHolder", desc := "()Z" } : Jvm.MethodName) prog_25_method_9_code (1 : Nat) (Option.some Jvm.ClassFile.FieldType.boolean)]
set_option maxRecDepth 65536 in
theorem codes_eq : words1.filter isCode = codes1 := rfl
theorem w_codes : ∀ c ∈ words1.filter isCode, c.before args0 about1 = true := by
  rw [codes_eq]
  intro c hc
  simp only [codes1, List.mem_cons, List.not_mem_nil, or_false] at hc
  rcases hc with rfl | rfl
  · exact w_c0
  · exact w_c1
set_option maxRecDepth 65536 in
theorem w_t1 : words1.all (fun c => isCode c || c.before args0 about1) = true := by decide +kernel
theorem w_tables : (allAtoms (Jvm.Cond.code x code maxLocals ret :: tables_1)).before args0 about1 = true := by
  rw [allAtoms_all]
  show words1.all (fun c => c.before args0 about1) = true
  refine all_split ?_ w_codes
  rw [w_t1]
set_option maxRecDepth 65536 in
theorem w_case : (Jvm.Cond.and given_1 narrow_1).before args0 about1 = true := by decide +kernel
theorem w_applies : (headSpec (Jvm.Cond.code x code maxLocals ret :: tables_1) room_1).applies x e0.platform about1 = true :=
  (Spec.applies_iff w_frames).mpr ⟨w_running, w_runnable, w_alone, w_named, w_hears, w_ripe, w_room, w_tables⟩
theorem atStart : AtStart classFile x code maxLocals ret World_1 tables_1 room_1 Calls_1 rest_1 Pre_1 launch0 p0 e0 about1 theMethod args0 below0 :=
  ⟨lists_1, trivial, launch0.admits_env _ _ _, launch0.least_env, fairChoices_fair.cas, fairChoices_fair.clock, w_frames, w_args, w_heap, w_applies, trivial, trivial, w_case⟩
end start1
theorem witness_1 : WitnessClaimed_1 := ⟨start1.p0, start1.e0, start1.about1, start1.theMethod, start1.args0, start1.below0, start1.atStart⟩
end Jvm.Pilot.@@N@@
