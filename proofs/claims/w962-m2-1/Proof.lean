import JvmDerived
import JvmDerived.Pilot.@@N@@Statement
import JvmDerived.Pilot.@@N@@Code
set_option linter.unusedVariables false
set_option linter.unusedSimpArgs false
namespace Jvm.RoadKit
open Sem ClassFile Op Lib Jvm.Stand Jvm.Free Jvm.LawKit
section New
variable {p : Program} {l : Launch} {e : Env} {R : Room} {s : State} {m : MethodId} {args : Array Value} {below : List Frame} {meth : Method} {c : Code} {T : State} {locs : List Loc} {cells slots : Nat}
theorem retI (X : Stand p l e R s m args below meth c T locs cells slots) (hx : p.tables.exec = Jvm.exec) {pc : Nat} {Ls : Array Slot} {z : Int32} {rest : List Value} (hret : meth.sig.returnType = some .int) (hd : decode c.code pc = .ok (.ireturn, 1)) {fs : List Frame}
    (hl : ∀ (f : JFrame) (acts : List Action), f.method = m → f.locked = none → f.entered = [] → (doReturn e (T.setTop f) acts (some (.int z))).1 = T.setFrames fs) : Steps p.tables e below (T.setTop (mkF m pc Ls (.int z :: rest))) (T.setFrames fs) := by
  have hm' : T.vm.method? m = some meth := X.method'
  have hn : narrow .int (.int z) = .int z := rfl
  show Steps p.tables e below (T.setTop { method := m, pc := pc, locals := Ls, stack := _ :: rest, locked := none }) _
  jvm_step X.here [X.here.top, hx, hd, hm', hret, hn]
  first | (intro acts; rw [hl _ acts rfl rfl rfl]) | rw [hl _ _ rfl rfl rfl]
  exact Steps.refl _
end New
end Jvm.RoadKit
@@BLOCK:NumsL.lean.txt@@
namespace Jvm.Pilot.@@N@@
open Jvm Jvm.ClassFile Sem Op Lib Jvm.Free Jvm.Stand Jvm.LawKit Jvm.RoadKit Bundle Jvm.Pilot.@@N@@.Jvm.D
/-- a run from here that ends well -/
def own_G (p : Program) (e : Env) (below : List Frame) (P : Outcome → State → Prop) (S : State) : Prop := ∃ s₂ o, Steps p.tables e below S s₂ ∧ s₂.status = .running ∧ Ended s₂ below o ∧ P o s₂
theorem own_go {p : Program} {e : Env} {below : List Frame} {P : Outcome → State → Prop} {S : State} (S' : State) (k : ∀ t, Steps p.tables e below S' t → Steps p.tables e below S t) (h : own_G p e below P S') : own_G p e below P S := by
  obtain ⟨s₂, o, h1, h2⟩ := h
  exact ⟨s₂, o, k _ h1, h2⟩
theorem own_one {x : Slot} (h : One x) : (match x with | .second => False | .val old => old.category = 1 | .unset => True) := by
  rcases h with rfl | ⟨w, rfl, hw⟩
  · trivial
  · exact hw
theorem own_selp {s : State} {args : Array Value} {D : String} {y z : MethodName} (h : (Cond.selects D z z).before args s = true) (hc : z.cls = y.cls) (hpriv : s.PrivateAt y) (hinst : (Cond.instanceMethod y).before args s = true) (hy : y.cls ≠ "java/lang/invoke/MethodHandle" ∧ y.cls ≠ "java/lang/invoke/VarHandle") : (Cond.selects y.cls y y).before args s = true := by
  obtain ⟨c, r, m, q1, q2, q3, q4, mk, hk, hi⟩ := Cond.selects_spec h
  exact selects_self_of_private (hc ▸ findClass_of_methodNamed q3) hk hi hpriv hinst hy
theorem own_same {s : State} {args : Array Value} {D : String} {y z : MethodName} (hinst : (Cond.instanceMethod y).before args s = true) (hsel : (Cond.selects D z z).before args s = true) (hc : z.cls = y.cls) (hy : y.cls ≠ "java/lang/invoke/MethodHandle" ∧ y.cls ≠ "java/lang/invoke/VarHandle") : (Cond.sameMethod y.cls y.cls y.name y.desc).before args s = true := by
  obtain ⟨mk, methM, hnamed, hmethM, -, -⟩ := Cond.instanceMethod_spec hinst
  obtain ⟨c, r, m, q1, q2, q3, q4, k, hk, hi⟩ := Cond.selects_spec hsel
  have hfound := State.methodFound?_of_named hnamed hy
  have hcn := findClass_of_methodNamed hnamed
  have e : m.cls = mk.cls := Option.some.inj ((findClass_of_methodNamed q3).symm.trans (hc ▸ hcn))
  rw [e] at hk
  obtain ⟨yc, yn, yd⟩ := y
  simp_all [Cond.before, Cond.holds, Cond.value]
theorem own_nf {s : State} {args : Array Value} {D : String} {y z : MethodName} (hsel : (Cond.selects D z z).before args s = true) (hc : z.cls = y.cls) : NotFace s y := fun r0 h0 => by
  obtain ⟨c, r, m, q1, q2, q3, q4, k, hk, hi⟩ := Cond.selects_spec hsel
  have e : m.cls = r0.cls := Option.some.inj ((findClass_of_methodNamed q3).symm.trans (hc ▸ findClass_of_methodNamed h0))
  exact ⟨k, e ▸ hk, hi⟩
theorem own_lt {x y : Int64} : lcmpW x y < 0 ↔ x < y := by rw [lcW]; exact lc_lt x y
theorem own_gt {x y : Int64} : (0 : Int32) < lcmpW x y ↔ y < x := by rw [lcW]; exact lc_gt x y
theorem own_eq {x y : Int64} : lcmpW x y = 0 ↔ x = y := by rw [lcW]; exact lc_eq x y
theorem own_extK {Z : State} {h h' : Heap} {ws : List Addr} (O : Ext Z.heap h) (K : Keep h h' ws) (q : ∀ x ∈ ws, Z.heap.size ≤ x) : Ext Z.heap h' :=
  (Old.keep (n0 := Z.heap.size) ⟨rfl, O⟩ K q).2
theorem own_ext {h h1 h2 : Heap} (E : Ext h h1) (F : Ext h1 h2) : Ext h h2 := ⟨Nat.le_trans E.1 F.1, fun a c q => F.2 a c (E.2 a c q)⟩
theorem own_extW {Z : State} {h h' : Heap} {a : Addr} {sl : Nat} {v : Value} (O : Ext Z.heap h) (W : Wr h h' a sl v) (q : Z.heap.size ≤ a) : Ext Z.heap h' := own_extK O (Keep.of_wr W) (allS q all0)
theorem own_fldI {s : State} {args : Array Value} {t : Term} {C n d : String} {k : Int32} {a : Addr} (h : (Cond.eq (Term.field t C n d) (Term.int k)).value args s none s [] = some true) (ev : t.eval args s none [] s = some (.ref a)) : Fld s s.heap a C n d (.int k) := by
  obtain ⟨x, y, h1, h2, h3, -⟩ := cmp_v (Or.inl h)
  have h4 : s.fieldOf? a C n d = some x := (fld_at ev).symm.trans h1
  have h5 : y = .int k := (Option.some.inj (h2.symm.trans (Term.int_eval k)))
  subst h5
  cases x with
  | int z =>
    simp only [Cond.value, h1, h2] at h
    have e : z = k := by simpa using h
    subst e
    exact Fld.start h4
  | _ => simp [Kin, Value.isRef] at h3
theorem own_fldV {s : State} {args : Array Value} {t u : Term} {C n d : String} {b : Addr} {a : Addr} (h : (Cond.eq (Term.field t C n d) u).value args s none s [] = some true) (ev : t.eval args s none [] s = some (.ref a)) (eu : u.eval args s none [] s = some (.ref b)) : Fld s s.heap a C n d (.ref b) := by
  obtain ⟨x, y, h1, h2, h3, -⟩ := cmp_v (Or.inl h)
  have h4 : s.fieldOf? a C n d = some x := (fld_at ev).symm.trans h1
  have h5 : y = .ref b := (Option.some.inj (h2.symm.trans eu))
  subst h5
  cases x with
  | ref z =>
    simp only [Cond.value, h1, h2] at h
    have e : z = b := by simpa using h
    subst e
    exact Fld.start h4
  | null => simp [Cond.value, h1, h2] at h
  | _ => simp [Kin, Value.isRef] at h3
theorem own_elemI {s : State} {args : Array Value} {t : Term} {j k : Int32} {a : Addr} {cl : Cell} (h : (Cond.eq (Term.elem t (Term.int j)) (Term.int k)).value args s none s [] = some true) (ev : t.eval args s none [] s = some (.ref a)) (hc : s.heap[a]? = some cl) : ¬ (j < 0 ∨ cl.slots.size ≤ j.toNatClampNeg) ∧ cl.slots[j.toNatClampNeg]? = some (.int k) := by
  obtain ⟨x, y, h1, h2, h3, -⟩ := cmp_v (Or.inl h)
  have h4 := elem_in h1 ev (Term.int_eval j) hc
  have h5 : y = .int k := (Option.some.inj (h2.symm.trans (Term.int_eval k)))
  subst h5
  cases x with
  | int z =>
    simp only [Cond.value, h1, h2] at h
    have e : z = k := by simpa using h
    subst e
    exact h4
  | _ => simp [Kin, Value.isRef] at h3
theorem own_elemV {s : State} {args : Array Value} {t u : Term} {j : Int32} {a b : Addr} {cl : Cell} (h : (Cond.eq (Term.elem t (Term.int j)) u).value args s none s [] = some true) (ev : t.eval args s none [] s = some (.ref a)) (eu : u.eval args s none [] s = some (.ref b)) (hc : s.heap[a]? = some cl) : ¬ (j < 0 ∨ cl.slots.size ≤ j.toNatClampNeg) ∧ cl.slots[j.toNatClampNeg]? = some (.ref b) := by
  obtain ⟨x, y, h1, h2, h3, -⟩ := cmp_v (Or.inl h)
  have h4 := elem_in h1 ev (Term.int_eval j) hc
  have h5 : y = .ref b := (Option.some.inj (h2.symm.trans eu))
  subst h5
  cases x with
  | ref z =>
    simp only [Cond.value, h1, h2] at h
    have e : z = b := by simpa using h
    subst e
    exact h4
  | null => simp [Cond.value, h1, h2] at h
  | _ => simp [Kin, Value.isRef] at h3
theorem own_fldN {s : State} {args : Array Value} {t : Term} {C n d : String} {a : Addr} (h : (Cond.eq (Term.field t C n d) Term.null).value args s none s [] = some true) (ev : t.eval args s none [] s = some (.ref a)) : Fld s s.heap a C n d .null :=
  Fld.start ((fld_at ev).symm.trans (null_v h))
def own_W (Z : State) (a_SEQUENTIAL : Addr) (a_GROUP : Addr) (a_INTERLEAVE : Addr) (a_GAP_SEARCH : Addr) : Prop := (Sta Z Z.heap "com/example/pokfulam/pokfulam/plan/Strategy" "SEQUENTIAL" "Lcom/example/pokfulam/pokfulam/plan/Strategy;" (.ref a_SEQUENTIAL)) ∧ (Exa Z Z.heap a_SEQUENTIAL "com/example/pokfulam/pokfulam/plan/Strategy$1") ∧ (Sta Z Z.heap "com/example/pokfulam/pokfulam/plan/Strategy" "GROUP" "Lcom/example/pokfulam/pokfulam/plan/Strategy;" (.ref a_GROUP)) ∧ (Exa Z Z.heap a_GROUP "com/example/pokfulam/pokfulam/plan/Strategy$4") ∧ (Sta Z Z.heap "com/example/pokfulam/pokfulam/plan/Strategy" "INTERLEAVE" "Lcom/example/pokfulam/pokfulam/plan/Strategy;" (.ref a_INTERLEAVE)) ∧ (Exa Z Z.heap a_INTERLEAVE "com/example/pokfulam/pokfulam/plan/Strategy$3") ∧ (Sta Z Z.heap "com/example/pokfulam/pokfulam/plan/Strategy" "GAP_SEARCH" "Lcom/example/pokfulam/pokfulam/plan/Strategy;" (.ref a_GAP_SEARCH)) ∧ (Exa Z Z.heap a_GAP_SEARCH "com/example/pokfulam/pokfulam/plan/Strategy$2") ∧ (Fld Z Z.heap a_SEQUENTIAL "com/example/pokfulam/pokfulam/plan/Strategy" "firstAlone" "Z" (.int (1 : Int32))) ∧ (Fld Z Z.heap a_GROUP "com/example/pokfulam/pokfulam/plan/Strategy" "firstAlone" "Z" (.int (0 : Int32))) ∧ (Fld Z Z.heap a_INTERLEAVE "com/example/pokfulam/pokfulam/plan/Strategy" "firstAlone" "Z" (.int (0 : Int32))) ∧ (Fld Z Z.heap a_GAP_SEARCH "com/example/pokfulam/pokfulam/plan/Strategy" "firstAlone" "Z" (.int (1 : Int32)))
theorem own_case {i : Int32} {k : Int} (c : Int32) (h : i.toInt = k) (hc : c.toInt = k) : i = c := Int32.toInt_inj.mp (h.trans hc.symm)
theorem own_mask (x : Int32) : 0 ≤ (x &&& 2147483647).toInt := by
  have e := Jvm.Kit.i32_mask x 2147483647 (k := 31) (by decide) (by decide)
  omega
theorem own_mod (x n : Int32) (hn : 0 < n.toInt) : 0 ≤ ((x &&& 2147483647) % n).toInt ∧ ((x &&& 2147483647) % n).toInt < n.toInt := by
  rw [Jvm.Kit.i32_rem_nonneg (own_mask x)]
  exact ⟨Int.emod_nonneg _ (by omega), Int.emod_lt_of_pos _ hn⟩
theorem own_and3 (x : Int32) : (x &&& 3) = 0 ∨ (x &&& 3) = 1 ∨ (x &&& 3) = 2 ∨ (x &&& 3) = 3 := by
  have e := Jvm.Kit.i32_mask x 3 (k := 2) (by decide) (by decide)
  rcases (by omega : (x &&& 3).toInt = 0 ∨ (x &&& 3).toInt = 1 ∨ (x &&& 3).toInt = 2 ∨ (x &&& 3).toInt = 3) with q | q | q | q
  · exact Or.inl (own_case 0 q (by decide))
  · exact Or.inr (Or.inl (own_case 1 q (by decide)))
  · exact Or.inr (Or.inr (Or.inl (own_case 2 q (by decide))))
  · exact Or.inr (Or.inr (Or.inr (own_case 3 q (by decide))))
def own_max (x y : Int32) : Int32 := if x < y then y else x
theorem own_q1 (x : Int32) : ¬ (1 + (x &&& 3)) = 0 := by rcases own_and3 x with q | q | q | q <;> rw [q] <;> decide
theorem own_q2 (x : Int32) : ¬ own_max 1 (x &&& 2147483647) = 0 := by
  unfold own_max
  split
  · rename_i h
    intro q; rw [q] at h; revert h; decide
  · decide
theorem own_rem1 (x q : Int32) (h : q = 1) : x % q = 0 := by
  subst h
  apply Int32.toInt_inj.mp
  rw [Int32.toInt_mod]
  have e : (1 : Int32).toInt = 1 := by decide
  have e0 : (0 : Int32).toInt = 0 := by decide
  rw [e, e0, Int.tmod_one]
theorem own_ef_mx (m : MethodId) (x : Int32) (y : Int32) : entryFrame m #[(.int x), (.int y)] 2 = mkF m 0 #[.val (.int x), .val (.int y)] [] := by first | (simp [entryFrame, mkF, argsToLocals, Value.category]; done) | rfl
theorem own_d_jdk_29_method_65_0 : decode jdk_29_method_65_code 0 = .ok (.iload_n 0, 1) := by decide +kernel
theorem own_d_jdk_29_method_65_1 : decode jdk_29_method_65_code 1 = .ok (.iload_n 1, 1) := by decide +kernel
theorem own_d_jdk_29_method_65_2 : decode jdk_29_method_65_code 2 = .ok (.if_icmp .lt 7, 3) := by decide +kernel
theorem own_d_jdk_29_method_65_9 : decode jdk_29_method_65_code 9 = .ok (.iload_n 1, 1) := by decide +kernel
theorem own_d_jdk_29_method_65_10 : decode jdk_29_method_65_code 10 = .ok (.ireturn, 1) := by decide +kernel
theorem own_d_jdk_29_method_65_5 : decode jdk_29_method_65_code 5 = .ok (.iload_n 0, 1) := by decide +kernel
theorem own_d_jdk_29_method_65_6 : decode jdk_29_method_65_code 6 = .ok (.goto 4, 3) := by decide +kernel
def Q_mx (Z : State) (x : Int32) (y : Int32) (h0 : Heap) (v_ : Option Value) (h : Heap) (L_ : List Loc) : Prop := v_ = some (.int (own_max x y)) ∧ Fr Z.heap.size L_ ∧ (h = h0)
set_option maxRecDepth 65536 in
set_option maxHeartbeats 40000000 in
theorem rm_mx (l : Launch) (Z : State) (a0 : Array Value) (hw : ∀ d ∈ tables_1, d.before a0 Z = true) (ws : List Jvm.Cond) (x : Int32) (y : Int32) (h0 : Heap) (O : Ext Z.heap h0) :
    MetFree l (⟨"java/lang/Math", "max", "(II)I"⟩ : MethodName) (head1 (Jvm.Cond.code (⟨"java/lang/Math", "max", "(II)I"⟩ : MethodName) jdk_29_method_65_code 2 (some .int) :: ws) ({ frames := 0, cells := 0, slots := 0, locals := 0 } : Room)) (fun a_ U_ => a_ = #[(.int x), (.int y)] ∧ Z.Warmed39 U_.vm ∧ U_.heap = h0) (fun _ _ _ _ _ => True) (fun _ U_ o_ U2_ => ∃ v_ L_, o_ = .returned v_ ∧ Q_mx Z x y h0 v_ U2_.heap L_ ∧ FrameEnd U_ o_ U2_ L_ ({ frames := 0, cells := 0, slots := 0, locals := 0 } : Room).cells ({ frames := 0, cells := 0, slots := 0, locals := 0 } : Room).slots) := by
  refine MetFree.of_bodySF (Jvm.Free.JP.mathPlain rfl (by decide +kernel)) hisR ?_
  intro p e s m args below meth c s₁ Bd hml0 hP hK
  obtain ⟨rfl, hZ, hh⟩ := hP
  have hx := Bd.exec
  have hby := Bd.bytes
  have hml : c.maxLocals = 2 := hml0
  have hown : s.vm.findClass "java/lang/Math" = some m.cls := findClass_of_methodNamed Bd.named
  have hnm := (name_of_methodNamed Bd.named Bd.method).1
  have X0 : Stand p l e ({ frames := 0, cells := 0, slots := 0, locals := 0 } : Room) s m #[(.int x), (.int y)] below meth c s₁ [] 0 0 := Stand.of_body Bd
  have e0 : s₁.heap = h0 := by rw [← hh, Bd.state]; rfl
  have N0 := Fr.nil Z.heap.size
  show own_G p e below (fun o_ s₂ => ∃ v_ L_, o_ = .returned v_ ∧ Q_mx Z x y h0 v_ s₂.heap L_ ∧ FrameEnd s o_ s₂ L_ ({ frames := 0, cells := 0, slots := 0, locals := 0 } : Room).cells ({ frames := 0, cells := 0, slots := 0, locals := 0 } : Room).slots) (s₁.setTop (entryFrame m #[(.int x), (.int y)] 2))
  refine own_go (s₁.setTop (mkF m 0 #[.val (.int x), .val (.int y)] [])) (fun t_ k_ => castTop (own_ef_mx m x y) k_) ?_
  refine own_go (s₁.setTop (mkF m 1 #[.val (.int x), .val (.int y)] [(.int x)])) (fun t_ k_ => XS.iloadN X0.here hx rfl (hb hby own_d_jdk_29_method_65_0) rfl k_) ?_
  refine own_go (s₁.setTop (mkF m 2 #[.val (.int x), .val (.int y)] [(.int y), (.int x)])) (fun t_ k_ => XS.iloadN X0.here hx rfl (hb hby own_d_jdk_29_method_65_1) rfl k_) ?_
  by_cases hc2_1 : x < y
  ·
    refine own_go (s₁.setTop (mkF m 9 #[.val (.int x), .val (.int y)] [])) (fun t_ k_ => XS.icmpYes X0.here hx rfl (pc0 := 2) (pc' := 9) rfl (hb hby own_d_jdk_29_method_65_2) rfl (tlt hc2_1).1 (by decide) (by decide) k_) ?_
    refine own_go (s₁.setTop (mkF m 10 #[.val (.int x), .val (.int y)] [(.int y)])) (fun t_ k_ => XS.iloadN X0.here hx rfl (hb hby own_d_jdk_29_method_65_9) rfl k_) ?_
    obtain ⟨fs, hr, hrun, hended, hW, hsame⟩ := X0.leave (v := some (.int y)) (fun h => by rw [Bd.returns] at h; cases h)
    refine ⟨_, _, retI X0 hx Bd.returns (hb hby own_d_jdk_29_method_65_10) hr, hrun, hended, _, _, rfl, ?_, ⟨_, rfl⟩, hW, hsame.mono (by decide) (by decide)⟩
    show Q_mx Z x y h0 _ s₁.heap _
    exact ⟨by simp [own_max, hc2_1], N0, e0⟩
  ·
    refine own_go (s₁.setTop (mkF m 5 #[.val (.int x), .val (.int y)] [])) (fun t_ k_ => XS.icmpNo X0.here hx rfl (hb hby own_d_jdk_29_method_65_2) rfl (flt hc2_1).1 k_) ?_
    refine own_go (s₁.setTop (mkF m 6 #[.val (.int x), .val (.int y)] [(.int x)])) (fun t_ k_ => XS.iloadN X0.here hx rfl (hb hby own_d_jdk_29_method_65_5) rfl k_) ?_
    refine own_go (s₁.setTop (mkF m 10 #[.val (.int x), .val (.int y)] [(.int x)])) (fun t_ k_ => XS.goto X0.here hx rfl (pc0 := 6) (pc' := 10) rfl (hb hby own_d_jdk_29_method_65_6) (by decide) (by decide) k_) ?_
    obtain ⟨fs, hr, hrun, hended, hW, hsame⟩ := X0.leave (v := some (.int x)) (fun h => by rw [Bd.returns] at h; cases h)
    refine ⟨_, _, retI X0 hx Bd.returns (hb hby own_d_jdk_29_method_65_10) hr, hrun, hended, _, _, rfl, ?_, ⟨_, rfl⟩, hW, hsame.mono (by decide) (by decide)⟩
    show Q_mx Z x y h0 _ s₁.heap _
    exact ⟨by simp [own_max, hc2_1], N0, e0⟩
theorem own_pn0 : plainName "com/example/pokfulam/pokfulam/plan/Strategy" = true := by first | (simp [plainName, overriddenIn]; done) | decide +kernel
theorem own_ef_pl (m : MethodId) (a : Addr) (r : Int32) (q : Int32) : entryFrame m #[(.ref a), (.int r), (.int q)] 3 = mkF m 0 #[.val (.ref a), .val (.int r), .val (.int q)] [] := by first | (simp [entryFrame, mkF, argsToLocals, Value.category]; done) | rfl
theorem own_d_prog_54_method_7_0 : decode prog_54_method_7_code 0 = .ok (.iload_n 2, 1) := by decide +kernel
theorem own_d_prog_54_method_7_1 : decode prog_54_method_7_code 1 = .ok (.iconst 1, 1) := by decide +kernel
theorem own_d_prog_54_method_7_2 : decode prog_54_method_7_code 2 = .ok (.if_icmp .eq 14, 3) := by decide +kernel
theorem own_d_prog_54_method_7_16 : decode prog_54_method_7_code 16 = .ok (.iconst 1, 1) := by decide +kernel
theorem own_d_prog_54_method_7_17 : decode prog_54_method_7_code 17 = .ok (.goto 4, 3) := by decide +kernel
theorem own_d_prog_54_method_7_21 : decode prog_54_method_7_code 21 = .ok (.ireturn, 1) := by decide +kernel
theorem own_d_prog_54_method_7_5 : decode prog_54_method_7_code 5 = .ok (.aload_n 0, 1) := by decide +kernel
theorem own_d_prog_54_method_7_6 : decode prog_54_method_7_code 6 = .ok (.getfield 46, 3) := by decide +kernel
theorem own_d_prog_54_method_7_9 : decode prog_54_method_7_code 9 = .ok (.ifCond .eq 11, 3) := by decide +kernel
theorem own_d_prog_54_method_7_20 : decode prog_54_method_7_code 20 = .ok (.iconst 0, 1) := by decide +kernel
theorem own_d_prog_54_method_7_12 : decode prog_54_method_7_code 12 = .ok (.iload_n 1, 1) := by decide +kernel
theorem own_d_prog_54_method_7_13 : decode prog_54_method_7_code 13 = .ok (.ifCond .ne 7, 3) := by decide +kernel
def Q_pl (Z : State) (a : Addr) (r : Int32) (q : Int32) (f : Int32) (h0 : Heap) (v_ : Option Value) (h : Heap) (L_ : List Loc) : Prop := v_ = some (.int (if q = 1 then 1 else if f = 0 then 0 else if r = 0 then 1 else 0)) ∧ Fr Z.heap.size L_ ∧ (h = h0)
set_option maxRecDepth 65536 in
set_option maxHeartbeats 40000000 in
theorem rm_pl (l : Launch) (Z : State) (a0 : Array Value) (hw : ∀ d ∈ tables_1, d.before a0 Z = true) (ws : List Jvm.Cond) (a : Addr) (r : Int32) (q : Int32) (f : Int32) (h0 : Heap) (O : Ext Z.heap h0) (F : Fld Z Z.heap a "com/example/pokfulam/pokfulam/plan/Strategy" "firstAlone" "Z" (.int f)) :
    MetFree l (⟨"com/example/pokfulam/pokfulam/plan/Strategy", "plansAlone", "(II)Z"⟩ : MethodName) (head1 (Jvm.Cond.code (⟨"com/example/pokfulam/pokfulam/plan/Strategy", "plansAlone", "(II)Z"⟩ : MethodName) prog_54_method_7_code 3 (some .boolean) :: ws) ({ frames := 0, cells := 0, slots := 0, locals := 0 } : Room)) (fun a_ U_ => a_ = #[(.ref a), (.int r), (.int q)] ∧ Z.Warmed39 U_.vm ∧ U_.heap = h0) (fun _ _ _ _ _ => True) (fun _ U_ o_ U2_ => ∃ v_ L_, o_ = .returned v_ ∧ Q_pl Z a r q f h0 v_ U2_.heap L_ ∧ FrameEnd U_ o_ U2_ L_ ({ frames := 0, cells := 0, slots := 0, locals := 0 } : Room).cells ({ frames := 0, cells := 0, slots := 0, locals := 0 } : Room).slots) := by
  refine MetFree.of_bodySF (plainFor_of_name own_pn0) hisR ?_
  intro p e s m args below meth c s₁ Bd hml0 hP hK
  obtain ⟨rfl, hZ, hh⟩ := hP
  have hx := Bd.exec
  have hby := Bd.bytes
  have hml : c.maxLocals = 3 := hml0
  have hown : s.vm.findClass "com/example/pokfulam/pokfulam/plan/Strategy" = some m.cls := findClass_of_methodNamed Bd.named
  have hnm := (name_of_methodNamed Bd.named Bd.method).1
  have X0 : Stand p l e ({ frames := 0, cells := 0, slots := 0, locals := 0 } : Room) s m #[(.ref a), (.int r), (.int q)] below meth c s₁ [] 0 0 := Stand.of_body Bd
  have e0 : s₁.heap = h0 := by rw [← hh, Bd.state]; rfl
  have N0 := Fr.nil Z.heap.size
  show own_G p e below (fun o_ s₂ => ∃ v_ L_, o_ = .returned v_ ∧ Q_pl Z a r q f h0 v_ s₂.heap L_ ∧ FrameEnd s o_ s₂ L_ ({ frames := 0, cells := 0, slots := 0, locals := 0 } : Room).cells ({ frames := 0, cells := 0, slots := 0, locals := 0 } : Room).slots) (s₁.setTop (entryFrame m #[(.ref a), (.int r), (.int q)] 3))
  refine own_go (s₁.setTop (mkF m 0 #[.val (.ref a), .val (.int r), .val (.int q)] [])) (fun t_ k_ => castTop (own_ef_pl m a r q) k_) ?_
  refine own_go (s₁.setTop (mkF m 1 #[.val (.ref a), .val (.int r), .val (.int q)] [(.int q)])) (fun t_ k_ => XS.iloadN X0.here hx rfl (hb hby own_d_prog_54_method_7_0) rfl k_) ?_
  refine own_go (s₁.setTop (mkF m 2 #[.val (.ref a), .val (.int r), .val (.int q)] [(.int (1 : Int32)), (.int q)])) (fun t_ k_ => XS.iconst X0.here hx rfl (hb hby own_d_prog_54_method_7_1) k_) ?_
  by_cases hc2_1 : q = (1 : Int32)
  ·
    refine own_go (s₁.setTop (mkF m 16 #[.val (.ref a), .val (.int r), .val (.int q)] [])) (fun t_ k_ => XS.icmpYes X0.here hx rfl (pc0 := 2) (pc' := 16) rfl (hb hby own_d_prog_54_method_7_2) rfl (teq hc2_1).1 (by decide) (by decide) k_) ?_
    refine own_go (s₁.setTop (mkF m 17 #[.val (.ref a), .val (.int r), .val (.int q)] [(.int (1 : Int32))])) (fun t_ k_ => XS.iconst X0.here hx rfl (hb hby own_d_prog_54_method_7_16) k_) ?_
    refine own_go (s₁.setTop (mkF m 21 #[.val (.ref a), .val (.int r), .val (.int q)] [(.int (1 : Int32))])) (fun t_ k_ => XS.goto X0.here hx rfl (pc0 := 17) (pc' := 21) rfl (hb hby own_d_prog_54_method_7_17) (by decide) (by decide) k_) ?_
    obtain ⟨fs, hr, hrun, hended, hW, hsame⟩ := X0.leave (v := some (.int (nar .boolean (1 : Int32)))) (fun h => by rw [Bd.returns] at h; cases h)
    refine ⟨_, _, retN X0 hx (t := .boolean) Bd.returns (by simp) (hb hby own_d_prog_54_method_7_21) hr, hrun, hended, _, _, rfl, ?_, ⟨_, rfl⟩, hW, hsame.mono (by decide) (by decide)⟩
    show Q_pl Z a r q f h0 _ s₁.heap _
    exact ⟨by first | (simp [hc2_1]; done) | (simp [hc2_1]; rfl), N0, e0⟩
  ·
    refine own_go (s₁.setTop (mkF m 5 #[.val (.ref a), .val (.int r), .val (.int q)] [])) (fun t_ k_ => XS.icmpNo X0.here hx rfl (hb hby own_d_prog_54_method_7_2) rfl (feq hc2_1).1 k_) ?_
    refine own_go (s₁.setTop (mkF m 6 #[.val (.ref a), .val (.int r), .val (.int q)] [(.ref a)])) (fun t_ k_ => XS.aloadN X0.here hx rfl (hb hby own_d_prog_54_method_7_5) rfl rfl k_) ?_
    obtain ⟨T2, X2, e2, st2⟩ := getF X0 hx hZ hown (host := "") (Or.inl (hw _ (List.mem_of_getElem? (i := 9) rfl))) Via.refl e0 (F.ext O) (g := (mkF m 6 #[.val (.ref a), .val (.int r), .val (.int q)] [(.ref a)])) rfl rfl (hb hby own_d_prog_54_method_7_6)
    refine own_go (T2.setTop (mkF m 9 #[.val (.ref a), .val (.int r), .val (.int q)] [(.int f)])) (fun t_ k_ => st2 _ k_) ?_
    by_cases hc9_3 : f = (0 : Int32)
    ·
      refine own_go (T2.setTop (mkF m 20 #[.val (.ref a), .val (.int r), .val (.int q)] [])) (fun t_ k_ => XS.ifYes X2.here hx rfl (pc0 := 9) (pc' := 20) rfl (hb hby own_d_prog_54_method_7_9) rfl ((if0 _ _).trans (teq hc9_3).1) (by decide) (by decide) k_) ?_
      refine own_go (T2.setTop (mkF m 21 #[.val (.ref a), .val (.int r), .val (.int q)] [(.int (0 : Int32))])) (fun t_ k_ => XS.iconst X2.here hx rfl (hb hby own_d_prog_54_method_7_20) k_) ?_
      obtain ⟨fs, hr, hrun, hended, hW, hsame⟩ := X2.leave (v := some (.int (nar .boolean (0 : Int32)))) (fun h => by rw [Bd.returns] at h; cases h)
      refine ⟨_, _, retN X2 hx (t := .boolean) Bd.returns (by simp) (hb hby own_d_prog_54_method_7_21) hr, hrun, hended, _, _, rfl, ?_, ⟨_, rfl⟩, hW, hsame.mono (by decide) (by decide)⟩
      show Q_pl Z a r q f h0 _ T2.heap _
      exact ⟨by first | (simp [hc2_1, hc9_3]; done) | (simp [hc2_1, hc9_3]; rfl), N0, e2⟩
    ·
      refine own_go (T2.setTop (mkF m 12 #[.val (.ref a), .val (.int r), .val (.int q)] [])) (fun t_ k_ => XS.ifNo X2.here hx rfl (hb hby own_d_prog_54_method_7_9) rfl ((if0 _ _).trans (feq hc9_3).1) k_) ?_
      refine own_go (T2.setTop (mkF m 13 #[.val (.ref a), .val (.int r), .val (.int q)] [(.int r)])) (fun t_ k_ => XS.iloadN X2.here hx rfl (hb hby own_d_prog_54_method_7_12) rfl k_) ?_
      by_cases hc13_4 : r = (0 : Int32)
      ·
        refine own_go (T2.setTop (mkF m 16 #[.val (.ref a), .val (.int r), .val (.int q)] [])) (fun t_ k_ => XS.ifNo X2.here hx rfl (hb hby own_d_prog_54_method_7_13) rfl ((if0 _ _).trans (teq hc13_4).2) k_) ?_
        refine own_go (T2.setTop (mkF m 17 #[.val (.ref a), .val (.int r), .val (.int q)] [(.int (1 : Int32))])) (fun t_ k_ => XS.iconst X2.here hx rfl (hb hby own_d_prog_54_method_7_16) k_) ?_
        refine own_go (T2.setTop (mkF m 21 #[.val (.ref a), .val (.int r), .val (.int q)] [(.int (1 : Int32))])) (fun t_ k_ => XS.goto X2.here hx rfl (pc0 := 17) (pc' := 21) rfl (hb hby own_d_prog_54_method_7_17) (by decide) (by decide) k_) ?_
        obtain ⟨fs, hr, hrun, hended, hW, hsame⟩ := X2.leave (v := some (.int (nar .boolean (1 : Int32)))) (fun h => by rw [Bd.returns] at h; cases h)
        refine ⟨_, _, retN X2 hx (t := .boolean) Bd.returns (by simp) (hb hby own_d_prog_54_method_7_21) hr, hrun, hended, _, _, rfl, ?_, ⟨_, rfl⟩, hW, hsame.mono (by decide) (by decide)⟩
        show Q_pl Z a r q f h0 _ T2.heap _
        exact ⟨by first | (simp [hc2_1, hc9_3, hc13_4]; done) | (simp [hc2_1, hc9_3, hc13_4]; rfl), N0, e2⟩
      ·
        refine own_go (T2.setTop (mkF m 20 #[.val (.ref a), .val (.int r), .val (.int q)] [])) (fun t_ k_ => XS.ifYes X2.here hx rfl (pc0 := 13) (pc' := 20) rfl (hb hby own_d_prog_54_method_7_13) rfl ((if0 _ _).trans (feq hc13_4).2) (by decide) (by decide) k_) ?_
        refine own_go (T2.setTop (mkF m 21 #[.val (.ref a), .val (.int r), .val (.int q)] [(.int (0 : Int32))])) (fun t_ k_ => XS.iconst X2.here hx rfl (hb hby own_d_prog_54_method_7_20) k_) ?_
        obtain ⟨fs, hr, hrun, hended, hW, hsame⟩ := X2.leave (v := some (.int (nar .boolean (0 : Int32)))) (fun h => by rw [Bd.returns] at h; cases h)
        refine ⟨_, _, retN X2 hx (t := .boolean) Bd.returns (by simp) (hb hby own_d_prog_54_method_7_21) hr, hrun, hended, _, _, rfl, ?_, ⟨_, rfl⟩, hW, hsame.mono (by decide) (by decide)⟩
        show Q_pl Z a r q f h0 _ T2.heap _
        exact ⟨by first | (simp [hc2_1, hc9_3, hc13_4]; done) | (simp [hc2_1, hc9_3, hc13_4]; rfl), N0, e2⟩
theorem own_pn1 : plainName "com/example/pokfulam/pokfulam/plan/StrategyPlansAlonePinLaw" = true := by first | (simp [plainName, overriddenIn]; done) | decide +kernel
theorem own_ef_law (m : MethodId) (p0 : Int32) (p1 : Int32) (p2 : Int32) (p3 : Int32) : entryFrame m #[(.int p0), (.int p1), (.int p2), (.int p3)] maxLocals = mkF m 0 #[.val (.int p0), .val (.int p1), .val (.int p2), .val (.int p3), .unset, .unset, .unset, .unset, .unset] [] := by first | (simp [entryFrame, mkF, argsToLocals, Value.category, maxLocals]; done) | rfl
theorem own_pd0 : parseMethodDescriptor "(II)Z" = some ⟨[.int, .int], some .boolean⟩ := by decide +kernel
theorem own_pd1 : parseMethodDescriptor "(II)I" = some ⟨[.int, .int], some .int⟩ := by decide +kernel
def Q_law (Z : State) (p0 : Int32) (p1 : Int32) (p2 : Int32) (p3 : Int32) (a_SEQUENTIAL : Addr) (a_GROUP : Addr) (a_INTERLEAVE : Addr) (a_GAP_SEARCH : Addr) (h0 : Heap) (v_ : Option Value) (h : Heap) (L_ : List Loc) : Prop := v_ = some (.int 1) ∧ Fr Z.heap.size L_ ∧ (True)
set_option maxRecDepth 65536 in
set_option maxHeartbeats 40000000 in
theorem rm_law (l : Launch) (Z : State) (a0 : Array Value) (hw : ∀ d ∈ tables_1, d.before a0 Z = true) (ws : List Jvm.Cond) (p0 : Int32) (p1 : Int32) (p2 : Int32) (p3 : Int32) (a_SEQUENTIAL : Addr) (a_GROUP : Addr) (a_INTERLEAVE : Addr) (a_GAP_SEARCH : Addr) (h0 : Heap) (O : Ext Z.heap h0) (w : own_W Z a_SEQUENTIAL a_GROUP a_INTERLEAVE a_GAP_SEARCH) :
    MetFree l x (head1 (Jvm.Cond.code x code maxLocals ret :: ws) room_1) (fun a_ U_ => a_ = #[(.int p0), (.int p1), (.int p2), (.int p3)] ∧ Z.Warmed39 U_.vm ∧ U_.heap = h0) (fun _ _ _ _ _ => True) (fun _ U_ o_ U2_ => ∃ v_ L_, o_ = .returned v_ ∧ Q_law Z p0 p1 p2 p3 a_SEQUENTIAL a_GROUP a_INTERLEAVE a_GAP_SEARCH h0 v_ U2_.heap L_ ∧ FrameEnd U_ o_ U2_ L_ room_1.cells room_1.slots) := by
  refine MetFree.of_bodySF (plainFor_of_name own_pn1) hisR ?_
  intro p e s m args below meth c s₁ Bd hml0 hP hK
  obtain ⟨rfl, hZ, hh⟩ := hP
  have hx := Bd.exec
  have hby := Bd.bytes
  have hml : c.maxLocals = 9 := hml0
  have hown : s.vm.findClass "com/example/pokfulam/pokfulam/plan/StrategyPlansAlonePinLaw" = some m.cls := findClass_of_methodNamed Bd.named
  have hnm := (name_of_methodNamed Bd.named Bd.method).1
  have X0 : Stand p l e room_1 s m #[(.int p0), (.int p1), (.int p2), (.int p3)] below meth c s₁ [] 0 0 := Stand.of_body Bd
  have e0 : s₁.heap = h0 := by rw [← hh, Bd.state]; rfl
  have N0 := Fr.nil Z.heap.size
  show own_G p e below (fun o_ s₂ => ∃ v_ L_, o_ = .returned v_ ∧ Q_law Z p0 p1 p2 p3 a_SEQUENTIAL a_GROUP a_INTERLEAVE a_GAP_SEARCH h0 v_ s₂.heap L_ ∧ FrameEnd s o_ s₂ L_ room_1.cells room_1.slots) (s₁.setTop (entryFrame m #[(.int p0), (.int p1), (.int p2), (.int p3)] maxLocals))
  refine own_go (s₁.setTop (mkF m 0 #[.val (.int p0), .val (.int p1), .val (.int p2), .val (.int p3), .unset, .unset, .unset, .unset, .unset] [])) (fun t_ k_ => castTop (own_ef_law m p0 p1 p2 p3) k_) ?_
  have w' := w
  obtain ⟨S_SEQUENTIAL, X_SEQUENTIAL, S_GROUP, X_GROUP, S_INTERLEAVE, X_INTERLEAVE, S_GAP_SEARCH, X_GAP_SEARCH, F_SEQUENTIAL_firstAlone, F_GROUP_firstAlone, F_INTERLEAVE_firstAlone, F_GAP_SEARCH_firstAlone⟩ := w'
  refine own_go (s₁.setTop (mkF m 1 #[.val (.int p0), .val (.int p1), .val (.int p2), .val (.int p3), .unset, .unset, .unset, .unset, .unset] [(.int p0)])) (fun t_ k_ => XS.iloadN X0.here hx rfl (hb hby at_0) rfl k_) ?_
  refine own_go (s₁.setTop (mkF m 2 #[.val (.int p0), .val (.int p1), .val (.int p2), .val (.int p3), .unset, .unset, .unset, .unset, .unset] [(.int (3 : Int32)), (.int p0)])) (fun t_ k_ => XS.iconst X0.here hx rfl (hb hby at_1) k_) ?_
  refine own_go (s₁.setTop (mkF m 3 #[.val (.int p0), .val (.int p1), .val (.int p2), .val (.int p3), .unset, .unset, .unset, .unset, .unset] [(.int (p0 &&& (3 : Int32)))])) (fun t_ k_ => XS.iand X0.here hx rfl (hb hby at_2) rfl k_) ?_
  refine own_go (s₁.setTop (mkF m 5 #[.val (.int p0), .val (.int p1), .val (.int p2), .val (.int p3), .val (.int (p0 &&& (3 : Int32))), .unset, .unset, .unset, .unset] [])) (fun t_ k_ => XS.istore X0.here hx rfl (hb hby at_3) rfl (l' := #[.val (.int p0), .val (.int p1), .val (.int p2), .val (.int p3), .val (.int (p0 &&& (3 : Int32))), .unset, .unset, .unset, .unset]) rfl k_) ?_
  obtain ⟨T1, X1, e1, st1⟩ := getS2 X0 hx hZ hown (host := "") (Or.inl (hw _ (List.mem_of_getElem? (i := 0) rfl))) Via.refl e0 (S_SEQUENTIAL.ext O) (g := (mkF m 5 #[.val (.int p0), .val (.int p1), .val (.int p2), .val (.int p3), .val (.int (p0 &&& (3 : Int32))), .unset, .unset, .unset, .unset] [])) rfl (hb hby at_5)
  refine own_go (T1.setTop (mkF m 8 #[.val (.int p0), .val (.int p1), .val (.int p2), .val (.int p3), .val (.int (p0 &&& (3 : Int32))), .unset, .unset, .unset, .unset] [(.ref a_SEQUENTIAL)])) (fun t_ k_ => st1 _ k_) ?_
  refine own_go (T1.setTop (mkF m 10 #[.val (.int p0), .val (.int p1), .val (.int p2), .val (.int p3), .val (.int (p0 &&& (3 : Int32))), .val (.ref a_SEQUENTIAL), .unset, .unset, .unset] [])) (fun t_ k_ => XS.astore X1.here hx rfl (hb hby at_8) rfl rfl (l' := #[.val (.int p0), .val (.int p1), .val (.int p2), .val (.int p3), .val (.int (p0 &&& (3 : Int32))), .val (.ref a_SEQUENTIAL), .unset, .unset, .unset]) rfl k_) ?_
  refine own_go (T1.setTop (mkF m 12 #[.val (.int p0), .val (.int p1), .val (.int p2), .val (.int p3), .val (.int (p0 &&& (3 : Int32))), .val (.ref a_SEQUENTIAL), .unset, .unset, .unset] [(.int (p0 &&& (3 : Int32)))])) (fun t_ k_ => XS.iload X1.here hx rfl (hb hby at_10) rfl k_) ?_
  refine own_go (T1.setTop (mkF m 13 #[.val (.int p0), .val (.int p1), .val (.int p2), .val (.int p3), .val (.int (p0 &&& (3 : Int32))), .val (.ref a_SEQUENTIAL), .unset, .unset, .unset] [(.int (1 : Int32)), (.int (p0 &&& (3 : Int32)))])) (fun t_ k_ => XS.iconst X1.here hx rfl (hb hby at_12) k_) ?_
  by_cases hc13_2 : (p0 &&& (3 : Int32)) = (1 : Int32)
  ·
    refine own_go (T1.setTop (mkF m 16 #[.val (.int p0), .val (.int p1), .val (.int p2), .val (.int p3), .val (.int (p0 &&& (3 : Int32))), .val (.ref a_SEQUENTIAL), .unset, .unset, .unset] [])) (fun t_ k_ => XS.icmpNo X1.here hx rfl (hb hby at_13) rfl (teq hc13_2).2 k_) ?_
    obtain ⟨T3, X3, e3, st3⟩ := getS2 X1 hx hZ hown (host := "") (Or.inl (hw _ (List.mem_of_getElem? (i := 23) rfl))) Via.refl e1 (S_GAP_SEARCH.ext O) (g := (mkF m 16 #[.val (.int p0), .val (.int p1), .val (.int p2), .val (.int p3), .val (.int (p0 &&& (3 : Int32))), .val (.ref a_SEQUENTIAL), .unset, .unset, .unset] [])) rfl (hb hby at_16)
    refine own_go (T3.setTop (mkF m 19 #[.val (.int p0), .val (.int p1), .val (.int p2), .val (.int p3), .val (.int (p0 &&& (3 : Int32))), .val (.ref a_SEQUENTIAL), .unset, .unset, .unset] [(.ref a_GAP_SEARCH)])) (fun t_ k_ => st3 _ k_) ?_
    refine own_go (T3.setTop (mkF m 21 #[.val (.int p0), .val (.int p1), .val (.int p2), .val (.int p3), .val (.int (p0 &&& (3 : Int32))), .val (.ref a_GAP_SEARCH), .unset, .unset, .unset] [])) (fun t_ k_ => XS.astore X3.here hx rfl (hb hby at_19) rfl rfl (l' := #[.val (.int p0), .val (.int p1), .val (.int p2), .val (.int p3), .val (.int (p0 &&& (3 : Int32))), .val (.ref a_GAP_SEARCH), .unset, .unset, .unset]) rfl k_) ?_
    refine own_go (T3.setTop (mkF m 49 #[.val (.int p0), .val (.int p1), .val (.int p2), .val (.int p3), .val (.int (p0 &&& (3 : Int32))), .val (.ref a_GAP_SEARCH), .unset, .unset, .unset] [])) (fun t_ k_ => XS.goto X3.here hx rfl (pc0 := 21) (pc' := 49) rfl (hb hby at_21) (by decide) (by decide) k_) ?_
    have J4 : ∀ (T5 : State) (l5 : List Loc) (X5 : Stand p l e room_1 s m #[(.int p0), (.int p1), (.int p2), (.int p3)] below meth c T5 l5 0 0) (N5 : Fr Z.heap.size l5) (e5 : T5.heap = h0) (q : Int32) (hq : ¬ q = 0), own_G p e below (fun o_ s₂ => ∃ v_ L_, o_ = .returned v_ ∧ Q_law Z p0 p1 p2 p3 a_SEQUENTIAL a_GROUP a_INTERLEAVE a_GAP_SEARCH h0 v_ s₂.heap L_ ∧ FrameEnd s o_ s₂ L_ room_1.cells room_1.slots) (T5.setTop (mkF m 75 #[.val (.int p0), .val (.int p1), .val (.int p2), .val (.int p3), .val (.int (p0 &&& (3 : Int32))), .val (.ref a_GAP_SEARCH), .val (.int q), .unset, .unset] [])) := by
      intro T5 l5 X5 N5 e5 q hq
      refine own_go (T5.setTop (mkF m 76 #[.val (.int p0), .val (.int p1), .val (.int p2), .val (.int p3), .val (.int (p0 &&& (3 : Int32))), .val (.ref a_GAP_SEARCH), .val (.int q), .unset, .unset] [(.int p2)])) (fun t_ k_ => XS.iloadN X5.here hx rfl (hb hby at_75) rfl k_) ?_
      refine own_go (T5.setTop (mkF m 78 #[.val (.int p0), .val (.int p1), .val (.int p2), .val (.int p3), .val (.int (p0 &&& (3 : Int32))), .val (.ref a_GAP_SEARCH), .val (.int q), .unset, .unset] [(.int (2147483647 : Int32)), (.int p2)])) (fun t_ k_ => X5.ldcInt hx hown (mvT hZ (hw _ (List.mem_of_getElem? (i := 3) rfl))) (g := (mkF m 76 #[.val (.int p0), .val (.int p1), .val (.int p2), .val (.int p3), .val (.int (p0 &&& (3 : Int32))), .val (.ref a_GAP_SEARCH), .val (.int q), .unset, .unset] [(.int p2)])) rfl (hb hby at_76) _ k_) ?_
      refine own_go (T5.setTop (mkF m 79 #[.val (.int p0), .val (.int p1), .val (.int p2), .val (.int p3), .val (.int (p0 &&& (3 : Int32))), .val (.ref a_GAP_SEARCH), .val (.int q), .unset, .unset] [(.int (p2 &&& (2147483647 : Int32)))])) (fun t_ k_ => XS.iand X5.here hx rfl (hb hby at_78) rfl k_) ?_
      refine own_go (T5.setTop (mkF m 81 #[.val (.int p0), .val (.int p1), .val (.int p2), .val (.int p3), .val (.int (p0 &&& (3 : Int32))), .val (.ref a_GAP_SEARCH), .val (.int q), .unset, .unset] [(.int q), (.int (p2 &&& (2147483647 : Int32)))])) (fun t_ k_ => XS.iload X5.here hx rfl (hb hby at_79) rfl k_) ?_
      refine own_go (T5.setTop (mkF m 82 #[.val (.int p0), .val (.int p1), .val (.int p2), .val (.int p3), .val (.int (p0 &&& (3 : Int32))), .val (.ref a_GAP_SEARCH), .val (.int q), .unset, .unset] [(.int ((p2 &&& (2147483647 : Int32)) % q))])) (fun t_ k_ => Jvm.RoadKit.iremM X5 hx rfl (hb hby at_81) rfl hq k_) ?_
      refine own_go (T5.setTop (mkF m 84 #[.val (.int p0), .val (.int p1), .val (.int p2), .val (.int p3), .val (.int (p0 &&& (3 : Int32))), .val (.ref a_GAP_SEARCH), .val (.int q), .val (.int ((p2 &&& (2147483647 : Int32)) % q)), .unset] [])) (fun t_ k_ => XS.istore X5.here hx rfl (hb hby at_82) rfl (l' := #[.val (.int p0), .val (.int p1), .val (.int p2), .val (.int p3), .val (.int (p0 &&& (3 : Int32))), .val (.ref a_GAP_SEARCH), .val (.int q), .val (.int ((p2 &&& (2147483647 : Int32)) % q)), .unset]) rfl k_) ?_
      have J6 : ∀ (T7 : State) (l7 : List Loc) (X7 : Stand p l e room_1 s m #[(.int p0), (.int p1), (.int p2), (.int p3)] below meth c T7 l7 0 0) (N7 : Fr Z.heap.size l7) (e7 : T7.heap = h0) (r : Int32) (hr : q = 1 → r = 0), own_G p e below (fun o_ s₂ => ∃ v_ L_, o_ = .returned v_ ∧ Q_law Z p0 p1 p2 p3 a_SEQUENTIAL a_GROUP a_INTERLEAVE a_GAP_SEARCH h0 v_ s₂.heap L_ ∧ FrameEnd s o_ s₂ L_ room_1.cells room_1.slots) (T7.setTop (mkF m 93 #[.val (.int p0), .val (.int p1), .val (.int p2), .val (.int p3), .val (.int (p0 &&& (3 : Int32))), .val (.ref a_GAP_SEARCH), .val (.int q), .val (.int r), .unset] [])) := by
        intro T7 l7 X7 N7 e7 r hr
        refine own_go (T7.setTop (mkF m 95 #[.val (.int p0), .val (.int p1), .val (.int p2), .val (.int p3), .val (.int (p0 &&& (3 : Int32))), .val (.ref a_GAP_SEARCH), .val (.int q), .val (.int r), .unset] [(.int (p0 &&& (3 : Int32)))])) (fun t_ k_ => XS.iload X7.here hx rfl (hb hby at_93) rfl k_) ?_
        refine own_go (T7.setTop (mkF m 96 #[.val (.int p0), .val (.int p1), .val (.int p2), .val (.int p3), .val (.int (p0 &&& (3 : Int32))), .val (.ref a_GAP_SEARCH), .val (.int q), .val (.int r), .unset] [(.int (2 : Int32)), (.int (p0 &&& (3 : Int32)))])) (fun t_ k_ => XS.iconst X7.here hx rfl (hb hby at_95) k_) ?_
        refine own_go (T7.setTop (mkF m 99 #[.val (.int p0), .val (.int p1), .val (.int p2), .val (.int p3), .val (.int (p0 &&& (3 : Int32))), .val (.ref a_GAP_SEARCH), .val (.int q), .val (.int r), .unset] [])) (fun t_ k_ => XS.icmpNo X7.here hx rfl (hb hby at_96) rfl (tlt (by rw [hc13_2]; decide : (p0 &&& (3 : Int32)) < (2 : Int32))).2.1 k_) ?_
        refine own_go (T7.setTop (mkF m 101 #[.val (.int p0), .val (.int p1), .val (.int p2), .val (.int p3), .val (.int (p0 &&& (3 : Int32))), .val (.ref a_GAP_SEARCH), .val (.int q), .val (.int r), .unset] [(.int r)])) (fun t_ k_ => XS.iload X7.here hx rfl (hb hby at_99) rfl k_) ?_
        by_cases hc101_8 : r = (0 : Int32)
        ·
          refine own_go (T7.setTop (mkF m 104 #[.val (.int p0), .val (.int p1), .val (.int p2), .val (.int p3), .val (.int (p0 &&& (3 : Int32))), .val (.ref a_GAP_SEARCH), .val (.int q), .val (.int r), .unset] [])) (fun t_ k_ => XS.ifNo X7.here hx rfl (hb hby at_101) rfl ((if0 _ _).trans (teq hc101_8).2) k_) ?_
          refine own_go (T7.setTop (mkF m 105 #[.val (.int p0), .val (.int p1), .val (.int p2), .val (.int p3), .val (.int (p0 &&& (3 : Int32))), .val (.ref a_GAP_SEARCH), .val (.int q), .val (.int r), .unset] [(.int (1 : Int32))])) (fun t_ k_ => XS.iconst X7.here hx rfl (hb hby at_104) k_) ?_
          refine own_go (T7.setTop (mkF m 109 #[.val (.int p0), .val (.int p1), .val (.int p2), .val (.int p3), .val (.int (p0 &&& (3 : Int32))), .val (.ref a_GAP_SEARCH), .val (.int q), .val (.int r), .unset] [(.int (1 : Int32))])) (fun t_ k_ => XS.goto X7.here hx rfl (pc0 := 105) (pc' := 109) rfl (hb hby at_105) (by decide) (by decide) k_) ?_
          refine own_go (T7.setTop (mkF m 111 #[.val (.int p0), .val (.int p1), .val (.int p2), .val (.int p3), .val (.int (p0 &&& (3 : Int32))), .val (.ref a_GAP_SEARCH), .val (.int q), .val (.int r), .val (.int (1 : Int32))] [])) (fun t_ k_ => XS.istore X7.here hx rfl (hb hby at_109) rfl (l' := #[.val (.int p0), .val (.int p1), .val (.int p2), .val (.int p3), .val (.int (p0 &&& (3 : Int32))), .val (.ref a_GAP_SEARCH), .val (.int q), .val (.int r), .val (.int (1 : Int32))]) rfl k_) ?_
          refine own_go (T7.setTop (mkF m 127 #[.val (.int p0), .val (.int p1), .val (.int p2), .val (.int p3), .val (.int (p0 &&& (3 : Int32))), .val (.ref a_GAP_SEARCH), .val (.int q), .val (.int r), .val (.int (1 : Int32))] [])) (fun t_ k_ => XS.goto X7.here hx rfl (pc0 := 111) (pc' := 127) rfl (hb hby at_111) (by decide) (by decide) k_) ?_
          refine own_go (T7.setTop (mkF m 129 #[.val (.int p0), .val (.int p1), .val (.int p2), .val (.int p3), .val (.int (p0 &&& (3 : Int32))), .val (.ref a_GAP_SEARCH), .val (.int q), .val (.int r), .val (.int (1 : Int32))] [(.ref a_GAP_SEARCH)])) (fun t_ k_ => XS.aload X7.here hx rfl (hb hby at_127) rfl rfl k_) ?_
          refine own_go (T7.setTop (mkF m 131 #[.val (.int p0), .val (.int p1), .val (.int p2), .val (.int p3), .val (.int (p0 &&& (3 : Int32))), .val (.ref a_GAP_SEARCH), .val (.int q), .val (.int r), .val (.int (1 : Int32))] [(.int r), (.ref a_GAP_SEARCH)])) (fun t_ k_ => XS.iload X7.here hx rfl (hb hby at_129) rfl k_) ?_
          refine own_go (T7.setTop (mkF m 133 #[.val (.int p0), .val (.int p1), .val (.int p2), .val (.int p3), .val (.int (p0 &&& (3 : Int32))), .val (.ref a_GAP_SEARCH), .val (.int q), .val (.int r), .val (.int (1 : Int32))] [(.int q), (.int r), (.ref a_GAP_SEARCH)])) (fun t_ k_ => XS.iload X7.here hx rfl (hb hby at_131) rfl k_) ?_
          obtain ⟨cq9, kq9, q9a, q9b, q9c⟩ := isOf hZ e7 (X_GAP_SEARCH.ext O)
          obtain ⟨_, _, ⟨T9, Lu9, ku9, nu9⟩, -, X9, ⟨Lc9, hQ9, lu9, yu9, zu9⟩, st9⟩ := X7.virtualBack hx (y := (⟨"com/example/pokfulam/pokfulam/plan/Strategy", "plansAlone", "(II)Z"⟩ : MethodName)) (z := (⟨"com/example/pokfulam/pokfulam/plan/Strategy", "plansAlone", "(II)Z"⟩ : MethodName)) hown (mvT hZ (hw _ (List.mem_of_getElem? (i := 4) rfl))) (mvT hZ (hw _ (List.mem_of_getElem? (i := 5) rfl))) (notFace_of_selects (args := #[]) (mvT hZ (hw _ (List.mem_of_getElem? (i := 25) rfl)))) (mvT hZ (hw _ (List.mem_of_getElem? (i := 25) rfl))) (mvT hZ (hw _ (List.mem_of_getElem? (i := 6) rfl))) (by decide) (backOf (W := 0) (rm_pl l Z a0 hw [] (a_GAP_SEARCH) (r) (q) ((1 : Int32)) h0 O F_GAP_SEARCH_firstAlone) hZ (hw _ (List.mem_of_getElem? (i := 8) rfl)) (hw _ (List.mem_of_getElem? (i := 1) rfl)) (by decide) (by decide)) q9a q9c (g := (mkF m 133 #[.val (.int p0), .val (.int p1), .val (.int p2), .val (.int p3), .val (.int (p0 &&& (3 : Int32))), .val (.ref a_GAP_SEARCH), .val (.int q), .val (.int r), .val (.int (1 : Int32))] [(.int q), (.int r), (.ref a_GAP_SEARCH)])) rfl (by rw [hml]; rfl) (Steps.refl _) (argsL := [(.int r), (.int q)]) (rest := []) (lenOf own_pd0 rfl) rfl (by show 2 * 0 + _ ≤ _; exact Nat.le_of_eq rfl) (hb hby at_133) (fun _ _ => ⟨rfl, e7, (by decide : 0 + 0 ≤ _), (by decide : 0 + 0 ≤ _)⟩)
          dsimp only [Pt.U, Pt.locs, Pt.cells, Pt.slots] at X9 lu9 yu9 zu9 st9 hQ9
          subst lu9 yu9 zu9
          obtain ⟨rfl, N9q, e9⟩ := hQ9
          have N9 := Fr.app N7 N9q
          refine own_go (T9.setTop (mkF m 136 #[.val (.int p0), .val (.int p1), .val (.int p2), .val (.int p3), .val (.int (p0 &&& (3 : Int32))), .val (.ref a_GAP_SEARCH), .val (.int q), .val (.int r), .val (.int (1 : Int32))] [(.int (if q = 1 then 1 else if (1 : Int32) = 0 then 0 else if r = 0 then 1 else 0))])) (fun t_ k_ => st9.trans k_) ?_
          refine own_go (T9.setTop (mkF m 138 #[.val (.int p0), .val (.int p1), .val (.int p2), .val (.int p3), .val (.int (p0 &&& (3 : Int32))), .val (.ref a_GAP_SEARCH), .val (.int q), .val (.int r), .val (.int (1 : Int32))] [(.int (1 : Int32)), (.int (if q = 1 then 1 else if (1 : Int32) = 0 then 0 else if r = 0 then 1 else 0))])) (fun t_ k_ => XS.iload X9.here hx rfl (hb hby at_136) rfl k_) ?_
          have hfin : (if q = 1 then 1 else if (1 : Int32) = 0 then 0 else if r = 0 then 1 else 0) = (1 : Int32) := by simp_all
          refine own_go (T9.setTop (mkF m 141 #[.val (.int p0), .val (.int p1), .val (.int p2), .val (.int p3), .val (.int (p0 &&& (3 : Int32))), .val (.ref a_GAP_SEARCH), .val (.int q), .val (.int r), .val (.int (1 : Int32))] [])) (fun t_ k_ => XS.icmpNo X9.here hx rfl (hb hby at_138) rfl (teq hfin).2 k_) ?_
          refine own_go (T9.setTop (mkF m 142 #[.val (.int p0), .val (.int p1), .val (.int p2), .val (.int p3), .val (.int (p0 &&& (3 : Int32))), .val (.ref a_GAP_SEARCH), .val (.int q), .val (.int r), .val (.int (1 : Int32))] [(.int (1 : Int32))])) (fun t_ k_ => XS.iconst X9.here hx rfl (hb hby at_141) k_) ?_
          refine own_go (T9.setTop (mkF m 146 #[.val (.int p0), .val (.int p1), .val (.int p2), .val (.int p3), .val (.int (p0 &&& (3 : Int32))), .val (.ref a_GAP_SEARCH), .val (.int q), .val (.int r), .val (.int (1 : Int32))] [(.int (1 : Int32))])) (fun t_ k_ => XS.goto X9.here hx rfl (pc0 := 142) (pc' := 146) rfl (hb hby at_142) (by decide) (by decide) k_) ?_
          obtain ⟨fs, hr, hrun, hended, hW, hsame⟩ := X9.leave (v := some (.int (nar .boolean (1 : Int32)))) (fun h => by rw [Bd.returns] at h; cases h)
          refine ⟨_, _, retN X9 hx (t := .boolean) Bd.returns (by simp) (hb hby at_146) hr, hrun, hended, _, _, rfl, ?_, ⟨_, rfl⟩, hW, hsame.mono (by decide) (by decide)⟩
          show Q_law Z p0 p1 p2 p3 a_SEQUENTIAL a_GROUP a_INTERLEAVE a_GAP_SEARCH h0 _ T9.heap _
          exact ⟨rfl, N9, trivial⟩
        ·
          refine own_go (T7.setTop (mkF m 108 #[.val (.int p0), .val (.int p1), .val (.int p2), .val (.int p3), .val (.int (p0 &&& (3 : Int32))), .val (.ref a_GAP_SEARCH), .val (.int q), .val (.int r), .unset] [])) (fun t_ k_ => XS.ifYes X7.here hx rfl (pc0 := 101) (pc' := 108) rfl (hb hby at_101) rfl ((if0 _ _).trans (feq hc101_8).2) (by decide) (by decide) k_) ?_
          refine own_go (T7.setTop (mkF m 109 #[.val (.int p0), .val (.int p1), .val (.int p2), .val (.int p3), .val (.int (p0 &&& (3 : Int32))), .val (.ref a_GAP_SEARCH), .val (.int q), .val (.int r), .unset] [(.int (0 : Int32))])) (fun t_ k_ => XS.iconst X7.here hx rfl (hb hby at_108) k_) ?_
          refine own_go (T7.setTop (mkF m 111 #[.val (.int p0), .val (.int p1), .val (.int p2), .val (.int p3), .val (.int (p0 &&& (3 : Int32))), .val (.ref a_GAP_SEARCH), .val (.int q), .val (.int r), .val (.int (0 : Int32))] [])) (fun t_ k_ => XS.istore X7.here hx rfl (hb hby at_109) rfl (l' := #[.val (.int p0), .val (.int p1), .val (.int p2), .val (.int p3), .val (.int (p0 &&& (3 : Int32))), .val (.ref a_GAP_SEARCH), .val (.int q), .val (.int r), .val (.int (0 : Int32))]) rfl k_) ?_
          refine own_go (T7.setTop (mkF m 127 #[.val (.int p0), .val (.int p1), .val (.int p2), .val (.int p3), .val (.int (p0 &&& (3 : Int32))), .val (.ref a_GAP_SEARCH), .val (.int q), .val (.int r), .val (.int (0 : Int32))] [])) (fun t_ k_ => XS.goto X7.here hx rfl (pc0 := 111) (pc' := 127) rfl (hb hby at_111) (by decide) (by decide) k_) ?_
          refine own_go (T7.setTop (mkF m 129 #[.val (.int p0), .val (.int p1), .val (.int p2), .val (.int p3), .val (.int (p0 &&& (3 : Int32))), .val (.ref a_GAP_SEARCH), .val (.int q), .val (.int r), .val (.int (0 : Int32))] [(.ref a_GAP_SEARCH)])) (fun t_ k_ => XS.aload X7.here hx rfl (hb hby at_127) rfl rfl k_) ?_
          refine own_go (T7.setTop (mkF m 131 #[.val (.int p0), .val (.int p1), .val (.int p2), .val (.int p3), .val (.int (p0 &&& (3 : Int32))), .val (.ref a_GAP_SEARCH), .val (.int q), .val (.int r), .val (.int (0 : Int32))] [(.int r), (.ref a_GAP_SEARCH)])) (fun t_ k_ => XS.iload X7.here hx rfl (hb hby at_129) rfl k_) ?_
          refine own_go (T7.setTop (mkF m 133 #[.val (.int p0), .val (.int p1), .val (.int p2), .val (.int p3), .val (.int (p0 &&& (3 : Int32))), .val (.ref a_GAP_SEARCH), .val (.int q), .val (.int r), .val (.int (0 : Int32))] [(.int q), (.int r), (.ref a_GAP_SEARCH)])) (fun t_ k_ => XS.iload X7.here hx rfl (hb hby at_131) rfl k_) ?_
          obtain ⟨cq10, kq10, q10a, q10b, q10c⟩ := isOf hZ e7 (X_GAP_SEARCH.ext O)
          obtain ⟨_, _, ⟨T10, Lu10, ku10, nu10⟩, -, X10, ⟨Lc10, hQ10, lu10, yu10, zu10⟩, st10⟩ := X7.virtualBack hx (y := (⟨"com/example/pokfulam/pokfulam/plan/Strategy", "plansAlone", "(II)Z"⟩ : MethodName)) (z := (⟨"com/example/pokfulam/pokfulam/plan/Strategy", "plansAlone", "(II)Z"⟩ : MethodName)) hown (mvT hZ (hw _ (List.mem_of_getElem? (i := 4) rfl))) (mvT hZ (hw _ (List.mem_of_getElem? (i := 5) rfl))) (notFace_of_selects (args := #[]) (mvT hZ (hw _ (List.mem_of_getElem? (i := 25) rfl)))) (mvT hZ (hw _ (List.mem_of_getElem? (i := 25) rfl))) (mvT hZ (hw _ (List.mem_of_getElem? (i := 6) rfl))) (by decide) (backOf (W := 0) (rm_pl l Z a0 hw [] (a_GAP_SEARCH) (r) (q) ((1 : Int32)) h0 O F_GAP_SEARCH_firstAlone) hZ (hw _ (List.mem_of_getElem? (i := 8) rfl)) (hw _ (List.mem_of_getElem? (i := 1) rfl)) (by decide) (by decide)) q10a q10c (g := (mkF m 133 #[.val (.int p0), .val (.int p1), .val (.int p2), .val (.int p3), .val (.int (p0 &&& (3 : Int32))), .val (.ref a_GAP_SEARCH), .val (.int q), .val (.int r), .val (.int (0 : Int32))] [(.int q), (.int r), (.ref a_GAP_SEARCH)])) rfl (by rw [hml]; rfl) (Steps.refl _) (argsL := [(.int r), (.int q)]) (rest := []) (lenOf own_pd0 rfl) rfl (by show 2 * 0 + _ ≤ _; exact Nat.le_of_eq rfl) (hb hby at_133) (fun _ _ => ⟨rfl, e7, (by decide : 0 + 0 ≤ _), (by decide : 0 + 0 ≤ _)⟩)
          dsimp only [Pt.U, Pt.locs, Pt.cells, Pt.slots] at X10 lu10 yu10 zu10 st10 hQ10
          subst lu10 yu10 zu10
          obtain ⟨rfl, N10q, e10⟩ := hQ10
          have N10 := Fr.app N7 N10q
          refine own_go (T10.setTop (mkF m 136 #[.val (.int p0), .val (.int p1), .val (.int p2), .val (.int p3), .val (.int (p0 &&& (3 : Int32))), .val (.ref a_GAP_SEARCH), .val (.int q), .val (.int r), .val (.int (0 : Int32))] [(.int (if q = 1 then 1 else if (1 : Int32) = 0 then 0 else if r = 0 then 1 else 0))])) (fun t_ k_ => st10.trans k_) ?_
          refine own_go (T10.setTop (mkF m 138 #[.val (.int p0), .val (.int p1), .val (.int p2), .val (.int p3), .val (.int (p0 &&& (3 : Int32))), .val (.ref a_GAP_SEARCH), .val (.int q), .val (.int r), .val (.int (0 : Int32))] [(.int (0 : Int32)), (.int (if q = 1 then 1 else if (1 : Int32) = 0 then 0 else if r = 0 then 1 else 0))])) (fun t_ k_ => XS.iload X10.here hx rfl (hb hby at_136) rfl k_) ?_
          have hfin : (if q = 1 then 1 else if (1 : Int32) = 0 then 0 else if r = 0 then 1 else 0) = (0 : Int32) := by simp_all
          refine own_go (T10.setTop (mkF m 141 #[.val (.int p0), .val (.int p1), .val (.int p2), .val (.int p3), .val (.int (p0 &&& (3 : Int32))), .val (.ref a_GAP_SEARCH), .val (.int q), .val (.int r), .val (.int (0 : Int32))] [])) (fun t_ k_ => XS.icmpNo X10.here hx rfl (hb hby at_138) rfl (teq hfin).2 k_) ?_
          refine own_go (T10.setTop (mkF m 142 #[.val (.int p0), .val (.int p1), .val (.int p2), .val (.int p3), .val (.int (p0 &&& (3 : Int32))), .val (.ref a_GAP_SEARCH), .val (.int q), .val (.int r), .val (.int (0 : Int32))] [(.int (1 : Int32))])) (fun t_ k_ => XS.iconst X10.here hx rfl (hb hby at_141) k_) ?_
          refine own_go (T10.setTop (mkF m 146 #[.val (.int p0), .val (.int p1), .val (.int p2), .val (.int p3), .val (.int (p0 &&& (3 : Int32))), .val (.ref a_GAP_SEARCH), .val (.int q), .val (.int r), .val (.int (0 : Int32))] [(.int (1 : Int32))])) (fun t_ k_ => XS.goto X10.here hx rfl (pc0 := 142) (pc' := 146) rfl (hb hby at_142) (by decide) (by decide) k_) ?_
          obtain ⟨fs, hr, hrun, hended, hW, hsame⟩ := X10.leave (v := some (.int (nar .boolean (1 : Int32)))) (fun h => by rw [Bd.returns] at h; cases h)
          refine ⟨_, _, retN X10 hx (t := .boolean) Bd.returns (by simp) (hb hby at_146) hr, hrun, hended, _, _, rfl, ?_, ⟨_, rfl⟩, hW, hsame.mono (by decide) (by decide)⟩
          show Q_law Z p0 p1 p2 p3 a_SEQUENTIAL a_GROUP a_INTERLEAVE a_GAP_SEARCH h0 _ T10.heap _
          exact ⟨rfl, N10, trivial⟩
      refine own_go (T5.setTop (mkF m 85 #[.val (.int p0), .val (.int p1), .val (.int p2), .val (.int p3), .val (.int (p0 &&& (3 : Int32))), .val (.ref a_GAP_SEARCH), .val (.int q), .val (.int ((p2 &&& (2147483647 : Int32)) % q)), .unset] [(.int p3)])) (fun t_ k_ => XS.iloadN X5.here hx rfl (hb hby at_84) rfl k_) ?_
      refine own_go (T5.setTop (mkF m 86 #[.val (.int p0), .val (.int p1), .val (.int p2), .val (.int p3), .val (.int (p0 &&& (3 : Int32))), .val (.ref a_GAP_SEARCH), .val (.int q), .val (.int ((p2 &&& (2147483647 : Int32)) % q)), .unset] [(.int (2 : Int32)), (.int p3)])) (fun t_ k_ => XS.iconst X5.here hx rfl (hb hby at_85) k_) ?_
      refine own_go (T5.setTop (mkF m 87 #[.val (.int p0), .val (.int p1), .val (.int p2), .val (.int p3), .val (.int (p0 &&& (3 : Int32))), .val (.ref a_GAP_SEARCH), .val (.int q), .val (.int ((p2 &&& (2147483647 : Int32)) % q)), .unset] [(.int (p3 &&& (2 : Int32)))])) (fun t_ k_ => XS.iand X5.here hx rfl (hb hby at_86) rfl k_) ?_
      by_cases hc87_11 : (p3 &&& (2 : Int32)) = (0 : Int32)
      ·
        refine own_go (T5.setTop (mkF m 93 #[.val (.int p0), .val (.int p1), .val (.int p2), .val (.int p3), .val (.int (p0 &&& (3 : Int32))), .val (.ref a_GAP_SEARCH), .val (.int q), .val (.int ((p2 &&& (2147483647 : Int32)) % q)), .unset] [])) (fun t_ k_ => XS.ifYes X5.here hx rfl (pc0 := 87) (pc' := 93) rfl (hb hby at_87) rfl ((if0 _ _).trans (teq hc87_11).1) (by decide) (by decide) k_) ?_
        exact J6 _ _ X5 N5 e5 (((p2 &&& (2147483647 : Int32)) % q)) (own_rem1 _ q)
      ·
        refine own_go (T5.setTop (mkF m 90 #[.val (.int p0), .val (.int p1), .val (.int p2), .val (.int p3), .val (.int (p0 &&& (3 : Int32))), .val (.ref a_GAP_SEARCH), .val (.int q), .val (.int ((p2 &&& (2147483647 : Int32)) % q)), .unset] [])) (fun t_ k_ => XS.ifNo X5.here hx rfl (hb hby at_87) rfl ((if0 _ _).trans (feq hc87_11).1) k_) ?_
        refine own_go (T5.setTop (mkF m 91 #[.val (.int p0), .val (.int p1), .val (.int p2), .val (.int p3), .val (.int (p0 &&& (3 : Int32))), .val (.ref a_GAP_SEARCH), .val (.int q), .val (.int ((p2 &&& (2147483647 : Int32)) % q)), .unset] [(.int (0 : Int32))])) (fun t_ k_ => XS.iconst X5.here hx rfl (hb hby at_90) k_) ?_
        refine own_go (T5.setTop (mkF m 93 #[.val (.int p0), .val (.int p1), .val (.int p2), .val (.int p3), .val (.int (p0 &&& (3 : Int32))), .val (.ref a_GAP_SEARCH), .val (.int q), .val (.int (0 : Int32)), .unset] [])) (fun t_ k_ => XS.istore X5.here hx rfl (hb hby at_91) rfl (l' := #[.val (.int p0), .val (.int p1), .val (.int p2), .val (.int p3), .val (.int (p0 &&& (3 : Int32))), .val (.ref a_GAP_SEARCH), .val (.int q), .val (.int (0 : Int32)), .unset]) rfl k_) ?_
        exact J6 _ _ X5 N5 e5 ((0 : Int32)) (fun _ => rfl)
    refine own_go (T3.setTop (mkF m 50 #[.val (.int p0), .val (.int p1), .val (.int p2), .val (.int p3), .val (.int (p0 &&& (3 : Int32))), .val (.ref a_GAP_SEARCH), .unset, .unset, .unset] [(.int p3)])) (fun t_ k_ => XS.iloadN X3.here hx rfl (hb hby at_49) rfl k_) ?_
    refine own_go (T3.setTop (mkF m 51 #[.val (.int p0), .val (.int p1), .val (.int p2), .val (.int p3), .val (.int (p0 &&& (3 : Int32))), .val (.ref a_GAP_SEARCH), .unset, .unset, .unset] [(.int (1 : Int32)), (.int p3)])) (fun t_ k_ => XS.iconst X3.here hx rfl (hb hby at_50) k_) ?_
    refine own_go (T3.setTop (mkF m 52 #[.val (.int p0), .val (.int p1), .val (.int p2), .val (.int p3), .val (.int (p0 &&& (3 : Int32))), .val (.ref a_GAP_SEARCH), .unset, .unset, .unset] [(.int (p3 &&& (1 : Int32)))])) (fun t_ k_ => XS.iand X3.here hx rfl (hb hby at_51) rfl k_) ?_
    by_cases hc52_12 : (p3 &&& (1 : Int32)) = (0 : Int32)
    ·
      refine own_go (T3.setTop (mkF m 65 #[.val (.int p0), .val (.int p1), .val (.int p2), .val (.int p3), .val (.int (p0 &&& (3 : Int32))), .val (.ref a_GAP_SEARCH), .unset, .unset, .unset] [])) (fun t_ k_ => XS.ifYes X3.here hx rfl (pc0 := 52) (pc' := 65) rfl (hb hby at_52) rfl ((if0 _ _).trans (teq hc52_12).1) (by decide) (by decide) k_) ?_
      refine own_go (T3.setTop (mkF m 66 #[.val (.int p0), .val (.int p1), .val (.int p2), .val (.int p3), .val (.int (p0 &&& (3 : Int32))), .val (.ref a_GAP_SEARCH), .unset, .unset, .unset] [(.int (1 : Int32))])) (fun t_ k_ => XS.iconst X3.here hx rfl (hb hby at_65) k_) ?_
      refine own_go (T3.setTop (mkF m 67 #[.val (.int p0), .val (.int p1), .val (.int p2), .val (.int p3), .val (.int (p0 &&& (3 : Int32))), .val (.ref a_GAP_SEARCH), .unset, .unset, .unset] [(.int p1), (.int (1 : Int32))])) (fun t_ k_ => XS.iloadN X3.here hx rfl (hb hby at_66) rfl k_) ?_
      refine own_go (T3.setTop (mkF m 69 #[.val (.int p0), .val (.int p1), .val (.int p2), .val (.int p3), .val (.int (p0 &&& (3 : Int32))), .val (.ref a_GAP_SEARCH), .unset, .unset, .unset] [(.int (2147483647 : Int32)), (.int p1), (.int (1 : Int32))])) (fun t_ k_ => X3.ldcInt hx hown (mvT hZ (hw _ (List.mem_of_getElem? (i := 3) rfl))) (g := (mkF m 67 #[.val (.int p0), .val (.int p1), .val (.int p2), .val (.int p3), .val (.int (p0 &&& (3 : Int32))), .val (.ref a_GAP_SEARCH), .unset, .unset, .unset] [(.int p1), (.int (1 : Int32))])) rfl (hb hby at_67) _ k_) ?_
      refine own_go (T3.setTop (mkF m 70 #[.val (.int p0), .val (.int p1), .val (.int p2), .val (.int p3), .val (.int (p0 &&& (3 : Int32))), .val (.ref a_GAP_SEARCH), .unset, .unset, .unset] [(.int (p1 &&& (2147483647 : Int32))), (.int (1 : Int32))])) (fun t_ k_ => XS.iand X3.here hx rfl (hb hby at_69) rfl k_) ?_
      obtain ⟨_, _, ⟨T13, Lu13, ku13, nu13⟩, -, X13, ⟨Lc13, hQ13, lu13, yu13, zu13⟩, st13⟩ := Jvm.LawKit.callS X3 hx (y := (⟨"java/lang/Math", "max", "(II)I"⟩ : MethodName)) hown (mvT hZ (hw _ (List.mem_of_getElem? (i := 11) rfl))) (mvT hZ (hw _ (List.mem_of_getElem? (i := 12) rfl))) (mvT hZ (hw _ (List.mem_of_getElem? (i := 13) rfl))) (mvT hZ (hw _ (List.mem_of_getElem? (i := 14) rfl))) (by decide) (backOf (W := 0) (rm_mx l Z a0 hw [] ((1 : Int32)) ((p1 &&& (2147483647 : Int32))) h0 O ) hZ (hw _ (List.mem_of_getElem? (i := 14) rfl)) (hw _ (List.mem_of_getElem? (i := 13) rfl)) (by decide) (by decide)) (g := (mkF m 70 #[.val (.int p0), .val (.int p1), .val (.int p2), .val (.int p3), .val (.int (p0 &&& (3 : Int32))), .val (.ref a_GAP_SEARCH), .unset, .unset, .unset] [(.int (p1 &&& (2147483647 : Int32))), (.int (1 : Int32))])) rfl (by rw [hml]; rfl) (argsL := [(.int (1 : Int32)), (.int (p1 &&& (2147483647 : Int32)))]) (rest := []) (lenOf own_pd1 rfl) rfl (by show 2 * 0 + _ ≤ _; exact Nat.le_of_eq rfl) (hb hby at_70) (fun _ _ => ⟨rfl, e3, (by decide : 0 + 0 ≤ _), (by decide : 0 + 0 ≤ _)⟩)
      dsimp only [Pt.U, Pt.locs, Pt.cells, Pt.slots] at X13 lu13 yu13 zu13 st13 hQ13
      subst lu13 yu13 zu13
      obtain ⟨rfl, N13q, e13⟩ := hQ13
      have N13 := Fr.app N0 N13q
      refine own_go (T13.setTop (mkF m 73 #[.val (.int p0), .val (.int p1), .val (.int p2), .val (.int p3), .val (.int (p0 &&& (3 : Int32))), .val (.ref a_GAP_SEARCH), .unset, .unset, .unset] [(.int (own_max (1 : Int32) (p1 &&& (2147483647 : Int32))))])) (fun t_ k_ => st13 _ k_) ?_
      refine own_go (T13.setTop (mkF m 75 #[.val (.int p0), .val (.int p1), .val (.int p2), .val (.int p3), .val (.int (p0 &&& (3 : Int32))), .val (.ref a_GAP_SEARCH), .val (.int (own_max (1 : Int32) (p1 &&& (2147483647 : Int32)))), .unset, .unset] [])) (fun t_ k_ => XS.istore X13.here hx rfl (hb hby at_73) rfl (l' := #[.val (.int p0), .val (.int p1), .val (.int p2), .val (.int p3), .val (.int (p0 &&& (3 : Int32))), .val (.ref a_GAP_SEARCH), .val (.int (own_max (1 : Int32) (p1 &&& (2147483647 : Int32)))), .unset, .unset]) rfl k_) ?_
      exact J4 _ _ X13 N13 e13 ((own_max (1 : Int32) (p1 &&& (2147483647 : Int32)))) (own_q2 p1)
    ·
      refine own_go (T3.setTop (mkF m 55 #[.val (.int p0), .val (.int p1), .val (.int p2), .val (.int p3), .val (.int (p0 &&& (3 : Int32))), .val (.ref a_GAP_SEARCH), .unset, .unset, .unset] [])) (fun t_ k_ => XS.ifNo X3.here hx rfl (hb hby at_52) rfl ((if0 _ _).trans (feq hc52_12).1) k_) ?_
      refine own_go (T3.setTop (mkF m 56 #[.val (.int p0), .val (.int p1), .val (.int p2), .val (.int p3), .val (.int (p0 &&& (3 : Int32))), .val (.ref a_GAP_SEARCH), .unset, .unset, .unset] [(.int (1 : Int32))])) (fun t_ k_ => XS.iconst X3.here hx rfl (hb hby at_55) k_) ?_
      refine own_go (T3.setTop (mkF m 57 #[.val (.int p0), .val (.int p1), .val (.int p2), .val (.int p3), .val (.int (p0 &&& (3 : Int32))), .val (.ref a_GAP_SEARCH), .unset, .unset, .unset] [(.int p1), (.int (1 : Int32))])) (fun t_ k_ => XS.iloadN X3.here hx rfl (hb hby at_56) rfl k_) ?_
      refine own_go (T3.setTop (mkF m 58 #[.val (.int p0), .val (.int p1), .val (.int p2), .val (.int p3), .val (.int (p0 &&& (3 : Int32))), .val (.ref a_GAP_SEARCH), .unset, .unset, .unset] [(.int (3 : Int32)), (.int p1), (.int (1 : Int32))])) (fun t_ k_ => XS.iconst X3.here hx rfl (hb hby at_57) k_) ?_
      refine own_go (T3.setTop (mkF m 59 #[.val (.int p0), .val (.int p1), .val (.int p2), .val (.int p3), .val (.int (p0 &&& (3 : Int32))), .val (.ref a_GAP_SEARCH), .unset, .unset, .unset] [(.int (p1 &&& (3 : Int32))), (.int (1 : Int32))])) (fun t_ k_ => XS.iand X3.here hx rfl (hb hby at_58) rfl k_) ?_
      refine own_go (T3.setTop (mkF m 60 #[.val (.int p0), .val (.int p1), .val (.int p2), .val (.int p3), .val (.int (p0 &&& (3 : Int32))), .val (.ref a_GAP_SEARCH), .unset, .unset, .unset] [(.int ((1 : Int32) + (p1 &&& (3 : Int32))))])) (fun t_ k_ => XS.iadd X3.here hx rfl (hb hby at_59) rfl k_) ?_
      refine own_go (T3.setTop (mkF m 62 #[.val (.int p0), .val (.int p1), .val (.int p2), .val (.int p3), .val (.int (p0 &&& (3 : Int32))), .val (.ref a_GAP_SEARCH), .val (.int ((1 : Int32) + (p1 &&& (3 : Int32)))), .unset, .unset] [])) (fun t_ k_ => XS.istore X3.here hx rfl (hb hby at_60) rfl (l' := #[.val (.int p0), .val (.int p1), .val (.int p2), .val (.int p3), .val (.int (p0 &&& (3 : Int32))), .val (.ref a_GAP_SEARCH), .val (.int ((1 : Int32) + (p1 &&& (3 : Int32)))), .unset, .unset]) rfl k_) ?_
      refine own_go (T3.setTop (mkF m 75 #[.val (.int p0), .val (.int p1), .val (.int p2), .val (.int p3), .val (.int (p0 &&& (3 : Int32))), .val (.ref a_GAP_SEARCH), .val (.int ((1 : Int32) + (p1 &&& (3 : Int32)))), .unset, .unset] [])) (fun t_ k_ => XS.goto X3.here hx rfl (pc0 := 62) (pc' := 75) rfl (hb hby at_62) (by decide) (by decide) k_) ?_
      exact J4 _ _ X3 N0 e3 (((1 : Int32) + (p1 &&& (3 : Int32)))) (own_q1 p1)
  ·
    refine own_go (T1.setTop (mkF m 24 #[.val (.int p0), .val (.int p1), .val (.int p2), .val (.int p3), .val (.int (p0 &&& (3 : Int32))), .val (.ref a_SEQUENTIAL), .unset, .unset, .unset] [])) (fun t_ k_ => XS.icmpYes X1.here hx rfl (pc0 := 13) (pc' := 24) rfl (hb hby at_13) rfl (feq hc13_2).2 (by decide) (by decide) k_) ?_
    refine own_go (T1.setTop (mkF m 26 #[.val (.int p0), .val (.int p1), .val (.int p2), .val (.int p3), .val (.int (p0 &&& (3 : Int32))), .val (.ref a_SEQUENTIAL), .unset, .unset, .unset] [(.int (p0 &&& (3 : Int32)))])) (fun t_ k_ => XS.iload X1.here hx rfl (hb hby at_24) rfl k_) ?_
    refine own_go (T1.setTop (mkF m 27 #[.val (.int p0), .val (.int p1), .val (.int p2), .val (.int p3), .val (.int (p0 &&& (3 : Int32))), .val (.ref a_SEQUENTIAL), .unset, .unset, .unset] [(.int (2 : Int32)), (.int (p0 &&& (3 : Int32)))])) (fun t_ k_ => XS.iconst X1.here hx rfl (hb hby at_26) k_) ?_
    by_cases hc27_14 : (p0 &&& (3 : Int32)) = (2 : Int32)
    ·
      refine own_go (T1.setTop (mkF m 30 #[.val (.int p0), .val (.int p1), .val (.int p2), .val (.int p3), .val (.int (p0 &&& (3 : Int32))), .val (.ref a_SEQUENTIAL), .unset, .unset, .unset] [])) (fun t_ k_ => XS.icmpNo X1.here hx rfl (hb hby at_27) rfl (teq hc27_14).2 k_) ?_
      obtain ⟨T15, X15, e15, st15⟩ := getS2 X1 hx hZ hown (host := "") (Or.inl (hw _ (List.mem_of_getElem? (i := 19) rfl))) Via.refl e1 (S_INTERLEAVE.ext O) (g := (mkF m 30 #[.val (.int p0), .val (.int p1), .val (.int p2), .val (.int p3), .val (.int (p0 &&& (3 : Int32))), .val (.ref a_SEQUENTIAL), .unset, .unset, .unset] [])) rfl (hb hby at_30)
      refine own_go (T15.setTop (mkF m 33 #[.val (.int p0), .val (.int p1), .val (.int p2), .val (.int p3), .val (.int (p0 &&& (3 : Int32))), .val (.ref a_SEQUENTIAL), .unset, .unset, .unset] [(.ref a_INTERLEAVE)])) (fun t_ k_ => st15 _ k_) ?_
      refine own_go (T15.setTop (mkF m 35 #[.val (.int p0), .val (.int p1), .val (.int p2), .val (.int p3), .val (.int (p0 &&& (3 : Int32))), .val (.ref a_INTERLEAVE), .unset, .unset, .unset] [])) (fun t_ k_ => XS.astore X15.here hx rfl (hb hby at_33) rfl rfl (l' := #[.val (.int p0), .val (.int p1), .val (.int p2), .val (.int p3), .val (.int (p0 &&& (3 : Int32))), .val (.ref a_INTERLEAVE), .unset, .unset, .unset]) rfl k_) ?_
      refine own_go (T15.setTop (mkF m 49 #[.val (.int p0), .val (.int p1), .val (.int p2), .val (.int p3), .val (.int (p0 &&& (3 : Int32))), .val (.ref a_INTERLEAVE), .unset, .unset, .unset] [])) (fun t_ k_ => XS.goto X15.here hx rfl (pc0 := 35) (pc' := 49) rfl (hb hby at_35) (by decide) (by decide) k_) ?_
      have J16 : ∀ (T17 : State) (l17 : List Loc) (X17 : Stand p l e room_1 s m #[(.int p0), (.int p1), (.int p2), (.int p3)] below meth c T17 l17 0 0) (N17 : Fr Z.heap.size l17) (e17 : T17.heap = h0) (q : Int32) (hq : ¬ q = 0), own_G p e below (fun o_ s₂ => ∃ v_ L_, o_ = .returned v_ ∧ Q_law Z p0 p1 p2 p3 a_SEQUENTIAL a_GROUP a_INTERLEAVE a_GAP_SEARCH h0 v_ s₂.heap L_ ∧ FrameEnd s o_ s₂ L_ room_1.cells room_1.slots) (T17.setTop (mkF m 75 #[.val (.int p0), .val (.int p1), .val (.int p2), .val (.int p3), .val (.int (p0 &&& (3 : Int32))), .val (.ref a_INTERLEAVE), .val (.int q), .unset, .unset] [])) := by
        intro T17 l17 X17 N17 e17 q hq
        refine own_go (T17.setTop (mkF m 76 #[.val (.int p0), .val (.int p1), .val (.int p2), .val (.int p3), .val (.int (p0 &&& (3 : Int32))), .val (.ref a_INTERLEAVE), .val (.int q), .unset, .unset] [(.int p2)])) (fun t_ k_ => XS.iloadN X17.here hx rfl (hb hby at_75) rfl k_) ?_
        refine own_go (T17.setTop (mkF m 78 #[.val (.int p0), .val (.int p1), .val (.int p2), .val (.int p3), .val (.int (p0 &&& (3 : Int32))), .val (.ref a_INTERLEAVE), .val (.int q), .unset, .unset] [(.int (2147483647 : Int32)), (.int p2)])) (fun t_ k_ => X17.ldcInt hx hown (mvT hZ (hw _ (List.mem_of_getElem? (i := 3) rfl))) (g := (mkF m 76 #[.val (.int p0), .val (.int p1), .val (.int p2), .val (.int p3), .val (.int (p0 &&& (3 : Int32))), .val (.ref a_INTERLEAVE), .val (.int q), .unset, .unset] [(.int p2)])) rfl (hb hby at_76) _ k_) ?_
        refine own_go (T17.setTop (mkF m 79 #[.val (.int p0), .val (.int p1), .val (.int p2), .val (.int p3), .val (.int (p0 &&& (3 : Int32))), .val (.ref a_INTERLEAVE), .val (.int q), .unset, .unset] [(.int (p2 &&& (2147483647 : Int32)))])) (fun t_ k_ => XS.iand X17.here hx rfl (hb hby at_78) rfl k_) ?_
        refine own_go (T17.setTop (mkF m 81 #[.val (.int p0), .val (.int p1), .val (.int p2), .val (.int p3), .val (.int (p0 &&& (3 : Int32))), .val (.ref a_INTERLEAVE), .val (.int q), .unset, .unset] [(.int q), (.int (p2 &&& (2147483647 : Int32)))])) (fun t_ k_ => XS.iload X17.here hx rfl (hb hby at_79) rfl k_) ?_
        refine own_go (T17.setTop (mkF m 82 #[.val (.int p0), .val (.int p1), .val (.int p2), .val (.int p3), .val (.int (p0 &&& (3 : Int32))), .val (.ref a_INTERLEAVE), .val (.int q), .unset, .unset] [(.int ((p2 &&& (2147483647 : Int32)) % q))])) (fun t_ k_ => Jvm.RoadKit.iremM X17 hx rfl (hb hby at_81) rfl hq k_) ?_
        refine own_go (T17.setTop (mkF m 84 #[.val (.int p0), .val (.int p1), .val (.int p2), .val (.int p3), .val (.int (p0 &&& (3 : Int32))), .val (.ref a_INTERLEAVE), .val (.int q), .val (.int ((p2 &&& (2147483647 : Int32)) % q)), .unset] [])) (fun t_ k_ => XS.istore X17.here hx rfl (hb hby at_82) rfl (l' := #[.val (.int p0), .val (.int p1), .val (.int p2), .val (.int p3), .val (.int (p0 &&& (3 : Int32))), .val (.ref a_INTERLEAVE), .val (.int q), .val (.int ((p2 &&& (2147483647 : Int32)) % q)), .unset]) rfl k_) ?_
        have J18 : ∀ (T19 : State) (l19 : List Loc) (X19 : Stand p l e room_1 s m #[(.int p0), (.int p1), (.int p2), (.int p3)] below meth c T19 l19 0 0) (N19 : Fr Z.heap.size l19) (e19 : T19.heap = h0) (r : Int32) (hr : q = 1 → r = 0), own_G p e below (fun o_ s₂ => ∃ v_ L_, o_ = .returned v_ ∧ Q_law Z p0 p1 p2 p3 a_SEQUENTIAL a_GROUP a_INTERLEAVE a_GAP_SEARCH h0 v_ s₂.heap L_ ∧ FrameEnd s o_ s₂ L_ room_1.cells room_1.slots) (T19.setTop (mkF m 93 #[.val (.int p0), .val (.int p1), .val (.int p2), .val (.int p3), .val (.int (p0 &&& (3 : Int32))), .val (.ref a_INTERLEAVE), .val (.int q), .val (.int r), .unset] [])) := by
          intro T19 l19 X19 N19 e19 r hr
          refine own_go (T19.setTop (mkF m 95 #[.val (.int p0), .val (.int p1), .val (.int p2), .val (.int p3), .val (.int (p0 &&& (3 : Int32))), .val (.ref a_INTERLEAVE), .val (.int q), .val (.int r), .unset] [(.int (p0 &&& (3 : Int32)))])) (fun t_ k_ => XS.iload X19.here hx rfl (hb hby at_93) rfl k_) ?_
          refine own_go (T19.setTop (mkF m 96 #[.val (.int p0), .val (.int p1), .val (.int p2), .val (.int p3), .val (.int (p0 &&& (3 : Int32))), .val (.ref a_INTERLEAVE), .val (.int q), .val (.int r), .unset] [(.int (2 : Int32)), (.int (p0 &&& (3 : Int32)))])) (fun t_ k_ => XS.iconst X19.here hx rfl (hb hby at_95) k_) ?_
          refine own_go (T19.setTop (mkF m 114 #[.val (.int p0), .val (.int p1), .val (.int p2), .val (.int p3), .val (.int (p0 &&& (3 : Int32))), .val (.ref a_INTERLEAVE), .val (.int q), .val (.int r), .unset] [])) (fun t_ k_ => XS.icmpYes X19.here hx rfl (pc0 := 96) (pc' := 114) rfl (hb hby at_96) rfl (flt (by rw [hc27_14]; decide : ¬ ((p0 &&& (3 : Int32)) < (2 : Int32)))).2.1 (by decide) (by decide) k_) ?_
          refine own_go (T19.setTop (mkF m 116 #[.val (.int p0), .val (.int p1), .val (.int p2), .val (.int p3), .val (.int (p0 &&& (3 : Int32))), .val (.ref a_INTERLEAVE), .val (.int q), .val (.int r), .unset] [(.int q)])) (fun t_ k_ => XS.iload X19.here hx rfl (hb hby at_114) rfl k_) ?_
          refine own_go (T19.setTop (mkF m 117 #[.val (.int p0), .val (.int p1), .val (.int p2), .val (.int p3), .val (.int (p0 &&& (3 : Int32))), .val (.ref a_INTERLEAVE), .val (.int q), .val (.int r), .unset] [(.int (1 : Int32)), (.int q)])) (fun t_ k_ => XS.iconst X19.here hx rfl (hb hby at_116) k_) ?_
          by_cases hc117_20 : q = (1 : Int32)
          ·
            refine own_go (T19.setTop (mkF m 120 #[.val (.int p0), .val (.int p1), .val (.int p2), .val (.int p3), .val (.int (p0 &&& (3 : Int32))), .val (.ref a_INTERLEAVE), .val (.int q), .val (.int r), .unset] [])) (fun t_ k_ => XS.icmpNo X19.here hx rfl (hb hby at_117) rfl (teq hc117_20).2 k_) ?_
            refine own_go (T19.setTop (mkF m 121 #[.val (.int p0), .val (.int p1), .val (.int p2), .val (.int p3), .val (.int (p0 &&& (3 : Int32))), .val (.ref a_INTERLEAVE), .val (.int q), .val (.int r), .unset] [(.int (1 : Int32))])) (fun t_ k_ => XS.iconst X19.here hx rfl (hb hby at_120) k_) ?_
            refine own_go (T19.setTop (mkF m 125 #[.val (.int p0), .val (.int p1), .val (.int p2), .val (.int p3), .val (.int (p0 &&& (3 : Int32))), .val (.ref a_INTERLEAVE), .val (.int q), .val (.int r), .unset] [(.int (1 : Int32))])) (fun t_ k_ => XS.goto X19.here hx rfl (pc0 := 121) (pc' := 125) rfl (hb hby at_121) (by decide) (by decide) k_) ?_
            refine own_go (T19.setTop (mkF m 127 #[.val (.int p0), .val (.int p1), .val (.int p2), .val (.int p3), .val (.int (p0 &&& (3 : Int32))), .val (.ref a_INTERLEAVE), .val (.int q), .val (.int r), .val (.int (1 : Int32))] [])) (fun t_ k_ => XS.istore X19.here hx rfl (hb hby at_125) rfl (l' := #[.val (.int p0), .val (.int p1), .val (.int p2), .val (.int p3), .val (.int (p0 &&& (3 : Int32))), .val (.ref a_INTERLEAVE), .val (.int q), .val (.int r), .val (.int (1 : Int32))]) rfl k_) ?_
            refine own_go (T19.setTop (mkF m 129 #[.val (.int p0), .val (.int p1), .val (.int p2), .val (.int p3), .val (.int (p0 &&& (3 : Int32))), .val (.ref a_INTERLEAVE), .val (.int q), .val (.int r), .val (.int (1 : Int32))] [(.ref a_INTERLEAVE)])) (fun t_ k_ => XS.aload X19.here hx rfl (hb hby at_127) rfl rfl k_) ?_
            refine own_go (T19.setTop (mkF m 131 #[.val (.int p0), .val (.int p1), .val (.int p2), .val (.int p3), .val (.int (p0 &&& (3 : Int32))), .val (.ref a_INTERLEAVE), .val (.int q), .val (.int r), .val (.int (1 : Int32))] [(.int r), (.ref a_INTERLEAVE)])) (fun t_ k_ => XS.iload X19.here hx rfl (hb hby at_129) rfl k_) ?_
            refine own_go (T19.setTop (mkF m 133 #[.val (.int p0), .val (.int p1), .val (.int p2), .val (.int p3), .val (.int (p0 &&& (3 : Int32))), .val (.ref a_INTERLEAVE), .val (.int q), .val (.int r), .val (.int (1 : Int32))] [(.int q), (.int r), (.ref a_INTERLEAVE)])) (fun t_ k_ => XS.iload X19.here hx rfl (hb hby at_131) rfl k_) ?_
            obtain ⟨cq21, kq21, q21a, q21b, q21c⟩ := isOf hZ e19 (X_INTERLEAVE.ext O)
            obtain ⟨_, _, ⟨T21, Lu21, ku21, nu21⟩, -, X21, ⟨Lc21, hQ21, lu21, yu21, zu21⟩, st21⟩ := X19.virtualBack hx (y := (⟨"com/example/pokfulam/pokfulam/plan/Strategy", "plansAlone", "(II)Z"⟩ : MethodName)) (z := (⟨"com/example/pokfulam/pokfulam/plan/Strategy", "plansAlone", "(II)Z"⟩ : MethodName)) hown (mvT hZ (hw _ (List.mem_of_getElem? (i := 4) rfl))) (mvT hZ (hw _ (List.mem_of_getElem? (i := 5) rfl))) (notFace_of_selects (args := #[]) (mvT hZ (hw _ (List.mem_of_getElem? (i := 21) rfl)))) (mvT hZ (hw _ (List.mem_of_getElem? (i := 21) rfl))) (mvT hZ (hw _ (List.mem_of_getElem? (i := 6) rfl))) (by decide) (backOf (W := 0) (rm_pl l Z a0 hw [] (a_INTERLEAVE) (r) (q) ((0 : Int32)) h0 O F_INTERLEAVE_firstAlone) hZ (hw _ (List.mem_of_getElem? (i := 8) rfl)) (hw _ (List.mem_of_getElem? (i := 1) rfl)) (by decide) (by decide)) q21a q21c (g := (mkF m 133 #[.val (.int p0), .val (.int p1), .val (.int p2), .val (.int p3), .val (.int (p0 &&& (3 : Int32))), .val (.ref a_INTERLEAVE), .val (.int q), .val (.int r), .val (.int (1 : Int32))] [(.int q), (.int r), (.ref a_INTERLEAVE)])) rfl (by rw [hml]; rfl) (Steps.refl _) (argsL := [(.int r), (.int q)]) (rest := []) (lenOf own_pd0 rfl) rfl (by show 2 * 0 + _ ≤ _; exact Nat.le_of_eq rfl) (hb hby at_133) (fun _ _ => ⟨rfl, e19, (by decide : 0 + 0 ≤ _), (by decide : 0 + 0 ≤ _)⟩)
            dsimp only [Pt.U, Pt.locs, Pt.cells, Pt.slots] at X21 lu21 yu21 zu21 st21 hQ21
            subst lu21 yu21 zu21
            obtain ⟨rfl, N21q, e21⟩ := hQ21
            have N21 := Fr.app N19 N21q
            refine own_go (T21.setTop (mkF m 136 #[.val (.int p0), .val (.int p1), .val (.int p2), .val (.int p3), .val (.int (p0 &&& (3 : Int32))), .val (.ref a_INTERLEAVE), .val (.int q), .val (.int r), .val (.int (1 : Int32))] [(.int (if q = 1 then 1 else if (0 : Int32) = 0 then 0 else if r = 0 then 1 else 0))])) (fun t_ k_ => st21.trans k_) ?_
            refine own_go (T21.setTop (mkF m 138 #[.val (.int p0), .val (.int p1), .val (.int p2), .val (.int p3), .val (.int (p0 &&& (3 : Int32))), .val (.ref a_INTERLEAVE), .val (.int q), .val (.int r), .val (.int (1 : Int32))] [(.int (1 : Int32)), (.int (if q = 1 then 1 else if (0 : Int32) = 0 then 0 else if r = 0 then 1 else 0))])) (fun t_ k_ => XS.iload X21.here hx rfl (hb hby at_136) rfl k_) ?_
            have hfin : (if q = 1 then 1 else if (0 : Int32) = 0 then 0 else if r = 0 then 1 else 0) = (1 : Int32) := by simp_all
            refine own_go (T21.setTop (mkF m 141 #[.val (.int p0), .val (.int p1), .val (.int p2), .val (.int p3), .val (.int (p0 &&& (3 : Int32))), .val (.ref a_INTERLEAVE), .val (.int q), .val (.int r), .val (.int (1 : Int32))] [])) (fun t_ k_ => XS.icmpNo X21.here hx rfl (hb hby at_138) rfl (teq hfin).2 k_) ?_
            refine own_go (T21.setTop (mkF m 142 #[.val (.int p0), .val (.int p1), .val (.int p2), .val (.int p3), .val (.int (p0 &&& (3 : Int32))), .val (.ref a_INTERLEAVE), .val (.int q), .val (.int r), .val (.int (1 : Int32))] [(.int (1 : Int32))])) (fun t_ k_ => XS.iconst X21.here hx rfl (hb hby at_141) k_) ?_
            refine own_go (T21.setTop (mkF m 146 #[.val (.int p0), .val (.int p1), .val (.int p2), .val (.int p3), .val (.int (p0 &&& (3 : Int32))), .val (.ref a_INTERLEAVE), .val (.int q), .val (.int r), .val (.int (1 : Int32))] [(.int (1 : Int32))])) (fun t_ k_ => XS.goto X21.here hx rfl (pc0 := 142) (pc' := 146) rfl (hb hby at_142) (by decide) (by decide) k_) ?_
            obtain ⟨fs, hr, hrun, hended, hW, hsame⟩ := X21.leave (v := some (.int (nar .boolean (1 : Int32)))) (fun h => by rw [Bd.returns] at h; cases h)
            refine ⟨_, _, retN X21 hx (t := .boolean) Bd.returns (by simp) (hb hby at_146) hr, hrun, hended, _, _, rfl, ?_, ⟨_, rfl⟩, hW, hsame.mono (by decide) (by decide)⟩
            show Q_law Z p0 p1 p2 p3 a_SEQUENTIAL a_GROUP a_INTERLEAVE a_GAP_SEARCH h0 _ T21.heap _
            exact ⟨rfl, N21, trivial⟩
          ·
            refine own_go (T19.setTop (mkF m 124 #[.val (.int p0), .val (.int p1), .val (.int p2), .val (.int p3), .val (.int (p0 &&& (3 : Int32))), .val (.ref a_INTERLEAVE), .val (.int q), .val (.int r), .unset] [])) (fun t_ k_ => XS.icmpYes X19.here hx rfl (pc0 := 117) (pc' := 124) rfl (hb hby at_117) rfl (feq hc117_20).2 (by decide) (by decide) k_) ?_
            refine own_go (T19.setTop (mkF m 125 #[.val (.int p0), .val (.int p1), .val (.int p2), .val (.int p3), .val (.int (p0 &&& (3 : Int32))), .val (.ref a_INTERLEAVE), .val (.int q), .val (.int r), .unset] [(.int (0 : Int32))])) (fun t_ k_ => XS.iconst X19.here hx rfl (hb hby at_124) k_) ?_
            refine own_go (T19.setTop (mkF m 127 #[.val (.int p0), .val (.int p1), .val (.int p2), .val (.int p3), .val (.int (p0 &&& (3 : Int32))), .val (.ref a_INTERLEAVE), .val (.int q), .val (.int r), .val (.int (0 : Int32))] [])) (fun t_ k_ => XS.istore X19.here hx rfl (hb hby at_125) rfl (l' := #[.val (.int p0), .val (.int p1), .val (.int p2), .val (.int p3), .val (.int (p0 &&& (3 : Int32))), .val (.ref a_INTERLEAVE), .val (.int q), .val (.int r), .val (.int (0 : Int32))]) rfl k_) ?_
            refine own_go (T19.setTop (mkF m 129 #[.val (.int p0), .val (.int p1), .val (.int p2), .val (.int p3), .val (.int (p0 &&& (3 : Int32))), .val (.ref a_INTERLEAVE), .val (.int q), .val (.int r), .val (.int (0 : Int32))] [(.ref a_INTERLEAVE)])) (fun t_ k_ => XS.aload X19.here hx rfl (hb hby at_127) rfl rfl k_) ?_
            refine own_go (T19.setTop (mkF m 131 #[.val (.int p0), .val (.int p1), .val (.int p2), .val (.int p3), .val (.int (p0 &&& (3 : Int32))), .val (.ref a_INTERLEAVE), .val (.int q), .val (.int r), .val (.int (0 : Int32))] [(.int r), (.ref a_INTERLEAVE)])) (fun t_ k_ => XS.iload X19.here hx rfl (hb hby at_129) rfl k_) ?_
            refine own_go (T19.setTop (mkF m 133 #[.val (.int p0), .val (.int p1), .val (.int p2), .val (.int p3), .val (.int (p0 &&& (3 : Int32))), .val (.ref a_INTERLEAVE), .val (.int q), .val (.int r), .val (.int (0 : Int32))] [(.int q), (.int r), (.ref a_INTERLEAVE)])) (fun t_ k_ => XS.iload X19.here hx rfl (hb hby at_131) rfl k_) ?_
            obtain ⟨cq22, kq22, q22a, q22b, q22c⟩ := isOf hZ e19 (X_INTERLEAVE.ext O)
            obtain ⟨_, _, ⟨T22, Lu22, ku22, nu22⟩, -, X22, ⟨Lc22, hQ22, lu22, yu22, zu22⟩, st22⟩ := X19.virtualBack hx (y := (⟨"com/example/pokfulam/pokfulam/plan/Strategy", "plansAlone", "(II)Z"⟩ : MethodName)) (z := (⟨"com/example/pokfulam/pokfulam/plan/Strategy", "plansAlone", "(II)Z"⟩ : MethodName)) hown (mvT hZ (hw _ (List.mem_of_getElem? (i := 4) rfl))) (mvT hZ (hw _ (List.mem_of_getElem? (i := 5) rfl))) (notFace_of_selects (args := #[]) (mvT hZ (hw _ (List.mem_of_getElem? (i := 21) rfl)))) (mvT hZ (hw _ (List.mem_of_getElem? (i := 21) rfl))) (mvT hZ (hw _ (List.mem_of_getElem? (i := 6) rfl))) (by decide) (backOf (W := 0) (rm_pl l Z a0 hw [] (a_INTERLEAVE) (r) (q) ((0 : Int32)) h0 O F_INTERLEAVE_firstAlone) hZ (hw _ (List.mem_of_getElem? (i := 8) rfl)) (hw _ (List.mem_of_getElem? (i := 1) rfl)) (by decide) (by decide)) q22a q22c (g := (mkF m 133 #[.val (.int p0), .val (.int p1), .val (.int p2), .val (.int p3), .val (.int (p0 &&& (3 : Int32))), .val (.ref a_INTERLEAVE), .val (.int q), .val (.int r), .val (.int (0 : Int32))] [(.int q), (.int r), (.ref a_INTERLEAVE)])) rfl (by rw [hml]; rfl) (Steps.refl _) (argsL := [(.int r), (.int q)]) (rest := []) (lenOf own_pd0 rfl) rfl (by show 2 * 0 + _ ≤ _; exact Nat.le_of_eq rfl) (hb hby at_133) (fun _ _ => ⟨rfl, e19, (by decide : 0 + 0 ≤ _), (by decide : 0 + 0 ≤ _)⟩)
            dsimp only [Pt.U, Pt.locs, Pt.cells, Pt.slots] at X22 lu22 yu22 zu22 st22 hQ22
            subst lu22 yu22 zu22
            obtain ⟨rfl, N22q, e22⟩ := hQ22
            have N22 := Fr.app N19 N22q
            refine own_go (T22.setTop (mkF m 136 #[.val (.int p0), .val (.int p1), .val (.int p2), .val (.int p3), .val (.int (p0 &&& (3 : Int32))), .val (.ref a_INTERLEAVE), .val (.int q), .val (.int r), .val (.int (0 : Int32))] [(.int (if q = 1 then 1 else if (0 : Int32) = 0 then 0 else if r = 0 then 1 else 0))])) (fun t_ k_ => st22.trans k_) ?_
            refine own_go (T22.setTop (mkF m 138 #[.val (.int p0), .val (.int p1), .val (.int p2), .val (.int p3), .val (.int (p0 &&& (3 : Int32))), .val (.ref a_INTERLEAVE), .val (.int q), .val (.int r), .val (.int (0 : Int32))] [(.int (0 : Int32)), (.int (if q = 1 then 1 else if (0 : Int32) = 0 then 0 else if r = 0 then 1 else 0))])) (fun t_ k_ => XS.iload X22.here hx rfl (hb hby at_136) rfl k_) ?_
            have hfin : (if q = 1 then 1 else if (0 : Int32) = 0 then 0 else if r = 0 then 1 else 0) = (0 : Int32) := by simp_all
            refine own_go (T22.setTop (mkF m 141 #[.val (.int p0), .val (.int p1), .val (.int p2), .val (.int p3), .val (.int (p0 &&& (3 : Int32))), .val (.ref a_INTERLEAVE), .val (.int q), .val (.int r), .val (.int (0 : Int32))] [])) (fun t_ k_ => XS.icmpNo X22.here hx rfl (hb hby at_138) rfl (teq hfin).2 k_) ?_
            refine own_go (T22.setTop (mkF m 142 #[.val (.int p0), .val (.int p1), .val (.int p2), .val (.int p3), .val (.int (p0 &&& (3 : Int32))), .val (.ref a_INTERLEAVE), .val (.int q), .val (.int r), .val (.int (0 : Int32))] [(.int (1 : Int32))])) (fun t_ k_ => XS.iconst X22.here hx rfl (hb hby at_141) k_) ?_
            refine own_go (T22.setTop (mkF m 146 #[.val (.int p0), .val (.int p1), .val (.int p2), .val (.int p3), .val (.int (p0 &&& (3 : Int32))), .val (.ref a_INTERLEAVE), .val (.int q), .val (.int r), .val (.int (0 : Int32))] [(.int (1 : Int32))])) (fun t_ k_ => XS.goto X22.here hx rfl (pc0 := 142) (pc' := 146) rfl (hb hby at_142) (by decide) (by decide) k_) ?_
            obtain ⟨fs, hr, hrun, hended, hW, hsame⟩ := X22.leave (v := some (.int (nar .boolean (1 : Int32)))) (fun h => by rw [Bd.returns] at h; cases h)
            refine ⟨_, _, retN X22 hx (t := .boolean) Bd.returns (by simp) (hb hby at_146) hr, hrun, hended, _, _, rfl, ?_, ⟨_, rfl⟩, hW, hsame.mono (by decide) (by decide)⟩
            show Q_law Z p0 p1 p2 p3 a_SEQUENTIAL a_GROUP a_INTERLEAVE a_GAP_SEARCH h0 _ T22.heap _
            exact ⟨rfl, N22, trivial⟩
        refine own_go (T17.setTop (mkF m 85 #[.val (.int p0), .val (.int p1), .val (.int p2), .val (.int p3), .val (.int (p0 &&& (3 : Int32))), .val (.ref a_INTERLEAVE), .val (.int q), .val (.int ((p2 &&& (2147483647 : Int32)) % q)), .unset] [(.int p3)])) (fun t_ k_ => XS.iloadN X17.here hx rfl (hb hby at_84) rfl k_) ?_
        refine own_go (T17.setTop (mkF m 86 #[.val (.int p0), .val (.int p1), .val (.int p2), .val (.int p3), .val (.int (p0 &&& (3 : Int32))), .val (.ref a_INTERLEAVE), .val (.int q), .val (.int ((p2 &&& (2147483647 : Int32)) % q)), .unset] [(.int (2 : Int32)), (.int p3)])) (fun t_ k_ => XS.iconst X17.here hx rfl (hb hby at_85) k_) ?_
        refine own_go (T17.setTop (mkF m 87 #[.val (.int p0), .val (.int p1), .val (.int p2), .val (.int p3), .val (.int (p0 &&& (3 : Int32))), .val (.ref a_INTERLEAVE), .val (.int q), .val (.int ((p2 &&& (2147483647 : Int32)) % q)), .unset] [(.int (p3 &&& (2 : Int32)))])) (fun t_ k_ => XS.iand X17.here hx rfl (hb hby at_86) rfl k_) ?_
        by_cases hc87_23 : (p3 &&& (2 : Int32)) = (0 : Int32)
        ·
          refine own_go (T17.setTop (mkF m 93 #[.val (.int p0), .val (.int p1), .val (.int p2), .val (.int p3), .val (.int (p0 &&& (3 : Int32))), .val (.ref a_INTERLEAVE), .val (.int q), .val (.int ((p2 &&& (2147483647 : Int32)) % q)), .unset] [])) (fun t_ k_ => XS.ifYes X17.here hx rfl (pc0 := 87) (pc' := 93) rfl (hb hby at_87) rfl ((if0 _ _).trans (teq hc87_23).1) (by decide) (by decide) k_) ?_
          exact J18 _ _ X17 N17 e17 (((p2 &&& (2147483647 : Int32)) % q)) (own_rem1 _ q)
        ·
          refine own_go (T17.setTop (mkF m 90 #[.val (.int p0), .val (.int p1), .val (.int p2), .val (.int p3), .val (.int (p0 &&& (3 : Int32))), .val (.ref a_INTERLEAVE), .val (.int q), .val (.int ((p2 &&& (2147483647 : Int32)) % q)), .unset] [])) (fun t_ k_ => XS.ifNo X17.here hx rfl (hb hby at_87) rfl ((if0 _ _).trans (feq hc87_23).1) k_) ?_
          refine own_go (T17.setTop (mkF m 91 #[.val (.int p0), .val (.int p1), .val (.int p2), .val (.int p3), .val (.int (p0 &&& (3 : Int32))), .val (.ref a_INTERLEAVE), .val (.int q), .val (.int ((p2 &&& (2147483647 : Int32)) % q)), .unset] [(.int (0 : Int32))])) (fun t_ k_ => XS.iconst X17.here hx rfl (hb hby at_90) k_) ?_
          refine own_go (T17.setTop (mkF m 93 #[.val (.int p0), .val (.int p1), .val (.int p2), .val (.int p3), .val (.int (p0 &&& (3 : Int32))), .val (.ref a_INTERLEAVE), .val (.int q), .val (.int (0 : Int32)), .unset] [])) (fun t_ k_ => XS.istore X17.here hx rfl (hb hby at_91) rfl (l' := #[.val (.int p0), .val (.int p1), .val (.int p2), .val (.int p3), .val (.int (p0 &&& (3 : Int32))), .val (.ref a_INTERLEAVE), .val (.int q), .val (.int (0 : Int32)), .unset]) rfl k_) ?_
          exact J18 _ _ X17 N17 e17 ((0 : Int32)) (fun _ => rfl)
      refine own_go (T15.setTop (mkF m 50 #[.val (.int p0), .val (.int p1), .val (.int p2), .val (.int p3), .val (.int (p0 &&& (3 : Int32))), .val (.ref a_INTERLEAVE), .unset, .unset, .unset] [(.int p3)])) (fun t_ k_ => XS.iloadN X15.here hx rfl (hb hby at_49) rfl k_) ?_
      refine own_go (T15.setTop (mkF m 51 #[.val (.int p0), .val (.int p1), .val (.int p2), .val (.int p3), .val (.int (p0 &&& (3 : Int32))), .val (.ref a_INTERLEAVE), .unset, .unset, .unset] [(.int (1 : Int32)), (.int p3)])) (fun t_ k_ => XS.iconst X15.here hx rfl (hb hby at_50) k_) ?_
      refine own_go (T15.setTop (mkF m 52 #[.val (.int p0), .val (.int p1), .val (.int p2), .val (.int p3), .val (.int (p0 &&& (3 : Int32))), .val (.ref a_INTERLEAVE), .unset, .unset, .unset] [(.int (p3 &&& (1 : Int32)))])) (fun t_ k_ => XS.iand X15.here hx rfl (hb hby at_51) rfl k_) ?_
      by_cases hc52_24 : (p3 &&& (1 : Int32)) = (0 : Int32)
      ·
        refine own_go (T15.setTop (mkF m 65 #[.val (.int p0), .val (.int p1), .val (.int p2), .val (.int p3), .val (.int (p0 &&& (3 : Int32))), .val (.ref a_INTERLEAVE), .unset, .unset, .unset] [])) (fun t_ k_ => XS.ifYes X15.here hx rfl (pc0 := 52) (pc' := 65) rfl (hb hby at_52) rfl ((if0 _ _).trans (teq hc52_24).1) (by decide) (by decide) k_) ?_
        refine own_go (T15.setTop (mkF m 66 #[.val (.int p0), .val (.int p1), .val (.int p2), .val (.int p3), .val (.int (p0 &&& (3 : Int32))), .val (.ref a_INTERLEAVE), .unset, .unset, .unset] [(.int (1 : Int32))])) (fun t_ k_ => XS.iconst X15.here hx rfl (hb hby at_65) k_) ?_
        refine own_go (T15.setTop (mkF m 67 #[.val (.int p0), .val (.int p1), .val (.int p2), .val (.int p3), .val (.int (p0 &&& (3 : Int32))), .val (.ref a_INTERLEAVE), .unset, .unset, .unset] [(.int p1), (.int (1 : Int32))])) (fun t_ k_ => XS.iloadN X15.here hx rfl (hb hby at_66) rfl k_) ?_
        refine own_go (T15.setTop (mkF m 69 #[.val (.int p0), .val (.int p1), .val (.int p2), .val (.int p3), .val (.int (p0 &&& (3 : Int32))), .val (.ref a_INTERLEAVE), .unset, .unset, .unset] [(.int (2147483647 : Int32)), (.int p1), (.int (1 : Int32))])) (fun t_ k_ => X15.ldcInt hx hown (mvT hZ (hw _ (List.mem_of_getElem? (i := 3) rfl))) (g := (mkF m 67 #[.val (.int p0), .val (.int p1), .val (.int p2), .val (.int p3), .val (.int (p0 &&& (3 : Int32))), .val (.ref a_INTERLEAVE), .unset, .unset, .unset] [(.int p1), (.int (1 : Int32))])) rfl (hb hby at_67) _ k_) ?_
        refine own_go (T15.setTop (mkF m 70 #[.val (.int p0), .val (.int p1), .val (.int p2), .val (.int p3), .val (.int (p0 &&& (3 : Int32))), .val (.ref a_INTERLEAVE), .unset, .unset, .unset] [(.int (p1 &&& (2147483647 : Int32))), (.int (1 : Int32))])) (fun t_ k_ => XS.iand X15.here hx rfl (hb hby at_69) rfl k_) ?_
        obtain ⟨_, _, ⟨T25, Lu25, ku25, nu25⟩, -, X25, ⟨Lc25, hQ25, lu25, yu25, zu25⟩, st25⟩ := Jvm.LawKit.callS X15 hx (y := (⟨"java/lang/Math", "max", "(II)I"⟩ : MethodName)) hown (mvT hZ (hw _ (List.mem_of_getElem? (i := 11) rfl))) (mvT hZ (hw _ (List.mem_of_getElem? (i := 12) rfl))) (mvT hZ (hw _ (List.mem_of_getElem? (i := 13) rfl))) (mvT hZ (hw _ (List.mem_of_getElem? (i := 14) rfl))) (by decide) (backOf (W := 0) (rm_mx l Z a0 hw [] ((1 : Int32)) ((p1 &&& (2147483647 : Int32))) h0 O ) hZ (hw _ (List.mem_of_getElem? (i := 14) rfl)) (hw _ (List.mem_of_getElem? (i := 13) rfl)) (by decide) (by decide)) (g := (mkF m 70 #[.val (.int p0), .val (.int p1), .val (.int p2), .val (.int p3), .val (.int (p0 &&& (3 : Int32))), .val (.ref a_INTERLEAVE), .unset, .unset, .unset] [(.int (p1 &&& (2147483647 : Int32))), (.int (1 : Int32))])) rfl (by rw [hml]; rfl) (argsL := [(.int (1 : Int32)), (.int (p1 &&& (2147483647 : Int32)))]) (rest := []) (lenOf own_pd1 rfl) rfl (by show 2 * 0 + _ ≤ _; exact Nat.le_of_eq rfl) (hb hby at_70) (fun _ _ => ⟨rfl, e15, (by decide : 0 + 0 ≤ _), (by decide : 0 + 0 ≤ _)⟩)
        dsimp only [Pt.U, Pt.locs, Pt.cells, Pt.slots] at X25 lu25 yu25 zu25 st25 hQ25
        subst lu25 yu25 zu25
        obtain ⟨rfl, N25q, e25⟩ := hQ25
        have N25 := Fr.app N0 N25q
        refine own_go (T25.setTop (mkF m 73 #[.val (.int p0), .val (.int p1), .val (.int p2), .val (.int p3), .val (.int (p0 &&& (3 : Int32))), .val (.ref a_INTERLEAVE), .unset, .unset, .unset] [(.int (own_max (1 : Int32) (p1 &&& (2147483647 : Int32))))])) (fun t_ k_ => st25 _ k_) ?_
        refine own_go (T25.setTop (mkF m 75 #[.val (.int p0), .val (.int p1), .val (.int p2), .val (.int p3), .val (.int (p0 &&& (3 : Int32))), .val (.ref a_INTERLEAVE), .val (.int (own_max (1 : Int32) (p1 &&& (2147483647 : Int32)))), .unset, .unset] [])) (fun t_ k_ => XS.istore X25.here hx rfl (hb hby at_73) rfl (l' := #[.val (.int p0), .val (.int p1), .val (.int p2), .val (.int p3), .val (.int (p0 &&& (3 : Int32))), .val (.ref a_INTERLEAVE), .val (.int (own_max (1 : Int32) (p1 &&& (2147483647 : Int32)))), .unset, .unset]) rfl k_) ?_
        exact J16 _ _ X25 N25 e25 ((own_max (1 : Int32) (p1 &&& (2147483647 : Int32)))) (own_q2 p1)
      ·
        refine own_go (T15.setTop (mkF m 55 #[.val (.int p0), .val (.int p1), .val (.int p2), .val (.int p3), .val (.int (p0 &&& (3 : Int32))), .val (.ref a_INTERLEAVE), .unset, .unset, .unset] [])) (fun t_ k_ => XS.ifNo X15.here hx rfl (hb hby at_52) rfl ((if0 _ _).trans (feq hc52_24).1) k_) ?_
        refine own_go (T15.setTop (mkF m 56 #[.val (.int p0), .val (.int p1), .val (.int p2), .val (.int p3), .val (.int (p0 &&& (3 : Int32))), .val (.ref a_INTERLEAVE), .unset, .unset, .unset] [(.int (1 : Int32))])) (fun t_ k_ => XS.iconst X15.here hx rfl (hb hby at_55) k_) ?_
        refine own_go (T15.setTop (mkF m 57 #[.val (.int p0), .val (.int p1), .val (.int p2), .val (.int p3), .val (.int (p0 &&& (3 : Int32))), .val (.ref a_INTERLEAVE), .unset, .unset, .unset] [(.int p1), (.int (1 : Int32))])) (fun t_ k_ => XS.iloadN X15.here hx rfl (hb hby at_56) rfl k_) ?_
        refine own_go (T15.setTop (mkF m 58 #[.val (.int p0), .val (.int p1), .val (.int p2), .val (.int p3), .val (.int (p0 &&& (3 : Int32))), .val (.ref a_INTERLEAVE), .unset, .unset, .unset] [(.int (3 : Int32)), (.int p1), (.int (1 : Int32))])) (fun t_ k_ => XS.iconst X15.here hx rfl (hb hby at_57) k_) ?_
        refine own_go (T15.setTop (mkF m 59 #[.val (.int p0), .val (.int p1), .val (.int p2), .val (.int p3), .val (.int (p0 &&& (3 : Int32))), .val (.ref a_INTERLEAVE), .unset, .unset, .unset] [(.int (p1 &&& (3 : Int32))), (.int (1 : Int32))])) (fun t_ k_ => XS.iand X15.here hx rfl (hb hby at_58) rfl k_) ?_
        refine own_go (T15.setTop (mkF m 60 #[.val (.int p0), .val (.int p1), .val (.int p2), .val (.int p3), .val (.int (p0 &&& (3 : Int32))), .val (.ref a_INTERLEAVE), .unset, .unset, .unset] [(.int ((1 : Int32) + (p1 &&& (3 : Int32))))])) (fun t_ k_ => XS.iadd X15.here hx rfl (hb hby at_59) rfl k_) ?_
        refine own_go (T15.setTop (mkF m 62 #[.val (.int p0), .val (.int p1), .val (.int p2), .val (.int p3), .val (.int (p0 &&& (3 : Int32))), .val (.ref a_INTERLEAVE), .val (.int ((1 : Int32) + (p1 &&& (3 : Int32)))), .unset, .unset] [])) (fun t_ k_ => XS.istore X15.here hx rfl (hb hby at_60) rfl (l' := #[.val (.int p0), .val (.int p1), .val (.int p2), .val (.int p3), .val (.int (p0 &&& (3 : Int32))), .val (.ref a_INTERLEAVE), .val (.int ((1 : Int32) + (p1 &&& (3 : Int32)))), .unset, .unset]) rfl k_) ?_
        refine own_go (T15.setTop (mkF m 75 #[.val (.int p0), .val (.int p1), .val (.int p2), .val (.int p3), .val (.int (p0 &&& (3 : Int32))), .val (.ref a_INTERLEAVE), .val (.int ((1 : Int32) + (p1 &&& (3 : Int32)))), .unset, .unset] [])) (fun t_ k_ => XS.goto X15.here hx rfl (pc0 := 62) (pc' := 75) rfl (hb hby at_62) (by decide) (by decide) k_) ?_
        exact J16 _ _ X15 N0 e15 (((1 : Int32) + (p1 &&& (3 : Int32)))) (own_q1 p1)
    ·
      refine own_go (T1.setTop (mkF m 38 #[.val (.int p0), .val (.int p1), .val (.int p2), .val (.int p3), .val (.int (p0 &&& (3 : Int32))), .val (.ref a_SEQUENTIAL), .unset, .unset, .unset] [])) (fun t_ k_ => XS.icmpYes X1.here hx rfl (pc0 := 27) (pc' := 38) rfl (hb hby at_27) rfl (feq hc27_14).2 (by decide) (by decide) k_) ?_
      refine own_go (T1.setTop (mkF m 40 #[.val (.int p0), .val (.int p1), .val (.int p2), .val (.int p3), .val (.int (p0 &&& (3 : Int32))), .val (.ref a_SEQUENTIAL), .unset, .unset, .unset] [(.int (p0 &&& (3 : Int32)))])) (fun t_ k_ => XS.iload X1.here hx rfl (hb hby at_38) rfl k_) ?_
      refine own_go (T1.setTop (mkF m 41 #[.val (.int p0), .val (.int p1), .val (.int p2), .val (.int p3), .val (.int (p0 &&& (3 : Int32))), .val (.ref a_SEQUENTIAL), .unset, .unset, .unset] [(.int (3 : Int32)), (.int (p0 &&& (3 : Int32)))])) (fun t_ k_ => XS.iconst X1.here hx rfl (hb hby at_40) k_) ?_
      by_cases hc41_26 : (p0 &&& (3 : Int32)) = (3 : Int32)
      ·
        refine own_go (T1.setTop (mkF m 44 #[.val (.int p0), .val (.int p1), .val (.int p2), .val (.int p3), .val (.int (p0 &&& (3 : Int32))), .val (.ref a_SEQUENTIAL), .unset, .unset, .unset] [])) (fun t_ k_ => XS.icmpNo X1.here hx rfl (hb hby at_41) rfl (teq hc41_26).2 k_) ?_
        obtain ⟨T27, X27, e27, st27⟩ := getS2 X1 hx hZ hown (host := "") (Or.inl (hw _ (List.mem_of_getElem? (i := 15) rfl))) Via.refl e1 (S_GROUP.ext O) (g := (mkF m 44 #[.val (.int p0), .val (.int p1), .val (.int p2), .val (.int p3), .val (.int (p0 &&& (3 : Int32))), .val (.ref a_SEQUENTIAL), .unset, .unset, .unset] [])) rfl (hb hby at_44)
        refine own_go (T27.setTop (mkF m 47 #[.val (.int p0), .val (.int p1), .val (.int p2), .val (.int p3), .val (.int (p0 &&& (3 : Int32))), .val (.ref a_SEQUENTIAL), .unset, .unset, .unset] [(.ref a_GROUP)])) (fun t_ k_ => st27 _ k_) ?_
        refine own_go (T27.setTop (mkF m 49 #[.val (.int p0), .val (.int p1), .val (.int p2), .val (.int p3), .val (.int (p0 &&& (3 : Int32))), .val (.ref a_GROUP), .unset, .unset, .unset] [])) (fun t_ k_ => XS.astore X27.here hx rfl (hb hby at_47) rfl rfl (l' := #[.val (.int p0), .val (.int p1), .val (.int p2), .val (.int p3), .val (.int (p0 &&& (3 : Int32))), .val (.ref a_GROUP), .unset, .unset, .unset]) rfl k_) ?_
        have J28 : ∀ (T29 : State) (l29 : List Loc) (X29 : Stand p l e room_1 s m #[(.int p0), (.int p1), (.int p2), (.int p3)] below meth c T29 l29 0 0) (N29 : Fr Z.heap.size l29) (e29 : T29.heap = h0) (q : Int32) (hq : ¬ q = 0), own_G p e below (fun o_ s₂ => ∃ v_ L_, o_ = .returned v_ ∧ Q_law Z p0 p1 p2 p3 a_SEQUENTIAL a_GROUP a_INTERLEAVE a_GAP_SEARCH h0 v_ s₂.heap L_ ∧ FrameEnd s o_ s₂ L_ room_1.cells room_1.slots) (T29.setTop (mkF m 75 #[.val (.int p0), .val (.int p1), .val (.int p2), .val (.int p3), .val (.int (p0 &&& (3 : Int32))), .val (.ref a_GROUP), .val (.int q), .unset, .unset] [])) := by
          intro T29 l29 X29 N29 e29 q hq
          refine own_go (T29.setTop (mkF m 76 #[.val (.int p0), .val (.int p1), .val (.int p2), .val (.int p3), .val (.int (p0 &&& (3 : Int32))), .val (.ref a_GROUP), .val (.int q), .unset, .unset] [(.int p2)])) (fun t_ k_ => XS.iloadN X29.here hx rfl (hb hby at_75) rfl k_) ?_
          refine own_go (T29.setTop (mkF m 78 #[.val (.int p0), .val (.int p1), .val (.int p2), .val (.int p3), .val (.int (p0 &&& (3 : Int32))), .val (.ref a_GROUP), .val (.int q), .unset, .unset] [(.int (2147483647 : Int32)), (.int p2)])) (fun t_ k_ => X29.ldcInt hx hown (mvT hZ (hw _ (List.mem_of_getElem? (i := 3) rfl))) (g := (mkF m 76 #[.val (.int p0), .val (.int p1), .val (.int p2), .val (.int p3), .val (.int (p0 &&& (3 : Int32))), .val (.ref a_GROUP), .val (.int q), .unset, .unset] [(.int p2)])) rfl (hb hby at_76) _ k_) ?_
          refine own_go (T29.setTop (mkF m 79 #[.val (.int p0), .val (.int p1), .val (.int p2), .val (.int p3), .val (.int (p0 &&& (3 : Int32))), .val (.ref a_GROUP), .val (.int q), .unset, .unset] [(.int (p2 &&& (2147483647 : Int32)))])) (fun t_ k_ => XS.iand X29.here hx rfl (hb hby at_78) rfl k_) ?_
          refine own_go (T29.setTop (mkF m 81 #[.val (.int p0), .val (.int p1), .val (.int p2), .val (.int p3), .val (.int (p0 &&& (3 : Int32))), .val (.ref a_GROUP), .val (.int q), .unset, .unset] [(.int q), (.int (p2 &&& (2147483647 : Int32)))])) (fun t_ k_ => XS.iload X29.here hx rfl (hb hby at_79) rfl k_) ?_
          refine own_go (T29.setTop (mkF m 82 #[.val (.int p0), .val (.int p1), .val (.int p2), .val (.int p3), .val (.int (p0 &&& (3 : Int32))), .val (.ref a_GROUP), .val (.int q), .unset, .unset] [(.int ((p2 &&& (2147483647 : Int32)) % q))])) (fun t_ k_ => Jvm.RoadKit.iremM X29 hx rfl (hb hby at_81) rfl hq k_) ?_
          refine own_go (T29.setTop (mkF m 84 #[.val (.int p0), .val (.int p1), .val (.int p2), .val (.int p3), .val (.int (p0 &&& (3 : Int32))), .val (.ref a_GROUP), .val (.int q), .val (.int ((p2 &&& (2147483647 : Int32)) % q)), .unset] [])) (fun t_ k_ => XS.istore X29.here hx rfl (hb hby at_82) rfl (l' := #[.val (.int p0), .val (.int p1), .val (.int p2), .val (.int p3), .val (.int (p0 &&& (3 : Int32))), .val (.ref a_GROUP), .val (.int q), .val (.int ((p2 &&& (2147483647 : Int32)) % q)), .unset]) rfl k_) ?_
          have J30 : ∀ (T31 : State) (l31 : List Loc) (X31 : Stand p l e room_1 s m #[(.int p0), (.int p1), (.int p2), (.int p3)] below meth c T31 l31 0 0) (N31 : Fr Z.heap.size l31) (e31 : T31.heap = h0) (r : Int32) (hr : q = 1 → r = 0), own_G p e below (fun o_ s₂ => ∃ v_ L_, o_ = .returned v_ ∧ Q_law Z p0 p1 p2 p3 a_SEQUENTIAL a_GROUP a_INTERLEAVE a_GAP_SEARCH h0 v_ s₂.heap L_ ∧ FrameEnd s o_ s₂ L_ room_1.cells room_1.slots) (T31.setTop (mkF m 93 #[.val (.int p0), .val (.int p1), .val (.int p2), .val (.int p3), .val (.int (p0 &&& (3 : Int32))), .val (.ref a_GROUP), .val (.int q), .val (.int r), .unset] [])) := by
            intro T31 l31 X31 N31 e31 r hr
            refine own_go (T31.setTop (mkF m 95 #[.val (.int p0), .val (.int p1), .val (.int p2), .val (.int p3), .val (.int (p0 &&& (3 : Int32))), .val (.ref a_GROUP), .val (.int q), .val (.int r), .unset] [(.int (p0 &&& (3 : Int32)))])) (fun t_ k_ => XS.iload X31.here hx rfl (hb hby at_93) rfl k_) ?_
            refine own_go (T31.setTop (mkF m 96 #[.val (.int p0), .val (.int p1), .val (.int p2), .val (.int p3), .val (.int (p0 &&& (3 : Int32))), .val (.ref a_GROUP), .val (.int q), .val (.int r), .unset] [(.int (2 : Int32)), (.int (p0 &&& (3 : Int32)))])) (fun t_ k_ => XS.iconst X31.here hx rfl (hb hby at_95) k_) ?_
            refine own_go (T31.setTop (mkF m 114 #[.val (.int p0), .val (.int p1), .val (.int p2), .val (.int p3), .val (.int (p0 &&& (3 : Int32))), .val (.ref a_GROUP), .val (.int q), .val (.int r), .unset] [])) (fun t_ k_ => XS.icmpYes X31.here hx rfl (pc0 := 96) (pc' := 114) rfl (hb hby at_96) rfl (flt (by rw [hc41_26]; decide : ¬ ((p0 &&& (3 : Int32)) < (2 : Int32)))).2.1 (by decide) (by decide) k_) ?_
            refine own_go (T31.setTop (mkF m 116 #[.val (.int p0), .val (.int p1), .val (.int p2), .val (.int p3), .val (.int (p0 &&& (3 : Int32))), .val (.ref a_GROUP), .val (.int q), .val (.int r), .unset] [(.int q)])) (fun t_ k_ => XS.iload X31.here hx rfl (hb hby at_114) rfl k_) ?_
            refine own_go (T31.setTop (mkF m 117 #[.val (.int p0), .val (.int p1), .val (.int p2), .val (.int p3), .val (.int (p0 &&& (3 : Int32))), .val (.ref a_GROUP), .val (.int q), .val (.int r), .unset] [(.int (1 : Int32)), (.int q)])) (fun t_ k_ => XS.iconst X31.here hx rfl (hb hby at_116) k_) ?_
            by_cases hc117_32 : q = (1 : Int32)
            ·
              refine own_go (T31.setTop (mkF m 120 #[.val (.int p0), .val (.int p1), .val (.int p2), .val (.int p3), .val (.int (p0 &&& (3 : Int32))), .val (.ref a_GROUP), .val (.int q), .val (.int r), .unset] [])) (fun t_ k_ => XS.icmpNo X31.here hx rfl (hb hby at_117) rfl (teq hc117_32).2 k_) ?_
              refine own_go (T31.setTop (mkF m 121 #[.val (.int p0), .val (.int p1), .val (.int p2), .val (.int p3), .val (.int (p0 &&& (3 : Int32))), .val (.ref a_GROUP), .val (.int q), .val (.int r), .unset] [(.int (1 : Int32))])) (fun t_ k_ => XS.iconst X31.here hx rfl (hb hby at_120) k_) ?_
              refine own_go (T31.setTop (mkF m 125 #[.val (.int p0), .val (.int p1), .val (.int p2), .val (.int p3), .val (.int (p0 &&& (3 : Int32))), .val (.ref a_GROUP), .val (.int q), .val (.int r), .unset] [(.int (1 : Int32))])) (fun t_ k_ => XS.goto X31.here hx rfl (pc0 := 121) (pc' := 125) rfl (hb hby at_121) (by decide) (by decide) k_) ?_
              refine own_go (T31.setTop (mkF m 127 #[.val (.int p0), .val (.int p1), .val (.int p2), .val (.int p3), .val (.int (p0 &&& (3 : Int32))), .val (.ref a_GROUP), .val (.int q), .val (.int r), .val (.int (1 : Int32))] [])) (fun t_ k_ => XS.istore X31.here hx rfl (hb hby at_125) rfl (l' := #[.val (.int p0), .val (.int p1), .val (.int p2), .val (.int p3), .val (.int (p0 &&& (3 : Int32))), .val (.ref a_GROUP), .val (.int q), .val (.int r), .val (.int (1 : Int32))]) rfl k_) ?_
              refine own_go (T31.setTop (mkF m 129 #[.val (.int p0), .val (.int p1), .val (.int p2), .val (.int p3), .val (.int (p0 &&& (3 : Int32))), .val (.ref a_GROUP), .val (.int q), .val (.int r), .val (.int (1 : Int32))] [(.ref a_GROUP)])) (fun t_ k_ => XS.aload X31.here hx rfl (hb hby at_127) rfl rfl k_) ?_
              refine own_go (T31.setTop (mkF m 131 #[.val (.int p0), .val (.int p1), .val (.int p2), .val (.int p3), .val (.int (p0 &&& (3 : Int32))), .val (.ref a_GROUP), .val (.int q), .val (.int r), .val (.int (1 : Int32))] [(.int r), (.ref a_GROUP)])) (fun t_ k_ => XS.iload X31.here hx rfl (hb hby at_129) rfl k_) ?_
              refine own_go (T31.setTop (mkF m 133 #[.val (.int p0), .val (.int p1), .val (.int p2), .val (.int p3), .val (.int (p0 &&& (3 : Int32))), .val (.ref a_GROUP), .val (.int q), .val (.int r), .val (.int (1 : Int32))] [(.int q), (.int r), (.ref a_GROUP)])) (fun t_ k_ => XS.iload X31.here hx rfl (hb hby at_131) rfl k_) ?_
              obtain ⟨cq33, kq33, q33a, q33b, q33c⟩ := isOf hZ e31 (X_GROUP.ext O)
              obtain ⟨_, _, ⟨T33, Lu33, ku33, nu33⟩, -, X33, ⟨Lc33, hQ33, lu33, yu33, zu33⟩, st33⟩ := X31.virtualBack hx (y := (⟨"com/example/pokfulam/pokfulam/plan/Strategy", "plansAlone", "(II)Z"⟩ : MethodName)) (z := (⟨"com/example/pokfulam/pokfulam/plan/Strategy", "plansAlone", "(II)Z"⟩ : MethodName)) hown (mvT hZ (hw _ (List.mem_of_getElem? (i := 4) rfl))) (mvT hZ (hw _ (List.mem_of_getElem? (i := 5) rfl))) (notFace_of_selects (args := #[]) (mvT hZ (hw _ (List.mem_of_getElem? (i := 17) rfl)))) (mvT hZ (hw _ (List.mem_of_getElem? (i := 17) rfl))) (mvT hZ (hw _ (List.mem_of_getElem? (i := 6) rfl))) (by decide) (backOf (W := 0) (rm_pl l Z a0 hw [] (a_GROUP) (r) (q) ((0 : Int32)) h0 O F_GROUP_firstAlone) hZ (hw _ (List.mem_of_getElem? (i := 8) rfl)) (hw _ (List.mem_of_getElem? (i := 1) rfl)) (by decide) (by decide)) q33a q33c (g := (mkF m 133 #[.val (.int p0), .val (.int p1), .val (.int p2), .val (.int p3), .val (.int (p0 &&& (3 : Int32))), .val (.ref a_GROUP), .val (.int q), .val (.int r), .val (.int (1 : Int32))] [(.int q), (.int r), (.ref a_GROUP)])) rfl (by rw [hml]; rfl) (Steps.refl _) (argsL := [(.int r), (.int q)]) (rest := []) (lenOf own_pd0 rfl) rfl (by show 2 * 0 + _ ≤ _; exact Nat.le_of_eq rfl) (hb hby at_133) (fun _ _ => ⟨rfl, e31, (by decide : 0 + 0 ≤ _), (by decide : 0 + 0 ≤ _)⟩)
              dsimp only [Pt.U, Pt.locs, Pt.cells, Pt.slots] at X33 lu33 yu33 zu33 st33 hQ33
              subst lu33 yu33 zu33
              obtain ⟨rfl, N33q, e33⟩ := hQ33
              have N33 := Fr.app N31 N33q
              refine own_go (T33.setTop (mkF m 136 #[.val (.int p0), .val (.int p1), .val (.int p2), .val (.int p3), .val (.int (p0 &&& (3 : Int32))), .val (.ref a_GROUP), .val (.int q), .val (.int r), .val (.int (1 : Int32))] [(.int (if q = 1 then 1 else if (0 : Int32) = 0 then 0 else if r = 0 then 1 else 0))])) (fun t_ k_ => st33.trans k_) ?_
              refine own_go (T33.setTop (mkF m 138 #[.val (.int p0), .val (.int p1), .val (.int p2), .val (.int p3), .val (.int (p0 &&& (3 : Int32))), .val (.ref a_GROUP), .val (.int q), .val (.int r), .val (.int (1 : Int32))] [(.int (1 : Int32)), (.int (if q = 1 then 1 else if (0 : Int32) = 0 then 0 else if r = 0 then 1 else 0))])) (fun t_ k_ => XS.iload X33.here hx rfl (hb hby at_136) rfl k_) ?_
              have hfin : (if q = 1 then 1 else if (0 : Int32) = 0 then 0 else if r = 0 then 1 else 0) = (1 : Int32) := by simp_all
              refine own_go (T33.setTop (mkF m 141 #[.val (.int p0), .val (.int p1), .val (.int p2), .val (.int p3), .val (.int (p0 &&& (3 : Int32))), .val (.ref a_GROUP), .val (.int q), .val (.int r), .val (.int (1 : Int32))] [])) (fun t_ k_ => XS.icmpNo X33.here hx rfl (hb hby at_138) rfl (teq hfin).2 k_) ?_
              refine own_go (T33.setTop (mkF m 142 #[.val (.int p0), .val (.int p1), .val (.int p2), .val (.int p3), .val (.int (p0 &&& (3 : Int32))), .val (.ref a_GROUP), .val (.int q), .val (.int r), .val (.int (1 : Int32))] [(.int (1 : Int32))])) (fun t_ k_ => XS.iconst X33.here hx rfl (hb hby at_141) k_) ?_
              refine own_go (T33.setTop (mkF m 146 #[.val (.int p0), .val (.int p1), .val (.int p2), .val (.int p3), .val (.int (p0 &&& (3 : Int32))), .val (.ref a_GROUP), .val (.int q), .val (.int r), .val (.int (1 : Int32))] [(.int (1 : Int32))])) (fun t_ k_ => XS.goto X33.here hx rfl (pc0 := 142) (pc' := 146) rfl (hb hby at_142) (by decide) (by decide) k_) ?_
              obtain ⟨fs, hr, hrun, hended, hW, hsame⟩ := X33.leave (v := some (.int (nar .boolean (1 : Int32)))) (fun h => by rw [Bd.returns] at h; cases h)
              refine ⟨_, _, retN X33 hx (t := .boolean) Bd.returns (by simp) (hb hby at_146) hr, hrun, hended, _, _, rfl, ?_, ⟨_, rfl⟩, hW, hsame.mono (by decide) (by decide)⟩
              show Q_law Z p0 p1 p2 p3 a_SEQUENTIAL a_GROUP a_INTERLEAVE a_GAP_SEARCH h0 _ T33.heap _
              exact ⟨rfl, N33, trivial⟩
            ·
              refine own_go (T31.setTop (mkF m 124 #[.val (.int p0), .val (.int p1), .val (.int p2), .val (.int p3), .val (.int (p0 &&& (3 : Int32))), .val (.ref a_GROUP), .val (.int q), .val (.int r), .unset] [])) (fun t_ k_ => XS.icmpYes X31.here hx rfl (pc0 := 117) (pc' := 124) rfl (hb hby at_117) rfl (feq hc117_32).2 (by decide) (by decide) k_) ?_
              refine own_go (T31.setTop (mkF m 125 #[.val (.int p0), .val (.int p1), .val (.int p2), .val (.int p3), .val (.int (p0 &&& (3 : Int32))), .val (.ref a_GROUP), .val (.int q), .val (.int r), .unset] [(.int (0 : Int32))])) (fun t_ k_ => XS.iconst X31.here hx rfl (hb hby at_124) k_) ?_
              refine own_go (T31.setTop (mkF m 127 #[.val (.int p0), .val (.int p1), .val (.int p2), .val (.int p3), .val (.int (p0 &&& (3 : Int32))), .val (.ref a_GROUP), .val (.int q), .val (.int r), .val (.int (0 : Int32))] [])) (fun t_ k_ => XS.istore X31.here hx rfl (hb hby at_125) rfl (l' := #[.val (.int p0), .val (.int p1), .val (.int p2), .val (.int p3), .val (.int (p0 &&& (3 : Int32))), .val (.ref a_GROUP), .val (.int q), .val (.int r), .val (.int (0 : Int32))]) rfl k_) ?_
              refine own_go (T31.setTop (mkF m 129 #[.val (.int p0), .val (.int p1), .val (.int p2), .val (.int p3), .val (.int (p0 &&& (3 : Int32))), .val (.ref a_GROUP), .val (.int q), .val (.int r), .val (.int (0 : Int32))] [(.ref a_GROUP)])) (fun t_ k_ => XS.aload X31.here hx rfl (hb hby at_127) rfl rfl k_) ?_
              refine own_go (T31.setTop (mkF m 131 #[.val (.int p0), .val (.int p1), .val (.int p2), .val (.int p3), .val (.int (p0 &&& (3 : Int32))), .val (.ref a_GROUP), .val (.int q), .val (.int r), .val (.int (0 : Int32))] [(.int r), (.ref a_GROUP)])) (fun t_ k_ => XS.iload X31.here hx rfl (hb hby at_129) rfl k_) ?_
              refine own_go (T31.setTop (mkF m 133 #[.val (.int p0), .val (.int p1), .val (.int p2), .val (.int p3), .val (.int (p0 &&& (3 : Int32))), .val (.ref a_GROUP), .val (.int q), .val (.int r), .val (.int (0 : Int32))] [(.int q), (.int r), (.ref a_GROUP)])) (fun t_ k_ => XS.iload X31.here hx rfl (hb hby at_131) rfl k_) ?_
              obtain ⟨cq34, kq34, q34a, q34b, q34c⟩ := isOf hZ e31 (X_GROUP.ext O)
              obtain ⟨_, _, ⟨T34, Lu34, ku34, nu34⟩, -, X34, ⟨Lc34, hQ34, lu34, yu34, zu34⟩, st34⟩ := X31.virtualBack hx (y := (⟨"com/example/pokfulam/pokfulam/plan/Strategy", "plansAlone", "(II)Z"⟩ : MethodName)) (z := (⟨"com/example/pokfulam/pokfulam/plan/Strategy", "plansAlone", "(II)Z"⟩ : MethodName)) hown (mvT hZ (hw _ (List.mem_of_getElem? (i := 4) rfl))) (mvT hZ (hw _ (List.mem_of_getElem? (i := 5) rfl))) (notFace_of_selects (args := #[]) (mvT hZ (hw _ (List.mem_of_getElem? (i := 17) rfl)))) (mvT hZ (hw _ (List.mem_of_getElem? (i := 17) rfl))) (mvT hZ (hw _ (List.mem_of_getElem? (i := 6) rfl))) (by decide) (backOf (W := 0) (rm_pl l Z a0 hw [] (a_GROUP) (r) (q) ((0 : Int32)) h0 O F_GROUP_firstAlone) hZ (hw _ (List.mem_of_getElem? (i := 8) rfl)) (hw _ (List.mem_of_getElem? (i := 1) rfl)) (by decide) (by decide)) q34a q34c (g := (mkF m 133 #[.val (.int p0), .val (.int p1), .val (.int p2), .val (.int p3), .val (.int (p0 &&& (3 : Int32))), .val (.ref a_GROUP), .val (.int q), .val (.int r), .val (.int (0 : Int32))] [(.int q), (.int r), (.ref a_GROUP)])) rfl (by rw [hml]; rfl) (Steps.refl _) (argsL := [(.int r), (.int q)]) (rest := []) (lenOf own_pd0 rfl) rfl (by show 2 * 0 + _ ≤ _; exact Nat.le_of_eq rfl) (hb hby at_133) (fun _ _ => ⟨rfl, e31, (by decide : 0 + 0 ≤ _), (by decide : 0 + 0 ≤ _)⟩)
              dsimp only [Pt.U, Pt.locs, Pt.cells, Pt.slots] at X34 lu34 yu34 zu34 st34 hQ34
              subst lu34 yu34 zu34
              obtain ⟨rfl, N34q, e34⟩ := hQ34
              have N34 := Fr.app N31 N34q
              refine own_go (T34.setTop (mkF m 136 #[.val (.int p0), .val (.int p1), .val (.int p2), .val (.int p3), .val (.int (p0 &&& (3 : Int32))), .val (.ref a_GROUP), .val (.int q), .val (.int r), .val (.int (0 : Int32))] [(.int (if q = 1 then 1 else if (0 : Int32) = 0 then 0 else if r = 0 then 1 else 0))])) (fun t_ k_ => st34.trans k_) ?_
              refine own_go (T34.setTop (mkF m 138 #[.val (.int p0), .val (.int p1), .val (.int p2), .val (.int p3), .val (.int (p0 &&& (3 : Int32))), .val (.ref a_GROUP), .val (.int q), .val (.int r), .val (.int (0 : Int32))] [(.int (0 : Int32)), (.int (if q = 1 then 1 else if (0 : Int32) = 0 then 0 else if r = 0 then 1 else 0))])) (fun t_ k_ => XS.iload X34.here hx rfl (hb hby at_136) rfl k_) ?_
              have hfin : (if q = 1 then 1 else if (0 : Int32) = 0 then 0 else if r = 0 then 1 else 0) = (0 : Int32) := by simp_all
              refine own_go (T34.setTop (mkF m 141 #[.val (.int p0), .val (.int p1), .val (.int p2), .val (.int p3), .val (.int (p0 &&& (3 : Int32))), .val (.ref a_GROUP), .val (.int q), .val (.int r), .val (.int (0 : Int32))] [])) (fun t_ k_ => XS.icmpNo X34.here hx rfl (hb hby at_138) rfl (teq hfin).2 k_) ?_
              refine own_go (T34.setTop (mkF m 142 #[.val (.int p0), .val (.int p1), .val (.int p2), .val (.int p3), .val (.int (p0 &&& (3 : Int32))), .val (.ref a_GROUP), .val (.int q), .val (.int r), .val (.int (0 : Int32))] [(.int (1 : Int32))])) (fun t_ k_ => XS.iconst X34.here hx rfl (hb hby at_141) k_) ?_
              refine own_go (T34.setTop (mkF m 146 #[.val (.int p0), .val (.int p1), .val (.int p2), .val (.int p3), .val (.int (p0 &&& (3 : Int32))), .val (.ref a_GROUP), .val (.int q), .val (.int r), .val (.int (0 : Int32))] [(.int (1 : Int32))])) (fun t_ k_ => XS.goto X34.here hx rfl (pc0 := 142) (pc' := 146) rfl (hb hby at_142) (by decide) (by decide) k_) ?_
              obtain ⟨fs, hr, hrun, hended, hW, hsame⟩ := X34.leave (v := some (.int (nar .boolean (1 : Int32)))) (fun h => by rw [Bd.returns] at h; cases h)
              refine ⟨_, _, retN X34 hx (t := .boolean) Bd.returns (by simp) (hb hby at_146) hr, hrun, hended, _, _, rfl, ?_, ⟨_, rfl⟩, hW, hsame.mono (by decide) (by decide)⟩
              show Q_law Z p0 p1 p2 p3 a_SEQUENTIAL a_GROUP a_INTERLEAVE a_GAP_SEARCH h0 _ T34.heap _
              exact ⟨rfl, N34, trivial⟩
          refine own_go (T29.setTop (mkF m 85 #[.val (.int p0), .val (.int p1), .val (.int p2), .val (.int p3), .val (.int (p0 &&& (3 : Int32))), .val (.ref a_GROUP), .val (.int q), .val (.int ((p2 &&& (2147483647 : Int32)) % q)), .unset] [(.int p3)])) (fun t_ k_ => XS.iloadN X29.here hx rfl (hb hby at_84) rfl k_) ?_
          refine own_go (T29.setTop (mkF m 86 #[.val (.int p0), .val (.int p1), .val (.int p2), .val (.int p3), .val (.int (p0 &&& (3 : Int32))), .val (.ref a_GROUP), .val (.int q), .val (.int ((p2 &&& (2147483647 : Int32)) % q)), .unset] [(.int (2 : Int32)), (.int p3)])) (fun t_ k_ => XS.iconst X29.here hx rfl (hb hby at_85) k_) ?_
          refine own_go (T29.setTop (mkF m 87 #[.val (.int p0), .val (.int p1), .val (.int p2), .val (.int p3), .val (.int (p0 &&& (3 : Int32))), .val (.ref a_GROUP), .val (.int q), .val (.int ((p2 &&& (2147483647 : Int32)) % q)), .unset] [(.int (p3 &&& (2 : Int32)))])) (fun t_ k_ => XS.iand X29.here hx rfl (hb hby at_86) rfl k_) ?_
          by_cases hc87_35 : (p3 &&& (2 : Int32)) = (0 : Int32)
          ·
            refine own_go (T29.setTop (mkF m 93 #[.val (.int p0), .val (.int p1), .val (.int p2), .val (.int p3), .val (.int (p0 &&& (3 : Int32))), .val (.ref a_GROUP), .val (.int q), .val (.int ((p2 &&& (2147483647 : Int32)) % q)), .unset] [])) (fun t_ k_ => XS.ifYes X29.here hx rfl (pc0 := 87) (pc' := 93) rfl (hb hby at_87) rfl ((if0 _ _).trans (teq hc87_35).1) (by decide) (by decide) k_) ?_
            exact J30 _ _ X29 N29 e29 (((p2 &&& (2147483647 : Int32)) % q)) (own_rem1 _ q)
          ·
            refine own_go (T29.setTop (mkF m 90 #[.val (.int p0), .val (.int p1), .val (.int p2), .val (.int p3), .val (.int (p0 &&& (3 : Int32))), .val (.ref a_GROUP), .val (.int q), .val (.int ((p2 &&& (2147483647 : Int32)) % q)), .unset] [])) (fun t_ k_ => XS.ifNo X29.here hx rfl (hb hby at_87) rfl ((if0 _ _).trans (feq hc87_35).1) k_) ?_
            refine own_go (T29.setTop (mkF m 91 #[.val (.int p0), .val (.int p1), .val (.int p2), .val (.int p3), .val (.int (p0 &&& (3 : Int32))), .val (.ref a_GROUP), .val (.int q), .val (.int ((p2 &&& (2147483647 : Int32)) % q)), .unset] [(.int (0 : Int32))])) (fun t_ k_ => XS.iconst X29.here hx rfl (hb hby at_90) k_) ?_
            refine own_go (T29.setTop (mkF m 93 #[.val (.int p0), .val (.int p1), .val (.int p2), .val (.int p3), .val (.int (p0 &&& (3 : Int32))), .val (.ref a_GROUP), .val (.int q), .val (.int (0 : Int32)), .unset] [])) (fun t_ k_ => XS.istore X29.here hx rfl (hb hby at_91) rfl (l' := #[.val (.int p0), .val (.int p1), .val (.int p2), .val (.int p3), .val (.int (p0 &&& (3 : Int32))), .val (.ref a_GROUP), .val (.int q), .val (.int (0 : Int32)), .unset]) rfl k_) ?_
            exact J30 _ _ X29 N29 e29 ((0 : Int32)) (fun _ => rfl)
        refine own_go (T27.setTop (mkF m 50 #[.val (.int p0), .val (.int p1), .val (.int p2), .val (.int p3), .val (.int (p0 &&& (3 : Int32))), .val (.ref a_GROUP), .unset, .unset, .unset] [(.int p3)])) (fun t_ k_ => XS.iloadN X27.here hx rfl (hb hby at_49) rfl k_) ?_
        refine own_go (T27.setTop (mkF m 51 #[.val (.int p0), .val (.int p1), .val (.int p2), .val (.int p3), .val (.int (p0 &&& (3 : Int32))), .val (.ref a_GROUP), .unset, .unset, .unset] [(.int (1 : Int32)), (.int p3)])) (fun t_ k_ => XS.iconst X27.here hx rfl (hb hby at_50) k_) ?_
        refine own_go (T27.setTop (mkF m 52 #[.val (.int p0), .val (.int p1), .val (.int p2), .val (.int p3), .val (.int (p0 &&& (3 : Int32))), .val (.ref a_GROUP), .unset, .unset, .unset] [(.int (p3 &&& (1 : Int32)))])) (fun t_ k_ => XS.iand X27.here hx rfl (hb hby at_51) rfl k_) ?_
        by_cases hc52_36 : (p3 &&& (1 : Int32)) = (0 : Int32)
        ·
          refine own_go (T27.setTop (mkF m 65 #[.val (.int p0), .val (.int p1), .val (.int p2), .val (.int p3), .val (.int (p0 &&& (3 : Int32))), .val (.ref a_GROUP), .unset, .unset, .unset] [])) (fun t_ k_ => XS.ifYes X27.here hx rfl (pc0 := 52) (pc' := 65) rfl (hb hby at_52) rfl ((if0 _ _).trans (teq hc52_36).1) (by decide) (by decide) k_) ?_
          refine own_go (T27.setTop (mkF m 66 #[.val (.int p0), .val (.int p1), .val (.int p2), .val (.int p3), .val (.int (p0 &&& (3 : Int32))), .val (.ref a_GROUP), .unset, .unset, .unset] [(.int (1 : Int32))])) (fun t_ k_ => XS.iconst X27.here hx rfl (hb hby at_65) k_) ?_
          refine own_go (T27.setTop (mkF m 67 #[.val (.int p0), .val (.int p1), .val (.int p2), .val (.int p3), .val (.int (p0 &&& (3 : Int32))), .val (.ref a_GROUP), .unset, .unset, .unset] [(.int p1), (.int (1 : Int32))])) (fun t_ k_ => XS.iloadN X27.here hx rfl (hb hby at_66) rfl k_) ?_
          refine own_go (T27.setTop (mkF m 69 #[.val (.int p0), .val (.int p1), .val (.int p2), .val (.int p3), .val (.int (p0 &&& (3 : Int32))), .val (.ref a_GROUP), .unset, .unset, .unset] [(.int (2147483647 : Int32)), (.int p1), (.int (1 : Int32))])) (fun t_ k_ => X27.ldcInt hx hown (mvT hZ (hw _ (List.mem_of_getElem? (i := 3) rfl))) (g := (mkF m 67 #[.val (.int p0), .val (.int p1), .val (.int p2), .val (.int p3), .val (.int (p0 &&& (3 : Int32))), .val (.ref a_GROUP), .unset, .unset, .unset] [(.int p1), (.int (1 : Int32))])) rfl (hb hby at_67) _ k_) ?_
          refine own_go (T27.setTop (mkF m 70 #[.val (.int p0), .val (.int p1), .val (.int p2), .val (.int p3), .val (.int (p0 &&& (3 : Int32))), .val (.ref a_GROUP), .unset, .unset, .unset] [(.int (p1 &&& (2147483647 : Int32))), (.int (1 : Int32))])) (fun t_ k_ => XS.iand X27.here hx rfl (hb hby at_69) rfl k_) ?_
          obtain ⟨_, _, ⟨T37, Lu37, ku37, nu37⟩, -, X37, ⟨Lc37, hQ37, lu37, yu37, zu37⟩, st37⟩ := Jvm.LawKit.callS X27 hx (y := (⟨"java/lang/Math", "max", "(II)I"⟩ : MethodName)) hown (mvT hZ (hw _ (List.mem_of_getElem? (i := 11) rfl))) (mvT hZ (hw _ (List.mem_of_getElem? (i := 12) rfl))) (mvT hZ (hw _ (List.mem_of_getElem? (i := 13) rfl))) (mvT hZ (hw _ (List.mem_of_getElem? (i := 14) rfl))) (by decide) (backOf (W := 0) (rm_mx l Z a0 hw [] ((1 : Int32)) ((p1 &&& (2147483647 : Int32))) h0 O ) hZ (hw _ (List.mem_of_getElem? (i := 14) rfl)) (hw _ (List.mem_of_getElem? (i := 13) rfl)) (by decide) (by decide)) (g := (mkF m 70 #[.val (.int p0), .val (.int p1), .val (.int p2), .val (.int p3), .val (.int (p0 &&& (3 : Int32))), .val (.ref a_GROUP), .unset, .unset, .unset] [(.int (p1 &&& (2147483647 : Int32))), (.int (1 : Int32))])) rfl (by rw [hml]; rfl) (argsL := [(.int (1 : Int32)), (.int (p1 &&& (2147483647 : Int32)))]) (rest := []) (lenOf own_pd1 rfl) rfl (by show 2 * 0 + _ ≤ _; exact Nat.le_of_eq rfl) (hb hby at_70) (fun _ _ => ⟨rfl, e27, (by decide : 0 + 0 ≤ _), (by decide : 0 + 0 ≤ _)⟩)
          dsimp only [Pt.U, Pt.locs, Pt.cells, Pt.slots] at X37 lu37 yu37 zu37 st37 hQ37
          subst lu37 yu37 zu37
          obtain ⟨rfl, N37q, e37⟩ := hQ37
          have N37 := Fr.app N0 N37q
          refine own_go (T37.setTop (mkF m 73 #[.val (.int p0), .val (.int p1), .val (.int p2), .val (.int p3), .val (.int (p0 &&& (3 : Int32))), .val (.ref a_GROUP), .unset, .unset, .unset] [(.int (own_max (1 : Int32) (p1 &&& (2147483647 : Int32))))])) (fun t_ k_ => st37 _ k_) ?_
          refine own_go (T37.setTop (mkF m 75 #[.val (.int p0), .val (.int p1), .val (.int p2), .val (.int p3), .val (.int (p0 &&& (3 : Int32))), .val (.ref a_GROUP), .val (.int (own_max (1 : Int32) (p1 &&& (2147483647 : Int32)))), .unset, .unset] [])) (fun t_ k_ => XS.istore X37.here hx rfl (hb hby at_73) rfl (l' := #[.val (.int p0), .val (.int p1), .val (.int p2), .val (.int p3), .val (.int (p0 &&& (3 : Int32))), .val (.ref a_GROUP), .val (.int (own_max (1 : Int32) (p1 &&& (2147483647 : Int32)))), .unset, .unset]) rfl k_) ?_
          exact J28 _ _ X37 N37 e37 ((own_max (1 : Int32) (p1 &&& (2147483647 : Int32)))) (own_q2 p1)
        ·
          refine own_go (T27.setTop (mkF m 55 #[.val (.int p0), .val (.int p1), .val (.int p2), .val (.int p3), .val (.int (p0 &&& (3 : Int32))), .val (.ref a_GROUP), .unset, .unset, .unset] [])) (fun t_ k_ => XS.ifNo X27.here hx rfl (hb hby at_52) rfl ((if0 _ _).trans (feq hc52_36).1) k_) ?_
          refine own_go (T27.setTop (mkF m 56 #[.val (.int p0), .val (.int p1), .val (.int p2), .val (.int p3), .val (.int (p0 &&& (3 : Int32))), .val (.ref a_GROUP), .unset, .unset, .unset] [(.int (1 : Int32))])) (fun t_ k_ => XS.iconst X27.here hx rfl (hb hby at_55) k_) ?_
          refine own_go (T27.setTop (mkF m 57 #[.val (.int p0), .val (.int p1), .val (.int p2), .val (.int p3), .val (.int (p0 &&& (3 : Int32))), .val (.ref a_GROUP), .unset, .unset, .unset] [(.int p1), (.int (1 : Int32))])) (fun t_ k_ => XS.iloadN X27.here hx rfl (hb hby at_56) rfl k_) ?_
          refine own_go (T27.setTop (mkF m 58 #[.val (.int p0), .val (.int p1), .val (.int p2), .val (.int p3), .val (.int (p0 &&& (3 : Int32))), .val (.ref a_GROUP), .unset, .unset, .unset] [(.int (3 : Int32)), (.int p1), (.int (1 : Int32))])) (fun t_ k_ => XS.iconst X27.here hx rfl (hb hby at_57) k_) ?_
          refine own_go (T27.setTop (mkF m 59 #[.val (.int p0), .val (.int p1), .val (.int p2), .val (.int p3), .val (.int (p0 &&& (3 : Int32))), .val (.ref a_GROUP), .unset, .unset, .unset] [(.int (p1 &&& (3 : Int32))), (.int (1 : Int32))])) (fun t_ k_ => XS.iand X27.here hx rfl (hb hby at_58) rfl k_) ?_
          refine own_go (T27.setTop (mkF m 60 #[.val (.int p0), .val (.int p1), .val (.int p2), .val (.int p3), .val (.int (p0 &&& (3 : Int32))), .val (.ref a_GROUP), .unset, .unset, .unset] [(.int ((1 : Int32) + (p1 &&& (3 : Int32))))])) (fun t_ k_ => XS.iadd X27.here hx rfl (hb hby at_59) rfl k_) ?_
          refine own_go (T27.setTop (mkF m 62 #[.val (.int p0), .val (.int p1), .val (.int p2), .val (.int p3), .val (.int (p0 &&& (3 : Int32))), .val (.ref a_GROUP), .val (.int ((1 : Int32) + (p1 &&& (3 : Int32)))), .unset, .unset] [])) (fun t_ k_ => XS.istore X27.here hx rfl (hb hby at_60) rfl (l' := #[.val (.int p0), .val (.int p1), .val (.int p2), .val (.int p3), .val (.int (p0 &&& (3 : Int32))), .val (.ref a_GROUP), .val (.int ((1 : Int32) + (p1 &&& (3 : Int32)))), .unset, .unset]) rfl k_) ?_
          refine own_go (T27.setTop (mkF m 75 #[.val (.int p0), .val (.int p1), .val (.int p2), .val (.int p3), .val (.int (p0 &&& (3 : Int32))), .val (.ref a_GROUP), .val (.int ((1 : Int32) + (p1 &&& (3 : Int32)))), .unset, .unset] [])) (fun t_ k_ => XS.goto X27.here hx rfl (pc0 := 62) (pc' := 75) rfl (hb hby at_62) (by decide) (by decide) k_) ?_
          exact J28 _ _ X27 N0 e27 (((1 : Int32) + (p1 &&& (3 : Int32)))) (own_q1 p1)
      ·
        refine own_go (T1.setTop (mkF m 49 #[.val (.int p0), .val (.int p1), .val (.int p2), .val (.int p3), .val (.int (p0 &&& (3 : Int32))), .val (.ref a_SEQUENTIAL), .unset, .unset, .unset] [])) (fun t_ k_ => XS.icmpYes X1.here hx rfl (pc0 := 41) (pc' := 49) rfl (hb hby at_41) rfl (feq hc41_26).2 (by decide) (by decide) k_) ?_
        have k0 : (p0 &&& (3 : Int32)) = (0 : Int32) := by rcases own_and3 p0 with q | q | q | q <;> first | exact q | (exfalso; simp_all)
        have J38 : ∀ (T39 : State) (l39 : List Loc) (X39 : Stand p l e room_1 s m #[(.int p0), (.int p1), (.int p2), (.int p3)] below meth c T39 l39 0 0) (N39 : Fr Z.heap.size l39) (e39 : T39.heap = h0) (q : Int32) (hq : ¬ q = 0), own_G p e below (fun o_ s₂ => ∃ v_ L_, o_ = .returned v_ ∧ Q_law Z p0 p1 p2 p3 a_SEQUENTIAL a_GROUP a_INTERLEAVE a_GAP_SEARCH h0 v_ s₂.heap L_ ∧ FrameEnd s o_ s₂ L_ room_1.cells room_1.slots) (T39.setTop (mkF m 75 #[.val (.int p0), .val (.int p1), .val (.int p2), .val (.int p3), .val (.int (p0 &&& (3 : Int32))), .val (.ref a_SEQUENTIAL), .val (.int q), .unset, .unset] [])) := by
          intro T39 l39 X39 N39 e39 q hq
          refine own_go (T39.setTop (mkF m 76 #[.val (.int p0), .val (.int p1), .val (.int p2), .val (.int p3), .val (.int (p0 &&& (3 : Int32))), .val (.ref a_SEQUENTIAL), .val (.int q), .unset, .unset] [(.int p2)])) (fun t_ k_ => XS.iloadN X39.here hx rfl (hb hby at_75) rfl k_) ?_
          refine own_go (T39.setTop (mkF m 78 #[.val (.int p0), .val (.int p1), .val (.int p2), .val (.int p3), .val (.int (p0 &&& (3 : Int32))), .val (.ref a_SEQUENTIAL), .val (.int q), .unset, .unset] [(.int (2147483647 : Int32)), (.int p2)])) (fun t_ k_ => X39.ldcInt hx hown (mvT hZ (hw _ (List.mem_of_getElem? (i := 3) rfl))) (g := (mkF m 76 #[.val (.int p0), .val (.int p1), .val (.int p2), .val (.int p3), .val (.int (p0 &&& (3 : Int32))), .val (.ref a_SEQUENTIAL), .val (.int q), .unset, .unset] [(.int p2)])) rfl (hb hby at_76) _ k_) ?_
          refine own_go (T39.setTop (mkF m 79 #[.val (.int p0), .val (.int p1), .val (.int p2), .val (.int p3), .val (.int (p0 &&& (3 : Int32))), .val (.ref a_SEQUENTIAL), .val (.int q), .unset, .unset] [(.int (p2 &&& (2147483647 : Int32)))])) (fun t_ k_ => XS.iand X39.here hx rfl (hb hby at_78) rfl k_) ?_
          refine own_go (T39.setTop (mkF m 81 #[.val (.int p0), .val (.int p1), .val (.int p2), .val (.int p3), .val (.int (p0 &&& (3 : Int32))), .val (.ref a_SEQUENTIAL), .val (.int q), .unset, .unset] [(.int q), (.int (p2 &&& (2147483647 : Int32)))])) (fun t_ k_ => XS.iload X39.here hx rfl (hb hby at_79) rfl k_) ?_
          refine own_go (T39.setTop (mkF m 82 #[.val (.int p0), .val (.int p1), .val (.int p2), .val (.int p3), .val (.int (p0 &&& (3 : Int32))), .val (.ref a_SEQUENTIAL), .val (.int q), .unset, .unset] [(.int ((p2 &&& (2147483647 : Int32)) % q))])) (fun t_ k_ => Jvm.RoadKit.iremM X39 hx rfl (hb hby at_81) rfl hq k_) ?_
          refine own_go (T39.setTop (mkF m 84 #[.val (.int p0), .val (.int p1), .val (.int p2), .val (.int p3), .val (.int (p0 &&& (3 : Int32))), .val (.ref a_SEQUENTIAL), .val (.int q), .val (.int ((p2 &&& (2147483647 : Int32)) % q)), .unset] [])) (fun t_ k_ => XS.istore X39.here hx rfl (hb hby at_82) rfl (l' := #[.val (.int p0), .val (.int p1), .val (.int p2), .val (.int p3), .val (.int (p0 &&& (3 : Int32))), .val (.ref a_SEQUENTIAL), .val (.int q), .val (.int ((p2 &&& (2147483647 : Int32)) % q)), .unset]) rfl k_) ?_
          have J40 : ∀ (T41 : State) (l41 : List Loc) (X41 : Stand p l e room_1 s m #[(.int p0), (.int p1), (.int p2), (.int p3)] below meth c T41 l41 0 0) (N41 : Fr Z.heap.size l41) (e41 : T41.heap = h0) (r : Int32) (hr : q = 1 → r = 0), own_G p e below (fun o_ s₂ => ∃ v_ L_, o_ = .returned v_ ∧ Q_law Z p0 p1 p2 p3 a_SEQUENTIAL a_GROUP a_INTERLEAVE a_GAP_SEARCH h0 v_ s₂.heap L_ ∧ FrameEnd s o_ s₂ L_ room_1.cells room_1.slots) (T41.setTop (mkF m 93 #[.val (.int p0), .val (.int p1), .val (.int p2), .val (.int p3), .val (.int (p0 &&& (3 : Int32))), .val (.ref a_SEQUENTIAL), .val (.int q), .val (.int r), .unset] [])) := by
            intro T41 l41 X41 N41 e41 r hr
            refine own_go (T41.setTop (mkF m 95 #[.val (.int p0), .val (.int p1), .val (.int p2), .val (.int p3), .val (.int (p0 &&& (3 : Int32))), .val (.ref a_SEQUENTIAL), .val (.int q), .val (.int r), .unset] [(.int (p0 &&& (3 : Int32)))])) (fun t_ k_ => XS.iload X41.here hx rfl (hb hby at_93) rfl k_) ?_
            refine own_go (T41.setTop (mkF m 96 #[.val (.int p0), .val (.int p1), .val (.int p2), .val (.int p3), .val (.int (p0 &&& (3 : Int32))), .val (.ref a_SEQUENTIAL), .val (.int q), .val (.int r), .unset] [(.int (2 : Int32)), (.int (p0 &&& (3 : Int32)))])) (fun t_ k_ => XS.iconst X41.here hx rfl (hb hby at_95) k_) ?_
            refine own_go (T41.setTop (mkF m 99 #[.val (.int p0), .val (.int p1), .val (.int p2), .val (.int p3), .val (.int (p0 &&& (3 : Int32))), .val (.ref a_SEQUENTIAL), .val (.int q), .val (.int r), .unset] [])) (fun t_ k_ => XS.icmpNo X41.here hx rfl (hb hby at_96) rfl (tlt (by rw [k0]; decide : (p0 &&& (3 : Int32)) < (2 : Int32))).2.1 k_) ?_
            refine own_go (T41.setTop (mkF m 101 #[.val (.int p0), .val (.int p1), .val (.int p2), .val (.int p3), .val (.int (p0 &&& (3 : Int32))), .val (.ref a_SEQUENTIAL), .val (.int q), .val (.int r), .unset] [(.int r)])) (fun t_ k_ => XS.iload X41.here hx rfl (hb hby at_99) rfl k_) ?_
            by_cases hc101_42 : r = (0 : Int32)
            ·
              refine own_go (T41.setTop (mkF m 104 #[.val (.int p0), .val (.int p1), .val (.int p2), .val (.int p3), .val (.int (p0 &&& (3 : Int32))), .val (.ref a_SEQUENTIAL), .val (.int q), .val (.int r), .unset] [])) (fun t_ k_ => XS.ifNo X41.here hx rfl (hb hby at_101) rfl ((if0 _ _).trans (teq hc101_42).2) k_) ?_
              refine own_go (T41.setTop (mkF m 105 #[.val (.int p0), .val (.int p1), .val (.int p2), .val (.int p3), .val (.int (p0 &&& (3 : Int32))), .val (.ref a_SEQUENTIAL), .val (.int q), .val (.int r), .unset] [(.int (1 : Int32))])) (fun t_ k_ => XS.iconst X41.here hx rfl (hb hby at_104) k_) ?_
              refine own_go (T41.setTop (mkF m 109 #[.val (.int p0), .val (.int p1), .val (.int p2), .val (.int p3), .val (.int (p0 &&& (3 : Int32))), .val (.ref a_SEQUENTIAL), .val (.int q), .val (.int r), .unset] [(.int (1 : Int32))])) (fun t_ k_ => XS.goto X41.here hx rfl (pc0 := 105) (pc' := 109) rfl (hb hby at_105) (by decide) (by decide) k_) ?_
              refine own_go (T41.setTop (mkF m 111 #[.val (.int p0), .val (.int p1), .val (.int p2), .val (.int p3), .val (.int (p0 &&& (3 : Int32))), .val (.ref a_SEQUENTIAL), .val (.int q), .val (.int r), .val (.int (1 : Int32))] [])) (fun t_ k_ => XS.istore X41.here hx rfl (hb hby at_109) rfl (l' := #[.val (.int p0), .val (.int p1), .val (.int p2), .val (.int p3), .val (.int (p0 &&& (3 : Int32))), .val (.ref a_SEQUENTIAL), .val (.int q), .val (.int r), .val (.int (1 : Int32))]) rfl k_) ?_
              refine own_go (T41.setTop (mkF m 127 #[.val (.int p0), .val (.int p1), .val (.int p2), .val (.int p3), .val (.int (p0 &&& (3 : Int32))), .val (.ref a_SEQUENTIAL), .val (.int q), .val (.int r), .val (.int (1 : Int32))] [])) (fun t_ k_ => XS.goto X41.here hx rfl (pc0 := 111) (pc' := 127) rfl (hb hby at_111) (by decide) (by decide) k_) ?_
              refine own_go (T41.setTop (mkF m 129 #[.val (.int p0), .val (.int p1), .val (.int p2), .val (.int p3), .val (.int (p0 &&& (3 : Int32))), .val (.ref a_SEQUENTIAL), .val (.int q), .val (.int r), .val (.int (1 : Int32))] [(.ref a_SEQUENTIAL)])) (fun t_ k_ => XS.aload X41.here hx rfl (hb hby at_127) rfl rfl k_) ?_
              refine own_go (T41.setTop (mkF m 131 #[.val (.int p0), .val (.int p1), .val (.int p2), .val (.int p3), .val (.int (p0 &&& (3 : Int32))), .val (.ref a_SEQUENTIAL), .val (.int q), .val (.int r), .val (.int (1 : Int32))] [(.int r), (.ref a_SEQUENTIAL)])) (fun t_ k_ => XS.iload X41.here hx rfl (hb hby at_129) rfl k_) ?_
              refine own_go (T41.setTop (mkF m 133 #[.val (.int p0), .val (.int p1), .val (.int p2), .val (.int p3), .val (.int (p0 &&& (3 : Int32))), .val (.ref a_SEQUENTIAL), .val (.int q), .val (.int r), .val (.int (1 : Int32))] [(.int q), (.int r), (.ref a_SEQUENTIAL)])) (fun t_ k_ => XS.iload X41.here hx rfl (hb hby at_131) rfl k_) ?_
              obtain ⟨cq43, kq43, q43a, q43b, q43c⟩ := isOf hZ e41 (X_SEQUENTIAL.ext O)
              obtain ⟨_, _, ⟨T43, Lu43, ku43, nu43⟩, -, X43, ⟨Lc43, hQ43, lu43, yu43, zu43⟩, st43⟩ := X41.virtualBack hx (y := (⟨"com/example/pokfulam/pokfulam/plan/Strategy", "plansAlone", "(II)Z"⟩ : MethodName)) (z := (⟨"com/example/pokfulam/pokfulam/plan/Strategy", "plansAlone", "(II)Z"⟩ : MethodName)) hown (mvT hZ (hw _ (List.mem_of_getElem? (i := 4) rfl))) (mvT hZ (hw _ (List.mem_of_getElem? (i := 5) rfl))) (notFace_of_selects (args := #[]) (mvT hZ (hw _ (List.mem_of_getElem? (i := 7) rfl)))) (mvT hZ (hw _ (List.mem_of_getElem? (i := 7) rfl))) (mvT hZ (hw _ (List.mem_of_getElem? (i := 6) rfl))) (by decide) (backOf (W := 0) (rm_pl l Z a0 hw [] (a_SEQUENTIAL) (r) (q) ((1 : Int32)) h0 O F_SEQUENTIAL_firstAlone) hZ (hw _ (List.mem_of_getElem? (i := 8) rfl)) (hw _ (List.mem_of_getElem? (i := 1) rfl)) (by decide) (by decide)) q43a q43c (g := (mkF m 133 #[.val (.int p0), .val (.int p1), .val (.int p2), .val (.int p3), .val (.int (p0 &&& (3 : Int32))), .val (.ref a_SEQUENTIAL), .val (.int q), .val (.int r), .val (.int (1 : Int32))] [(.int q), (.int r), (.ref a_SEQUENTIAL)])) rfl (by rw [hml]; rfl) (Steps.refl _) (argsL := [(.int r), (.int q)]) (rest := []) (lenOf own_pd0 rfl) rfl (by show 2 * 0 + _ ≤ _; exact Nat.le_of_eq rfl) (hb hby at_133) (fun _ _ => ⟨rfl, e41, (by decide : 0 + 0 ≤ _), (by decide : 0 + 0 ≤ _)⟩)
              dsimp only [Pt.U, Pt.locs, Pt.cells, Pt.slots] at X43 lu43 yu43 zu43 st43 hQ43
              subst lu43 yu43 zu43
              obtain ⟨rfl, N43q, e43⟩ := hQ43
              have N43 := Fr.app N41 N43q
              refine own_go (T43.setTop (mkF m 136 #[.val (.int p0), .val (.int p1), .val (.int p2), .val (.int p3), .val (.int (p0 &&& (3 : Int32))), .val (.ref a_SEQUENTIAL), .val (.int q), .val (.int r), .val (.int (1 : Int32))] [(.int (if q = 1 then 1 else if (1 : Int32) = 0 then 0 else if r = 0 then 1 else 0))])) (fun t_ k_ => st43.trans k_) ?_
              refine own_go (T43.setTop (mkF m 138 #[.val (.int p0), .val (.int p1), .val (.int p2), .val (.int p3), .val (.int (p0 &&& (3 : Int32))), .val (.ref a_SEQUENTIAL), .val (.int q), .val (.int r), .val (.int (1 : Int32))] [(.int (1 : Int32)), (.int (if q = 1 then 1 else if (1 : Int32) = 0 then 0 else if r = 0 then 1 else 0))])) (fun t_ k_ => XS.iload X43.here hx rfl (hb hby at_136) rfl k_) ?_
              have hfin : (if q = 1 then 1 else if (1 : Int32) = 0 then 0 else if r = 0 then 1 else 0) = (1 : Int32) := by simp_all
              refine own_go (T43.setTop (mkF m 141 #[.val (.int p0), .val (.int p1), .val (.int p2), .val (.int p3), .val (.int (p0 &&& (3 : Int32))), .val (.ref a_SEQUENTIAL), .val (.int q), .val (.int r), .val (.int (1 : Int32))] [])) (fun t_ k_ => XS.icmpNo X43.here hx rfl (hb hby at_138) rfl (teq hfin).2 k_) ?_
              refine own_go (T43.setTop (mkF m 142 #[.val (.int p0), .val (.int p1), .val (.int p2), .val (.int p3), .val (.int (p0 &&& (3 : Int32))), .val (.ref a_SEQUENTIAL), .val (.int q), .val (.int r), .val (.int (1 : Int32))] [(.int (1 : Int32))])) (fun t_ k_ => XS.iconst X43.here hx rfl (hb hby at_141) k_) ?_
              refine own_go (T43.setTop (mkF m 146 #[.val (.int p0), .val (.int p1), .val (.int p2), .val (.int p3), .val (.int (p0 &&& (3 : Int32))), .val (.ref a_SEQUENTIAL), .val (.int q), .val (.int r), .val (.int (1 : Int32))] [(.int (1 : Int32))])) (fun t_ k_ => XS.goto X43.here hx rfl (pc0 := 142) (pc' := 146) rfl (hb hby at_142) (by decide) (by decide) k_) ?_
              obtain ⟨fs, hr, hrun, hended, hW, hsame⟩ := X43.leave (v := some (.int (nar .boolean (1 : Int32)))) (fun h => by rw [Bd.returns] at h; cases h)
              refine ⟨_, _, retN X43 hx (t := .boolean) Bd.returns (by simp) (hb hby at_146) hr, hrun, hended, _, _, rfl, ?_, ⟨_, rfl⟩, hW, hsame.mono (by decide) (by decide)⟩
              show Q_law Z p0 p1 p2 p3 a_SEQUENTIAL a_GROUP a_INTERLEAVE a_GAP_SEARCH h0 _ T43.heap _
              exact ⟨rfl, N43, trivial⟩
            ·
              refine own_go (T41.setTop (mkF m 108 #[.val (.int p0), .val (.int p1), .val (.int p2), .val (.int p3), .val (.int (p0 &&& (3 : Int32))), .val (.ref a_SEQUENTIAL), .val (.int q), .val (.int r), .unset] [])) (fun t_ k_ => XS.ifYes X41.here hx rfl (pc0 := 101) (pc' := 108) rfl (hb hby at_101) rfl ((if0 _ _).trans (feq hc101_42).2) (by decide) (by decide) k_) ?_
              refine own_go (T41.setTop (mkF m 109 #[.val (.int p0), .val (.int p1), .val (.int p2), .val (.int p3), .val (.int (p0 &&& (3 : Int32))), .val (.ref a_SEQUENTIAL), .val (.int q), .val (.int r), .unset] [(.int (0 : Int32))])) (fun t_ k_ => XS.iconst X41.here hx rfl (hb hby at_108) k_) ?_
              refine own_go (T41.setTop (mkF m 111 #[.val (.int p0), .val (.int p1), .val (.int p2), .val (.int p3), .val (.int (p0 &&& (3 : Int32))), .val (.ref a_SEQUENTIAL), .val (.int q), .val (.int r), .val (.int (0 : Int32))] [])) (fun t_ k_ => XS.istore X41.here hx rfl (hb hby at_109) rfl (l' := #[.val (.int p0), .val (.int p1), .val (.int p2), .val (.int p3), .val (.int (p0 &&& (3 : Int32))), .val (.ref a_SEQUENTIAL), .val (.int q), .val (.int r), .val (.int (0 : Int32))]) rfl k_) ?_
              refine own_go (T41.setTop (mkF m 127 #[.val (.int p0), .val (.int p1), .val (.int p2), .val (.int p3), .val (.int (p0 &&& (3 : Int32))), .val (.ref a_SEQUENTIAL), .val (.int q), .val (.int r), .val (.int (0 : Int32))] [])) (fun t_ k_ => XS.goto X41.here hx rfl (pc0 := 111) (pc' := 127) rfl (hb hby at_111) (by decide) (by decide) k_) ?_
              refine own_go (T41.setTop (mkF m 129 #[.val (.int p0), .val (.int p1), .val (.int p2), .val (.int p3), .val (.int (p0 &&& (3 : Int32))), .val (.ref a_SEQUENTIAL), .val (.int q), .val (.int r), .val (.int (0 : Int32))] [(.ref a_SEQUENTIAL)])) (fun t_ k_ => XS.aload X41.here hx rfl (hb hby at_127) rfl rfl k_) ?_
              refine own_go (T41.setTop (mkF m 131 #[.val (.int p0), .val (.int p1), .val (.int p2), .val (.int p3), .val (.int (p0 &&& (3 : Int32))), .val (.ref a_SEQUENTIAL), .val (.int q), .val (.int r), .val (.int (0 : Int32))] [(.int r), (.ref a_SEQUENTIAL)])) (fun t_ k_ => XS.iload X41.here hx rfl (hb hby at_129) rfl k_) ?_
              refine own_go (T41.setTop (mkF m 133 #[.val (.int p0), .val (.int p1), .val (.int p2), .val (.int p3), .val (.int (p0 &&& (3 : Int32))), .val (.ref a_SEQUENTIAL), .val (.int q), .val (.int r), .val (.int (0 : Int32))] [(.int q), (.int r), (.ref a_SEQUENTIAL)])) (fun t_ k_ => XS.iload X41.here hx rfl (hb hby at_131) rfl k_) ?_
              obtain ⟨cq44, kq44, q44a, q44b, q44c⟩ := isOf hZ e41 (X_SEQUENTIAL.ext O)
              obtain ⟨_, _, ⟨T44, Lu44, ku44, nu44⟩, -, X44, ⟨Lc44, hQ44, lu44, yu44, zu44⟩, st44⟩ := X41.virtualBack hx (y := (⟨"com/example/pokfulam/pokfulam/plan/Strategy", "plansAlone", "(II)Z"⟩ : MethodName)) (z := (⟨"com/example/pokfulam/pokfulam/plan/Strategy", "plansAlone", "(II)Z"⟩ : MethodName)) hown (mvT hZ (hw _ (List.mem_of_getElem? (i := 4) rfl))) (mvT hZ (hw _ (List.mem_of_getElem? (i := 5) rfl))) (notFace_of_selects (args := #[]) (mvT hZ (hw _ (List.mem_of_getElem? (i := 7) rfl)))) (mvT hZ (hw _ (List.mem_of_getElem? (i := 7) rfl))) (mvT hZ (hw _ (List.mem_of_getElem? (i := 6) rfl))) (by decide) (backOf (W := 0) (rm_pl l Z a0 hw [] (a_SEQUENTIAL) (r) (q) ((1 : Int32)) h0 O F_SEQUENTIAL_firstAlone) hZ (hw _ (List.mem_of_getElem? (i := 8) rfl)) (hw _ (List.mem_of_getElem? (i := 1) rfl)) (by decide) (by decide)) q44a q44c (g := (mkF m 133 #[.val (.int p0), .val (.int p1), .val (.int p2), .val (.int p3), .val (.int (p0 &&& (3 : Int32))), .val (.ref a_SEQUENTIAL), .val (.int q), .val (.int r), .val (.int (0 : Int32))] [(.int q), (.int r), (.ref a_SEQUENTIAL)])) rfl (by rw [hml]; rfl) (Steps.refl _) (argsL := [(.int r), (.int q)]) (rest := []) (lenOf own_pd0 rfl) rfl (by show 2 * 0 + _ ≤ _; exact Nat.le_of_eq rfl) (hb hby at_133) (fun _ _ => ⟨rfl, e41, (by decide : 0 + 0 ≤ _), (by decide : 0 + 0 ≤ _)⟩)
              dsimp only [Pt.U, Pt.locs, Pt.cells, Pt.slots] at X44 lu44 yu44 zu44 st44 hQ44
              subst lu44 yu44 zu44
              obtain ⟨rfl, N44q, e44⟩ := hQ44
              have N44 := Fr.app N41 N44q
              refine own_go (T44.setTop (mkF m 136 #[.val (.int p0), .val (.int p1), .val (.int p2), .val (.int p3), .val (.int (p0 &&& (3 : Int32))), .val (.ref a_SEQUENTIAL), .val (.int q), .val (.int r), .val (.int (0 : Int32))] [(.int (if q = 1 then 1 else if (1 : Int32) = 0 then 0 else if r = 0 then 1 else 0))])) (fun t_ k_ => st44.trans k_) ?_
              refine own_go (T44.setTop (mkF m 138 #[.val (.int p0), .val (.int p1), .val (.int p2), .val (.int p3), .val (.int (p0 &&& (3 : Int32))), .val (.ref a_SEQUENTIAL), .val (.int q), .val (.int r), .val (.int (0 : Int32))] [(.int (0 : Int32)), (.int (if q = 1 then 1 else if (1 : Int32) = 0 then 0 else if r = 0 then 1 else 0))])) (fun t_ k_ => XS.iload X44.here hx rfl (hb hby at_136) rfl k_) ?_
              have hfin : (if q = 1 then 1 else if (1 : Int32) = 0 then 0 else if r = 0 then 1 else 0) = (0 : Int32) := by simp_all
              refine own_go (T44.setTop (mkF m 141 #[.val (.int p0), .val (.int p1), .val (.int p2), .val (.int p3), .val (.int (p0 &&& (3 : Int32))), .val (.ref a_SEQUENTIAL), .val (.int q), .val (.int r), .val (.int (0 : Int32))] [])) (fun t_ k_ => XS.icmpNo X44.here hx rfl (hb hby at_138) rfl (teq hfin).2 k_) ?_
              refine own_go (T44.setTop (mkF m 142 #[.val (.int p0), .val (.int p1), .val (.int p2), .val (.int p3), .val (.int (p0 &&& (3 : Int32))), .val (.ref a_SEQUENTIAL), .val (.int q), .val (.int r), .val (.int (0 : Int32))] [(.int (1 : Int32))])) (fun t_ k_ => XS.iconst X44.here hx rfl (hb hby at_141) k_) ?_
              refine own_go (T44.setTop (mkF m 146 #[.val (.int p0), .val (.int p1), .val (.int p2), .val (.int p3), .val (.int (p0 &&& (3 : Int32))), .val (.ref a_SEQUENTIAL), .val (.int q), .val (.int r), .val (.int (0 : Int32))] [(.int (1 : Int32))])) (fun t_ k_ => XS.goto X44.here hx rfl (pc0 := 142) (pc' := 146) rfl (hb hby at_142) (by decide) (by decide) k_) ?_
              obtain ⟨fs, hr, hrun, hended, hW, hsame⟩ := X44.leave (v := some (.int (nar .boolean (1 : Int32)))) (fun h => by rw [Bd.returns] at h; cases h)
              refine ⟨_, _, retN X44 hx (t := .boolean) Bd.returns (by simp) (hb hby at_146) hr, hrun, hended, _, _, rfl, ?_, ⟨_, rfl⟩, hW, hsame.mono (by decide) (by decide)⟩
              show Q_law Z p0 p1 p2 p3 a_SEQUENTIAL a_GROUP a_INTERLEAVE a_GAP_SEARCH h0 _ T44.heap _
              exact ⟨rfl, N44, trivial⟩
          refine own_go (T39.setTop (mkF m 85 #[.val (.int p0), .val (.int p1), .val (.int p2), .val (.int p3), .val (.int (p0 &&& (3 : Int32))), .val (.ref a_SEQUENTIAL), .val (.int q), .val (.int ((p2 &&& (2147483647 : Int32)) % q)), .unset] [(.int p3)])) (fun t_ k_ => XS.iloadN X39.here hx rfl (hb hby at_84) rfl k_) ?_
          refine own_go (T39.setTop (mkF m 86 #[.val (.int p0), .val (.int p1), .val (.int p2), .val (.int p3), .val (.int (p0 &&& (3 : Int32))), .val (.ref a_SEQUENTIAL), .val (.int q), .val (.int ((p2 &&& (2147483647 : Int32)) % q)), .unset] [(.int (2 : Int32)), (.int p3)])) (fun t_ k_ => XS.iconst X39.here hx rfl (hb hby at_85) k_) ?_
          refine own_go (T39.setTop (mkF m 87 #[.val (.int p0), .val (.int p1), .val (.int p2), .val (.int p3), .val (.int (p0 &&& (3 : Int32))), .val (.ref a_SEQUENTIAL), .val (.int q), .val (.int ((p2 &&& (2147483647 : Int32)) % q)), .unset] [(.int (p3 &&& (2 : Int32)))])) (fun t_ k_ => XS.iand X39.here hx rfl (hb hby at_86) rfl k_) ?_
          by_cases hc87_45 : (p3 &&& (2 : Int32)) = (0 : Int32)
          ·
            refine own_go (T39.setTop (mkF m 93 #[.val (.int p0), .val (.int p1), .val (.int p2), .val (.int p3), .val (.int (p0 &&& (3 : Int32))), .val (.ref a_SEQUENTIAL), .val (.int q), .val (.int ((p2 &&& (2147483647 : Int32)) % q)), .unset] [])) (fun t_ k_ => XS.ifYes X39.here hx rfl (pc0 := 87) (pc' := 93) rfl (hb hby at_87) rfl ((if0 _ _).trans (teq hc87_45).1) (by decide) (by decide) k_) ?_
            exact J40 _ _ X39 N39 e39 (((p2 &&& (2147483647 : Int32)) % q)) (own_rem1 _ q)
          ·
            refine own_go (T39.setTop (mkF m 90 #[.val (.int p0), .val (.int p1), .val (.int p2), .val (.int p3), .val (.int (p0 &&& (3 : Int32))), .val (.ref a_SEQUENTIAL), .val (.int q), .val (.int ((p2 &&& (2147483647 : Int32)) % q)), .unset] [])) (fun t_ k_ => XS.ifNo X39.here hx rfl (hb hby at_87) rfl ((if0 _ _).trans (feq hc87_45).1) k_) ?_
            refine own_go (T39.setTop (mkF m 91 #[.val (.int p0), .val (.int p1), .val (.int p2), .val (.int p3), .val (.int (p0 &&& (3 : Int32))), .val (.ref a_SEQUENTIAL), .val (.int q), .val (.int ((p2 &&& (2147483647 : Int32)) % q)), .unset] [(.int (0 : Int32))])) (fun t_ k_ => XS.iconst X39.here hx rfl (hb hby at_90) k_) ?_
            refine own_go (T39.setTop (mkF m 93 #[.val (.int p0), .val (.int p1), .val (.int p2), .val (.int p3), .val (.int (p0 &&& (3 : Int32))), .val (.ref a_SEQUENTIAL), .val (.int q), .val (.int (0 : Int32)), .unset] [])) (fun t_ k_ => XS.istore X39.here hx rfl (hb hby at_91) rfl (l' := #[.val (.int p0), .val (.int p1), .val (.int p2), .val (.int p3), .val (.int (p0 &&& (3 : Int32))), .val (.ref a_SEQUENTIAL), .val (.int q), .val (.int (0 : Int32)), .unset]) rfl k_) ?_
            exact J40 _ _ X39 N39 e39 ((0 : Int32)) (fun _ => rfl)
        refine own_go (T1.setTop (mkF m 50 #[.val (.int p0), .val (.int p1), .val (.int p2), .val (.int p3), .val (.int (p0 &&& (3 : Int32))), .val (.ref a_SEQUENTIAL), .unset, .unset, .unset] [(.int p3)])) (fun t_ k_ => XS.iloadN X1.here hx rfl (hb hby at_49) rfl k_) ?_
        refine own_go (T1.setTop (mkF m 51 #[.val (.int p0), .val (.int p1), .val (.int p2), .val (.int p3), .val (.int (p0 &&& (3 : Int32))), .val (.ref a_SEQUENTIAL), .unset, .unset, .unset] [(.int (1 : Int32)), (.int p3)])) (fun t_ k_ => XS.iconst X1.here hx rfl (hb hby at_50) k_) ?_
        refine own_go (T1.setTop (mkF m 52 #[.val (.int p0), .val (.int p1), .val (.int p2), .val (.int p3), .val (.int (p0 &&& (3 : Int32))), .val (.ref a_SEQUENTIAL), .unset, .unset, .unset] [(.int (p3 &&& (1 : Int32)))])) (fun t_ k_ => XS.iand X1.here hx rfl (hb hby at_51) rfl k_) ?_
        by_cases hc52_46 : (p3 &&& (1 : Int32)) = (0 : Int32)
        ·
          refine own_go (T1.setTop (mkF m 65 #[.val (.int p0), .val (.int p1), .val (.int p2), .val (.int p3), .val (.int (p0 &&& (3 : Int32))), .val (.ref a_SEQUENTIAL), .unset, .unset, .unset] [])) (fun t_ k_ => XS.ifYes X1.here hx rfl (pc0 := 52) (pc' := 65) rfl (hb hby at_52) rfl ((if0 _ _).trans (teq hc52_46).1) (by decide) (by decide) k_) ?_
          refine own_go (T1.setTop (mkF m 66 #[.val (.int p0), .val (.int p1), .val (.int p2), .val (.int p3), .val (.int (p0 &&& (3 : Int32))), .val (.ref a_SEQUENTIAL), .unset, .unset, .unset] [(.int (1 : Int32))])) (fun t_ k_ => XS.iconst X1.here hx rfl (hb hby at_65) k_) ?_
          refine own_go (T1.setTop (mkF m 67 #[.val (.int p0), .val (.int p1), .val (.int p2), .val (.int p3), .val (.int (p0 &&& (3 : Int32))), .val (.ref a_SEQUENTIAL), .unset, .unset, .unset] [(.int p1), (.int (1 : Int32))])) (fun t_ k_ => XS.iloadN X1.here hx rfl (hb hby at_66) rfl k_) ?_
          refine own_go (T1.setTop (mkF m 69 #[.val (.int p0), .val (.int p1), .val (.int p2), .val (.int p3), .val (.int (p0 &&& (3 : Int32))), .val (.ref a_SEQUENTIAL), .unset, .unset, .unset] [(.int (2147483647 : Int32)), (.int p1), (.int (1 : Int32))])) (fun t_ k_ => X1.ldcInt hx hown (mvT hZ (hw _ (List.mem_of_getElem? (i := 3) rfl))) (g := (mkF m 67 #[.val (.int p0), .val (.int p1), .val (.int p2), .val (.int p3), .val (.int (p0 &&& (3 : Int32))), .val (.ref a_SEQUENTIAL), .unset, .unset, .unset] [(.int p1), (.int (1 : Int32))])) rfl (hb hby at_67) _ k_) ?_
          refine own_go (T1.setTop (mkF m 70 #[.val (.int p0), .val (.int p1), .val (.int p2), .val (.int p3), .val (.int (p0 &&& (3 : Int32))), .val (.ref a_SEQUENTIAL), .unset, .unset, .unset] [(.int (p1 &&& (2147483647 : Int32))), (.int (1 : Int32))])) (fun t_ k_ => XS.iand X1.here hx rfl (hb hby at_69) rfl k_) ?_
          obtain ⟨_, _, ⟨T47, Lu47, ku47, nu47⟩, -, X47, ⟨Lc47, hQ47, lu47, yu47, zu47⟩, st47⟩ := Jvm.LawKit.callS X1 hx (y := (⟨"java/lang/Math", "max", "(II)I"⟩ : MethodName)) hown (mvT hZ (hw _ (List.mem_of_getElem? (i := 11) rfl))) (mvT hZ (hw _ (List.mem_of_getElem? (i := 12) rfl))) (mvT hZ (hw _ (List.mem_of_getElem? (i := 13) rfl))) (mvT hZ (hw _ (List.mem_of_getElem? (i := 14) rfl))) (by decide) (backOf (W := 0) (rm_mx l Z a0 hw [] ((1 : Int32)) ((p1 &&& (2147483647 : Int32))) h0 O ) hZ (hw _ (List.mem_of_getElem? (i := 14) rfl)) (hw _ (List.mem_of_getElem? (i := 13) rfl)) (by decide) (by decide)) (g := (mkF m 70 #[.val (.int p0), .val (.int p1), .val (.int p2), .val (.int p3), .val (.int (p0 &&& (3 : Int32))), .val (.ref a_SEQUENTIAL), .unset, .unset, .unset] [(.int (p1 &&& (2147483647 : Int32))), (.int (1 : Int32))])) rfl (by rw [hml]; rfl) (argsL := [(.int (1 : Int32)), (.int (p1 &&& (2147483647 : Int32)))]) (rest := []) (lenOf own_pd1 rfl) rfl (by show 2 * 0 + _ ≤ _; exact Nat.le_of_eq rfl) (hb hby at_70) (fun _ _ => ⟨rfl, e1, (by decide : 0 + 0 ≤ _), (by decide : 0 + 0 ≤ _)⟩)
          dsimp only [Pt.U, Pt.locs, Pt.cells, Pt.slots] at X47 lu47 yu47 zu47 st47 hQ47
          subst lu47 yu47 zu47
          obtain ⟨rfl, N47q, e47⟩ := hQ47
          have N47 := Fr.app N0 N47q
          refine own_go (T47.setTop (mkF m 73 #[.val (.int p0), .val (.int p1), .val (.int p2), .val (.int p3), .val (.int (p0 &&& (3 : Int32))), .val (.ref a_SEQUENTIAL), .unset, .unset, .unset] [(.int (own_max (1 : Int32) (p1 &&& (2147483647 : Int32))))])) (fun t_ k_ => st47 _ k_) ?_
          refine own_go (T47.setTop (mkF m 75 #[.val (.int p0), .val (.int p1), .val (.int p2), .val (.int p3), .val (.int (p0 &&& (3 : Int32))), .val (.ref a_SEQUENTIAL), .val (.int (own_max (1 : Int32) (p1 &&& (2147483647 : Int32)))), .unset, .unset] [])) (fun t_ k_ => XS.istore X47.here hx rfl (hb hby at_73) rfl (l' := #[.val (.int p0), .val (.int p1), .val (.int p2), .val (.int p3), .val (.int (p0 &&& (3 : Int32))), .val (.ref a_SEQUENTIAL), .val (.int (own_max (1 : Int32) (p1 &&& (2147483647 : Int32)))), .unset, .unset]) rfl k_) ?_
          exact J38 _ _ X47 N47 e47 ((own_max (1 : Int32) (p1 &&& (2147483647 : Int32)))) (own_q2 p1)
        ·
          refine own_go (T1.setTop (mkF m 55 #[.val (.int p0), .val (.int p1), .val (.int p2), .val (.int p3), .val (.int (p0 &&& (3 : Int32))), .val (.ref a_SEQUENTIAL), .unset, .unset, .unset] [])) (fun t_ k_ => XS.ifNo X1.here hx rfl (hb hby at_52) rfl ((if0 _ _).trans (feq hc52_46).1) k_) ?_
          refine own_go (T1.setTop (mkF m 56 #[.val (.int p0), .val (.int p1), .val (.int p2), .val (.int p3), .val (.int (p0 &&& (3 : Int32))), .val (.ref a_SEQUENTIAL), .unset, .unset, .unset] [(.int (1 : Int32))])) (fun t_ k_ => XS.iconst X1.here hx rfl (hb hby at_55) k_) ?_
          refine own_go (T1.setTop (mkF m 57 #[.val (.int p0), .val (.int p1), .val (.int p2), .val (.int p3), .val (.int (p0 &&& (3 : Int32))), .val (.ref a_SEQUENTIAL), .unset, .unset, .unset] [(.int p1), (.int (1 : Int32))])) (fun t_ k_ => XS.iloadN X1.here hx rfl (hb hby at_56) rfl k_) ?_
          refine own_go (T1.setTop (mkF m 58 #[.val (.int p0), .val (.int p1), .val (.int p2), .val (.int p3), .val (.int (p0 &&& (3 : Int32))), .val (.ref a_SEQUENTIAL), .unset, .unset, .unset] [(.int (3 : Int32)), (.int p1), (.int (1 : Int32))])) (fun t_ k_ => XS.iconst X1.here hx rfl (hb hby at_57) k_) ?_
          refine own_go (T1.setTop (mkF m 59 #[.val (.int p0), .val (.int p1), .val (.int p2), .val (.int p3), .val (.int (p0 &&& (3 : Int32))), .val (.ref a_SEQUENTIAL), .unset, .unset, .unset] [(.int (p1 &&& (3 : Int32))), (.int (1 : Int32))])) (fun t_ k_ => XS.iand X1.here hx rfl (hb hby at_58) rfl k_) ?_
          refine own_go (T1.setTop (mkF m 60 #[.val (.int p0), .val (.int p1), .val (.int p2), .val (.int p3), .val (.int (p0 &&& (3 : Int32))), .val (.ref a_SEQUENTIAL), .unset, .unset, .unset] [(.int ((1 : Int32) + (p1 &&& (3 : Int32))))])) (fun t_ k_ => XS.iadd X1.here hx rfl (hb hby at_59) rfl k_) ?_
          refine own_go (T1.setTop (mkF m 62 #[.val (.int p0), .val (.int p1), .val (.int p2), .val (.int p3), .val (.int (p0 &&& (3 : Int32))), .val (.ref a_SEQUENTIAL), .val (.int ((1 : Int32) + (p1 &&& (3 : Int32)))), .unset, .unset] [])) (fun t_ k_ => XS.istore X1.here hx rfl (hb hby at_60) rfl (l' := #[.val (.int p0), .val (.int p1), .val (.int p2), .val (.int p3), .val (.int (p0 &&& (3 : Int32))), .val (.ref a_SEQUENTIAL), .val (.int ((1 : Int32) + (p1 &&& (3 : Int32)))), .unset, .unset]) rfl k_) ?_
          refine own_go (T1.setTop (mkF m 75 #[.val (.int p0), .val (.int p1), .val (.int p2), .val (.int p3), .val (.int (p0 &&& (3 : Int32))), .val (.ref a_SEQUENTIAL), .val (.int ((1 : Int32) + (p1 &&& (3 : Int32)))), .unset, .unset] [])) (fun t_ k_ => XS.goto X1.here hx rfl (pc0 := 62) (pc' := 75) rfl (hb hby at_62) (by decide) (by decide) k_) ?_
          exact J38 _ _ X1 N0 e1 (((1 : Int32) + (p1 &&& (3 : Int32)))) (own_q1 p1)
set_option maxRecDepth 65536 in
set_option maxHeartbeats 40000000 in
theorem comes_1 {Post : Tables → Env → Array Value → State → Outcome → State → Prop} (hpost : ∀ tb e args s v u, (limb_1_1.after args s (.returned v) u = true ∧ limb_1_2.after args s (.returned v) u = true ∧ True) → FrameEnd s (.returned v) u (Jvm.fieldLocs frame_1_writes args s ++ Jvm.arrayLocs frame_1_arrays args s ++ Jvm.staticLocs frame_1_statics s) 0 0 → Post tb e args s (.returned v) u) :
    ArmFor flags0 classFile x code maxLocals ret World_1 tables_1 room_1 Calls_1 rest_1 Pre_1 Post := by
  intro l hfl _ _ p e ha hc hk s m args below hf hA hF happ hP
  obtain ⟨hcalls, hrest, hpre⟩ := hP
  obtain ⟨-, -, -, hnamed, -, -, -, hat⟩ := (Spec.applies_iff hf).mp happ
  obtain ⟨hg, hn⟩ := and_e (Cond.before_iff.mp (show (Jvm.Cond.and given_1 narrow_1).before args s = true from hpre))
  obtain ⟨g1, g2⟩ := and_e hg
  obtain ⟨g3, g4⟩ := and_e g2
  obtain ⟨g5, g6⟩ := and_e g4
  obtain ⟨g7, g8⟩ := and_e g6
  obtain ⟨w0, w1, w2, w3, rfl⟩ : ∃ w0 w1 w2 w3 : Value, args = #[w0, w1, w2, w3] := by
    have hs : args.size = 4 := by simpa [Cond.value, given_1] using g1
    obtain ⟨L⟩ := args
    match L, hs with
    | [w0, w1, w2, w3], _ => exact ⟨w0, w1, w2, w3, rfl⟩
  have hw := fun d (hd : d ∈ tables_1) => atoms_spec (ws := Jvm.Cond.code x code maxLocals ret :: tables_1) hat d (List.mem_cons_of_mem _ hd)
  have hfit : Fit s := fun {y c} hc i hi => by
    obtain ⟨ha, rfl⟩ := Array.getElem?_eq_some_iff.mp hc
    have q := List.all_eq_true.mp ((Array.all_eq_true_iff_forall_mem.mp hF) _ (Array.getElem_mem ha)) i (List.mem_range.mpr hi)
    simpa [Array.getElem?_eq_getElem hi] using q
  obtain ⟨i0, ei0⟩ := is_v g3
  obtain rfl : w0 = (.int i0) := Option.some.inj ei0
  obtain ⟨i1, ei1⟩ := is_v g5
  obtain rfl : w1 = (.int i1) := Option.some.inj ei1
  obtain ⟨i2, ei2⟩ := is_v g7
  obtain rfl : w2 = (.int i2) := Option.some.inj ei2
  obtain ⟨i3, ei3⟩ := is_v g8
  obtain rfl : w3 = (.int i3) := Option.some.inj ei3
  obtain ⟨hn1, hn2⟩ := and_e hn
  obtain ⟨hn21, hn22⟩ := and_e hn2
  obtain ⟨hn221, hn222⟩ := and_e hn22
  obtain ⟨hn2221, hn2222⟩ := and_e hn222
  obtain ⟨hn22221, hn22222⟩ := and_e hn2222
  obtain ⟨hn222221, hn222222⟩ := and_e hn22222
  obtain ⟨hn2222221, hn2222222⟩ := and_e hn222222
  obtain ⟨a_SEQUENTIAL, ev_SEQUENTIAL⟩ := exa_v hn1
  have S_SEQUENTIAL : Sta s s.heap "com/example/pokfulam/pokfulam/plan/Strategy" "SEQUENTIAL" "Lcom/example/pokfulam/pokfulam/plan/Strategy;" (.ref a_SEQUENTIAL) := Sta.start ev_SEQUENTIAL (Or.inr ⟨(hw _ (List.mem_of_getElem? (i := 1) rfl)), (hw _ (List.mem_of_getElem? (i := 2) rfl))⟩)
  have X_SEQUENTIAL : Exa s s.heap a_SEQUENTIAL "com/example/pokfulam/pokfulam/plan/Strategy$1" := Exa.start ev_SEQUENTIAL hn1
  obtain ⟨a_GROUP, ev_GROUP⟩ := exa_v hn221
  have S_GROUP : Sta s s.heap "com/example/pokfulam/pokfulam/plan/Strategy" "GROUP" "Lcom/example/pokfulam/pokfulam/plan/Strategy;" (.ref a_GROUP) := Sta.start ev_GROUP (Or.inr ⟨(hw _ (List.mem_of_getElem? (i := 1) rfl)), (hw _ (List.mem_of_getElem? (i := 16) rfl))⟩)
  have X_GROUP : Exa s s.heap a_GROUP "com/example/pokfulam/pokfulam/plan/Strategy$4" := Exa.start ev_GROUP hn221
  obtain ⟨a_INTERLEAVE, ev_INTERLEAVE⟩ := exa_v hn22221
  have S_INTERLEAVE : Sta s s.heap "com/example/pokfulam/pokfulam/plan/Strategy" "INTERLEAVE" "Lcom/example/pokfulam/pokfulam/plan/Strategy;" (.ref a_INTERLEAVE) := Sta.start ev_INTERLEAVE (Or.inr ⟨(hw _ (List.mem_of_getElem? (i := 1) rfl)), (hw _ (List.mem_of_getElem? (i := 20) rfl))⟩)
  have X_INTERLEAVE : Exa s s.heap a_INTERLEAVE "com/example/pokfulam/pokfulam/plan/Strategy$3" := Exa.start ev_INTERLEAVE hn22221
  obtain ⟨a_GAP_SEARCH, ev_GAP_SEARCH⟩ := exa_v hn2222221
  have S_GAP_SEARCH : Sta s s.heap "com/example/pokfulam/pokfulam/plan/Strategy" "GAP_SEARCH" "Lcom/example/pokfulam/pokfulam/plan/Strategy;" (.ref a_GAP_SEARCH) := Sta.start ev_GAP_SEARCH (Or.inr ⟨(hw _ (List.mem_of_getElem? (i := 1) rfl)), (hw _ (List.mem_of_getElem? (i := 24) rfl))⟩)
  have X_GAP_SEARCH : Exa s s.heap a_GAP_SEARCH "com/example/pokfulam/pokfulam/plan/Strategy$2" := Exa.start ev_GAP_SEARCH hn2222221
  have F_SEQUENTIAL_firstAlone : Fld s s.heap a_SEQUENTIAL "com/example/pokfulam/pokfulam/plan/Strategy" "firstAlone" "Z" (.int (1 : Int32)) := own_fldI hn21 ev_SEQUENTIAL
  have F_GROUP_firstAlone : Fld s s.heap a_GROUP "com/example/pokfulam/pokfulam/plan/Strategy" "firstAlone" "Z" (.int (0 : Int32)) := own_fldI hn2221 ev_GROUP
  have F_INTERLEAVE_firstAlone : Fld s s.heap a_INTERLEAVE "com/example/pokfulam/pokfulam/plan/Strategy" "firstAlone" "Z" (.int (0 : Int32)) := own_fldI hn222221 ev_INTERLEAVE
  have F_GAP_SEARCH_firstAlone : Fld s s.heap a_GAP_SEARCH "com/example/pokfulam/pokfulam/plan/Strategy" "firstAlone" "Z" (.int (1 : Int32)) := own_fldI hn2222222 ev_GAP_SEARCH
  obtain ⟨n, o, h1, h2, h3, _, L, rfl, ⟨rfl, N, -⟩, hq⟩ := rm_law l s _ hw tables_1 i0 i1 i2 i3 a_SEQUENTIAL a_GROUP a_INTERLEAVE a_GAP_SEARCH s.heap ⟨Nat.le_refl _, fun _ _ q => q⟩ ⟨S_SEQUENTIAL, X_SEQUENTIAL, S_GROUP, X_GROUP, S_INTERLEAVE, X_INTERLEAVE, S_GAP_SEARCH, X_GAP_SEARCH, F_SEQUENTIAL_firstAlone, F_GROUP_firstAlone, F_INTERLEAVE_firstAlone, F_GAP_SEARCH_firstAlone⟩  p e ha hc hk s m _ below hf ((Spec.applies_iff_loose hf).mp happ).1 ⟨rfl, State.Warmed39.refl s, rfl⟩ trivial
  refine ⟨n, _, h1, h2, h3, hpost _ _ _ _ _ _ ⟨Cond.after_iff.mpr rfl, Cond.after_iff.mpr (eq_i res_at (Term.int_eval (1)) rfl), trivial⟩ ⟨hq.1, hq.2.1, (hq.2.2.sift fun y hy => Or.inr (N y hy)).mono (by decide) (by decide)⟩⟩
theorem main_1_1 : Claimed_1_1 := comes_1 fun _ _ _ _ _ _ h hF => ⟨h.1, hF⟩
theorem main_1_2 : Claimed_1_2 := comes_1 fun _ _ _ _ _ _ h hF => ⟨h.2.1, hF⟩
end Jvm.Pilot.@@N@@
namespace Jvm.Pilot.@@N@@
open Jvm Jvm.ClassFile Sem Op Lib Jvm.Free Jvm.Stand Jvm.Pilot.@@N@@.Jvm.D
/-! MADE BY PROGRAM (witnessworld.py) out of the Statement's table words and the real class files: 17 classes; the members and pool entries that the words name. The judged class is class 1, her method 1. -/
namespace start1
open Jvm.ClassFile
def u (s : String) : CpInfo := .utf8 (stringToUtf16 s)
/-- a pool by its gaps: so many unusable entries, then the entry; so many at the end -/
def gap : Nat → List CpInfo → List CpInfo
  | 0, r => r
  | n + 1, r => .unusable :: gap n r
def poolList (es : List (Nat × CpInfo)) (last : Nat) : List CpInfo := es.foldr (fun e r => gap e.1 (e.2 :: r)) (gap last [])
def pool (es : List (Nat × CpInfo)) (last : Nat) : Array CpInfo := ⟨poolList es last⟩
def fileOf (pool : Array CpInfo) (this : Nat) (attrs : Array Attribute := #[]) (ms : Array MethodInfo := #[]) (fl : Nat := 33) (sup : Nat := 0) (ifs : Array Nat := #[]) (fds : Array FieldInfo := #[]) : ClassFile where
  minorVersion := 0
  majorVersion := 65
  constantPool := pool
  accessFlags := fl
  thisClass := this
  superClass := sup
  interfaces := ifs
  fields := fds
  methods := ms
  attributes := attrs
def plain (name : String) (sup : Option ClassId) : Class where
  name := name
  kind := .ordinary
  loader := none
  accessFlags := 33
  super := sup
  interfaces := #[]
  cf := none
  fields := #[]
  methods := #[]
  instanceTypes := #[]
  staticTypes := #[]
  resolved := #[]
  callSites := []
  init := .initialized
  statics := none
  mirror := none

def pool0 : Array CpInfo := pool [(5, u "<init>"), (0, u "()V"), (1, .class_ 10), (1, u "java/lang/Object")] 113

def k0m0 : Method := { name := "<init>", desc := "()V", sig := { parameters := [], returnType := none }, accessFlags := 1, code := none }
/-- java/lang/Object -/
def k0 : Class := { plain "java/lang/Object" none with
  accessFlags := 33
  interfaces := #[]
  cf := some (fileOf pool0 8 #[] #[{ accessFlags := 1, nameIndex := 5, descriptorIndex := 6, attributes := #[] }] 33 0 #[] #[])
  fields := #[]
  methods := #[k0m0]
  instanceTypes := #[]
  staticTypes := #[]
  resolved := Array.replicate 124 none
  statics := none }

def pool1 : Array CpInfo := pool [(2, .class_ 4), (1, u "java/lang/Object"), (0, u "<init>"), (0, u "()V"), (0, .fieldref 8 9), (0, .class_ 10), (0, .nameAndType 11 12), (0, u "com/example/pokfulam/pokfulam/plan/Strategy"), (0, u "SEQUENTIAL"), (0, u "Lcom/example/pokfulam/pokfulam/plan/Strategy;"), (0, .fieldref 8 14), (0, .nameAndType 15 12), (0, u "GAP_SEARCH"), (0, .fieldref 8 17), (0, .nameAndType 18 12), (0, u "INTERLEAVE"), (0, .fieldref 8 20), (0, .nameAndType 21 12), (0, u "GROUP"), (0, .integer 2147483647), (0, .methodref 24 25), (0, .class_ 26), (0, .nameAndType 27 28), (0, u "java/lang/Math"), (0, u "max"), (0, u "(II)I"), (0, .methodref 8 30), (0, .nameAndType 31 32), (0, u "plansAlone"), (0, u "(II)Z"), (0, .class_ 34), (0, u "com/example/pokfulam/pokfulam/plan/StrategyPlansAlonePinLaw"), (2, u "law"), (0, u "(IIII)Z")] 3

def k1m0 : Method := { name := "<init>", desc := "()V", sig := { parameters := [], returnType := none }, accessFlags := 1, code := none }
def k1c1 : Code := { maxStack := 3, maxLocals := 9, code := code, exceptionTable := #[], attributes := #[] }
def k1m1 : Method := { name := "law", desc := "(IIII)Z", sig := { parameters := [.int, .int, .int, .int], returnType := some .boolean }, accessFlags := 9, code := some k1c1 }
/-- com/example/pokfulam/pokfulam/plan/StrategyPlansAlonePinLaw -/
def k1 : Class := { plain "com/example/pokfulam/pokfulam/plan/StrategyPlansAlonePinLaw" (some 0) with
  accessFlags := 49
  interfaces := #[]
  cf := some (fileOf pool1 33 #[] #[{ accessFlags := 1, nameIndex := 5, descriptorIndex := 6, attributes := #[] }, { accessFlags := 9, nameIndex := 37, descriptorIndex := 38, attributes := #[] }] 49 2 #[] #[])
  fields := #[]
  methods := #[k1m0, k1m1]
  instanceTypes := #[]
  staticTypes := #[]
  resolved := Array.replicate 42 none
  statics := none }

def pool2 : Array CpInfo := pool [(1, .class_ 2), (0, u "java/lang/constant/Constable"), (0, .class_ 4), (0, u "java/lang/Object")] 6

/-- java/lang/constant/Constable -/
def k2 : Class := { plain "java/lang/constant/Constable" (some 0) with
  accessFlags := 1537
  interfaces := #[]
  cf := some (fileOf pool2 1 #[] #[] 1537 3 #[] #[])
  fields := #[]
  methods := #[]
  instanceTypes := #[]
  staticTypes := #[]
  resolved := Array.replicate 11 none
  statics := none }

def pool3 : Array CpInfo := pool [(1, .class_ 2), (0, u "java/lang/Comparable"), (0, .class_ 4), (0, u "java/lang/Object")] 7

/-- java/lang/Comparable -/
def k3 : Class := { plain "java/lang/Comparable" (some 0) with
  accessFlags := 1537
  interfaces := #[]
  cf := some (fileOf pool3 1 #[] #[] 1537 3 #[] #[])
  fields := #[]
  methods := #[]
  instanceTypes := #[]
  staticTypes := #[]
  resolved := Array.replicate 12 none
  statics := none }

def pool4 : Array CpInfo := pool [(1, .class_ 2), (0, u "java/io/Serializable"), (0, .class_ 4), (0, u "java/lang/Object")] 2

/-- java/io/Serializable -/
def k4 : Class := { plain "java/io/Serializable" (some 0) with
  accessFlags := 1537
  interfaces := #[]
  cf := some (fileOf pool4 1 #[] #[] 1537 3 #[] #[])
  fields := #[]
  methods := #[]
  instanceTypes := #[]
  staticTypes := #[]
  resolved := Array.replicate 7 none
  statics := none }

def pool5 : Array CpInfo := pool [(2, .class_ 4), (1, u "java/lang/Enum"), (0, u "name"), (0, u "Ljava/lang/String;"), (2, u "ordinal"), (0, u "I"), (1, .class_ 14), (1, u "java/lang/Object"), (4, u "hash"), (86, .class_ 108), (1, u "java/lang/Enum$EnumDesc"), (2, .class_ 112), (0, u "java/lang/constant/Constable"), (0, .class_ 114), (0, u "java/lang/Comparable"), (0, .class_ 116), (0, u "java/io/Serializable")] 87

/-- java/lang/Enum -/
def k5 : Class := { plain "java/lang/Enum" (some 0) with
  accessFlags := 1057
  interfaces := #[2, 3, 4]
  cf := some (fileOf pool5 2 #[.nestMembers #[106]] #[] 1057 12 #[111, 113, 115] #[{ accessFlags := 18, nameIndex := 5, descriptorIndex := 6, attributes := #[] }, { accessFlags := 18, nameIndex := 9, descriptorIndex := 10, attributes := #[] }, { accessFlags := 2, nameIndex := 19, descriptorIndex := 10, attributes := #[] }])
  fields := #[{ name := "name", type := (.object "java/lang/String"), accessFlags := 18, slot := 0, constantValue := 0 }, { name := "ordinal", type := .int, accessFlags := 18, slot := 1, constantValue := 0 }, { name := "hash", type := .int, accessFlags := 2, slot := 2, constantValue := 0 }]
  methods := #[]
  instanceTypes := #[(.object "java/lang/String"), .int, .int]
  staticTypes := #[]
  resolved := Array.replicate 204 none
  statics := none }

def pool6 : Array CpInfo := pool [(1, .class_ 2), (0, u "com/example/pokfulam/pokfulam/plan/Strategy"), (2, u "SEQUENTIAL"), (0, u "Lcom/example/pokfulam/pokfulam/plan/Strategy;"), (2, u "GAP_SEARCH"), (2, u "INTERLEAVE"), (2, u "GROUP"), (2, u "$VALUES"), (0, u "[Lcom/example/pokfulam/pokfulam/plan/Strategy;"), (6, .class_ 28), (1, u "java/lang/Enum"), (8, u "id"), (0, u "Ljava/lang/String;"), (2, u "keepsMargin"), (0, u "Z"), (2, u "asOneWorkflow"), (0, .fieldref 1 47), (0, .nameAndType 48 42), (0, u "firstAlone"), (131, .class_ 181), (0, u "com/example/pokfulam/pokfulam/plan/Strategy$1"), (6, .class_ 189), (0, u "com/example/pokfulam/pokfulam/plan/Strategy$2"), (4, .class_ 195), (0, u "com/example/pokfulam/pokfulam/plan/Strategy$3"), (4, .class_ 201), (0, u "com/example/pokfulam/pokfulam/plan/Strategy$4"), (7, u "DEFAULT_MARGIN"), (0, u "D"), (13, u "plansAlone"), (0, u "(II)Z")] 28

def k6c0 : Code := { maxStack := 2, maxLocals := 3, code := prog_54_method_7_code, exceptionTable := #[], attributes := #[] }
def k6m0 : Method := { name := "plansAlone", desc := "(II)Z", sig := { parameters := [.int, .int], returnType := some .boolean }, accessFlags := 1, code := some k6c0 }
/-- com/example/pokfulam/pokfulam/plan/Strategy -/
def k6 : Class := { plain "com/example/pokfulam/pokfulam/plan/Strategy" (some 5) with
  accessFlags := 17441
  interfaces := #[]
  cf := some (fileOf pool6 1 #[.nestMembers #[200, 194, 188, 180]] #[{ accessFlags := 1, nameIndex := 224, descriptorIndex := 225, attributes := #[] }] 17441 26 #[] #[{ accessFlags := 16409, nameIndex := 5, descriptorIndex := 6, attributes := #[] }, { accessFlags := 16409, nameIndex := 9, descriptorIndex := 6, attributes := #[] }, { accessFlags := 16409, nameIndex := 12, descriptorIndex := 6, attributes := #[] }, { accessFlags := 16409, nameIndex := 15, descriptorIndex := 6, attributes := #[] }, { accessFlags := 25, nameIndex := 209, descriptorIndex := 210, attributes := #[] }, { accessFlags := 18, nameIndex := 37, descriptorIndex := 38, attributes := #[] }, { accessFlags := 18, nameIndex := 41, descriptorIndex := 42, attributes := #[] }, { accessFlags := 18, nameIndex := 45, descriptorIndex := 42, attributes := #[] }, { accessFlags := 18, nameIndex := 48, descriptorIndex := 42, attributes := #[] }, { accessFlags := 4122, nameIndex := 18, descriptorIndex := 19, attributes := #[] }])
  fields := #[{ name := "SEQUENTIAL", type := (.object "com/example/pokfulam/pokfulam/plan/Strategy"), accessFlags := 16409, slot := 0, constantValue := 0 }, { name := "GAP_SEARCH", type := (.object "com/example/pokfulam/pokfulam/plan/Strategy"), accessFlags := 16409, slot := 1, constantValue := 0 }, { name := "INTERLEAVE", type := (.object "com/example/pokfulam/pokfulam/plan/Strategy"), accessFlags := 16409, slot := 2, constantValue := 0 }, { name := "GROUP", type := (.object "com/example/pokfulam/pokfulam/plan/Strategy"), accessFlags := 16409, slot := 3, constantValue := 0 }, { name := "DEFAULT_MARGIN", type := .double, accessFlags := 25, slot := 4, constantValue := 0 }, { name := "id", type := (.object "java/lang/String"), accessFlags := 18, slot := 3, constantValue := 0 }, { name := "keepsMargin", type := .boolean, accessFlags := 18, slot := 4, constantValue := 0 }, { name := "asOneWorkflow", type := .boolean, accessFlags := 18, slot := 5, constantValue := 0 }, { name := "firstAlone", type := .boolean, accessFlags := 18, slot := 6, constantValue := 0 }, { name := "$VALUES", type := (.array (.object "com/example/pokfulam/pokfulam/plan/Strategy")), accessFlags := 4122, slot := 5, constantValue := 0 }]
  methods := #[k6m0]
  instanceTypes := #[(.object "java/lang/String"), .int, .int, (.object "java/lang/String"), .boolean, .boolean, .boolean]
  staticTypes := #[(.object "com/example/pokfulam/pokfulam/plan/Strategy"), (.object "com/example/pokfulam/pokfulam/plan/Strategy"), (.object "com/example/pokfulam/pokfulam/plan/Strategy"), (.object "com/example/pokfulam/pokfulam/plan/Strategy"), .double, (.array (.object "com/example/pokfulam/pokfulam/plan/Strategy"))]
  resolved := Array.replicate 254 none
  statics := some 0 }

def pool7 : Array CpInfo := pool [(2, .class_ 4), (1, u "com/example/pokfulam/pokfulam/plan/Strategy"), (29, .class_ 35), (0, u "com/example/pokfulam/pokfulam/plan/Strategy$1")] 12

/-- com/example/pokfulam/pokfulam/plan/Strategy$1 -/
def k7 : Class := { plain "com/example/pokfulam/pokfulam/plan/Strategy$1" (some 6) with
  accessFlags := 16432
  interfaces := #[]
  cf := some (fileOf pool7 34 #[.nestHost 2] #[] 16432 2 #[] #[])
  fields := #[]
  methods := #[]
  instanceTypes := #[(.object "java/lang/String"), .int, .int, (.object "java/lang/String"), .boolean, .boolean, .boolean]
  staticTypes := #[]
  resolved := Array.replicate 48 none
  statics := none }

def pool8 : Array CpInfo := pool [(1, .class_ 2), (0, u "java/lang/Math"), (1, .class_ 6), (1, u "java/lang/Object"), (0, u "<init>"), (0, u "()V"), (89, .class_ 100), (1, u "java/lang/Math$RandomNumberGeneratorHolder"), (71, u "negativeZeroFloatBits"), (0, u "J"), (2, u "negativeZeroDoubleBits"), (21, u "max"), (46, u "$assertionsDisabled"), (0, u "Z"), (88, u "(II)I"), (2, u "twoToTheDoubleScaleDown"), (0, u "D"), (4, u "twoToTheDoubleScaleUp"), (9, u "E"), (3, u "PI"), (2, u "TAU"), (2, u "DEGREES_TO_RADIANS"), (0, u "RADIANS_TO_DEGREES")] 94

def k8m0 : Method := { name := "<init>", desc := "()V", sig := { parameters := [], returnType := none }, accessFlags := 2, code := none }
def k8c1 : Code := { maxStack := 2, maxLocals := 2, code := jdk_29_method_65_code, exceptionTable := #[], attributes := #[] }
def k8m1 : Method := { name := "max", desc := "(II)I", sig := { parameters := [.int, .int], returnType := some .int }, accessFlags := 9, code := some k8c1 }
/-- java/lang/Math -/
def k8 : Class := { plain "java/lang/Math" (some 0) with
  accessFlags := 49
  interfaces := #[]
  cf := some (fileOf pool8 1 #[.nestMembers #[98]] #[{ accessFlags := 2, nameIndex := 7, descriptorIndex := 8, attributes := #[] }, { accessFlags := 9, nameIndex := 198, descriptorIndex := 335, attributes := #[] }] 49 4 #[] #[{ accessFlags := 25, nameIndex := 354, descriptorIndex := 339, attributes := #[] }, { accessFlags := 25, nameIndex := 358, descriptorIndex := 339, attributes := #[] }, { accessFlags := 25, nameIndex := 361, descriptorIndex := 339, attributes := #[] }, { accessFlags := 26, nameIndex := 364, descriptorIndex := 339, attributes := #[] }, { accessFlags := 26, nameIndex := 365, descriptorIndex := 339, attributes := #[] }, { accessFlags := 26, nameIndex := 172, descriptorIndex := 173, attributes := #[] }, { accessFlags := 26, nameIndex := 176, descriptorIndex := 173, attributes := #[] }, { accessFlags := 8, nameIndex := 344, descriptorIndex := 339, attributes := #[] }, { accessFlags := 8, nameIndex := 338, descriptorIndex := 339, attributes := #[] }, { accessFlags := 4120, nameIndex := 245, descriptorIndex := 246, attributes := #[] }])
  fields := #[{ name := "E", type := .double, accessFlags := 25, slot := 0, constantValue := 0 }, { name := "PI", type := .double, accessFlags := 25, slot := 1, constantValue := 0 }, { name := "TAU", type := .double, accessFlags := 25, slot := 2, constantValue := 0 }, { name := "DEGREES_TO_RADIANS", type := .double, accessFlags := 26, slot := 3, constantValue := 0 }, { name := "RADIANS_TO_DEGREES", type := .double, accessFlags := 26, slot := 4, constantValue := 0 }, { name := "negativeZeroFloatBits", type := .long, accessFlags := 26, slot := 5, constantValue := 0 }, { name := "negativeZeroDoubleBits", type := .long, accessFlags := 26, slot := 6, constantValue := 0 }, { name := "twoToTheDoubleScaleUp", type := .double, accessFlags := 8, slot := 7, constantValue := 0 }, { name := "twoToTheDoubleScaleDown", type := .double, accessFlags := 8, slot := 8, constantValue := 0 }, { name := "$assertionsDisabled", type := .boolean, accessFlags := 4120, slot := 9, constantValue := 0 }]
  methods := #[k8m0, k8m1]
  instanceTypes := #[]
  staticTypes := #[.double, .double, .double, .double, .double, .long, .long, .double, .double, .boolean]
  resolved := Array.replicate 460 none
  statics := none }

def pool9 : Array CpInfo := pool [(2, .class_ 4), (1, u "com/example/pokfulam/pokfulam/plan/Strategy"), (18, .class_ 24), (0, u "com/example/pokfulam/pokfulam/plan/Strategy$4")] 13

/-- com/example/pokfulam/pokfulam/plan/Strategy$4 -/
def k9 : Class := { plain "com/example/pokfulam/pokfulam/plan/Strategy$4" (some 6) with
  accessFlags := 16432
  interfaces := #[]
  cf := some (fileOf pool9 23 #[.nestHost 2] #[] 16432 2 #[] #[])
  fields := #[]
  methods := #[]
  instanceTypes := #[(.object "java/lang/String"), .int, .int, (.object "java/lang/String"), .boolean, .boolean, .boolean]
  staticTypes := #[]
  resolved := Array.replicate 38 none
  statics := none }

def pool10 : Array CpInfo := pool [(2, .class_ 4), (1, u "com/example/pokfulam/pokfulam/plan/Strategy"), (25, .class_ 31), (0, u "com/example/pokfulam/pokfulam/plan/Strategy$3")] 13

/-- com/example/pokfulam/pokfulam/plan/Strategy$3 -/
def k10 : Class := { plain "com/example/pokfulam/pokfulam/plan/Strategy$3" (some 6) with
  accessFlags := 16432
  interfaces := #[]
  cf := some (fileOf pool10 30 #[.nestHost 2] #[] 16432 2 #[] #[])
  fields := #[]
  methods := #[]
  instanceTypes := #[(.object "java/lang/String"), .int, .int, (.object "java/lang/String"), .boolean, .boolean, .boolean]
  staticTypes := #[]
  resolved := Array.replicate 45 none
  statics := none }

def pool11 : Array CpInfo := pool [(2, .class_ 4), (1, u "com/example/pokfulam/pokfulam/plan/Strategy"), (24, .class_ 30), (0, u "com/example/pokfulam/pokfulam/plan/Strategy$2")] 12

/-- com/example/pokfulam/pokfulam/plan/Strategy$2 -/
def k11 : Class := { plain "com/example/pokfulam/pokfulam/plan/Strategy$2" (some 6) with
  accessFlags := 16432
  interfaces := #[]
  cf := some (fileOf pool11 29 #[.nestHost 2] #[] 16432 2 #[] #[])
  fields := #[]
  methods := #[]
  instanceTypes := #[(.object "java/lang/String"), .int, .int, (.object "java/lang/String"), .boolean, .boolean, .boolean]
  staticTypes := #[]
  resolved := Array.replicate 43 none
  statics := none }

def pool12 : Array CpInfo := pool [(1, u "java/lang/Cloneable"), (0, .class_ 1), (0, u "java/lang/Object"), (0, .class_ 3)] 3

/-- java/lang/Cloneable -/
def k12 : Class := { plain "java/lang/Cloneable" (some 0) with
  accessFlags := 1537
  interfaces := #[]
  cf := some (fileOf pool12 2 #[] #[] 1537 4 #[] #[])
  fields := #[]
  methods := #[]
  instanceTypes := #[]
  staticTypes := #[]
  resolved := Array.replicate 8 none
  statics := none }

/-- the primitive byte -/
def k13 : Class := { plain "byte" none with kind := .primitive 'B', accessFlags := 0x411 }
/-- [B -/
def k14 : Class := { plain "[B" (some 0) with kind := .array 13 .byte, interfaces := #[12, 4], accessFlags := 1041 }

/-- the primitive int -/
def k15 : Class := { plain "int" none with kind := .primitive 'I', accessFlags := 0x411 }
/-- [I -/
def k16 : Class := { plain "[I" (some 0) with kind := .array 15 .int, interfaces := #[12, 4], accessFlags := 1041 }

def heap : Heap := #[{ cls := 6, slots := #[.ref 1, .ref 4, .ref 3, .ref 2, .double 0, .null], vm := .statics 6 },
  { cls := 7, slots := #[.null, .int 0, .int 0, .null, .int 0, .int 0, .int 1], vm := .none },
  { cls := 9, slots := #[.null, .int 0, .int 0, .null, .int 0, .int 0, .int 0], vm := .none },
  { cls := 10, slots := #[.null, .int 0, .int 0, .null, .int 0, .int 0, .int 0], vm := .none },
  { cls := 11, slots := #[.null, .int 0, .int 0, .null, .int 0, .int 0, .int 1], vm := .none }]
def classes : Array Class := #[k0, k1, k2, k3, k4, k5, k6, k7, k8, k9, k10, k11, k12, k13, k14, k15, k16]
def interned : List (Array UInt16 × Addr) := []
def slotsUsed : Nat := 34
def theMethod : MethodId := ⟨1, 1⟩
def args0 : Array Value := #[.int 1, .int 2, .int 3, .int 4]
def aboutOver (below : List Frame) : State where
  vm := { classes := classes, interned := interned.toArray }
  heap := heap
  slotsUsed := slotsUsed
  threads := #[{ frames := .invoking theMethod args0 :: below }]
def below0 : List Frame := [.native { method := ⟨0, 0⟩, args := #[] }]
def about1 : State := aboutOver below0
def p0 : Program := .bare "" "" ""
def e0 : Env := launch0.env 0 0 0
theorem w_frames : about1.frames = Frame.invoking theMethod args0 :: below0 := rfl
set_option maxRecDepth 65536 in
theorem w_args : argsFit about1.vm theMethod args0 = true := by decide +kernel
set_option maxRecDepth 65536 in
theorem w_heap : heapFits about1 = true := by decide +kernel
set_option maxRecDepth 65536 in
theorem w_runnable : about1.curStatus? = some .runnable := by decide +kernel
set_option maxRecDepth 65536 in
theorem w_alone : about1.alone = true := by decide +kernel
set_option maxRecDepth 65536 in
theorem w_named : about1.methodNamed? x = some theMethod := by decide +kernel
set_option maxRecDepth 65536 in
theorem w_hears : about1.hears theMethod below0 = true := by decide +kernel
set_option maxRecDepth 65536 in
theorem w_ripe : about1.ripe theMethod args0 below0 = true := by decide +kernel
theorem w_running : about1.status = .running := rfl
set_option maxRecDepth 65536 in
theorem w_room : about1.hasRoom e0.platform room_1 = true :=
  launch0.hasRoom_least _ room_1 (by decide +kernel) (by decide +kernel) (by decide +kernel) (by decide +kernel) (by decide +kernel) (by decide +kernel)
theorem allAtoms_all (ts : List Jvm.Cond) (a : Array Jvm.Value) (st : Jvm.State) : (allAtoms ts).before a st = ts.all (fun c => c.before a st) := by
  induction ts with
  | nil => rfl
  | cons c t ih =>
    show (Jvm.Cond.and c (allAtoms t)).before a st = _
    rw [Jvm.Cond.before_and, ih, List.all_cons]
def words1 : List Jvm.Cond := Jvm.Cond.code x code maxLocals ret :: tables_1
/-- a 'code' word, met by the world's own term for the bytes: nothing is compared byte by byte -/
theorem code_word {y : MethodName} {bytes : ByteArray} {mx : Nat} {rt : Option FieldType} {a : Array Value} {s : State} {m : MethodId} {meth : Method} {c : Code} (h1 : s.methodNamed? y = some m) (h2 : s.vm.method? m = some meth) (h3 : meth.code = some c) (h4 : c.code = bytes)
    (h5 : (c.maxLocals == mx && c.exceptionTable.isEmpty && decide (c.maxStack ≤ mostOperands) && decide (meth.sig.returnType = rt) && !meth.locks && decide (parseMethodDescriptor y.desc = some meth.sig)) = true) : (Jvm.Cond.code y bytes mx rt).before a s = true := by
  simp only [Bool.and_eq_true, beq_iff_eq, Bool.not_eq_true', decide_eq_true_eq] at h5
  obtain ⟨⟨⟨⟨⟨g1, g2⟩, g3⟩, g4⟩, g5⟩, g6⟩ := h5
  simp [Cond.before, Cond.holds, Cond.value, h1, h2, h3, h4, g1, g2, g3, g4, g5, g6]
def isCode : Jvm.Cond → Bool
  | .code _ _ _ _ => true
  | _ => false
theorem all_split {L : List Jvm.Cond} {P : Jvm.Cond → Bool} (h1 : L.all (fun c => isCode c || P c) = true) (h2 : ∀ c ∈ L.filter isCode, P c = true) : L.all P = true := by
  refine List.all_eq_true.mpr fun c hc => ?_
  have h := List.all_eq_true.mp h1 c hc
  rcases Bool.eq_false_or_eq_true (isCode c) with hi | hi
  · exact h2 c (List.mem_filter.mpr ⟨hc, hi⟩)
  · simpa [hi] using h
set_option maxRecDepth 65536 in
theorem w_c0 : (Jvm.Cond.code x code maxLocals ret).before args0 about1 = true := code_word (m := ⟨1, 1⟩) (meth := k1m1) (c := k1c1) (by decide +kernel) rfl rfl rfl (by decide +kernel)
set_option maxRecDepth 65536 in
theorem w_c1 : (Jvm.Cond.code ({ cls := "com/example/pokfulam/pokfulam/plan/Strategy", name := "plansAlone", desc := "(II)Z" } : Jvm.MethodName) prog_54_method_7_code (3 : Nat) (Option.some Jvm.ClassFile.FieldType.boolean)).before args0 about1 = true := code_word (m := ⟨6, 0⟩) (meth := k6m0) (c := k6c0) (by decide +kernel) rfl rfl rfl (by decide +kernel)
set_option maxRecDepth 65536 in
theorem w_c2 : (Jvm.Cond.code ({ cls := "java/lang/Math", name := "max", desc := "(II)I" } : Jvm.MethodName) jdk_29_method_65_code (2 : Nat) (Option.some Jvm.ClassFile.FieldType.int)).before args0 about1 = true := code_word (m := ⟨8, 1⟩) (meth := k8m1) (c := k8c1) (by decide +kernel) rfl rfl rfl (by decide +kernel)
def codes1 : List Jvm.Cond := [Jvm.Cond.code x code maxLocals ret, Jvm.Cond.code ({ cls := "com/example/pokfulam/pokfulam/plan/Strategy", name := "plansAlone", desc := "(II)Z" } : Jvm.MethodName) prog_54_method_7_code (3 : Nat) (Option.some Jvm.ClassFile.FieldType.boolean), Jvm.Cond.code ({ cls := "java/lang/Math", name := "max", desc := "(II)I" } : Jvm.MethodName) jdk_29_method_65_code (2 : Nat) (Option.some Jvm.ClassFile.FieldType.int)]
set_option maxRecDepth 65536 in
theorem codes_eq : words1.filter isCode = codes1 := rfl
theorem w_codes : ∀ c ∈ words1.filter isCode, c.before args0 about1 = true := by
  rw [codes_eq]
  intro c hc
  simp only [codes1, List.mem_cons, List.not_mem_nil, or_false] at hc
  rcases hc with rfl | rfl | rfl
  · exact w_c0
  · exact w_c1
  · exact w_c2
set_option maxRecDepth 65536 in
theorem w_t1 : (words1.take 24).all (fun c => isCode c || c.before args0 about1) = true := by decide +kernel
set_option maxRecDepth 65536 in
theorem w_t2 : (words1.drop 24).all (fun c => isCode c || c.before args0 about1) = true := by decide +kernel
theorem w_tables : (allAtoms (Jvm.Cond.code x code maxLocals ret :: tables_1)).before args0 about1 = true := by
  rw [allAtoms_all]
  show words1.all (fun c => c.before args0 about1) = true
  refine all_split ?_ w_codes
  rw [← List.take_append_drop 24 words1, List.all_append, w_t1, w_t2]
  rfl
set_option maxRecDepth 65536 in
theorem w_case : (Jvm.Cond.and given_1 narrow_1).before args0 about1 = true := by decide +kernel
theorem w_applies : (headSpec (Jvm.Cond.code x code maxLocals ret :: tables_1) room_1).applies x e0.platform about1 = true :=
  (Spec.applies_iff w_frames).mpr ⟨w_running, w_runnable, w_alone, w_named, w_hears, w_ripe, w_room, w_tables⟩
theorem atStart : AtStart classFile x code maxLocals ret World_1 tables_1 room_1 Calls_1 rest_1 Pre_1 launch0 p0 e0 about1 theMethod args0 below0 :=
  ⟨lists_1, trivial, launch0.admits_env _ _ _, launch0.least_env, fairChoices_fair.cas, fairChoices_fair.clock, w_frames, w_args, w_heap, w_applies, trivial, trivial, w_case⟩
end start1
theorem witness_1 : WitnessClaimed_1 := ⟨start1.p0, start1.e0, start1.about1, start1.theMethod, start1.args0, start1.below0, start1.atStart⟩
end Jvm.Pilot.@@N@@
