import JvmDerived
import JvmDerived.Pilot.@@N@@Statement
import JvmDerived.Pilot.@@N@@Code
set_option linter.unusedVariables false
set_option linter.unusedSimpArgs false
namespace Jvm.RoadKit
open Sem ClassFile Op Lib Jvm.Stand Jvm.Free Jvm.LawKit
section New
variable {p : Program} {l : Launch} {e : Env} {R : Room} {s : State} {m : MethodId} {args : Array Value} {below : List Frame} {meth : Method} {c : Code} {T : State} {locs : List Loc} {cells slots : Nat}
theorem retI (X : Stand p l e R s m args below meth c T locs cells slots) (hx : p.tables.exec = Jvm.exec) {pc : Nat} {Ls : Array Slot} {z : Int32} {rest : List Value} (hret : meth.sig.returnType = some .int) (hd : decode c.code pc = .ok (.ireturn, 1)) {fs : List Frame}
    (hl : ∀ (f : JFrame) (acts : List Action), f.method = m → f.locked = none → f.entered = [] → (doReturn e (T.setTop f) acts (some (.int z))).1 = T.setFrames fs) : Steps p.tables e below (T.setTop (mkF m pc Ls (.int z :: rest))) (T.setFrames fs) := by
  have hm' : T.vm.method? m = some meth := X.method'
  have hn : narrow .int (.int z) = .int z := rfl
  show Steps p.tables e below (T.setTop { method := m, pc := pc, locals := Ls, stack := _ :: rest, locked := none }) _
  jvm_step X.here [X.here.top, hx, hd, hm', hret, hn]
  first | (intro acts; rw [hl _ acts rfl rfl rfl]) | rw [hl _ _ rfl rfl rfl]
  exact Steps.refl _
end New
end Jvm.RoadKit
@@BLOCK:NumsL.lean.txt@@
namespace Jvm.Pilot.@@N@@
open Jvm Jvm.ClassFile Sem Op Lib Jvm.Free Jvm.Stand Jvm.LawKit Jvm.RoadKit Bundle Jvm.Pilot.@@N@@.Jvm.D
/-- a run from here that ends well -/
def own_G (p : Program) (e : Env) (below : List Frame) (P : Outcome → State → Prop) (S : State) : Prop := ∃ s₂ o, Steps p.tables e below S s₂ ∧ s₂.status = .running ∧ Ended s₂ below o ∧ P o s₂
theorem own_go {p : Program} {e : Env} {below : List Frame} {P : Outcome → State → Prop} {S : State} (S' : State) (k : ∀ t, Steps p.tables e below S' t → Steps p.tables e below S t) (h : own_G p e below P S') : own_G p e below P S := by
  obtain ⟨s₂, o, h1, h2⟩ := h
  exact ⟨s₂, o, k _ h1, h2⟩
theorem own_one {x : Slot} (h : One x) : (match x with | .second => False | .val old => old.category = 1 | .unset => True) := by
  rcases h with rfl | ⟨w, rfl, hw⟩
  · trivial
  · exact hw
theorem own_selp {s : State} {args : Array Value} {D : String} {y z : MethodName} (h : (Cond.selects D z z).before args s = true) (hc : z.cls = y.cls) (hpriv : s.PrivateAt y) (hinst : (Cond.instanceMethod y).before args s = true) (hy : y.cls ≠ "java/lang/invoke/MethodHandle" ∧ y.cls ≠ "java/lang/invoke/VarHandle") : (Cond.selects y.cls y y).before args s = true := by
  obtain ⟨c, r, m, q1, q2, q3, q4, mk, hk, hi⟩ := Cond.selects_spec h
  exact selects_self_of_private (hc ▸ findClass_of_methodNamed q3) hk hi hpriv hinst hy
theorem own_same {s : State} {args : Array Value} {D : String} {y z : MethodName} (hinst : (Cond.instanceMethod y).before args s = true) (hsel : (Cond.selects D z z).before args s = true) (hc : z.cls = y.cls) (hy : y.cls ≠ "java/lang/invoke/MethodHandle" ∧ y.cls ≠ "java/lang/invoke/VarHandle") : (Cond.sameMethod y.cls y.cls y.name y.desc).before args s = true := by
  obtain ⟨mk, methM, hnamed, hmethM, -, -⟩ := Cond.instanceMethod_spec hinst
  obtain ⟨c, r, m, q1, q2, q3, q4, k, hk, hi⟩ := Cond.selects_spec hsel
  have hfound := State.methodFound?_of_named hnamed hy
  have hcn := findClass_of_methodNamed hnamed
  have e : m.cls = mk.cls := Option.some.inj ((findClass_of_methodNamed q3).symm.trans (hc ▸ hcn))
  rw [e] at hk
  obtain ⟨yc, yn, yd⟩ := y
  simp_all [Cond.before, Cond.holds, Cond.value]
theorem own_nf {s : State} {args : Array Value} {D : String} {y z : MethodName} (hsel : (Cond.selects D z z).before args s = true) (hc : z.cls = y.cls) : NotFace s y := fun r0 h0 => by
  obtain ⟨c, r, m, q1, q2, q3, q4, k, hk, hi⟩ := Cond.selects_spec hsel
  have e : m.cls = r0.cls := Option.some.inj ((findClass_of_methodNamed q3).symm.trans (hc ▸ findClass_of_methodNamed h0))
  exact ⟨k, e ▸ hk, hi⟩
theorem own_lt {x y : Int64} : lcmpW x y < 0 ↔ x < y := by rw [lcW]; exact lc_lt x y
theorem own_gt {x y : Int64} : (0 : Int32) < lcmpW x y ↔ y < x := by rw [lcW]; exact lc_gt x y
theorem own_eq {x y : Int64} : lcmpW x y = 0 ↔ x = y := by rw [lcW]; exact lc_eq x y
theorem own_extK {Z : State} {h h' : Heap} {ws : List Addr} (O : Ext Z.heap h) (K : Keep h h' ws) (q : ∀ x ∈ ws, Z.heap.size ≤ x) : Ext Z.heap h' :=
  (Old.keep (n0 := Z.heap.size) ⟨rfl, O⟩ K q).2
theorem own_ext {h h1 h2 : Heap} (E : Ext h h1) (F : Ext h1 h2) : Ext h h2 := ⟨Nat.le_trans E.1 F.1, fun a c q => F.2 a c (E.2 a c q)⟩
theorem own_extW {Z : State} {h h' : Heap} {a : Addr} {sl : Nat} {v : Value} (O : Ext Z.heap h) (W : Wr h h' a sl v) (q : Z.heap.size ≤ a) : Ext Z.heap h' := own_extK O (Keep.of_wr W) (allS q all0)
theorem own_fldI {s : State} {args : Array Value} {t : Term} {C n d : String} {k : Int32} {a : Addr} (h : (Cond.eq (Term.field t C n d) (Term.int k)).value args s none s [] = some true) (ev : t.eval args s none [] s = some (.ref a)) : Fld s s.heap a C n d (.int k) := by
  obtain ⟨x, y, h1, h2, h3, -⟩ := cmp_v (Or.inl h)
  have h4 : s.fieldOf? a C n d = some x := (fld_at ev).symm.trans h1
  have h5 : y = .int k := (Option.some.inj (h2.symm.trans (Term.int_eval k)))
  subst h5
  cases x with
  | int z =>
    simp only [Cond.value, h1, h2] at h
    have e : z = k := by simpa using h
    subst e
    exact Fld.start h4
  | _ => simp [Kin, Value.isRef] at h3
theorem own_fldV {s : State} {args : Array Value} {t u : Term} {C n d : String} {b : Addr} {a : Addr} (h : (Cond.eq (Term.field t C n d) u).value args s none s [] = some true) (ev : t.eval args s none [] s = some (.ref a)) (eu : u.eval args s none [] s = some (.ref b)) : Fld s s.heap a C n d (.ref b) := by
  obtain ⟨x, y, h1, h2, h3, -⟩ := cmp_v (Or.inl h)
  have h4 : s.fieldOf? a C n d = some x := (fld_at ev).symm.trans h1
  have h5 : y = .ref b := (Option.some.inj (h2.symm.trans eu))
  subst h5
  cases x with
  | ref z =>
    simp only [Cond.value, h1, h2] at h
    have e : z = b := by simpa using h
    subst e
    exact Fld.start h4
  | null => simp [Cond.value, h1, h2] at h
  | _ => simp [Kin, Value.isRef] at h3
theorem own_elemI {s : State} {args : Array Value} {t : Term} {j k : Int32} {a : Addr} {cl : Cell} (h : (Cond.eq (Term.elem t (Term.int j)) (Term.int k)).value args s none s [] = some true) (ev : t.eval args s none [] s = some (.ref a)) (hc : s.heap[a]? = some cl) : ¬ (j < 0 ∨ cl.slots.size ≤ j.toNatClampNeg) ∧ cl.slots[j.toNatClampNeg]? = some (.int k) := by
  obtain ⟨x, y, h1, h2, h3, -⟩ := cmp_v (Or.inl h)
  have h4 := elem_in h1 ev (Term.int_eval j) hc
  have h5 : y = .int k := (Option.some.inj (h2.symm.trans (Term.int_eval k)))
  subst h5
  cases x with
  | int z =>
    simp only [Cond.value, h1, h2] at h
    have e : z = k := by simpa using h
    subst e
    exact h4
  | _ => simp [Kin, Value.isRef] at h3
theorem own_elemV {s : State} {args : Array Value} {t u : Term} {j : Int32} {a b : Addr} {cl : Cell} (h : (Cond.eq (Term.elem t (Term.int j)) u).value args s none s [] = some true) (ev : t.eval args s none [] s = some (.ref a)) (eu : u.eval args s none [] s = some (.ref b)) (hc : s.heap[a]? = some cl) : ¬ (j < 0 ∨ cl.slots.size ≤ j.toNatClampNeg) ∧ cl.slots[j.toNatClampNeg]? = some (.ref b) := by
  obtain ⟨x, y, h1, h2, h3, -⟩ := cmp_v (Or.inl h)
  have h4 := elem_in h1 ev (Term.int_eval j) hc
  have h5 : y = .ref b := (Option.some.inj (h2.symm.trans eu))
  subst h5
  cases x with
  | ref z =>
    simp only [Cond.value, h1, h2] at h
    have e : z = b := by simpa using h
    subst e
    exact h4
  | null => simp [Cond.value, h1, h2] at h
  | _ => simp [Kin, Value.isRef] at h3
theorem own_fldN {s : State} {args : Array Value} {t : Term} {C n d : String} {a : Addr} (h : (Cond.eq (Term.field t C n d) Term.null).value args s none s [] = some true) (ev : t.eval args s none [] s = some (.ref a)) : Fld s s.heap a C n d .null :=
  Fld.start ((fld_at ev).symm.trans (null_v h))
theorem own_cache {s : State} {args : Array Value} {a : Addr} {cl : Cell} (ev : (Term.static "java/lang/Long$LongCache" "cache" "[Ljava/lang/Long;").eval args s none [] s = some (.ref a)) (A : Arr s s.heap a cl (.object "java/lang/Long")) (hlen : (Cond.eq (Term.length (Term.static "java/lang/Long$LongCache" "cache" "[Ljava/lang/Long;")) (Term.int 256)).value args s none s [] = some true) {d : Cond}
    (hall : (Cond.all (Term.static "java/lang/Long$LongCache" "cache" "[Ljava/lang/Long;") (Cond.and (Cond.exactly (Term.elem (Term.static "java/lang/Long$LongCache" "cache" "[Ljava/lang/Long;") (Term.index 0)) "java/lang/Long") d)).value args s none s [] = some true) : ∀ j : Int32, ¬ (j < 0 ∨ 256 ≤ j.toNatClampNeg) → ¬ (j < 0 ∨ cl.slots.size ≤ j.toNatClampNeg) ∧ ∃ x : Addr, cl.slots[j.toNatClampNeg]? = some (.ref x) ∧ Exa s s.heap x "java/lang/Long" := by
  have hat : s.arrayAt? a = some cl := A.fin (Vm.Alike.refl _)
  obtain ⟨hsz, hsize⟩ := IntBox.length_fwd (Cond.before_iff.mpr hlen) ev A.1 A.2.1 A.2.2
  have h256 : cl.slots.size = 256 := by
    have e := len_toInt (n := cl.slots.size) (by omega)
    rw [hsize] at e
    have e2 : (256 : Int32).toInt = 256 := by decide
    omega
  intro j hj
  rw [← h256] at hj
  have hlt : j.toNatClampNeg < cl.slots.size := Nat.lt_of_not_le fun q => hj (Or.inr q)
  obtain ⟨q1, -⟩ := and_e (Cond.all_elim ev hat hall _ hlt)
  obtain ⟨x, ex⟩ := exa_v q1
  have ev' : (Term.static "java/lang/Long$LongCache" "cache" "[Ljava/lang/Long;").eval args s none [j.toNatClampNeg] s = some (.ref a) := by simpa [Term.eval] using ev
  exact ⟨hj, x, (elem_in ex ev' (idx_at fun q => hj (Or.inl q)) A.1).2, exa_at ex q1⟩
def own_W (Z : State) (a_cache : Addr) (cl_cache : Cell) : Prop := (Sta Z Z.heap "java/lang/Long$LongCache" "cache" "[Ljava/lang/Long;" (.ref a_cache)) ∧ (Arr Z Z.heap a_cache cl_cache (.object "java/lang/Long")) ∧ (∀ j : Int32, ¬ (j < 0 ∨ 256 ≤ j.toNatClampNeg) → ¬ (j < 0 ∨ cl_cache.slots.size ≤ j.toNatClampNeg) ∧ ∃ x : Addr, cl_cache.slots[j.toNatClampNeg]? = some (.ref x) ∧ Exa Z Z.heap x "java/lang/Long")
theorem own_case {i : Int32} {k : Int} (c : Int32) (h : i.toInt = k) (hc : c.toInt = k) : i = c := Int32.toInt_inj.mp (h.trans hc.symm)
theorem own_mask (x : Int32) : 0 ≤ (x &&& 2147483647).toInt := by
  have e := Jvm.Kit.i32_mask x 2147483647 (k := 31) (by decide) (by decide)
  omega
theorem own_mod (x n : Int32) (hn : 0 < n.toInt) : 0 ≤ ((x &&& 2147483647) % n).toInt ∧ ((x &&& 2147483647) % n).toInt < n.toInt := by
  rw [Jvm.Kit.i32_rem_nonneg (own_mask x)]
  exact ⟨Int.emod_nonneg _ (by omega), Int.emod_lt_of_pos _ hn⟩
theorem own_and3 (x : Int32) : (x &&& 3) = 0 ∨ (x &&& 3) = 1 ∨ (x &&& 3) = 2 ∨ (x &&& 3) = 3 := by
  have e := Jvm.Kit.i32_mask x 3 (k := 2) (by decide) (by decide)
  rcases (by omega : (x &&& 3).toInt = 0 ∨ (x &&& 3).toInt = 1 ∨ (x &&& 3).toInt = 2 ∨ (x &&& 3).toInt = 3) with q | q | q | q
  · exact Or.inl (own_case 0 q (by decide))
  · exact Or.inr (Or.inl (own_case 1 q (by decide)))
  · exact Or.inr (Or.inr (Or.inl (own_case 2 q (by decide))))
  · exact Or.inr (Or.inr (Or.inr (own_case 3 q (by decide))))
def own_max (x y : Int32) : Int32 := if x < y then y else x
theorem own_max1 (y : Int32) : ¬ own_max 1 y < 1 := by
  unfold own_max
  split
  · rename_i h
    intro q; rw [Int32.lt_iff_toInt_lt] at h q; omega
  · decide
theorem own_nn (x : Int64) : ¬ (x &&& 9223372036854775807) < 0 := by
  have e := Jvm.Kit.i64_mask x 9223372036854775807 (k := 63) (by decide) (by decide)
  intro q; rw [Int64.lt_iff_toInt_lt] at q
  have e0 : (0 : Int64).toInt = 0 := by decide
  omega
theorem own_ef_mx (m : MethodId) (x : Int32) (y : Int32) : entryFrame m #[(.int x), (.int y)] 2 = mkF m 0 #[.val (.int x), .val (.int y)] [] := by first | (simp [entryFrame, mkF, argsToLocals, Value.category]; done) | rfl
theorem own_d_jdk_29_method_65_0 : decode jdk_29_method_65_code 0 = .ok (.iload_n 0, 1) := by decide +kernel
theorem own_d_jdk_29_method_65_1 : decode jdk_29_method_65_code 1 = .ok (.iload_n 1, 1) := by decide +kernel
theorem own_d_jdk_29_method_65_2 : decode jdk_29_method_65_code 2 = .ok (.if_icmp .lt 7, 3) := by decide +kernel
theorem own_d_jdk_29_method_65_9 : decode jdk_29_method_65_code 9 = .ok (.iload_n 1, 1) := by decide +kernel
theorem own_d_jdk_29_method_65_10 : decode jdk_29_method_65_code 10 = .ok (.ireturn, 1) := by decide +kernel
theorem own_d_jdk_29_method_65_5 : decode jdk_29_method_65_code 5 = .ok (.iload_n 0, 1) := by decide +kernel
theorem own_d_jdk_29_method_65_6 : decode jdk_29_method_65_code 6 = .ok (.goto 4, 3) := by decide +kernel
def Q_mx (Z : State) (x : Int32) (y : Int32) (h0 : Heap) (v_ : Option Value) (h : Heap) (L_ : List Loc) : Prop := v_ = some (.int (own_max x y)) ∧ Fr Z.heap.size L_ ∧ (h = h0)
set_option maxRecDepth 65536 in
set_option maxHeartbeats 40000000 in
theorem rm_mx (l : Launch) (Z : State) (a0 : Array Value) (hw : ∀ d ∈ tables_1, d.before a0 Z = true) (ws : List Jvm.Cond) (x : Int32) (y : Int32) (h0 : Heap) (O : Ext Z.heap h0) :
    MetFree l (⟨"java/lang/Math", "max", "(II)I"⟩ : MethodName) (head1 (Jvm.Cond.code (⟨"java/lang/Math", "max", "(II)I"⟩ : MethodName) jdk_29_method_65_code 2 (some .int) :: ws) ({ frames := 0, cells := 0, slots := 0, locals := 0 } : Room)) (fun a_ U_ => a_ = #[(.int x), (.int y)] ∧ Z.Warmed39 U_.vm ∧ U_.heap = h0) (fun _ _ _ _ _ => True) (fun _ U_ o_ U2_ => ∃ v_ L_, o_ = .returned v_ ∧ Q_mx Z x y h0 v_ U2_.heap L_ ∧ FrameEnd U_ o_ U2_ L_ ({ frames := 0, cells := 0, slots := 0, locals := 0 } : Room).cells ({ frames := 0, cells := 0, slots := 0, locals := 0 } : Room).slots) := by
  refine MetFree.of_bodySF (Jvm.Free.JP.mathPlain rfl (by decide +kernel)) hisR ?_
  intro p e s m args below meth c s₁ Bd hml0 hP hK
  obtain ⟨rfl, hZ, hh⟩ := hP
  have hx := Bd.exec
  have hby := Bd.bytes
  have hml : c.maxLocals = 2 := hml0
  have hown : s.vm.findClass "java/lang/Math" = some m.cls := findClass_of_methodNamed Bd.named
  have hnm := (name_of_methodNamed Bd.named Bd.method).1
  have X0 : Stand p l e ({ frames := 0, cells := 0, slots := 0, locals := 0 } : Room) s m #[(.int x), (.int y)] below meth c s₁ [] 0 0 := Stand.of_body Bd
  have e0 : s₁.heap = h0 := by rw [← hh, Bd.state]; rfl
  have N0 := Fr.nil Z.heap.size
  show own_G p e below (fun o_ s₂ => ∃ v_ L_, o_ = .returned v_ ∧ Q_mx Z x y h0 v_ s₂.heap L_ ∧ FrameEnd s o_ s₂ L_ ({ frames := 0, cells := 0, slots := 0, locals := 0 } : Room).cells ({ frames := 0, cells := 0, slots := 0, locals := 0 } : Room).slots) (s₁.setTop (entryFrame m #[(.int x), (.int y)] 2))
  refine own_go (s₁.setTop (mkF m 0 #[.val (.int x), .val (.int y)] [])) (fun t_ k_ => castTop (own_ef_mx m x y) k_) ?_
  refine own_go (s₁.setTop (mkF m 1 #[.val (.int x), .val (.int y)] [(.int x)])) (fun t_ k_ => XS.iloadN X0.here hx rfl (hb hby own_d_jdk_29_method_65_0) rfl k_) ?_
  refine own_go (s₁.setTop (mkF m 2 #[.val (.int x), .val (.int y)] [(.int y), (.int x)])) (fun t_ k_ => XS.iloadN X0.here hx rfl (hb hby own_d_jdk_29_method_65_1) rfl k_) ?_
  by_cases hc2_1 : x < y
  ·
    refine own_go (s₁.setTop (mkF m 9 #[.val (.int x), .val (.int y)] [])) (fun t_ k_ => XS.icmpYes X0.here hx rfl (pc0 := 2) (pc' := 9) rfl (hb hby own_d_jdk_29_method_65_2) rfl (tlt hc2_1).1 (by decide) (by decide) k_) ?_
    refine own_go (s₁.setTop (mkF m 10 #[.val (.int x), .val (.int y)] [(.int y)])) (fun t_ k_ => XS.iloadN X0.here hx rfl (hb hby own_d_jdk_29_method_65_9) rfl k_) ?_
    obtain ⟨fs, hr, hrun, hended, hW, hsame⟩ := X0.leave (v := some (.int y)) (fun h => by rw [Bd.returns] at h; cases h)
    refine ⟨_, _, retI X0 hx Bd.returns (hb hby own_d_jdk_29_method_65_10) hr, hrun, hended, _, _, rfl, ?_, ⟨_, rfl⟩, hW, hsame.mono (by decide) (by decide)⟩
    show Q_mx Z x y h0 _ s₁.heap _
    exact ⟨by simp [own_max, hc2_1], N0, e0⟩
  ·
    refine own_go (s₁.setTop (mkF m 5 #[.val (.int x), .val (.int y)] [])) (fun t_ k_ => XS.icmpNo X0.here hx rfl (hb hby own_d_jdk_29_method_65_2) rfl (flt hc2_1).1 k_) ?_
    refine own_go (s₁.setTop (mkF m 6 #[.val (.int x), .val (.int y)] [(.int x)])) (fun t_ k_ => XS.iloadN X0.here hx rfl (hb hby own_d_jdk_29_method_65_5) rfl k_) ?_
    refine own_go (s₁.setTop (mkF m 10 #[.val (.int x), .val (.int y)] [(.int x)])) (fun t_ k_ => XS.goto X0.here hx rfl (pc0 := 6) (pc' := 10) rfl (hb hby own_d_jdk_29_method_65_6) (by decide) (by decide) k_) ?_
    obtain ⟨fs, hr, hrun, hended, hW, hsame⟩ := X0.leave (v := some (.int x)) (fun h => by rw [Bd.returns] at h; cases h)
    refine ⟨_, _, retI X0 hx Bd.returns (hb hby own_d_jdk_29_method_65_10) hr, hrun, hended, _, _, rfl, ?_, ⟨_, rfl⟩, hW, hsame.mono (by decide) (by decide)⟩
    show Q_mx Z x y h0 _ s₁.heap _
    exact ⟨by simp [own_max, hc2_1], N0, e0⟩
theorem own_pn0 : plainName "com/example/eager_quorum/eagerquorum/model/LogicalClock" = true := by first | (simp [plainName, overriddenIn]; done) | decide +kernel
theorem own_ef_rr (m : MethodId) (t : Int64) : entryFrame m #[(.long t)] 2 = mkF m 0 #[.val (.long t), .second] [] := by first | (simp [entryFrame, mkF, argsToLocals, Value.category]; done) | rfl
theorem own_d_prog_29_method_5_0 : decode prog_29_method_5_code 0 = .ok (.lload_n 0, 1) := by decide +kernel
theorem own_d_prog_29_method_5_1 : decode prog_29_method_5_code 1 = .ok (.lconst 0, 1) := by decide +kernel
theorem own_d_prog_29_method_5_2 : decode prog_29_method_5_code 2 = .ok (.lcmp, 1) := by decide +kernel
theorem own_d_prog_29_method_5_3 : decode prog_29_method_5_code 3 = .ok (.ifCond .ge 17, 3) := by decide +kernel
theorem own_d_prog_29_method_5_20 : decode prog_29_method_5_code 20 = .ok (.lload_n 0, 1) := by decide +kernel
theorem own_d_prog_29_method_5_21 : decode prog_29_method_5_code 21 = .ok (.lreturn, 1) := by decide +kernel
def Q_rr (Z : State) (t : Int64) (h0 : Heap) (v_ : Option Value) (h : Heap) (L_ : List Loc) : Prop := v_ = some (.long t) ∧ Fr Z.heap.size L_ ∧ (h = h0)
set_option maxRecDepth 65536 in
set_option maxHeartbeats 40000000 in
theorem rm_rr (l : Launch) (Z : State) (a0 : Array Value) (hw : ∀ d ∈ tables_1, d.before a0 Z = true) (ws : List Jvm.Cond) (t : Int64) (h0 : Heap) (O : Ext Z.heap h0) (ht : ¬ t < 0) :
    MetFree l (⟨"com/example/eager_quorum/eagerquorum/model/LogicalClock", "requireReading", "(J)J"⟩ : MethodName) (head1 (Jvm.Cond.code (⟨"com/example/eager_quorum/eagerquorum/model/LogicalClock", "requireReading", "(J)J"⟩ : MethodName) prog_29_method_5_code 2 (some .long) :: ws) ({ frames := 0, cells := 0, slots := 0, locals := 0 } : Room)) (fun a_ U_ => a_ = #[(.long t)] ∧ Z.Warmed39 U_.vm ∧ U_.heap = h0) (fun _ _ _ _ _ => True) (fun _ U_ o_ U2_ => ∃ v_ L_, o_ = .returned v_ ∧ Q_rr Z t h0 v_ U2_.heap L_ ∧ FrameEnd U_ o_ U2_ L_ ({ frames := 0, cells := 0, slots := 0, locals := 0 } : Room).cells ({ frames := 0, cells := 0, slots := 0, locals := 0 } : Room).slots) := by
  refine MetFree.of_bodySF (plainFor_of_name own_pn0) hisR ?_
  intro p e s m args below meth c s₁ Bd hml0 hP hK
  obtain ⟨rfl, hZ, hh⟩ := hP
  have hx := Bd.exec
  have hby := Bd.bytes
  have hml : c.maxLocals = 2 := hml0
  have hown : s.vm.findClass "com/example/eager_quorum/eagerquorum/model/LogicalClock" = some m.cls := findClass_of_methodNamed Bd.named
  have hnm := (name_of_methodNamed Bd.named Bd.method).1
  have X0 : Stand p l e ({ frames := 0, cells := 0, slots := 0, locals := 0 } : Room) s m #[(.long t)] below meth c s₁ [] 0 0 := Stand.of_body Bd
  have e0 : s₁.heap = h0 := by rw [← hh, Bd.state]; rfl
  have N0 := Fr.nil Z.heap.size
  show own_G p e below (fun o_ s₂ => ∃ v_ L_, o_ = .returned v_ ∧ Q_rr Z t h0 v_ s₂.heap L_ ∧ FrameEnd s o_ s₂ L_ ({ frames := 0, cells := 0, slots := 0, locals := 0 } : Room).cells ({ frames := 0, cells := 0, slots := 0, locals := 0 } : Room).slots) (s₁.setTop (entryFrame m #[(.long t)] 2))
  refine own_go (s₁.setTop (mkF m 0 #[.val (.long t), .second] [])) (fun t_ k_ => castTop (own_ef_rr m t) k_) ?_
  refine own_go (s₁.setTop (mkF m 1 #[.val (.long t), .second] [(.long t)])) (fun t_ k_ => XS.lloadN X0.here hx rfl (hb hby own_d_prog_29_method_5_0) rfl k_) ?_
  refine own_go (s₁.setTop (mkF m 2 #[.val (.long t), .second] [(.long (0 : Int64)), (.long t)])) (fun t_ k_ => XS.lconst X0.here hx rfl (hb hby own_d_prog_29_method_5_1) k_) ?_
  refine own_go (s₁.setTop (mkF m 3 #[.val (.long t), .second] [(.int (lcmpW t (0 : Int64)))])) (fun t_ k_ => XS.lcmp X0.here hx rfl (hb hby own_d_prog_29_method_5_2) rfl k_) ?_
  refine own_go (s₁.setTop (mkF m 20 #[.val (.long t), .second] [])) (fun t_ k_ => XS.ifYes X0.here hx rfl (pc0 := 3) (pc' := 20) rfl (hb hby own_d_prog_29_method_5_3) rfl ((if0 _ _).trans (flt (fun q => ht (own_lt.mp q))).2.1) (by decide) (by decide) k_) ?_
  refine own_go (s₁.setTop (mkF m 21 #[.val (.long t), .second] [(.long t)])) (fun t_ k_ => XS.lloadN X0.here hx rfl (hb hby own_d_prog_29_method_5_20) rfl k_) ?_
  obtain ⟨fs, hr, hrun, hended, hW, hsame⟩ := X0.leave (v := some (.long t)) (fun h => by rw [Bd.returns] at h; cases h)
  refine ⟨_, _, Jvm.RoadKit.retOut X0 hx Bd.returns rfl (Or.inr (Or.inl ⟨rfl, rfl, _, rfl⟩)) (hb hby own_d_prog_29_method_5_21) hr, hrun, hended, _, _, rfl, ?_, ⟨_, rfl⟩, hW, hsame.mono (by decide) (by decide)⟩
  show Q_rr Z t h0 _ s₁.heap _
  exact ⟨rfl, N0, e0⟩
theorem own_pn1 : plainName "com/example/eager_quorum/eagerquorum/model/Stamp" = true := by first | (simp [plainName, overriddenIn]; done) | decide +kernel
theorem own_ef_si (m : MethodId) (a : Addr) (x : Int64) (y : Int32) : entryFrame m #[(.ref a), (.long x), (.int y)] 4 = mkF m 0 #[.val (.ref a), .val (.long x), .second, .val (.int y)] [] := by first | (simp [entryFrame, mkF, argsToLocals, Value.category]; done) | rfl
theorem own_d_prog_38_method_1_0 : decode prog_38_method_1_code 0 = .ok (.aload_n 0, 1) := by decide +kernel
theorem own_d_prog_38_method_1_1 : decode prog_38_method_1_code 1 = .ok (.invokespecial 1, 3) := by decide +kernel
theorem own_d_prog_38_method_1_4 : decode prog_38_method_1_code 4 = .ok (.iload_n 3, 1) := by decide +kernel
theorem own_d_prog_38_method_1_5 : decode prog_38_method_1_code 5 = .ok (.iconst 1, 1) := by decide +kernel
theorem own_d_prog_38_method_1_6 : decode prog_38_method_1_code 6 = .ok (.if_icmp .ge 17, 3) := by decide +kernel
theorem own_d_prog_38_method_1_23 : decode prog_38_method_1_code 23 = .ok (.aload_n 0, 1) := by decide +kernel
theorem own_d_prog_38_method_1_24 : decode prog_38_method_1_code 24 = .ok (.lload_n 1, 1) := by decide +kernel
theorem own_d_prog_38_method_1_25 : decode prog_38_method_1_code 25 = .ok (.invokestatic 16, 3) := by decide +kernel
theorem own_pd0 : parseMethodDescriptor "(J)J" = some ⟨[.long], some .long⟩ := by decide +kernel
theorem own_d_prog_38_method_1_28 : decode prog_38_method_1_code 28 = .ok (.putfield 22, 3) := by decide +kernel
theorem own_d_prog_38_method_1_31 : decode prog_38_method_1_code 31 = .ok (.aload_n 0, 1) := by decide +kernel
theorem own_d_prog_38_method_1_32 : decode prog_38_method_1_code 32 = .ok (.iload_n 3, 1) := by decide +kernel
theorem own_d_prog_38_method_1_33 : decode prog_38_method_1_code 33 = .ok (.putfield 28, 3) := by decide +kernel
theorem own_d_prog_38_method_1_36 : decode prog_38_method_1_code 36 = .ok (.return_, 1) := by decide +kernel
def Q_si (Z : State) (a : Addr) (x : Int64) (y : Int32) (h0 : Heap) (v_ : Option Value) (h : Heap) (L_ : List Loc) : Prop := v_ = none ∧ Fr Z.heap.size L_ ∧ (Keep h0 h [a] ∧ Exa Z h a "com/example/eager_quorum/eagerquorum/model/Stamp" ∧ Fld Z h a "com/example/eager_quorum/eagerquorum/model/Stamp" "time" "J" (.long x) ∧ Fld Z h a "com/example/eager_quorum/eagerquorum/model/Stamp" "process" "I" (.int y))
set_option maxRecDepth 65536 in
set_option maxHeartbeats 40000000 in
theorem rm_si (l : Launch) (Z : State) (a0 : Array Value) (hw : ∀ d ∈ tables_1, d.before a0 Z = true) (ws : List Jvm.Cond) (a : Addr) (x : Int64) (y : Int32) (h0 : Heap) (O : Ext Z.heap h0) (X : Exa Z h0 a "com/example/eager_quorum/eagerquorum/model/Stamp") (F : Fld Z h0 a "com/example/eager_quorum/eagerquorum/model/Stamp" "time" "J" (.long (0 : Int64))) (G : Fld Z h0 a "com/example/eager_quorum/eagerquorum/model/Stamp" "process" "I" (.int (0 : Int32))) (ga : Z.heap.size ≤ a) (hx0 : ¬ x < 0) (hy0 : ¬ y < 1) :
    MetFree l (⟨"com/example/eager_quorum/eagerquorum/model/Stamp", "<init>", "(JI)V"⟩ : MethodName) (head1 (Jvm.Cond.code (⟨"com/example/eager_quorum/eagerquorum/model/Stamp", "<init>", "(JI)V"⟩ : MethodName) prog_38_method_1_code 4 none :: ws) ({ frames := 1, cells := 0, slots := 0, locals := 14 } : Room)) (fun a_ U_ => a_ = #[(.ref a), (.long x), (.int y)] ∧ Z.Warmed39 U_.vm ∧ U_.heap = h0) (fun _ _ _ _ _ => True) (fun _ U_ o_ U2_ => ∃ v_ L_, o_ = .returned v_ ∧ Q_si Z a x y h0 v_ U2_.heap L_ ∧ FrameEnd U_ o_ U2_ L_ ({ frames := 1, cells := 0, slots := 0, locals := 14 } : Room).cells ({ frames := 1, cells := 0, slots := 0, locals := 14 } : Room).slots) := by
  refine MetFree.of_bodySF (plainFor_of_name own_pn1) hisR ?_
  intro p e s m args below meth c s₁ Bd hml0 hP hK
  obtain ⟨rfl, hZ, hh⟩ := hP
  have hx := Bd.exec
  have hby := Bd.bytes
  have hml : c.maxLocals = 4 := hml0
  have hown : s.vm.findClass "com/example/eager_quorum/eagerquorum/model/Stamp" = some m.cls := findClass_of_methodNamed Bd.named
  have hnm := (name_of_methodNamed Bd.named Bd.method).1
  have X0 : Stand p l e ({ frames := 1, cells := 0, slots := 0, locals := 14 } : Room) s m #[(.ref a), (.long x), (.int y)] below meth c s₁ [] 0 0 := Stand.of_body Bd
  have e0 : s₁.heap = h0 := by rw [← hh, Bd.state]; rfl
  have N0 := Fr.nil Z.heap.size
  show own_G p e below (fun o_ s₂ => ∃ v_ L_, o_ = .returned v_ ∧ Q_si Z a x y h0 v_ s₂.heap L_ ∧ FrameEnd s o_ s₂ L_ ({ frames := 1, cells := 0, slots := 0, locals := 14 } : Room).cells ({ frames := 1, cells := 0, slots := 0, locals := 14 } : Room).slots) (s₁.setTop (entryFrame m #[(.ref a), (.long x), (.int y)] 4))
  refine own_go (s₁.setTop (mkF m 0 #[.val (.ref a), .val (.long x), .second, .val (.int y)] [])) (fun t_ k_ => castTop (own_ef_si m a x y) k_) ?_
  refine own_go (s₁.setTop (mkF m 1 #[.val (.ref a), .val (.long x), .second, .val (.int y)] [(.ref a)])) (fun t_ k_ => XS.aloadN X0.here hx rfl (hb hby own_d_prog_38_method_1_0) rfl rfl k_) ?_
  obtain ⟨T1, X1, e1, st1⟩ := initO X0 hx hZ hown (hw _ (List.mem_of_getElem? (i := 12) rfl)) (hw _ (List.mem_of_getElem? (i := 13) rfl)) (hw _ (List.mem_of_getElem? (i := 14) rfl)) e0 (g := (mkF m 1 #[.val (.ref a), .val (.long x), .second, .val (.int y)] [(.ref a)])) rfl (by rw [hml]; rfl) rfl (hb hby own_d_prog_38_method_1_1) (by decide) (W := 0) (by show 2 * 0 + _ ≤ _; exact Nat.le_of_eq rfl) (by decide)
  refine own_go (T1.setTop (mkF m 4 #[.val (.ref a), .val (.long x), .second, .val (.int y)] [])) (fun t_ k_ => st1 _ k_) ?_
  refine own_go (T1.setTop (mkF m 5 #[.val (.ref a), .val (.long x), .second, .val (.int y)] [(.int y)])) (fun t_ k_ => XS.iloadN X1.here hx rfl (hb hby own_d_prog_38_method_1_4) rfl k_) ?_
  refine own_go (T1.setTop (mkF m 6 #[.val (.ref a), .val (.long x), .second, .val (.int y)] [(.int (1 : Int32)), (.int y)])) (fun t_ k_ => XS.iconst X1.here hx rfl (hb hby own_d_prog_38_method_1_5) k_) ?_
  refine own_go (T1.setTop (mkF m 23 #[.val (.ref a), .val (.long x), .second, .val (.int y)] [])) (fun t_ k_ => XS.icmpYes X1.here hx rfl (pc0 := 6) (pc' := 23) rfl (hb hby own_d_prog_38_method_1_6) rfl (flt hy0).2.1 (by decide) (by decide) k_) ?_
  refine own_go (T1.setTop (mkF m 24 #[.val (.ref a), .val (.long x), .second, .val (.int y)] [(.ref a)])) (fun t_ k_ => XS.aloadN X1.here hx rfl (hb hby own_d_prog_38_method_1_23) rfl rfl k_) ?_
  refine own_go (T1.setTop (mkF m 25 #[.val (.ref a), .val (.long x), .second, .val (.int y)] [(.long x), (.ref a)])) (fun t_ k_ => XS.lloadN X1.here hx rfl (hb hby own_d_prog_38_method_1_24) rfl k_) ?_
  obtain ⟨_, _, ⟨T2, Lu2, ku2, nu2⟩, -, X2, ⟨Lc2, hQ2, lu2, yu2, zu2⟩, st2⟩ := Jvm.LawKit.callS X1 hx (y := (⟨"com/example/eager_quorum/eagerquorum/model/LogicalClock", "requireReading", "(J)J"⟩ : MethodName)) hown (mvT hZ (hw _ (List.mem_of_getElem? (i := 15) rfl))) (mvT hZ (hw _ (List.mem_of_getElem? (i := 16) rfl))) (mvT hZ (hw _ (List.mem_of_getElem? (i := 17) rfl))) (mvT hZ (hw _ (List.mem_of_getElem? (i := 18) rfl))) (by decide) (backOf (W := 1) (rm_rr l Z a0 hw [] (x) h0 O hx0) hZ (hw _ (List.mem_of_getElem? (i := 18) rfl)) (hw _ (List.mem_of_getElem? (i := 17) rfl)) (by decide) (by decide)) (g := (mkF m 25 #[.val (.ref a), .val (.long x), .second, .val (.int y)] [(.long x), (.ref a)])) rfl (by rw [hml]; rfl) (argsL := [(.long x)]) (rest := [(.ref a)]) (lenOf own_pd0 rfl) rfl (by show 2 * 0 + _ ≤ _; exact Nat.le_of_eq rfl) (hb hby own_d_prog_38_method_1_25) (fun _ _ => ⟨rfl, e1, (by decide : 0 + 0 ≤ _), (by decide : 0 + 0 ≤ _)⟩)
  dsimp only [Pt.U, Pt.locs, Pt.cells, Pt.slots] at X2 lu2 yu2 zu2 st2 hQ2
  subst lu2 yu2 zu2
  obtain ⟨rfl, N2q, e2⟩ := hQ2
  have N2 := Fr.app N0 N2q
  refine own_go (T2.setTop (mkF m 28 #[.val (.ref a), .val (.long x), .second, .val (.int y)] [(.long x), (.ref a)])) (fun t_ k_ => st2 _ k_) ?_
  obtain ⟨T3, h3, X3, e3, W3, st3⟩ := putF X2 hx hZ hown (host := "") (Or.inl (hw _ (List.mem_of_getElem? (i := 19) rfl))) Via.refl e2 F X (Or.inr ⟨(hw _ (List.mem_of_getElem? (i := 20) rfl)), rfl, hnm⟩) (hw _ (List.mem_of_getElem? (i := 7) rfl)) (ty := .long) (by decide) rfl rfl (g := (mkF m 28 #[.val (.ref a), .val (.long x), .second, .val (.int y)] [(.long x), (.ref a)])) rfl rfl (hb hby own_d_prog_38_method_1_28)
  have Fw3 := F.same W3
  have K3 : Keep h0 h3 [a] := (Keep.refl h0 [a]).wr W3 (Or.inl (List.mem_of_getElem? (i := 0) rfl))
  have N3 := Fr.snoc X3 N2 ga
  have O3 := own_extW O W3 ga
  refine own_go (T3.setTop (mkF m 31 #[.val (.ref a), .val (.long x), .second, .val (.int y)] [])) (fun t_ k_ => st3 _ k_) ?_
  refine own_go (T3.setTop (mkF m 32 #[.val (.ref a), .val (.long x), .second, .val (.int y)] [(.ref a)])) (fun t_ k_ => XS.aloadN X3.here hx rfl (hb hby own_d_prog_38_method_1_31) rfl rfl k_) ?_
  refine own_go (T3.setTop (mkF m 33 #[.val (.ref a), .val (.long x), .second, .val (.int y)] [(.int y), (.ref a)])) (fun t_ k_ => XS.iloadN X3.here hx rfl (hb hby own_d_prog_38_method_1_32) rfl k_) ?_
  have Fz4 := (X.wr W3)
  have Fz5 := (G.other W3 (Or.inr (slot_ne (a0 := a0) (Or.inr (hw _ (List.mem_of_getElem? (i := 22) rfl))) (Or.inr (hw _ (List.mem_of_getElem? (i := 20) rfl))) (by decide) (t := .int) (t' := .long) (by decide) (by decide))))
  obtain ⟨T6, h6, X6, e6, W6, st6⟩ := putF X3 hx hZ hown (host := "") (Or.inl (hw _ (List.mem_of_getElem? (i := 21) rfl))) Via.refl e3 Fz5 Fz4 (Or.inr ⟨(hw _ (List.mem_of_getElem? (i := 22) rfl)), rfl, hnm⟩) (hw _ (List.mem_of_getElem? (i := 7) rfl)) (ty := .int) (by decide) rfl rfl (g := (mkF m 33 #[.val (.ref a), .val (.long x), .second, .val (.int y)] [(.int y), (.ref a)])) rfl rfl (hb hby own_d_prog_38_method_1_33)
  have Fw6 := Fz5.same W6
  have K6 : Keep h0 h6 [a] := K3.wr W6 (Or.inl (List.mem_of_getElem? (i := 0) rfl))
  have N6 := Fr.snoc X6 N3 ga
  have O6 := own_extW O3 W6 ga
  refine own_go (T6.setTop (mkF m 36 #[.val (.ref a), .val (.long x), .second, .val (.int y)] [])) (fun t_ k_ => st6 _ k_) ?_
  obtain ⟨fs, hr, hrun, hended, hW, hsame⟩ := X6.leave (v := none) (fun _ => rfl)
  refine ⟨_, _, X6.returnOut hx Bd.returns (hb hby own_d_prog_38_method_1_36) hr, hrun, hended, _, _, rfl, ?_, ⟨_, rfl⟩, hW, hsame.mono (by decide) (by decide)⟩
  show Q_si Z a x y h0 _ T6.heap _
  have Fz7 := (Fz4.wr W6)
  have Fz8 := (Fw3.other W6 (Or.inr (slot_ne (a0 := a0) (Or.inr (hw _ (List.mem_of_getElem? (i := 20) rfl))) (Or.inr (hw _ (List.mem_of_getElem? (i := 22) rfl))) (by decide) (t := .long) (t' := .int) (by decide) (by decide))))
  show Q_si Z a x y h0 _ T6.heap _
  rw [e6]
  exact ⟨rfl, N6, K6, Fz7, Fz8, Fw6⟩
theorem own_ef_eS (m : MethodId) (a : Addr) (b : Addr) : entryFrame m #[(.ref a), (.ref b)] 3 = mkF m 0 #[.val (.ref a), .val (.ref b), .unset] [] := by first | (simp [entryFrame, mkF, argsToLocals, Value.category]; done) | rfl
theorem own_d_prog_38_method_6_0 : decode prog_38_method_6_code 0 = .ok (.aload_n 1, 1) := by decide +kernel
theorem own_d_prog_38_method_6_1 : decode prog_38_method_6_code 1 = .ok (.instanceof 23, 3) := by decide +kernel
theorem own_d_prog_38_method_6_4 : decode prog_38_method_6_code 4 = .ok (.ifCond .eq 11, 3) := by decide +kernel
theorem own_d_prog_38_method_6_7 : decode prog_38_method_6_code 7 = .ok (.aload_n 1, 1) := by decide +kernel
theorem own_d_prog_38_method_6_8 : decode prog_38_method_6_code 8 = .ok (.checkcast 23, 3) := by decide +kernel
theorem own_d_prog_38_method_6_11 : decode prog_38_method_6_code 11 = .ok (.astore_n 2, 1) := by decide +kernel
theorem own_d_prog_38_method_6_12 : decode prog_38_method_6_code 12 = .ok (.goto 5, 3) := by decide +kernel
theorem own_d_prog_38_method_6_17 : decode prog_38_method_6_code 17 = .ok (.aload_n 0, 1) := by decide +kernel
theorem own_d_prog_38_method_6_18 : decode prog_38_method_6_code 18 = .ok (.getfield 22, 3) := by decide +kernel
theorem own_d_prog_38_method_6_21 : decode prog_38_method_6_code 21 = .ok (.aload_n 2, 1) := by decide +kernel
theorem own_d_prog_38_method_6_22 : decode prog_38_method_6_code 22 = .ok (.getfield 22, 3) := by decide +kernel
theorem own_d_prog_38_method_6_25 : decode prog_38_method_6_code 25 = .ok (.lcmp, 1) := by decide +kernel
theorem own_d_prog_38_method_6_26 : decode prog_38_method_6_code 26 = .ok (.ifCond .ne 18, 3) := by decide +kernel
theorem own_d_prog_38_method_6_29 : decode prog_38_method_6_code 29 = .ok (.aload_n 0, 1) := by decide +kernel
theorem own_d_prog_38_method_6_30 : decode prog_38_method_6_code 30 = .ok (.getfield 28, 3) := by decide +kernel
theorem own_d_prog_38_method_6_33 : decode prog_38_method_6_code 33 = .ok (.aload_n 2, 1) := by decide +kernel
theorem own_d_prog_38_method_6_34 : decode prog_38_method_6_code 34 = .ok (.getfield 28, 3) := by decide +kernel
theorem own_d_prog_38_method_6_37 : decode prog_38_method_6_code 37 = .ok (.if_icmp .ne 7, 3) := by decide +kernel
theorem own_d_prog_38_method_6_40 : decode prog_38_method_6_code 40 = .ok (.iconst 1, 1) := by decide +kernel
theorem own_d_prog_38_method_6_41 : decode prog_38_method_6_code 41 = .ok (.goto 4, 3) := by decide +kernel
theorem own_d_prog_38_method_6_45 : decode prog_38_method_6_code 45 = .ok (.ireturn, 1) := by decide +kernel
theorem own_d_prog_38_method_6_44 : decode prog_38_method_6_code 44 = .ok (.iconst 0, 1) := by decide +kernel
def Q_eS (Z : State) (a : Addr) (b : Addr) (x : Int64) (y : Int32) (u : Int64) (v : Int32) (h0 : Heap) (v_ : Option Value) (h : Heap) (L_ : List Loc) : Prop := v_ = some (.int (if x = u then if y = v then 1 else 0 else 0)) ∧ Fr Z.heap.size L_ ∧ (h = h0)
set_option maxRecDepth 65536 in
set_option maxHeartbeats 40000000 in
theorem rm_eS (l : Launch) (Z : State) (a0 : Array Value) (hw : ∀ d ∈ tables_1, d.before a0 Z = true) (ws : List Jvm.Cond) (a : Addr) (b : Addr) (x : Int64) (y : Int32) (u : Int64) (v : Int32) (h0 : Heap) (O : Ext Z.heap h0) (Xb : Exa Z h0 b "com/example/eager_quorum/eagerquorum/model/Stamp") (F1 : Fld Z h0 a "com/example/eager_quorum/eagerquorum/model/Stamp" "time" "J" (.long x)) (F2 : Fld Z h0 a "com/example/eager_quorum/eagerquorum/model/Stamp" "process" "I" (.int y)) (G1 : Fld Z h0 b "com/example/eager_quorum/eagerquorum/model/Stamp" "time" "J" (.long u)) (G2 : Fld Z h0 b "com/example/eager_quorum/eagerquorum/model/Stamp" "process" "I" (.int v)) :
    MetFree l (⟨"com/example/eager_quorum/eagerquorum/model/Stamp", "equals", "(Ljava/lang/Object;)Z"⟩ : MethodName) (head1 (Jvm.Cond.code (⟨"com/example/eager_quorum/eagerquorum/model/Stamp", "equals", "(Ljava/lang/Object;)Z"⟩ : MethodName) prog_38_method_6_code 3 (some .boolean) :: ws) ({ frames := 0, cells := 0, slots := 0, locals := 0 } : Room)) (fun a_ U_ => a_ = #[(.ref a), (.ref b)] ∧ Z.Warmed39 U_.vm ∧ U_.heap = h0) (fun _ _ _ _ _ => True) (fun _ U_ o_ U2_ => ∃ v_ L_, o_ = .returned v_ ∧ Q_eS Z a b x y u v h0 v_ U2_.heap L_ ∧ FrameEnd U_ o_ U2_ L_ ({ frames := 0, cells := 0, slots := 0, locals := 0 } : Room).cells ({ frames := 0, cells := 0, slots := 0, locals := 0 } : Room).slots) := by
  refine MetFree.of_bodySF (plainFor_of_name own_pn1) hisR ?_
  intro p e s m args below meth c s₁ Bd hml0 hP hK
  obtain ⟨rfl, hZ, hh⟩ := hP
  have hx := Bd.exec
  have hby := Bd.bytes
  have hml : c.maxLocals = 3 := hml0
  have hown : s.vm.findClass "com/example/eager_quorum/eagerquorum/model/Stamp" = some m.cls := findClass_of_methodNamed Bd.named
  have hnm := (name_of_methodNamed Bd.named Bd.method).1
  have X0 : Stand p l e ({ frames := 0, cells := 0, slots := 0, locals := 0 } : Room) s m #[(.ref a), (.ref b)] below meth c s₁ [] 0 0 := Stand.of_body Bd
  have e0 : s₁.heap = h0 := by rw [← hh, Bd.state]; rfl
  have N0 := Fr.nil Z.heap.size
  show own_G p e below (fun o_ s₂ => ∃ v_ L_, o_ = .returned v_ ∧ Q_eS Z a b x y u v h0 v_ s₂.heap L_ ∧ FrameEnd s o_ s₂ L_ ({ frames := 0, cells := 0, slots := 0, locals := 0 } : Room).cells ({ frames := 0, cells := 0, slots := 0, locals := 0 } : Room).slots) (s₁.setTop (entryFrame m #[(.ref a), (.ref b)] 3))
  refine own_go (s₁.setTop (mkF m 0 #[.val (.ref a), .val (.ref b), .unset] [])) (fun t_ k_ => castTop (own_ef_eS m a b) k_) ?_
  refine own_go (s₁.setTop (mkF m 1 #[.val (.ref a), .val (.ref b), .unset] [(.ref b)])) (fun t_ k_ => XS.aloadN X0.here hx rfl (hb hby own_d_prog_38_method_6_0) rfl rfl k_) ?_
  obtain ⟨T1, X1, e1, st1⟩ := instY X0 hx hZ hown (hw _ (List.mem_of_getElem? (i := 28) rfl)) e0 (Ins.self Xb) (g := (mkF m 1 #[.val (.ref a), .val (.ref b), .unset] [(.ref b)])) rfl rfl (hb hby own_d_prog_38_method_6_1)
  refine own_go (T1.setTop (mkF m 4 #[.val (.ref a), .val (.ref b), .unset] [(.int (1 : Int32))])) (fun t_ k_ => st1 _ k_) ?_
  refine own_go (T1.setTop (mkF m 7 #[.val (.ref a), .val (.ref b), .unset] [])) (fun t_ k_ => XS.ifNo X1.here hx rfl (hb hby own_d_prog_38_method_6_4) rfl ((if0 _ _).trans (feq (by decide : ¬ ((1 : Int32) = (0 : Int32)))).1) k_) ?_
  refine own_go (T1.setTop (mkF m 8 #[.val (.ref a), .val (.ref b), .unset] [(.ref b)])) (fun t_ k_ => XS.aloadN X1.here hx rfl (hb hby own_d_prog_38_method_6_7) rfl rfl k_) ?_
  obtain ⟨T2, X2, e2, st2⟩ := castY X1 hx hZ hown (hw _ (List.mem_of_getElem? (i := 28) rfl)) e1 (Ins.self Xb) (g := (mkF m 8 #[.val (.ref a), .val (.ref b), .unset] [(.ref b)])) rfl rfl (hb hby own_d_prog_38_method_6_8)
  refine own_go (T2.setTop (mkF m 11 #[.val (.ref a), .val (.ref b), .unset] [(.ref b)])) (fun t_ k_ => st2 _ k_) ?_
  refine own_go (T2.setTop (mkF m 12 #[.val (.ref a), .val (.ref b), .val (.ref b)] [])) (fun t_ k_ => XS.astoreN X2.here hx rfl (hb hby own_d_prog_38_method_6_11) rfl rfl (l' := #[.val (.ref a), .val (.ref b), .val (.ref b)]) rfl k_) ?_
  refine own_go (T2.setTop (mkF m 17 #[.val (.ref a), .val (.ref b), .val (.ref b)] [])) (fun t_ k_ => XS.goto X2.here hx rfl (pc0 := 12) (pc' := 17) rfl (hb hby own_d_prog_38_method_6_12) (by decide) (by decide) k_) ?_
  refine own_go (T2.setTop (mkF m 18 #[.val (.ref a), .val (.ref b), .val (.ref b)] [(.ref a)])) (fun t_ k_ => XS.aloadN X2.here hx rfl (hb hby own_d_prog_38_method_6_17) rfl rfl k_) ?_
  obtain ⟨T3, X3, e3, st3⟩ := getF X2 hx hZ hown (host := "") (Or.inl (hw _ (List.mem_of_getElem? (i := 19) rfl))) Via.refl e2 F1 (g := (mkF m 18 #[.val (.ref a), .val (.ref b), .val (.ref b)] [(.ref a)])) rfl rfl (hb hby own_d_prog_38_method_6_18)
  refine own_go (T3.setTop (mkF m 21 #[.val (.ref a), .val (.ref b), .val (.ref b)] [(.long x)])) (fun t_ k_ => st3 _ k_) ?_
  refine own_go (T3.setTop (mkF m 22 #[.val (.ref a), .val (.ref b), .val (.ref b)] [(.ref b), (.long x)])) (fun t_ k_ => XS.aloadN X3.here hx rfl (hb hby own_d_prog_38_method_6_21) rfl rfl k_) ?_
  obtain ⟨T4, X4, e4, st4⟩ := getF X3 hx hZ hown (host := "") (Or.inl (hw _ (List.mem_of_getElem? (i := 19) rfl))) Via.refl e3 G1 (g := (mkF m 22 #[.val (.ref a), .val (.ref b), .val (.ref b)] [(.ref b), (.long x)])) rfl rfl (hb hby own_d_prog_38_method_6_22)
  refine own_go (T4.setTop (mkF m 25 #[.val (.ref a), .val (.ref b), .val (.ref b)] [(.long u), (.long x)])) (fun t_ k_ => st4 _ k_) ?_
  refine own_go (T4.setTop (mkF m 26 #[.val (.ref a), .val (.ref b), .val (.ref b)] [(.int (lcmpW x u))])) (fun t_ k_ => XS.lcmp X4.here hx rfl (hb hby own_d_prog_38_method_6_25) rfl k_) ?_
  by_cases hc26_5 : x = u
  ·
    refine own_go (T4.setTop (mkF m 29 #[.val (.ref a), .val (.ref b), .val (.ref b)] [])) (fun t_ k_ => XS.ifNo X4.here hx rfl (hb hby own_d_prog_38_method_6_26) rfl ((if0 _ _).trans (teq (own_eq.mpr hc26_5)).2) k_) ?_
    refine own_go (T4.setTop (mkF m 30 #[.val (.ref a), .val (.ref b), .val (.ref b)] [(.ref a)])) (fun t_ k_ => XS.aloadN X4.here hx rfl (hb hby own_d_prog_38_method_6_29) rfl rfl k_) ?_
    obtain ⟨T6, X6, e6, st6⟩ := getF X4 hx hZ hown (host := "") (Or.inl (hw _ (List.mem_of_getElem? (i := 21) rfl))) Via.refl e4 F2 (g := (mkF m 30 #[.val (.ref a), .val (.ref b), .val (.ref b)] [(.ref a)])) rfl rfl (hb hby own_d_prog_38_method_6_30)
    refine own_go (T6.setTop (mkF m 33 #[.val (.ref a), .val (.ref b), .val (.ref b)] [(.int y)])) (fun t_ k_ => st6 _ k_) ?_
    refine own_go (T6.setTop (mkF m 34 #[.val (.ref a), .val (.ref b), .val (.ref b)] [(.ref b), (.int y)])) (fun t_ k_ => XS.aloadN X6.here hx rfl (hb hby own_d_prog_38_method_6_33) rfl rfl k_) ?_
    obtain ⟨T7, X7, e7, st7⟩ := getF X6 hx hZ hown (host := "") (Or.inl (hw _ (List.mem_of_getElem? (i := 21) rfl))) Via.refl e6 G2 (g := (mkF m 34 #[.val (.ref a), .val (.ref b), .val (.ref b)] [(.ref b), (.int y)])) rfl rfl (hb hby own_d_prog_38_method_6_34)
    refine own_go (T7.setTop (mkF m 37 #[.val (.ref a), .val (.ref b), .val (.ref b)] [(.int v), (.int y)])) (fun t_ k_ => st7 _ k_) ?_
    by_cases hc37_8 : y = v
    ·
      refine own_go (T7.setTop (mkF m 40 #[.val (.ref a), .val (.ref b), .val (.ref b)] [])) (fun t_ k_ => XS.icmpNo X7.here hx rfl (hb hby own_d_prog_38_method_6_37) rfl (teq hc37_8).2 k_) ?_
      refine own_go (T7.setTop (mkF m 41 #[.val (.ref a), .val (.ref b), .val (.ref b)] [(.int (1 : Int32))])) (fun t_ k_ => XS.iconst X7.here hx rfl (hb hby own_d_prog_38_method_6_40) k_) ?_
      refine own_go (T7.setTop (mkF m 45 #[.val (.ref a), .val (.ref b), .val (.ref b)] [(.int (1 : Int32))])) (fun t_ k_ => XS.goto X7.here hx rfl (pc0 := 41) (pc' := 45) rfl (hb hby own_d_prog_38_method_6_41) (by decide) (by decide) k_) ?_
      obtain ⟨fs, hr, hrun, hended, hW, hsame⟩ := X7.leave (v := some (.int (nar .boolean (1 : Int32)))) (fun h => by rw [Bd.returns] at h; cases h)
      refine ⟨_, _, retN X7 hx (t := .boolean) Bd.returns (by simp) (hb hby own_d_prog_38_method_6_45) hr, hrun, hended, _, _, rfl, ?_, ⟨_, rfl⟩, hW, hsame.mono (by decide) (by decide)⟩
      show Q_eS Z a b x y u v h0 _ T7.heap _
      exact ⟨by first | (simp [hc26_5, hc37_8]; done) | (simp [hc26_5, hc37_8]; rfl), N0, e7⟩
    ·
      refine own_go (T7.setTop (mkF m 44 #[.val (.ref a), .val (.ref b), .val (.ref b)] [])) (fun t_ k_ => XS.icmpYes X7.here hx rfl (pc0 := 37) (pc' := 44) rfl (hb hby own_d_prog_38_method_6_37) rfl (feq hc37_8).2 (by decide) (by decide) k_) ?_
      refine own_go (T7.setTop (mkF m 45 #[.val (.ref a), .val (.ref b), .val (.ref b)] [(.int (0 : Int32))])) (fun t_ k_ => XS.iconst X7.here hx rfl (hb hby own_d_prog_38_method_6_44) k_) ?_
      obtain ⟨fs, hr, hrun, hended, hW, hsame⟩ := X7.leave (v := some (.int (nar .boolean (0 : Int32)))) (fun h => by rw [Bd.returns] at h; cases h)
      refine ⟨_, _, retN X7 hx (t := .boolean) Bd.returns (by simp) (hb hby own_d_prog_38_method_6_45) hr, hrun, hended, _, _, rfl, ?_, ⟨_, rfl⟩, hW, hsame.mono (by decide) (by decide)⟩
      show Q_eS Z a b x y u v h0 _ T7.heap _
      exact ⟨by first | (simp [hc26_5, hc37_8]; done) | (simp [hc26_5, hc37_8]; rfl), N0, e7⟩
  ·
    refine own_go (T4.setTop (mkF m 44 #[.val (.ref a), .val (.ref b), .val (.ref b)] [])) (fun t_ k_ => XS.ifYes X4.here hx rfl (pc0 := 26) (pc' := 44) rfl (hb hby own_d_prog_38_method_6_26) rfl ((if0 _ _).trans (feq (fun q => hc26_5 (own_eq.mp q))).2) (by decide) (by decide) k_) ?_
    refine own_go (T4.setTop (mkF m 45 #[.val (.ref a), .val (.ref b), .val (.ref b)] [(.int (0 : Int32))])) (fun t_ k_ => XS.iconst X4.here hx rfl (hb hby own_d_prog_38_method_6_44) k_) ?_
    obtain ⟨fs, hr, hrun, hended, hW, hsame⟩ := X4.leave (v := some (.int (nar .boolean (0 : Int32)))) (fun h => by rw [Bd.returns] at h; cases h)
    refine ⟨_, _, retN X4 hx (t := .boolean) Bd.returns (by simp) (hb hby own_d_prog_38_method_6_45) hr, hrun, hended, _, _, rfl, ?_, ⟨_, rfl⟩, hW, hsame.mono (by decide) (by decide)⟩
    show Q_eS Z a b x y u v h0 _ T4.heap _
    exact ⟨by first | (simp [hc26_5]; done) | (simp [hc26_5]; rfl), N0, e4⟩
theorem own_ef_eN (m : MethodId) (a : Addr) : entryFrame m #[(.ref a), .null] 3 = mkF m 0 #[.val (.ref a), .val .null, .unset] [] := by first | (simp [entryFrame, mkF, argsToLocals, Value.category]; done) | rfl
theorem own_d_prog_38_method_6_15 : decode prog_38_method_6_code 15 = .ok (.iconst 0, 1) := by decide +kernel
theorem own_d_prog_38_method_6_16 : decode prog_38_method_6_code 16 = .ok (.ireturn, 1) := by decide +kernel
def Q_eN (Z : State) (a : Addr) (h0 : Heap) (v_ : Option Value) (h : Heap) (L_ : List Loc) : Prop := v_ = some (.int 0) ∧ Fr Z.heap.size L_ ∧ (h = h0)
set_option maxRecDepth 65536 in
set_option maxHeartbeats 40000000 in
theorem rm_eN (l : Launch) (Z : State) (a0 : Array Value) (hw : ∀ d ∈ tables_1, d.before a0 Z = true) (ws : List Jvm.Cond) (a : Addr) (h0 : Heap) (O : Ext Z.heap h0) :
    MetFree l (⟨"com/example/eager_quorum/eagerquorum/model/Stamp", "equals", "(Ljava/lang/Object;)Z"⟩ : MethodName) (head1 (Jvm.Cond.code (⟨"com/example/eager_quorum/eagerquorum/model/Stamp", "equals", "(Ljava/lang/Object;)Z"⟩ : MethodName) prog_38_method_6_code 3 (some .boolean) :: ws) ({ frames := 0, cells := 0, slots := 0, locals := 0 } : Room)) (fun a_ U_ => a_ = #[(.ref a), .null] ∧ Z.Warmed39 U_.vm ∧ U_.heap = h0) (fun _ _ _ _ _ => True) (fun _ U_ o_ U2_ => ∃ v_ L_, o_ = .returned v_ ∧ Q_eN Z a h0 v_ U2_.heap L_ ∧ FrameEnd U_ o_ U2_ L_ ({ frames := 0, cells := 0, slots := 0, locals := 0 } : Room).cells ({ frames := 0, cells := 0, slots := 0, locals := 0 } : Room).slots) := by
  refine MetFree.of_bodySF (plainFor_of_name own_pn1) hisR ?_
  intro p e s m args below meth c s₁ Bd hml0 hP hK
  obtain ⟨rfl, hZ, hh⟩ := hP
  have hx := Bd.exec
  have hby := Bd.bytes
  have hml : c.maxLocals = 3 := hml0
  have hown : s.vm.findClass "com/example/eager_quorum/eagerquorum/model/Stamp" = some m.cls := findClass_of_methodNamed Bd.named
  have hnm := (name_of_methodNamed Bd.named Bd.method).1
  have X0 : Stand p l e ({ frames := 0, cells := 0, slots := 0, locals := 0 } : Room) s m #[(.ref a), .null] below meth c s₁ [] 0 0 := Stand.of_body Bd
  have e0 : s₁.heap = h0 := by rw [← hh, Bd.state]; rfl
  have N0 := Fr.nil Z.heap.size
  show own_G p e below (fun o_ s₂ => ∃ v_ L_, o_ = .returned v_ ∧ Q_eN Z a h0 v_ s₂.heap L_ ∧ FrameEnd s o_ s₂ L_ ({ frames := 0, cells := 0, slots := 0, locals := 0 } : Room).cells ({ frames := 0, cells := 0, slots := 0, locals := 0 } : Room).slots) (s₁.setTop (entryFrame m #[(.ref a), .null] 3))
  refine own_go (s₁.setTop (mkF m 0 #[.val (.ref a), .val .null, .unset] [])) (fun t_ k_ => castTop (own_ef_eN m a) k_) ?_
  refine own_go (s₁.setTop (mkF m 1 #[.val (.ref a), .val .null, .unset] [.null])) (fun t_ k_ => XS.aloadN X0.here hx rfl (hb hby own_d_prog_38_method_6_0) rfl rfl k_) ?_
  refine own_go (s₁.setTop (mkF m 4 #[.val (.ref a), .val .null, .unset] [(.int (0 : Int32))])) (fun t_ k_ => X0.instanceofNull hx (g := (mkF m 1 #[.val (.ref a), .val .null, .unset] [.null])) rfl rfl (hb hby own_d_prog_38_method_6_1) _ k_) ?_
  refine own_go (s₁.setTop (mkF m 15 #[.val (.ref a), .val .null, .unset] [])) (fun t_ k_ => XS.ifYes X0.here hx rfl (pc0 := 4) (pc' := 15) rfl (hb hby own_d_prog_38_method_6_4) rfl ((if0 _ _).trans (teq (by decide : (0 : Int32) = (0 : Int32))).1) (by decide) (by decide) k_) ?_
  refine own_go (s₁.setTop (mkF m 16 #[.val (.ref a), .val .null, .unset] [(.int (0 : Int32))])) (fun t_ k_ => XS.iconst X0.here hx rfl (hb hby own_d_prog_38_method_6_15) k_) ?_
  obtain ⟨fs, hr, hrun, hended, hW, hsame⟩ := X0.leave (v := some (.int (nar .boolean (0 : Int32)))) (fun h => by rw [Bd.returns] at h; cases h)
  refine ⟨_, _, retN X0 hx (t := .boolean) Bd.returns (by simp) (hb hby own_d_prog_38_method_6_16) hr, hrun, hended, _, _, rfl, ?_, ⟨_, rfl⟩, hW, hsame.mono (by decide) (by decide)⟩
  show Q_eN Z a h0 _ s₁.heap _
  exact ⟨rfl, N0, e0⟩
theorem own_root {Z : State} {a0 : Array Value} {O K : String} {n : Nat} (w : (Cond.noSuperclass O).before a0 Z = true) (wk : (Cond.instantiable K n).before a0 Z = true) (hn : O ≠ K) : NS Z O K := by
  obtain ⟨c, k, h1, h2, h3, -, -⟩ := Cond.noSuperclass_spec w
  obtain ⟨t, kt, g1, -⟩ := Cond.instantiable_spec wk
  have ne := ids_ne h1 g1 hn
  refine ⟨c, t, h1, g1, fun fuel => ?_⟩
  cases fuel with
  | zero => rfl
  | succ f => simp [Vm.isSubclassAux, ne, h2, h3]
theorem own_no {Z : State} {a0 : Array Value} {C S K : String} {n : Nat} (w : (Cond.superclass C S).before a0 Z = true) (wk : (Cond.instantiable K n).before a0 Z = true) (q : NS Z C K) (hn : C ≠ K) : ∃ c t, Z.vm.findClass C = some c ∧ Z.vm.findClass K = some t ∧ Z.vm.assignable c t = false := by
  obtain ⟨c, t, h0, g0, n3⟩ := q
  obtain ⟨p, k, kp, h1, h2, h3, h4, h5, -, h7⟩ := Cond.superclass_spec h0 w
  obtain ⟨t', k', g1, g2, g5, g7, -⟩ := Cond.instantiable_spec wk
  cases g0.symm.trans g1
  have ne := ids_ne h0 g0 hn
  have g8 : k'.isInterface = false := (Bool.or_eq_false_iff.mp g7).1
  refine ⟨c, t, h0, g0, ?_⟩
  show Z.vm.assignableAux (255 + 1) c t = false
  simp [Vm.assignableAux, ne, h2, g2, h5, g5, g8, Vm.isSubclass, n3]
theorem own_ef_eL (m : MethodId) (a : Addr) (b : Addr) : entryFrame m #[(.ref a), (.ref b)] 3 = mkF m 0 #[.val (.ref a), .val (.ref b), .unset] [] := by first | (simp [entryFrame, mkF, argsToLocals, Value.category]; done) | rfl
def Q_eL (Z : State) (a : Addr) (b : Addr) (h0 : Heap) (v_ : Option Value) (h : Heap) (L_ : List Loc) : Prop := v_ = some (.int 0) ∧ Fr Z.heap.size L_ ∧ (h = h0)
set_option maxRecDepth 65536 in
set_option maxHeartbeats 40000000 in
theorem rm_eL (l : Launch) (Z : State) (a0 : Array Value) (hw : ∀ d ∈ tables_1, d.before a0 Z = true) (ws : List Jvm.Cond) (a : Addr) (b : Addr) (h0 : Heap) (O : Ext Z.heap h0) (Xb : Exa Z h0 b "java/lang/Long") :
    MetFree l (⟨"com/example/eager_quorum/eagerquorum/model/Stamp", "equals", "(Ljava/lang/Object;)Z"⟩ : MethodName) (head1 (Jvm.Cond.code (⟨"com/example/eager_quorum/eagerquorum/model/Stamp", "equals", "(Ljava/lang/Object;)Z"⟩ : MethodName) prog_38_method_6_code 3 (some .boolean) :: ws) ({ frames := 0, cells := 0, slots := 0, locals := 0 } : Room)) (fun a_ U_ => a_ = #[(.ref a), (.ref b)] ∧ Z.Warmed39 U_.vm ∧ U_.heap = h0) (fun _ _ _ _ _ => True) (fun _ U_ o_ U2_ => ∃ v_ L_, o_ = .returned v_ ∧ Q_eL Z a b h0 v_ U2_.heap L_ ∧ FrameEnd U_ o_ U2_ L_ ({ frames := 0, cells := 0, slots := 0, locals := 0 } : Room).cells ({ frames := 0, cells := 0, slots := 0, locals := 0 } : Room).slots) := by
  refine MetFree.of_bodySF (plainFor_of_name own_pn1) hisR ?_
  intro p e s m args below meth c s₁ Bd hml0 hP hK
  obtain ⟨rfl, hZ, hh⟩ := hP
  have hx := Bd.exec
  have hby := Bd.bytes
  have hml : c.maxLocals = 3 := hml0
  have hown : s.vm.findClass "com/example/eager_quorum/eagerquorum/model/Stamp" = some m.cls := findClass_of_methodNamed Bd.named
  have hnm := (name_of_methodNamed Bd.named Bd.method).1
  have X0 : Stand p l e ({ frames := 0, cells := 0, slots := 0, locals := 0 } : Room) s m #[(.ref a), (.ref b)] below meth c s₁ [] 0 0 := Stand.of_body Bd
  have e0 : s₁.heap = h0 := by rw [← hh, Bd.state]; rfl
  have N0 := Fr.nil Z.heap.size
  show own_G p e below (fun o_ s₂ => ∃ v_ L_, o_ = .returned v_ ∧ Q_eL Z a b h0 v_ s₂.heap L_ ∧ FrameEnd s o_ s₂ L_ ({ frames := 0, cells := 0, slots := 0, locals := 0 } : Room).cells ({ frames := 0, cells := 0, slots := 0, locals := 0 } : Room).slots) (s₁.setTop (entryFrame m #[(.ref a), (.ref b)] 3))
  refine own_go (s₁.setTop (mkF m 0 #[.val (.ref a), .val (.ref b), .unset] [])) (fun t_ k_ => castTop (own_ef_eL m a b) k_) ?_
  refine own_go (s₁.setTop (mkF m 1 #[.val (.ref a), .val (.ref b), .unset] [(.ref b)])) (fun t_ k_ => XS.aloadN X0.here hx rfl (hb hby own_d_prog_38_method_6_0) rfl rfl k_) ?_
  obtain ⟨T1, X1, e1, st1⟩ := instNo X0 hx hZ hown (hw _ (List.mem_of_getElem? (i := 28) rfl)) e0 Xb (own_no (hw _ (List.mem_of_getElem? (i := 51) rfl)) (hw _ (List.mem_of_getElem? (i := 7) rfl)) (NS.step (hw _ (List.mem_of_getElem? (i := 51) rfl)) (NS.step (hw _ (List.mem_of_getElem? (i := 52) rfl)) (own_root (hw _ (List.mem_of_getElem? (i := 53) rfl)) (hw _ (List.mem_of_getElem? (i := 7) rfl)) (by decide)) (by decide)) (by decide)) (by decide)) (g := (mkF m 1 #[.val (.ref a), .val (.ref b), .unset] [(.ref b)])) rfl rfl (hb hby own_d_prog_38_method_6_1)
  refine own_go (T1.setTop (mkF m 4 #[.val (.ref a), .val (.ref b), .unset] [(.int (0 : Int32))])) (fun t_ k_ => st1 _ k_) ?_
  refine own_go (T1.setTop (mkF m 15 #[.val (.ref a), .val (.ref b), .unset] [])) (fun t_ k_ => XS.ifYes X1.here hx rfl (pc0 := 4) (pc' := 15) rfl (hb hby own_d_prog_38_method_6_4) rfl ((if0 _ _).trans (teq (by decide : (0 : Int32) = (0 : Int32))).1) (by decide) (by decide) k_) ?_
  refine own_go (T1.setTop (mkF m 16 #[.val (.ref a), .val (.ref b), .unset] [(.int (0 : Int32))])) (fun t_ k_ => XS.iconst X1.here hx rfl (hb hby own_d_prog_38_method_6_15) k_) ?_
  obtain ⟨fs, hr, hrun, hended, hW, hsame⟩ := X1.leave (v := some (.int (nar .boolean (0 : Int32)))) (fun h => by rw [Bd.returns] at h; cases h)
  refine ⟨_, _, retN X1 hx (t := .boolean) Bd.returns (by simp) (hb hby own_d_prog_38_method_6_16) hr, hrun, hended, _, _, rfl, ?_, ⟨_, rfl⟩, hW, hsame.mono (by decide) (by decide)⟩
  show Q_eL Z a b h0 _ T1.heap _
  exact ⟨rfl, N0, e1⟩
theorem own_pn2 : plainName "java/lang/Number" = true := by first | (simp [plainName, overriddenIn]; done) | decide +kernel
theorem own_ef_ni (m : MethodId) (a : Addr) : entryFrame m #[(.ref a)] 1 = mkF m 0 #[.val (.ref a)] [] := by first | (simp [entryFrame, mkF, argsToLocals, Value.category]; done) | rfl
theorem own_d_jdk_18_method_1_0 : decode jdk_18_method_1_code 0 = .ok (.aload_n 0, 1) := by decide +kernel
theorem own_d_jdk_18_method_1_1 : decode jdk_18_method_1_code 1 = .ok (.invokespecial 1, 3) := by decide +kernel
theorem own_d_jdk_18_method_1_4 : decode jdk_18_method_1_code 4 = .ok (.return_, 1) := by decide +kernel
def Q_ni (Z : State) (a : Addr) (h0 : Heap) (v_ : Option Value) (h : Heap) (L_ : List Loc) : Prop := v_ = none ∧ Fr Z.heap.size L_ ∧ (h = h0)
set_option maxRecDepth 65536 in
set_option maxHeartbeats 40000000 in
theorem rm_ni (l : Launch) (Z : State) (a0 : Array Value) (hw : ∀ d ∈ tables_1, d.before a0 Z = true) (ws : List Jvm.Cond) (a : Addr) (h0 : Heap) (O : Ext Z.heap h0) :
    MetFree l (⟨"java/lang/Number", "<init>", "()V"⟩ : MethodName) (head1 (Jvm.Cond.code (⟨"java/lang/Number", "<init>", "()V"⟩ : MethodName) jdk_18_method_1_code 1 none :: ws) ({ frames := 1, cells := 0, slots := 0, locals := 12 } : Room)) (fun a_ U_ => a_ = #[(.ref a)] ∧ Z.Warmed39 U_.vm ∧ U_.heap = h0) (fun _ _ _ _ _ => True) (fun _ U_ o_ U2_ => ∃ v_ L_, o_ = .returned v_ ∧ Q_ni Z a h0 v_ U2_.heap L_ ∧ FrameEnd U_ o_ U2_ L_ ({ frames := 1, cells := 0, slots := 0, locals := 12 } : Room).cells ({ frames := 1, cells := 0, slots := 0, locals := 12 } : Room).slots) := by
  refine MetFree.of_bodySF (plainFor_of_name own_pn2) hisR ?_
  intro p e s m args below meth c s₁ Bd hml0 hP hK
  obtain ⟨rfl, hZ, hh⟩ := hP
  have hx := Bd.exec
  have hby := Bd.bytes
  have hml : c.maxLocals = 1 := hml0
  have hown : s.vm.findClass "java/lang/Number" = some m.cls := findClass_of_methodNamed Bd.named
  have hnm := (name_of_methodNamed Bd.named Bd.method).1
  have X0 : Stand p l e ({ frames := 1, cells := 0, slots := 0, locals := 12 } : Room) s m #[(.ref a)] below meth c s₁ [] 0 0 := Stand.of_body Bd
  have e0 : s₁.heap = h0 := by rw [← hh, Bd.state]; rfl
  have N0 := Fr.nil Z.heap.size
  show own_G p e below (fun o_ s₂ => ∃ v_ L_, o_ = .returned v_ ∧ Q_ni Z a h0 v_ s₂.heap L_ ∧ FrameEnd s o_ s₂ L_ ({ frames := 1, cells := 0, slots := 0, locals := 12 } : Room).cells ({ frames := 1, cells := 0, slots := 0, locals := 12 } : Room).slots) (s₁.setTop (entryFrame m #[(.ref a)] 1))
  refine own_go (s₁.setTop (mkF m 0 #[.val (.ref a)] [])) (fun t_ k_ => castTop (own_ef_ni m a) k_) ?_
  refine own_go (s₁.setTop (mkF m 1 #[.val (.ref a)] [(.ref a)])) (fun t_ k_ => XS.aloadN X0.here hx rfl (hb hby own_d_jdk_18_method_1_0) rfl rfl k_) ?_
  obtain ⟨T1, X1, e1, st1⟩ := initO X0 hx hZ hown (hw _ (List.mem_of_getElem? (i := 48) rfl)) (hw _ (List.mem_of_getElem? (i := 13) rfl)) (hw _ (List.mem_of_getElem? (i := 14) rfl)) e0 (g := (mkF m 1 #[.val (.ref a)] [(.ref a)])) rfl (by rw [hml]; rfl) rfl (hb hby own_d_jdk_18_method_1_1) (by decide) (W := 0) (by show 2 * 0 + _ ≤ _; exact Nat.le_of_eq rfl) (by decide)
  refine own_go (T1.setTop (mkF m 4 #[.val (.ref a)] [])) (fun t_ k_ => st1 _ k_) ?_
  obtain ⟨fs, hr, hrun, hended, hW, hsame⟩ := X1.leave (v := none) (fun _ => rfl)
  refine ⟨_, _, X1.returnOut hx Bd.returns (hb hby own_d_jdk_18_method_1_4) hr, hrun, hended, _, _, rfl, ?_, ⟨_, rfl⟩, hW, hsame.mono (by decide) (by decide)⟩
  show Q_ni Z a h0 _ T1.heap _
  exact ⟨rfl, N0, e1⟩
theorem own_pn3 : plainName "java/lang/Long" = true := by first | (simp [plainName, overriddenIn]; done) | decide +kernel
theorem own_ef_li (m : MethodId) (a : Addr) (x : Int64) : entryFrame m #[(.ref a), (.long x)] 3 = mkF m 0 #[.val (.ref a), .val (.long x), .second] [] := by first | (simp [entryFrame, mkF, argsToLocals, Value.category]; done) | rfl
theorem own_d_jdk_35_method_26_0 : decode jdk_35_method_26_code 0 = .ok (.aload_n 0, 1) := by decide +kernel
theorem own_d_jdk_35_method_26_1 : decode jdk_35_method_26_code 1 = .ok (.invokespecial 270, 3) := by decide +kernel
theorem own_pd1 : parseMethodDescriptor "()V" = some ⟨[], none⟩ := by decide +kernel
theorem own_d_jdk_35_method_26_4 : decode jdk_35_method_26_code 4 = .ok (.aload_n 0, 1) := by decide +kernel
theorem own_d_jdk_35_method_26_5 : decode jdk_35_method_26_code 5 = .ok (.lload_n 1, 1) := by decide +kernel
theorem own_d_jdk_35_method_26_6 : decode jdk_35_method_26_code 6 = .ok (.putfield 273, 3) := by decide +kernel
theorem own_d_jdk_35_method_26_9 : decode jdk_35_method_26_code 9 = .ok (.return_, 1) := by decide +kernel
def Q_li (Z : State) (a : Addr) (x : Int64) (h0 : Heap) (v_ : Option Value) (h : Heap) (L_ : List Loc) : Prop := v_ = none ∧ Fr Z.heap.size L_ ∧ (Keep h0 h [a] ∧ Exa Z h a "java/lang/Long")
set_option maxRecDepth 65536 in
set_option maxHeartbeats 40000000 in
theorem rm_li (l : Launch) (Z : State) (a0 : Array Value) (hw : ∀ d ∈ tables_1, d.before a0 Z = true) (ws : List Jvm.Cond) (a : Addr) (x : Int64) (h0 : Heap) (O : Ext Z.heap h0) (X : Exa Z h0 a "java/lang/Long") (F : Fld Z h0 a "java/lang/Long" "value" "J" (.long (0 : Int64))) (ga : Z.heap.size ≤ a) :
    MetFree l (⟨"java/lang/Long", "<init>", "(J)V"⟩ : MethodName) (head1 (Jvm.Cond.code (⟨"java/lang/Long", "<init>", "(J)V"⟩ : MethodName) jdk_35_method_26_code 3 none :: ws) ({ frames := 2, cells := 0, slots := 0, locals := 24 } : Room)) (fun a_ U_ => a_ = #[(.ref a), (.long x)] ∧ Z.Warmed39 U_.vm ∧ U_.heap = h0) (fun _ _ _ _ _ => True) (fun _ U_ o_ U2_ => ∃ v_ L_, o_ = .returned v_ ∧ Q_li Z a x h0 v_ U2_.heap L_ ∧ FrameEnd U_ o_ U2_ L_ ({ frames := 2, cells := 0, slots := 0, locals := 24 } : Room).cells ({ frames := 2, cells := 0, slots := 0, locals := 24 } : Room).slots) := by
  refine MetFree.of_bodySF (plainFor_of_name own_pn3) hisR ?_
  intro p e s m args below meth c s₁ Bd hml0 hP hK
  obtain ⟨rfl, hZ, hh⟩ := hP
  have hx := Bd.exec
  have hby := Bd.bytes
  have hml : c.maxLocals = 3 := hml0
  have hown : s.vm.findClass "java/lang/Long" = some m.cls := findClass_of_methodNamed Bd.named
  have hnm := (name_of_methodNamed Bd.named Bd.method).1
  have X0 : Stand p l e ({ frames := 2, cells := 0, slots := 0, locals := 24 } : Room) s m #[(.ref a), (.long x)] below meth c s₁ [] 0 0 := Stand.of_body Bd
  have e0 : s₁.heap = h0 := by rw [← hh, Bd.state]; rfl
  have N0 := Fr.nil Z.heap.size
  show own_G p e below (fun o_ s₂ => ∃ v_ L_, o_ = .returned v_ ∧ Q_li Z a x h0 v_ s₂.heap L_ ∧ FrameEnd s o_ s₂ L_ ({ frames := 2, cells := 0, slots := 0, locals := 24 } : Room).cells ({ frames := 2, cells := 0, slots := 0, locals := 24 } : Room).slots) (s₁.setTop (entryFrame m #[(.ref a), (.long x)] 3))
  refine own_go (s₁.setTop (mkF m 0 #[.val (.ref a), .val (.long x), .second] [])) (fun t_ k_ => castTop (own_ef_li m a x) k_) ?_
  refine own_go (s₁.setTop (mkF m 1 #[.val (.ref a), .val (.long x), .second] [(.ref a)])) (fun t_ k_ => XS.aloadN X0.here hx rfl (hb hby own_d_jdk_35_method_26_0) rfl rfl k_) ?_
  obtain ⟨_, _, ⟨T1, Lu1, ku1, nu1⟩, -, X1, ⟨Lc1, hQ1, lu1, yu1, zu1⟩, st1⟩ := X0.specialBack hx (y := (⟨"java/lang/Number", "<init>", "()V"⟩ : MethodName)) rfl hown (mvT hZ (hw _ (List.mem_of_getElem? (i := 42) rfl))) (mvT hZ (hw _ (List.mem_of_getElem? (i := 43) rfl))) (mvT hZ (hw _ (List.mem_of_getElem? (i := 47) rfl))) (by decide) (backOf (W := 0) (rm_ni l Z a0 hw [] (a) h0 O ) hZ (hw _ (List.mem_of_getElem? (i := 47) rfl)) (hw _ (List.mem_of_getElem? (i := 46) rfl)) (by decide) (by decide)) (g := (mkF m 1 #[.val (.ref a), .val (.long x), .second] [(.ref a)])) rfl (by rw [hml]; rfl) (Steps.refl _) (a := a) (argsL := []) (rest := []) (lenOf own_pd1 rfl) rfl (by show 2 * 0 + _ ≤ _; exact Nat.le_of_eq rfl) (hb hby own_d_jdk_35_method_26_1) (fun _ _ => ⟨rfl, e0, (by decide : 0 + 0 ≤ _), (by decide : 0 + 0 ≤ _)⟩)
  dsimp only [Pt.U, Pt.locs, Pt.cells, Pt.slots] at X1 lu1 yu1 zu1 st1 hQ1
  subst lu1 yu1 zu1
  obtain ⟨rfl, N1q, e1⟩ := hQ1
  have N1 := Fr.app N0 N1q
  refine own_go (T1.setTop (mkF m 4 #[.val (.ref a), .val (.long x), .second] [])) (fun t_ k_ => st1.trans k_) ?_
  refine own_go (T1.setTop (mkF m 5 #[.val (.ref a), .val (.long x), .second] [(.ref a)])) (fun t_ k_ => XS.aloadN X1.here hx rfl (hb hby own_d_jdk_35_method_26_4) rfl rfl k_) ?_
  refine own_go (T1.setTop (mkF m 6 #[.val (.ref a), .val (.long x), .second] [(.long x), (.ref a)])) (fun t_ k_ => XS.lloadN X1.here hx rfl (hb hby own_d_jdk_35_method_26_5) rfl k_) ?_
  obtain ⟨T2, h2, X2, e2, W2, st2⟩ := putF X1 hx hZ hown (host := "") (Or.inl (hw _ (List.mem_of_getElem? (i := 49) rfl))) Via.refl e1 F X (Or.inr ⟨(hw _ (List.mem_of_getElem? (i := 50) rfl)), rfl, hnm⟩) (hw _ (List.mem_of_getElem? (i := 37) rfl)) (ty := .long) (by decide) rfl rfl (g := (mkF m 6 #[.val (.ref a), .val (.long x), .second] [(.long x), (.ref a)])) rfl rfl (hb hby own_d_jdk_35_method_26_6)
  have Fw2 := F.same W2
  have K2 : Keep h0 h2 [a] := (Keep.refl h0 [a]).wr W2 (Or.inl (List.mem_of_getElem? (i := 0) rfl))
  have N2 := Fr.snoc X2 N1 ga
  have O2 := own_extW O W2 ga
  refine own_go (T2.setTop (mkF m 9 #[.val (.ref a), .val (.long x), .second] [])) (fun t_ k_ => st2 _ k_) ?_
  obtain ⟨fs, hr, hrun, hended, hW, hsame⟩ := X2.leave (v := none) (fun _ => rfl)
  refine ⟨_, _, X2.returnOut hx Bd.returns (hb hby own_d_jdk_35_method_26_9) hr, hrun, hended, _, _, rfl, ?_, ⟨_, rfl⟩, hW, hsame.mono (by decide) (by decide)⟩
  show Q_li Z a x h0 _ T2.heap _
  have Fz3 := (X.wr W2)
  show Q_li Z a x h0 _ T2.heap _
  rw [e2]
  exact ⟨rfl, N2, K2, Fz3⟩
theorem own_ef_lv (m : MethodId) (x : Int64) : entryFrame m #[(.long x)] 3 = mkF m 0 #[.val (.long x), .second, .unset] [] := by first | (simp [entryFrame, mkF, argsToLocals, Value.category]; done) | rfl
theorem own_d_jdk_35_method_24_0 : decode jdk_35_method_24_code 0 = .ok (.sipush 128, 3) := by decide +kernel
theorem own_d_jdk_35_method_24_3 : decode jdk_35_method_24_code 3 = .ok (.istore_n 2, 1) := by decide +kernel
theorem own_d_jdk_35_method_24_4 : decode jdk_35_method_24_code 4 = .ok (.lload_n 0, 1) := by decide +kernel
theorem own_d_jdk_35_method_24_5 : decode jdk_35_method_24_code 5 = .ok (.ldc2_w 230, 3) := by decide +kernel
theorem own_d_jdk_35_method_24_8 : decode jdk_35_method_24_code 8 = .ok (.lcmp, 1) := by decide +kernel
theorem own_d_jdk_35_method_24_9 : decode jdk_35_method_24_code 9 = .ok (.ifCond .lt 22, 3) := by decide +kernel
theorem own_d_jdk_35_method_24_31 : decode jdk_35_method_24_code 31 = .ok (.new 1, 3) := by decide +kernel
theorem own_d_jdk_35_method_24_34 : decode jdk_35_method_24_code 34 = .ok (.dup, 1) := by decide +kernel
theorem own_d_jdk_35_method_24_35 : decode jdk_35_method_24_code 35 = .ok (.lload_n 0, 1) := by decide +kernel
theorem own_d_jdk_35_method_24_36 : decode jdk_35_method_24_code 36 = .ok (.invokespecial 240, 3) := by decide +kernel
theorem own_pd2 : parseMethodDescriptor "(J)V" = some ⟨[.long], none⟩ := by decide +kernel
theorem own_d_jdk_35_method_24_39 : decode jdk_35_method_24_code 39 = .ok (.areturn, 1) := by decide +kernel
theorem own_d_jdk_35_method_24_12 : decode jdk_35_method_24_code 12 = .ok (.lload_n 0, 1) := by decide +kernel
theorem own_d_jdk_35_method_24_13 : decode jdk_35_method_24_code 13 = .ok (.ldc2_w 232, 3) := by decide +kernel
theorem own_d_jdk_35_method_24_16 : decode jdk_35_method_24_code 16 = .ok (.lcmp, 1) := by decide +kernel
theorem own_d_jdk_35_method_24_17 : decode jdk_35_method_24_code 17 = .ok (.ifCond .gt 14, 3) := by decide +kernel
theorem own_d_jdk_35_method_24_20 : decode jdk_35_method_24_code 20 = .ok (.getstatic 234, 3) := by decide +kernel
theorem own_d_jdk_35_method_24_23 : decode jdk_35_method_24_code 23 = .ok (.lload_n 0, 1) := by decide +kernel
theorem own_d_jdk_35_method_24_24 : decode jdk_35_method_24_code 24 = .ok (.l2i, 1) := by decide +kernel
theorem own_d_jdk_35_method_24_25 : decode jdk_35_method_24_code 25 = .ok (.sipush 128, 3) := by decide +kernel
theorem own_d_jdk_35_method_24_28 : decode jdk_35_method_24_code 28 = .ok (.iadd, 1) := by decide +kernel
theorem own_d_jdk_35_method_24_29 : decode jdk_35_method_24_code 29 = .ok (.aaload, 1) := by decide +kernel
theorem own_d_jdk_35_method_24_30 : decode jdk_35_method_24_code 30 = .ok (.areturn, 1) := by decide +kernel
def Q_lv (Z : State) (x : Int64) (a_cache : Addr) (cl_cache : Cell) (h0 : Heap) (v_ : Option Value) (h : Heap) (L_ : List Loc) : Prop := ∃ (o : Addr), v_ = some (.ref o) ∧ Fr Z.heap.size L_ ∧ (Keep h0 h [] ∧ Exa Z h o "java/lang/Long")
set_option maxRecDepth 65536 in
set_option maxHeartbeats 40000000 in
theorem rm_lv (l : Launch) (Z : State) (a0 : Array Value) (hw : ∀ d ∈ tables_1, d.before a0 Z = true) (ws : List Jvm.Cond) (x : Int64) (a_cache : Addr) (cl_cache : Cell) (h0 : Heap) (O : Ext Z.heap h0) (w : own_W Z a_cache cl_cache) :
    MetFree l (⟨"java/lang/Long", "valueOf", "(J)Ljava/lang/Long;"⟩ : MethodName) (head1 (Jvm.Cond.code (⟨"java/lang/Long", "valueOf", "(J)Ljava/lang/Long;"⟩ : MethodName) jdk_35_method_24_code 3 (some (.object "java/lang/Long")) :: ws) ({ frames := 3, cells := 1, slots := 1, locals := 39 } : Room)) (fun a_ U_ => a_ = #[(.long x)] ∧ Z.Warmed39 U_.vm ∧ U_.heap = h0) (fun _ _ _ _ _ => True) (fun _ U_ o_ U2_ => ∃ v_ L_, o_ = .returned v_ ∧ Q_lv Z x a_cache cl_cache h0 v_ U2_.heap L_ ∧ FrameEnd U_ o_ U2_ L_ ({ frames := 3, cells := 1, slots := 1, locals := 39 } : Room).cells ({ frames := 3, cells := 1, slots := 1, locals := 39 } : Room).slots) := by
  refine MetFree.of_bodySF (plainFor_of_name own_pn3) hisR ?_
  intro p e s m args below meth c s₁ Bd hml0 hP hK
  obtain ⟨rfl, hZ, hh⟩ := hP
  have hx := Bd.exec
  have hby := Bd.bytes
  have hml : c.maxLocals = 3 := hml0
  have hown : s.vm.findClass "java/lang/Long" = some m.cls := findClass_of_methodNamed Bd.named
  have hnm := (name_of_methodNamed Bd.named Bd.method).1
  have X0 : Stand p l e ({ frames := 3, cells := 1, slots := 1, locals := 39 } : Room) s m #[(.long x)] below meth c s₁ [] 0 0 := Stand.of_body Bd
  have e0 : s₁.heap = h0 := by rw [← hh, Bd.state]; rfl
  have N0 := Fr.nil Z.heap.size
  show own_G p e below (fun o_ s₂ => ∃ v_ L_, o_ = .returned v_ ∧ Q_lv Z x a_cache cl_cache h0 v_ s₂.heap L_ ∧ FrameEnd s o_ s₂ L_ ({ frames := 3, cells := 1, slots := 1, locals := 39 } : Room).cells ({ frames := 3, cells := 1, slots := 1, locals := 39 } : Room).slots) (s₁.setTop (entryFrame m #[(.long x)] 3))
  refine own_go (s₁.setTop (mkF m 0 #[.val (.long x), .second, .unset] [])) (fun t_ k_ => castTop (own_ef_lv m x) k_) ?_
  have w' := w
  obtain ⟨S_cache, A_cache, L_cache⟩ := w'
  refine own_go (s₁.setTop (mkF m 3 #[.val (.long x), .second, .unset] [(.int (128 : Int32))])) (fun t_ k_ => XS.sipush X0.here hx rfl (hb hby own_d_jdk_35_method_24_0) k_) ?_
  refine own_go (s₁.setTop (mkF m 4 #[.val (.long x), .second, .val (.int (128 : Int32))] [])) (fun t_ k_ => XS.istoreN X0.here hx rfl (hb hby own_d_jdk_35_method_24_3) rfl (l' := #[.val (.long x), .second, .val (.int (128 : Int32))]) rfl k_) ?_
  refine own_go (s₁.setTop (mkF m 5 #[.val (.long x), .second, .val (.int (128 : Int32))] [(.long x)])) (fun t_ k_ => XS.lloadN X0.here hx rfl (hb hby own_d_jdk_35_method_24_4) rfl k_) ?_
  refine own_go (s₁.setTop (mkF m 8 #[.val (.long x), .second, .val (.int (128 : Int32))] [(.long (-128 : Int64)), (.long x)])) (fun t_ k_ => X0.ldc2Long hx hown (mvT hZ (hw _ (List.mem_of_getElem? (i := 34) rfl))) (g := (mkF m 5 #[.val (.long x), .second, .val (.int (128 : Int32))] [(.long x)])) rfl (hb hby own_d_jdk_35_method_24_5) _ k_) ?_
  refine own_go (s₁.setTop (mkF m 9 #[.val (.long x), .second, .val (.int (128 : Int32))] [(.int (lcmpW x (-128 : Int64)))])) (fun t_ k_ => XS.lcmp X0.here hx rfl (hb hby own_d_jdk_35_method_24_8) rfl k_) ?_
  by_cases hc9_1 : x < (-128 : Int64)
  ·
    refine own_go (s₁.setTop (mkF m 31 #[.val (.long x), .second, .val (.int (128 : Int32))] [])) (fun t_ k_ => XS.ifYes X0.here hx rfl (pc0 := 9) (pc' := 31) rfl (hb hby own_d_jdk_35_method_24_9) rfl ((if0 _ _).trans (tlt (own_lt.mpr hc9_1)).1) (by decide) (by decide) k_) ?_
    obtain ⟨T2, h2, X2, e2, E2, A2, D2, U2, st2⟩ := newO X0 hx hZ hown (hw _ (List.mem_of_getElem? (i := 36) rfl)) (hw _ (List.mem_of_getElem? (i := 37) rfl)) (hw _ (List.mem_of_getElem? (i := 32) rfl)) e0 (g := (mkF m 31 #[.val (.long x), .second, .val (.int (128 : Int32))] [])) rfl (hb hby own_d_jdk_35_method_24_31) (by decide) (by decide)
    obtain ⟨b2, g2⟩ : ∃ z, z = h0.size := ⟨_, rfl⟩
    rw [← g2] at A2 D2 U2 st2
    have ge_b2 : Z.heap.size ≤ b2 := Nat.le_trans O.1 (Nat.le_of_eq g2.symm)
    have sz_b2 : h0.size ≤ b2 := Nat.le_trans (Keep.refl h0 []).1 (Nat.le_of_eq g2.symm)
    have K2 : Keep h0 h2 [] := (Keep.refl h0 []).ext E2
    have O2 := own_ext O E2
    have Fvalue_2 : Fld Z h2 b2 "java/lang/Long" "value" "J" (.long (0 : Int64)) := D2 (Or.inr (hw _ (List.mem_of_getElem? (i := 50) rfl))) (ty := .long) (by decide)
    refine own_go (T2.setTop (mkF m 34 #[.val (.long x), .second, .val (.int (128 : Int32))] [(.ref b2)])) (fun t_ k_ => st2 _ k_) ?_
    refine own_go (T2.setTop (mkF m 35 #[.val (.long x), .second, .val (.int (128 : Int32))] [(.ref b2), (.ref b2)])) (fun t_ k_ => XS.dup X2.here hx rfl (hb hby own_d_jdk_35_method_24_34) rfl rfl k_) ?_
    refine own_go (T2.setTop (mkF m 36 #[.val (.long x), .second, .val (.int (128 : Int32))] [(.long x), (.ref b2), (.ref b2)])) (fun t_ k_ => XS.lloadN X2.here hx rfl (hb hby own_d_jdk_35_method_24_35) rfl k_) ?_
    obtain ⟨_, _, ⟨T3, Lu3, ku3, nu3⟩, -, X3, ⟨Lc3, hQ3, lu3, yu3, zu3⟩, st3⟩ := X2.specialBack hx (y := (⟨"java/lang/Long", "<init>", "(J)V"⟩ : MethodName)) rfl hown (mvT hZ (hw _ (List.mem_of_getElem? (i := 38) rfl))) (mvT hZ (hw _ (List.mem_of_getElem? (i := 39) rfl))) (mvT hZ (hw _ (List.mem_of_getElem? (i := 41) rfl))) (by decide) (backOf (W := 1) (rm_li l Z a0 hw [] (b2) (x) h2 O2 A2 Fvalue_2 ge_b2) hZ (hw _ (List.mem_of_getElem? (i := 41) rfl)) (hw _ (List.mem_of_getElem? (i := 32) rfl)) (by decide) (by decide)) (g := (mkF m 36 #[.val (.long x), .second, .val (.int (128 : Int32))] [(.long x), (.ref b2), (.ref b2)])) rfl (by rw [hml]; rfl) (Steps.refl _) (a := b2) (argsL := [(.long x)]) (rest := [(.ref b2)]) (lenOf own_pd2 rfl) rfl (by show 2 * 0 + _ ≤ _; exact Nat.le_of_eq rfl) (hb hby own_d_jdk_35_method_24_36) (fun _ _ => ⟨rfl, e2, (by decide : 1 + 0 ≤ _), (by decide : 1 + 0 ≤ _)⟩)
    dsimp only [Pt.U, Pt.locs, Pt.cells, Pt.slots] at X3 lu3 yu3 zu3 st3 hQ3
    subst lu3 yu3 zu3
    obtain ⟨rfl, N3q, K3q, X3q⟩ := hQ3
    have N3 := Fr.app N0 N3q
    have O3 := own_extK O2 K3q (allS ge_b2 all0)
    have KK3 : Keep h0 T3.heap [] := K2.trans K3q (allS (Or.inr sz_b2) all0)
    refine own_go (T3.setTop (mkF m 39 #[.val (.long x), .second, .val (.int (128 : Int32))] [(.ref b2)])) (fun t_ k_ => st3.trans k_) ?_
    obtain ⟨fs, hr, hrun, hended, hW, hsame⟩ := X3.leave (v := some (.ref b2)) (fun h => by rw [Bd.returns] at h; cases h)
    refine ⟨_, _, Jvm.RoadKit.retOut X3 hx Bd.returns rfl (Or.inr (Or.inr (Or.inr (Or.inr ⟨rfl, rfl, rfl⟩)))) (hb hby own_d_jdk_35_method_24_39) hr, hrun, hended, _, _, rfl, ?_, ⟨_, rfl⟩, hW, hsame.mono (by decide) (by decide)⟩
    show Q_lv Z x a_cache cl_cache h0 _ T3.heap _
    exact ⟨_, rfl, N3, KK3, X3q⟩
  ·
    refine own_go (s₁.setTop (mkF m 12 #[.val (.long x), .second, .val (.int (128 : Int32))] [])) (fun t_ k_ => XS.ifNo X0.here hx rfl (hb hby own_d_jdk_35_method_24_9) rfl ((if0 _ _).trans (flt (fun q => hc9_1 (own_lt.mp q))).1) k_) ?_
    refine own_go (s₁.setTop (mkF m 13 #[.val (.long x), .second, .val (.int (128 : Int32))] [(.long x)])) (fun t_ k_ => XS.lloadN X0.here hx rfl (hb hby own_d_jdk_35_method_24_12) rfl k_) ?_
    refine own_go (s₁.setTop (mkF m 16 #[.val (.long x), .second, .val (.int (128 : Int32))] [(.long (127 : Int64)), (.long x)])) (fun t_ k_ => X0.ldc2Long hx hown (mvT hZ (hw _ (List.mem_of_getElem? (i := 35) rfl))) (g := (mkF m 13 #[.val (.long x), .second, .val (.int (128 : Int32))] [(.long x)])) rfl (hb hby own_d_jdk_35_method_24_13) _ k_) ?_
    refine own_go (s₁.setTop (mkF m 17 #[.val (.long x), .second, .val (.int (128 : Int32))] [(.int (lcmpW x (127 : Int64)))])) (fun t_ k_ => XS.lcmp X0.here hx rfl (hb hby own_d_jdk_35_method_24_16) rfl k_) ?_
    by_cases hc17_4 : (127 : Int64) < x
    ·
      refine own_go (s₁.setTop (mkF m 31 #[.val (.long x), .second, .val (.int (128 : Int32))] [])) (fun t_ k_ => XS.ifYes X0.here hx rfl (pc0 := 17) (pc' := 31) rfl (hb hby own_d_jdk_35_method_24_17) rfl ((if0 _ _).trans (tlt (own_gt.mpr hc17_4)).2.2.1) (by decide) (by decide) k_) ?_
      obtain ⟨T5, h5, X5, e5, E5, A5, D5, U5, st5⟩ := newO X0 hx hZ hown (hw _ (List.mem_of_getElem? (i := 36) rfl)) (hw _ (List.mem_of_getElem? (i := 37) rfl)) (hw _ (List.mem_of_getElem? (i := 32) rfl)) e0 (g := (mkF m 31 #[.val (.long x), .second, .val (.int (128 : Int32))] [])) rfl (hb hby own_d_jdk_35_method_24_31) (by decide) (by decide)
      obtain ⟨b5, g5⟩ : ∃ z, z = h0.size := ⟨_, rfl⟩
      rw [← g5] at A5 D5 U5 st5
      have ge_b5 : Z.heap.size ≤ b5 := Nat.le_trans O.1 (Nat.le_of_eq g5.symm)
      have sz_b5 : h0.size ≤ b5 := Nat.le_trans (Keep.refl h0 []).1 (Nat.le_of_eq g5.symm)
      have K5 : Keep h0 h5 [] := (Keep.refl h0 []).ext E5
      have O5 := own_ext O E5
      have Fvalue_5 : Fld Z h5 b5 "java/lang/Long" "value" "J" (.long (0 : Int64)) := D5 (Or.inr (hw _ (List.mem_of_getElem? (i := 50) rfl))) (ty := .long) (by decide)
      refine own_go (T5.setTop (mkF m 34 #[.val (.long x), .second, .val (.int (128 : Int32))] [(.ref b5)])) (fun t_ k_ => st5 _ k_) ?_
      refine own_go (T5.setTop (mkF m 35 #[.val (.long x), .second, .val (.int (128 : Int32))] [(.ref b5), (.ref b5)])) (fun t_ k_ => XS.dup X5.here hx rfl (hb hby own_d_jdk_35_method_24_34) rfl rfl k_) ?_
      refine own_go (T5.setTop (mkF m 36 #[.val (.long x), .second, .val (.int (128 : Int32))] [(.long x), (.ref b5), (.ref b5)])) (fun t_ k_ => XS.lloadN X5.here hx rfl (hb hby own_d_jdk_35_method_24_35) rfl k_) ?_
      obtain ⟨_, _, ⟨T6, Lu6, ku6, nu6⟩, -, X6, ⟨Lc6, hQ6, lu6, yu6, zu6⟩, st6⟩ := X5.specialBack hx (y := (⟨"java/lang/Long", "<init>", "(J)V"⟩ : MethodName)) rfl hown (mvT hZ (hw _ (List.mem_of_getElem? (i := 38) rfl))) (mvT hZ (hw _ (List.mem_of_getElem? (i := 39) rfl))) (mvT hZ (hw _ (List.mem_of_getElem? (i := 41) rfl))) (by decide) (backOf (W := 1) (rm_li l Z a0 hw [] (b5) (x) h5 O5 A5 Fvalue_5 ge_b5) hZ (hw _ (List.mem_of_getElem? (i := 41) rfl)) (hw _ (List.mem_of_getElem? (i := 32) rfl)) (by decide) (by decide)) (g := (mkF m 36 #[.val (.long x), .second, .val (.int (128 : Int32))] [(.long x), (.ref b5), (.ref b5)])) rfl (by rw [hml]; rfl) (Steps.refl _) (a := b5) (argsL := [(.long x)]) (rest := [(.ref b5)]) (lenOf own_pd2 rfl) rfl (by show 2 * 0 + _ ≤ _; exact Nat.le_of_eq rfl) (hb hby own_d_jdk_35_method_24_36) (fun _ _ => ⟨rfl, e5, (by decide : 1 + 0 ≤ _), (by decide : 1 + 0 ≤ _)⟩)
      dsimp only [Pt.U, Pt.locs, Pt.cells, Pt.slots] at X6 lu6 yu6 zu6 st6 hQ6
      subst lu6 yu6 zu6
      obtain ⟨rfl, N6q, K6q, X6q⟩ := hQ6
      have N6 := Fr.app N0 N6q
      have O6 := own_extK O5 K6q (allS ge_b5 all0)
      have KK6 : Keep h0 T6.heap [] := K5.trans K6q (allS (Or.inr sz_b5) all0)
      refine own_go (T6.setTop (mkF m 39 #[.val (.long x), .second, .val (.int (128 : Int32))] [(.ref b5)])) (fun t_ k_ => st6.trans k_) ?_
      obtain ⟨fs, hr, hrun, hended, hW, hsame⟩ := X6.leave (v := some (.ref b5)) (fun h => by rw [Bd.returns] at h; cases h)
      refine ⟨_, _, Jvm.RoadKit.retOut X6 hx Bd.returns rfl (Or.inr (Or.inr (Or.inr (Or.inr ⟨rfl, rfl, rfl⟩)))) (hb hby own_d_jdk_35_method_24_39) hr, hrun, hended, _, _, rfl, ?_, ⟨_, rfl⟩, hW, hsame.mono (by decide) (by decide)⟩
      show Q_lv Z x a_cache cl_cache h0 _ T6.heap _
      exact ⟨_, rfl, N6, KK6, X6q⟩
    ·
      refine own_go (s₁.setTop (mkF m 20 #[.val (.long x), .second, .val (.int (128 : Int32))] [])) (fun t_ k_ => XS.ifNo X0.here hx rfl (hb hby own_d_jdk_35_method_24_17) rfl ((if0 _ _).trans (flt (fun q => hc17_4 (own_gt.mp q))).2.2.1) k_) ?_
      obtain ⟨T7, X7, e7, st7⟩ := getS2 X0 hx hZ hown (host := "") (Or.inl (hw _ (List.mem_of_getElem? (i := 54) rfl))) Via.refl e0 (S_cache.ext O) (g := (mkF m 20 #[.val (.long x), .second, .val (.int (128 : Int32))] [])) rfl (hb hby own_d_jdk_35_method_24_20)
      refine own_go (T7.setTop (mkF m 23 #[.val (.long x), .second, .val (.int (128 : Int32))] [(.ref a_cache)])) (fun t_ k_ => st7 _ k_) ?_
      refine own_go (T7.setTop (mkF m 24 #[.val (.long x), .second, .val (.int (128 : Int32))] [(.long x), (.ref a_cache)])) (fun t_ k_ => XS.lloadN X7.here hx rfl (hb hby own_d_jdk_35_method_24_23) rfl k_) ?_
      refine own_go (T7.setTop (mkF m 25 #[.val (.long x), .second, .val (.int (128 : Int32))] [(.int (x.toInt32)), (.ref a_cache)])) (fun t_ k_ => XS.l2i X7.here hx rfl (hb hby own_d_jdk_35_method_24_24) rfl k_) ?_
      refine own_go (T7.setTop (mkF m 28 #[.val (.long x), .second, .val (.int (128 : Int32))] [(.int (128 : Int32)), (.int (x.toInt32)), (.ref a_cache)])) (fun t_ k_ => XS.sipush X7.here hx rfl (hb hby own_d_jdk_35_method_24_25) k_) ?_
      refine own_go (T7.setTop (mkF m 29 #[.val (.long x), .second, .val (.int (128 : Int32))] [(.int ((x.toInt32) + (128 : Int32))), (.ref a_cache)])) (fun t_ k_ => XS.iadd X7.here hx rfl (hb hby own_d_jdk_35_method_24_28) rfl k_) ?_
      obtain ⟨hin, o, hat, hxo⟩ := L_cache (x.toInt32 + 128) (Jvm.Free.LongBox.place_okL x hc9_1 hc17_4).1
      have Ar8 := (A_cache.ext O)
      refine own_go (T7.setTop (mkF m 30 #[.val (.long x), .second, .val (.int (128 : Int32))] [(.ref o)])) (fun t_ k_ => X7.aaload hx (j := ((x.toInt32) + (128 : Int32))) (v := (.ref o)) (by rw [e7]; exact Ar8.1) (State.isArrayOf_alike hZ.alike Ar8.2.1) rfl Ar8.2.2 hin hat (g := (mkF m 29 #[.val (.long x), .second, .val (.int (128 : Int32))] [(.int ((x.toInt32) + (128 : Int32))), (.ref a_cache)])) rfl rfl (hb hby own_d_jdk_35_method_24_29) _ k_) ?_
      obtain ⟨fs, hr, hrun, hended, hW, hsame⟩ := X7.leave (v := some (.ref o)) (fun h => by rw [Bd.returns] at h; cases h)
      refine ⟨_, _, Jvm.RoadKit.retOut X7 hx Bd.returns rfl (Or.inr (Or.inr (Or.inr (Or.inr ⟨rfl, rfl, rfl⟩)))) (hb hby own_d_jdk_35_method_24_30) hr, hrun, hended, _, _, rfl, ?_, ⟨_, rfl⟩, hW, hsame.mono (by decide) (by decide)⟩
      show Q_lv Z x a_cache cl_cache h0 _ T7.heap _
      exact ⟨_, rfl, N0, by rw [show T7.heap = h0 from e7]; exact Keep.refl _ _, by rw [show T7.heap = h0 from e7]; exact hxo.ext O⟩
theorem own_pn4 : plainName "com/example/eager_quorum/eagerquorum/model/StampEqualsPinLaw" = true := by first | (simp [plainName, overriddenIn]; done) | decide +kernel
theorem own_ef_law (m : MethodId) (p0 : Int64) (p1 : Int32) (p2 : Int64) (p3 : Int32) (p4 : Int32) : entryFrame m #[(.long p0), (.int p1), (.long p2), (.int p3), (.int p4)] maxLocals = mkF m 0 #[.val (.long p0), .second, .val (.int p1), .val (.long p2), .second, .val (.int p3), .val (.int p4), .unset, .unset, .unset, .unset, .unset, .unset, .unset, .unset, .unset, .unset, .unset, .unset, .unset, .unset] [] := by first | (simp [entryFrame, mkF, argsToLocals, Value.category, maxLocals]; done) | rfl
theorem own_pd3 : parseMethodDescriptor "(II)I" = some ⟨[.int, .int], some .int⟩ := by decide +kernel
theorem own_pd4 : parseMethodDescriptor "(JI)V" = some ⟨[.long, .int], none⟩ := by decide +kernel
theorem own_pd5 : parseMethodDescriptor "(Ljava/lang/Object;)Z" = some ⟨[(.object "java/lang/Object")], some .boolean⟩ := by decide +kernel
theorem own_pd6 : parseMethodDescriptor "(J)Ljava/lang/Long;" = some ⟨[.long], some (.object "java/lang/Long")⟩ := by decide +kernel
def Q_law (Z : State) (p0 : Int64) (p1 : Int32) (p2 : Int64) (p3 : Int32) (p4 : Int32) (a_cache : Addr) (cl_cache : Cell) (h0 : Heap) (v_ : Option Value) (h : Heap) (L_ : List Loc) : Prop := v_ = some (.int 1) ∧ Fr Z.heap.size L_ ∧ (True)
set_option maxRecDepth 65536 in
set_option maxHeartbeats 40000000 in
theorem rm_law (l : Launch) (Z : State) (a0 : Array Value) (hw : ∀ d ∈ tables_1, d.before a0 Z = true) (ws : List Jvm.Cond) (p0 : Int64) (p1 : Int32) (p2 : Int64) (p3 : Int32) (p4 : Int32) (a_cache : Addr) (cl_cache : Cell) (h0 : Heap) (O : Ext Z.heap h0) (w : own_W Z a_cache cl_cache) :
    MetFree l x (head1 (Jvm.Cond.code x code maxLocals ret :: ws) room_1) (fun a_ U_ => a_ = #[(.long p0), (.int p1), (.long p2), (.int p3), (.int p4)] ∧ Z.Warmed39 U_.vm ∧ U_.heap = h0) (fun _ _ _ _ _ => True) (fun _ U_ o_ U2_ => ∃ v_ L_, o_ = .returned v_ ∧ Q_law Z p0 p1 p2 p3 p4 a_cache cl_cache h0 v_ U2_.heap L_ ∧ FrameEnd U_ o_ U2_ L_ room_1.cells room_1.slots) := by
  refine MetFree.of_bodySF (plainFor_of_name own_pn4) hisR ?_
  intro p e s m args below meth c s₁ Bd hml0 hP hK
  obtain ⟨rfl, hZ, hh⟩ := hP
  have hx := Bd.exec
  have hby := Bd.bytes
  have hml : c.maxLocals = 21 := hml0
  have hown : s.vm.findClass "com/example/eager_quorum/eagerquorum/model/StampEqualsPinLaw" = some m.cls := findClass_of_methodNamed Bd.named
  have hnm := (name_of_methodNamed Bd.named Bd.method).1
  have X0 : Stand p l e room_1 s m #[(.long p0), (.int p1), (.long p2), (.int p3), (.int p4)] below meth c s₁ [] 0 0 := Stand.of_body Bd
  have e0 : s₁.heap = h0 := by rw [← hh, Bd.state]; rfl
  have N0 := Fr.nil Z.heap.size
  show own_G p e below (fun o_ s₂ => ∃ v_ L_, o_ = .returned v_ ∧ Q_law Z p0 p1 p2 p3 p4 a_cache cl_cache h0 v_ s₂.heap L_ ∧ FrameEnd s o_ s₂ L_ room_1.cells room_1.slots) (s₁.setTop (entryFrame m #[(.long p0), (.int p1), (.long p2), (.int p3), (.int p4)] maxLocals))
  refine own_go (s₁.setTop (mkF m 0 #[.val (.long p0), .second, .val (.int p1), .val (.long p2), .second, .val (.int p3), .val (.int p4), .unset, .unset, .unset, .unset, .unset, .unset, .unset, .unset, .unset, .unset, .unset, .unset, .unset, .unset] [])) (fun t_ k_ => castTop (own_ef_law m p0 p1 p2 p3 p4) k_) ?_
  have w' := w
  obtain ⟨S_cache, A_cache, L_cache⟩ := w'
  refine own_go (s₁.setTop (mkF m 1 #[.val (.long p0), .second, .val (.int p1), .val (.long p2), .second, .val (.int p3), .val (.int p4), .unset, .unset, .unset, .unset, .unset, .unset, .unset, .unset, .unset, .unset, .unset, .unset, .unset, .unset] [(.long p0)])) (fun t_ k_ => XS.lloadN X0.here hx rfl (hb hby at_0) rfl k_) ?_
  refine own_go (s₁.setTop (mkF m 4 #[.val (.long p0), .second, .val (.int p1), .val (.long p2), .second, .val (.int p3), .val (.int p4), .unset, .unset, .unset, .unset, .unset, .unset, .unset, .unset, .unset, .unset, .unset, .unset, .unset, .unset] [(.long (9223372036854775807 : Int64)), (.long p0)])) (fun t_ k_ => X0.ldc2Long hx hown (mvT hZ (hw _ (List.mem_of_getElem? (i := 0) rfl))) (g := (mkF m 1 #[.val (.long p0), .second, .val (.int p1), .val (.long p2), .second, .val (.int p3), .val (.int p4), .unset, .unset, .unset, .unset, .unset, .unset, .unset, .unset, .unset, .unset, .unset, .unset, .unset, .unset] [(.long p0)])) rfl (hb hby at_1) _ k_) ?_
  refine own_go (s₁.setTop (mkF m 5 #[.val (.long p0), .second, .val (.int p1), .val (.long p2), .second, .val (.int p3), .val (.int p4), .unset, .unset, .unset, .unset, .unset, .unset, .unset, .unset, .unset, .unset, .unset, .unset, .unset, .unset] [(.long (p0 &&& (9223372036854775807 : Int64)))])) (fun t_ k_ => XS.land X0.here hx rfl (hb hby at_4) rfl k_) ?_
  refine own_go (s₁.setTop (mkF m 7 #[.val (.long p0), .second, .val (.int p1), .val (.long p2), .second, .val (.int p3), .val (.int p4), .val (.long (p0 &&& (9223372036854775807 : Int64))), .second, .unset, .unset, .unset, .unset, .unset, .unset, .unset, .unset, .unset, .unset, .unset, .unset] [])) (fun t_ k_ => XS.lstore X0.here hx rfl (hb hby at_5) rfl (l' := #[.val (.long p0), .second, .val (.int p1), .val (.long p2), .second, .val (.int p3), .val (.int p4), .val (.long (p0 &&& (9223372036854775807 : Int64))), .second, .unset, .unset, .unset, .unset, .unset, .unset, .unset, .unset, .unset, .unset, .unset, .unset]) rfl k_) ?_
  obtain ⟨ta, h_ta⟩ : ∃ z, z = (p0 &&& (9223372036854775807 : Int64)) := ⟨_, rfl⟩
  rw [← h_ta]
  have hta : ¬ ta < 0 := by rw [h_ta]; exact own_nn p0
  refine own_go (s₁.setTop (mkF m 8 #[.val (.long p0), .second, .val (.int p1), .val (.long p2), .second, .val (.int p3), .val (.int p4), .val (.long ta), .second, .unset, .unset, .unset, .unset, .unset, .unset, .unset, .unset, .unset, .unset, .unset, .unset] [(.int (1 : Int32))])) (fun t_ k_ => XS.iconst X0.here hx rfl (hb hby at_7) k_) ?_
  refine own_go (s₁.setTop (mkF m 9 #[.val (.long p0), .second, .val (.int p1), .val (.long p2), .second, .val (.int p3), .val (.int p4), .val (.long ta), .second, .unset, .unset, .unset, .unset, .unset, .unset, .unset, .unset, .unset, .unset, .unset, .unset] [(.int p1), (.int (1 : Int32))])) (fun t_ k_ => XS.iloadN X0.here hx rfl (hb hby at_8) rfl k_) ?_
  refine own_go (s₁.setTop (mkF m 11 #[.val (.long p0), .second, .val (.int p1), .val (.long p2), .second, .val (.int p3), .val (.int p4), .val (.long ta), .second, .unset, .unset, .unset, .unset, .unset, .unset, .unset, .unset, .unset, .unset, .unset, .unset] [(.int (2147483647 : Int32)), (.int p1), (.int (1 : Int32))])) (fun t_ k_ => X0.ldcInt hx hown (mvT hZ (hw _ (List.mem_of_getElem? (i := 1) rfl))) (g := (mkF m 9 #[.val (.long p0), .second, .val (.int p1), .val (.long p2), .second, .val (.int p3), .val (.int p4), .val (.long ta), .second, .unset, .unset, .unset, .unset, .unset, .unset, .unset, .unset, .unset, .unset, .unset, .unset] [(.int p1), (.int (1 : Int32))])) rfl (hb hby at_9) _ k_) ?_
  refine own_go (s₁.setTop (mkF m 12 #[.val (.long p0), .second, .val (.int p1), .val (.long p2), .second, .val (.int p3), .val (.int p4), .val (.long ta), .second, .unset, .unset, .unset, .unset, .unset, .unset, .unset, .unset, .unset, .unset, .unset, .unset] [(.int (p1 &&& (2147483647 : Int32))), (.int (1 : Int32))])) (fun t_ k_ => XS.iand X0.here hx rfl (hb hby at_11) rfl k_) ?_
  obtain ⟨_, _, ⟨T1, Lu1, ku1, nu1⟩, -, X1, ⟨Lc1, hQ1, lu1, yu1, zu1⟩, st1⟩ := Jvm.LawKit.callS X0 hx (y := (⟨"java/lang/Math", "max", "(II)I"⟩ : MethodName)) hown (mvT hZ (hw _ (List.mem_of_getElem? (i := 2) rfl))) (mvT hZ (hw _ (List.mem_of_getElem? (i := 3) rfl))) (mvT hZ (hw _ (List.mem_of_getElem? (i := 4) rfl))) (mvT hZ (hw _ (List.mem_of_getElem? (i := 5) rfl))) (by decide) (backOf (W := 0) (rm_mx l Z a0 hw [] ((1 : Int32)) ((p1 &&& (2147483647 : Int32))) h0 O ) hZ (hw _ (List.mem_of_getElem? (i := 5) rfl)) (hw _ (List.mem_of_getElem? (i := 4) rfl)) (by decide) (by decide)) (g := (mkF m 12 #[.val (.long p0), .second, .val (.int p1), .val (.long p2), .second, .val (.int p3), .val (.int p4), .val (.long ta), .second, .unset, .unset, .unset, .unset, .unset, .unset, .unset, .unset, .unset, .unset, .unset, .unset] [(.int (p1 &&& (2147483647 : Int32))), (.int (1 : Int32))])) rfl (by rw [hml]; rfl) (argsL := [(.int (1 : Int32)), (.int (p1 &&& (2147483647 : Int32)))]) (rest := []) (lenOf own_pd3 rfl) rfl (by show 2 * 0 + _ ≤ _; exact Nat.le_of_eq rfl) (hb hby at_12) (fun _ _ => ⟨rfl, e0, (by decide : 0 + 0 ≤ _), (by decide : 0 + 0 ≤ _)⟩)
  dsimp only [Pt.U, Pt.locs, Pt.cells, Pt.slots] at X1 lu1 yu1 zu1 st1 hQ1
  subst lu1 yu1 zu1
  obtain ⟨rfl, N1q, e1⟩ := hQ1
  have N1 := Fr.app N0 N1q
  refine own_go (T1.setTop (mkF m 15 #[.val (.long p0), .second, .val (.int p1), .val (.long p2), .second, .val (.int p3), .val (.int p4), .val (.long ta), .second, .unset, .unset, .unset, .unset, .unset, .unset, .unset, .unset, .unset, .unset, .unset, .unset] [(.int (own_max (1 : Int32) (p1 &&& (2147483647 : Int32))))])) (fun t_ k_ => st1 _ k_) ?_
  refine own_go (T1.setTop (mkF m 17 #[.val (.long p0), .second, .val (.int p1), .val (.long p2), .second, .val (.int p3), .val (.int p4), .val (.long ta), .second, .val (.int (own_max (1 : Int32) (p1 &&& (2147483647 : Int32)))), .unset, .unset, .unset, .unset, .unset, .unset, .unset, .unset, .unset, .unset, .unset] [])) (fun t_ k_ => XS.istore X1.here hx rfl (hb hby at_15) rfl (l' := #[.val (.long p0), .second, .val (.int p1), .val (.long p2), .second, .val (.int p3), .val (.int p4), .val (.long ta), .second, .val (.int (own_max (1 : Int32) (p1 &&& (2147483647 : Int32)))), .unset, .unset, .unset, .unset, .unset, .unset, .unset, .unset, .unset, .unset, .unset]) rfl k_) ?_
  obtain ⟨pa, h_pa⟩ : ∃ z, z = (own_max (1 : Int32) (p1 &&& (2147483647 : Int32))) := ⟨_, rfl⟩
  rw [← h_pa]
  have hpa : ¬ pa < 1 := by rw [h_pa]; exact own_max1 _
  have J2 : ∀ (T3 : State) (l3 : List Loc) (X3 : Stand p l e room_1 s m #[(.long p0), (.int p1), (.long p2), (.int p3), (.int p4)] below meth c T3 l3 0 0) (N3 : Fr Z.heap.size l3) (e3 : T3.heap = h0) (tb : Int64) (htb : ¬ tb < 0), own_G p e below (fun o_ s₂ => ∃ v_ L_, o_ = .returned v_ ∧ Q_law Z p0 p1 p2 p3 p4 a_cache cl_cache h0 v_ s₂.heap L_ ∧ FrameEnd s o_ s₂ L_ room_1.cells room_1.slots) (T3.setTop (mkF m 34 #[.val (.long p0), .second, .val (.int p1), .val (.long p2), .second, .val (.int p3), .val (.int p4), .val (.long ta), .second, .val (.int pa), .unset, .unset, .unset, .unset, .unset, .unset, .unset, .unset, .unset, .unset, .unset] [(.long tb)])) := by
    intro T3 l3 X3 N3 e3 tb htb
    refine own_go (T3.setTop (mkF m 36 #[.val (.long p0), .second, .val (.int p1), .val (.long p2), .second, .val (.int p3), .val (.int p4), .val (.long ta), .second, .val (.int pa), .val (.long tb), .second, .unset, .unset, .unset, .unset, .unset, .unset, .unset, .unset, .unset] [])) (fun t_ k_ => XS.lstore X3.here hx rfl (hb hby at_34) rfl (l' := #[.val (.long p0), .second, .val (.int p1), .val (.long p2), .second, .val (.int p3), .val (.int p4), .val (.long ta), .second, .val (.int pa), .val (.long tb), .second, .unset, .unset, .unset, .unset, .unset, .unset, .unset, .unset, .unset]) rfl k_) ?_
    have J4 : ∀ (T5 : State) (l5 : List Loc) (X5 : Stand p l e room_1 s m #[(.long p0), (.int p1), (.long p2), (.int p3), (.int p4)] below meth c T5 l5 0 0) (N5 : Fr Z.heap.size l5) (e5 : T5.heap = h0) (pb : Int32) (hpb : ¬ pb < 1), own_G p e below (fun o_ s₂ => ∃ v_ L_, o_ = .returned v_ ∧ Q_law Z p0 p1 p2 p3 p4 a_cache cl_cache h0 v_ s₂.heap L_ ∧ FrameEnd s o_ s₂ L_ room_1.cells room_1.slots) (T5.setTop (mkF m 57 #[.val (.long p0), .second, .val (.int p1), .val (.long p2), .second, .val (.int p3), .val (.int p4), .val (.long ta), .second, .val (.int pa), .val (.long tb), .second, .unset, .unset, .unset, .unset, .unset, .unset, .unset, .unset, .unset] [(.int pb)])) := by
      intro T5 l5 X5 N5 e5 pb hpb
      refine own_go (T5.setTop (mkF m 59 #[.val (.long p0), .second, .val (.int p1), .val (.long p2), .second, .val (.int p3), .val (.int p4), .val (.long ta), .second, .val (.int pa), .val (.long tb), .second, .val (.int pb), .unset, .unset, .unset, .unset, .unset, .unset, .unset, .unset] [])) (fun t_ k_ => XS.istore X5.here hx rfl (hb hby at_57) rfl (l' := #[.val (.long p0), .second, .val (.int p1), .val (.long p2), .second, .val (.int p3), .val (.int p4), .val (.long ta), .second, .val (.int pa), .val (.long tb), .second, .val (.int pb), .unset, .unset, .unset, .unset, .unset, .unset, .unset, .unset]) rfl k_) ?_
      obtain ⟨T6, h6, X6, e6, E6, A6, D6, U6, st6⟩ := newO X5 hx hZ hown (hw _ (List.mem_of_getElem? (i := 6) rfl)) (hw _ (List.mem_of_getElem? (i := 7) rfl)) (hw _ (List.mem_of_getElem? (i := 8) rfl)) e5 (g := (mkF m 59 #[.val (.long p0), .second, .val (.int p1), .val (.long p2), .second, .val (.int p3), .val (.int p4), .val (.long ta), .second, .val (.int pa), .val (.long tb), .second, .val (.int pb), .unset, .unset, .unset, .unset, .unset, .unset, .unset, .unset] [])) rfl (hb hby at_59) (by decide) (by decide)
      obtain ⟨b6, g6⟩ : ∃ z, z = h0.size := ⟨_, rfl⟩
      rw [← g6] at A6 D6 U6 st6
      have ge_b6 : Z.heap.size ≤ b6 := Nat.le_trans O.1 (Nat.le_of_eq g6.symm)
      have sz_b6 : h0.size ≤ b6 := Nat.le_trans (Keep.refl h0 []).1 (Nat.le_of_eq g6.symm)
      have K6 : Keep h0 h6 [] := (Keep.refl h0 []).ext E6
      have O6 := own_ext O E6
      have Ftime_6 : Fld Z h6 b6 "com/example/eager_quorum/eagerquorum/model/Stamp" "time" "J" (.long (0 : Int64)) := D6 (Or.inr (hw _ (List.mem_of_getElem? (i := 20) rfl))) (ty := .long) (by decide)
      have Fprocess_6 : Fld Z h6 b6 "com/example/eager_quorum/eagerquorum/model/Stamp" "process" "I" (.int (0 : Int32)) := D6 (Or.inr (hw _ (List.mem_of_getElem? (i := 22) rfl))) (ty := .int) (by decide)
      refine own_go (T6.setTop (mkF m 62 #[.val (.long p0), .second, .val (.int p1), .val (.long p2), .second, .val (.int p3), .val (.int p4), .val (.long ta), .second, .val (.int pa), .val (.long tb), .second, .val (.int pb), .unset, .unset, .unset, .unset, .unset, .unset, .unset, .unset] [(.ref b6)])) (fun t_ k_ => st6 _ k_) ?_
      refine own_go (T6.setTop (mkF m 63 #[.val (.long p0), .second, .val (.int p1), .val (.long p2), .second, .val (.int p3), .val (.int p4), .val (.long ta), .second, .val (.int pa), .val (.long tb), .second, .val (.int pb), .unset, .unset, .unset, .unset, .unset, .unset, .unset, .unset] [(.ref b6), (.ref b6)])) (fun t_ k_ => XS.dup X6.here hx rfl (hb hby at_62) rfl rfl k_) ?_
      refine own_go (T6.setTop (mkF m 65 #[.val (.long p0), .second, .val (.int p1), .val (.long p2), .second, .val (.int p3), .val (.int p4), .val (.long ta), .second, .val (.int pa), .val (.long tb), .second, .val (.int pb), .unset, .unset, .unset, .unset, .unset, .unset, .unset, .unset] [(.long ta), (.ref b6), (.ref b6)])) (fun t_ k_ => XS.lload X6.here hx rfl (hb hby at_63) rfl k_) ?_
      refine own_go (T6.setTop (mkF m 67 #[.val (.long p0), .second, .val (.int p1), .val (.long p2), .second, .val (.int p3), .val (.int p4), .val (.long ta), .second, .val (.int pa), .val (.long tb), .second, .val (.int pb), .unset, .unset, .unset, .unset, .unset, .unset, .unset, .unset] [(.int pa), (.long ta), (.ref b6), (.ref b6)])) (fun t_ k_ => XS.iload X6.here hx rfl (hb hby at_65) rfl k_) ?_
      obtain ⟨_, _, ⟨T7, Lu7, ku7, nu7⟩, -, X7, ⟨Lc7, hQ7, lu7, yu7, zu7⟩, st7⟩ := X6.specialBack hx (y := (⟨"com/example/eager_quorum/eagerquorum/model/Stamp", "<init>", "(JI)V"⟩ : MethodName)) rfl hown (mvT hZ (hw _ (List.mem_of_getElem? (i := 9) rfl))) (mvT hZ (hw _ (List.mem_of_getElem? (i := 10) rfl))) (mvT hZ (hw _ (List.mem_of_getElem? (i := 11) rfl))) (by decide) (backOf (W := 1) (rm_si l Z a0 hw [] (b6) (ta) (pa) h6 O6 A6 Ftime_6 Fprocess_6 ge_b6 hta hpa) hZ (hw _ (List.mem_of_getElem? (i := 11) rfl)) (hw _ (List.mem_of_getElem? (i := 8) rfl)) (by decide) (by decide)) (g := (mkF m 67 #[.val (.long p0), .second, .val (.int p1), .val (.long p2), .second, .val (.int p3), .val (.int p4), .val (.long ta), .second, .val (.int pa), .val (.long tb), .second, .val (.int pb), .unset, .unset, .unset, .unset, .unset, .unset, .unset, .unset] [(.int pa), (.long ta), (.ref b6), (.ref b6)])) rfl (by rw [hml]; rfl) (Steps.refl _) (a := b6) (argsL := [(.long ta), (.int pa)]) (rest := [(.ref b6)]) (lenOf own_pd4 rfl) rfl (by show 2 * 0 + _ ≤ _; exact Nat.le_of_eq rfl) (hb hby at_67) (fun _ _ => ⟨rfl, e6, (by decide : 1 + 0 ≤ _), (by decide : 2 + 0 ≤ _)⟩)
      dsimp only [Pt.U, Pt.locs, Pt.cells, Pt.slots] at X7 lu7 yu7 zu7 st7 hQ7
      subst lu7 yu7 zu7
      obtain ⟨rfl, N7q, K7q, X7q, F7q, G7q⟩ := hQ7
      have N7 := Fr.app N5 N7q
      have O7 := own_extK O6 K7q (allS ge_b6 all0)
      have KK7 : Keep h0 T7.heap [] := K6.trans K7q (allS (Or.inr sz_b6) all0)
      refine own_go (T7.setTop (mkF m 70 #[.val (.long p0), .second, .val (.int p1), .val (.long p2), .second, .val (.int p3), .val (.int p4), .val (.long ta), .second, .val (.int pa), .val (.long tb), .second, .val (.int pb), .unset, .unset, .unset, .unset, .unset, .unset, .unset, .unset] [(.ref b6)])) (fun t_ k_ => st7.trans k_) ?_
      refine own_go (T7.setTop (mkF m 72 #[.val (.long p0), .second, .val (.int p1), .val (.long p2), .second, .val (.int p3), .val (.int p4), .val (.long ta), .second, .val (.int pa), .val (.long tb), .second, .val (.int pb), .val (.ref b6), .unset, .unset, .unset, .unset, .unset, .unset, .unset] [])) (fun t_ k_ => XS.astore X7.here hx rfl (hb hby at_70) rfl rfl (l' := #[.val (.long p0), .second, .val (.int p1), .val (.long p2), .second, .val (.int p3), .val (.int p4), .val (.long ta), .second, .val (.int pa), .val (.long tb), .second, .val (.int pb), .val (.ref b6), .unset, .unset, .unset, .unset, .unset, .unset, .unset]) rfl k_) ?_
      obtain ⟨T8, h8, X8, e8, E8, A8, D8, U8, st8⟩ := newO X7 hx hZ hown (hw _ (List.mem_of_getElem? (i := 6) rfl)) (hw _ (List.mem_of_getElem? (i := 7) rfl)) (hw _ (List.mem_of_getElem? (i := 8) rfl)) rfl (g := (mkF m 72 #[.val (.long p0), .second, .val (.int p1), .val (.long p2), .second, .val (.int p3), .val (.int p4), .val (.long ta), .second, .val (.int pa), .val (.long tb), .second, .val (.int pb), .val (.ref b6), .unset, .unset, .unset, .unset, .unset, .unset, .unset] [])) rfl (hb hby at_72) (by decide) (by decide)
      obtain ⟨b8, g8⟩ : ∃ z, z = T7.heap.size := ⟨_, rfl⟩
      rw [← g8] at A8 D8 U8 st8
      have ge_b8 : Z.heap.size ≤ b8 := Nat.le_trans O7.1 (Nat.le_of_eq g8.symm)
      have sz_b8 : h0.size ≤ b8 := Nat.le_trans KK7.1 (Nat.le_of_eq g8.symm)
      have K8 : Keep h0 h8 [] := KK7.ext E8
      have O8 := own_ext O7 E8
      have Ftime_8 : Fld Z h8 b8 "com/example/eager_quorum/eagerquorum/model/Stamp" "time" "J" (.long (0 : Int64)) := D8 (Or.inr (hw _ (List.mem_of_getElem? (i := 20) rfl))) (ty := .long) (by decide)
      have Fprocess_8 : Fld Z h8 b8 "com/example/eager_quorum/eagerquorum/model/Stamp" "process" "I" (.int (0 : Int32)) := D8 (Or.inr (hw _ (List.mem_of_getElem? (i := 22) rfl))) (ty := .int) (by decide)
      refine own_go (T8.setTop (mkF m 75 #[.val (.long p0), .second, .val (.int p1), .val (.long p2), .second, .val (.int p3), .val (.int p4), .val (.long ta), .second, .val (.int pa), .val (.long tb), .second, .val (.int pb), .val (.ref b6), .unset, .unset, .unset, .unset, .unset, .unset, .unset] [(.ref b8)])) (fun t_ k_ => st8 _ k_) ?_
      refine own_go (T8.setTop (mkF m 76 #[.val (.long p0), .second, .val (.int p1), .val (.long p2), .second, .val (.int p3), .val (.int p4), .val (.long ta), .second, .val (.int pa), .val (.long tb), .second, .val (.int pb), .val (.ref b6), .unset, .unset, .unset, .unset, .unset, .unset, .unset] [(.ref b8), (.ref b8)])) (fun t_ k_ => XS.dup X8.here hx rfl (hb hby at_75) rfl rfl k_) ?_
      refine own_go (T8.setTop (mkF m 78 #[.val (.long p0), .second, .val (.int p1), .val (.long p2), .second, .val (.int p3), .val (.int p4), .val (.long ta), .second, .val (.int pa), .val (.long tb), .second, .val (.int pb), .val (.ref b6), .unset, .unset, .unset, .unset, .unset, .unset, .unset] [(.long tb), (.ref b8), (.ref b8)])) (fun t_ k_ => XS.lload X8.here hx rfl (hb hby at_76) rfl k_) ?_
      refine own_go (T8.setTop (mkF m 80 #[.val (.long p0), .second, .val (.int p1), .val (.long p2), .second, .val (.int p3), .val (.int p4), .val (.long ta), .second, .val (.int pa), .val (.long tb), .second, .val (.int pb), .val (.ref b6), .unset, .unset, .unset, .unset, .unset, .unset, .unset] [(.int pb), (.long tb), (.ref b8), (.ref b8)])) (fun t_ k_ => XS.iload X8.here hx rfl (hb hby at_78) rfl k_) ?_
      obtain ⟨_, _, ⟨T9, Lu9, ku9, nu9⟩, -, X9, ⟨Lc9, hQ9, lu9, yu9, zu9⟩, st9⟩ := X8.specialBack hx (y := (⟨"com/example/eager_quorum/eagerquorum/model/Stamp", "<init>", "(JI)V"⟩ : MethodName)) rfl hown (mvT hZ (hw _ (List.mem_of_getElem? (i := 9) rfl))) (mvT hZ (hw _ (List.mem_of_getElem? (i := 10) rfl))) (mvT hZ (hw _ (List.mem_of_getElem? (i := 11) rfl))) (by decide) (backOf (W := 1) (rm_si l Z a0 hw [] (b8) (tb) (pb) h8 O8 A8 Ftime_8 Fprocess_8 ge_b8 htb hpb) hZ (hw _ (List.mem_of_getElem? (i := 11) rfl)) (hw _ (List.mem_of_getElem? (i := 8) rfl)) (by decide) (by decide)) (g := (mkF m 80 #[.val (.long p0), .second, .val (.int p1), .val (.long p2), .second, .val (.int p3), .val (.int p4), .val (.long ta), .second, .val (.int pa), .val (.long tb), .second, .val (.int pb), .val (.ref b6), .unset, .unset, .unset, .unset, .unset, .unset, .unset] [(.int pb), (.long tb), (.ref b8), (.ref b8)])) rfl (by rw [hml]; rfl) (Steps.refl _) (a := b8) (argsL := [(.long tb), (.int pb)]) (rest := [(.ref b8)]) (lenOf own_pd4 rfl) rfl (by show 2 * 0 + _ ≤ _; exact Nat.le_of_eq rfl) (hb hby at_80) (fun _ _ => ⟨rfl, e8, (by decide : 2 + 0 ≤ _), (by decide : 4 + 0 ≤ _)⟩)
      dsimp only [Pt.U, Pt.locs, Pt.cells, Pt.slots] at X9 lu9 yu9 zu9 st9 hQ9
      subst lu9 yu9 zu9
      obtain ⟨rfl, N9q, K9q, X9q, F9q, G9q⟩ := hQ9
      have N9 := Fr.app N7 N9q
      have O9 := own_extK O8 K9q (allS ge_b8 all0)
      have KK9 : Keep h0 T9.heap [] := K8.trans K9q (allS (Or.inr sz_b8) all0)
      refine own_go (T9.setTop (mkF m 83 #[.val (.long p0), .second, .val (.int p1), .val (.long p2), .second, .val (.int p3), .val (.int p4), .val (.long ta), .second, .val (.int pa), .val (.long tb), .second, .val (.int pb), .val (.ref b6), .unset, .unset, .unset, .unset, .unset, .unset, .unset] [(.ref b8)])) (fun t_ k_ => st9.trans k_) ?_
      refine own_go (T9.setTop (mkF m 85 #[.val (.long p0), .second, .val (.int p1), .val (.long p2), .second, .val (.int p3), .val (.int p4), .val (.long ta), .second, .val (.int pa), .val (.long tb), .second, .val (.int pb), .val (.ref b6), .val (.ref b8), .unset, .unset, .unset, .unset, .unset, .unset] [])) (fun t_ k_ => XS.astore X9.here hx rfl (hb hby at_83) rfl rfl (l' := #[.val (.long p0), .second, .val (.int p1), .val (.long p2), .second, .val (.int p3), .val (.int p4), .val (.long ta), .second, .val (.int pa), .val (.long tb), .second, .val (.int pb), .val (.ref b6), .val (.ref b8), .unset, .unset, .unset, .unset, .unset, .unset]) rfl k_) ?_
      refine own_go (T9.setTop (mkF m 87 #[.val (.long p0), .second, .val (.int p1), .val (.long p2), .second, .val (.int p3), .val (.int p4), .val (.long ta), .second, .val (.int pa), .val (.long tb), .second, .val (.int pb), .val (.ref b6), .val (.ref b8), .unset, .unset, .unset, .unset, .unset, .unset] [(.int p4)])) (fun t_ k_ => XS.iload X9.here hx rfl (hb hby at_85) rfl k_) ?_
      refine own_go (T9.setTop (mkF m 88 #[.val (.long p0), .second, .val (.int p1), .val (.long p2), .second, .val (.int p3), .val (.int p4), .val (.long ta), .second, .val (.int pa), .val (.long tb), .second, .val (.int pb), .val (.ref b6), .val (.ref b8), .unset, .unset, .unset, .unset, .unset, .unset] [(.int (2 : Int32)), (.int p4)])) (fun t_ k_ => XS.iconst X9.here hx rfl (hb hby at_87) k_) ?_
      refine own_go (T9.setTop (mkF m 89 #[.val (.long p0), .second, .val (.int p1), .val (.long p2), .second, .val (.int p3), .val (.int p4), .val (.long ta), .second, .val (.int pa), .val (.long tb), .second, .val (.int pb), .val (.ref b6), .val (.ref b8), .unset, .unset, .unset, .unset, .unset, .unset] [(.int ((p4.toUInt32 >>> ((2 : Int32) &&& 31).toUInt32).toInt32))])) (fun t_ k_ => XS.iushr X9.here hx rfl (hb hby at_88) rfl k_) ?_
      refine own_go (T9.setTop (mkF m 90 #[.val (.long p0), .second, .val (.int p1), .val (.long p2), .second, .val (.int p3), .val (.int p4), .val (.long ta), .second, .val (.int pa), .val (.long tb), .second, .val (.int pb), .val (.ref b6), .val (.ref b8), .unset, .unset, .unset, .unset, .unset, .unset] [(.int (3 : Int32)), (.int ((p4.toUInt32 >>> ((2 : Int32) &&& 31).toUInt32).toInt32))])) (fun t_ k_ => XS.iconst X9.here hx rfl (hb hby at_89) k_) ?_
      refine own_go (T9.setTop (mkF m 91 #[.val (.long p0), .second, .val (.int p1), .val (.long p2), .second, .val (.int p3), .val (.int p4), .val (.long ta), .second, .val (.int pa), .val (.long tb), .second, .val (.int pb), .val (.ref b6), .val (.ref b8), .unset, .unset, .unset, .unset, .unset, .unset] [(.int (((p4.toUInt32 >>> ((2 : Int32) &&& 31).toUInt32).toInt32) &&& (3 : Int32)))])) (fun t_ k_ => XS.iand X9.here hx rfl (hb hby at_90) rfl k_) ?_
      refine own_go (T9.setTop (mkF m 93 #[.val (.long p0), .second, .val (.int p1), .val (.long p2), .second, .val (.int p3), .val (.int p4), .val (.long ta), .second, .val (.int pa), .val (.long tb), .second, .val (.int pb), .val (.ref b6), .val (.ref b8), .val (.int (((p4.toUInt32 >>> ((2 : Int32) &&& 31).toUInt32).toInt32) &&& (3 : Int32))), .unset, .unset, .unset, .unset, .unset] [])) (fun t_ k_ => XS.istore X9.here hx rfl (hb hby at_91) rfl (l' := #[.val (.long p0), .second, .val (.int p1), .val (.long p2), .second, .val (.int p3), .val (.int p4), .val (.long ta), .second, .val (.int pa), .val (.long tb), .second, .val (.int pb), .val (.ref b6), .val (.ref b8), .val (.int (((p4.toUInt32 >>> ((2 : Int32) &&& 31).toUInt32).toInt32) &&& (3 : Int32))), .unset, .unset, .unset, .unset, .unset]) rfl k_) ?_
      refine own_go (T9.setTop (mkF m 95 #[.val (.long p0), .second, .val (.int p1), .val (.long p2), .second, .val (.int p3), .val (.int p4), .val (.long ta), .second, .val (.int pa), .val (.long tb), .second, .val (.int pb), .val (.ref b6), .val (.ref b8), .val (.int (((p4.toUInt32 >>> ((2 : Int32) &&& 31).toUInt32).toInt32) &&& (3 : Int32))), .unset, .unset, .unset, .unset, .unset] [(.int (((p4.toUInt32 >>> ((2 : Int32) &&& 31).toUInt32).toInt32) &&& (3 : Int32)))])) (fun t_ k_ => XS.iload X9.here hx rfl (hb hby at_93) rfl k_) ?_
      by_cases hc95_10 : (((p4.toUInt32 >>> ((2 : Int32) &&& 31).toUInt32).toInt32) &&& (3 : Int32)) = (0 : Int32)
      ·
        refine own_go (T9.setTop (mkF m 98 #[.val (.long p0), .second, .val (.int p1), .val (.long p2), .second, .val (.int p3), .val (.int p4), .val (.long ta), .second, .val (.int pa), .val (.long tb), .second, .val (.int pb), .val (.ref b6), .val (.ref b8), .val (.int (((p4.toUInt32 >>> ((2 : Int32) &&& 31).toUInt32).toInt32) &&& (3 : Int32))), .unset, .unset, .unset, .unset, .unset] [])) (fun t_ k_ => XS.ifNo X9.here hx rfl (hb hby at_95) rfl ((if0 _ _).trans (teq hc95_10).2) k_) ?_
        refine own_go (T9.setTop (mkF m 100 #[.val (.long p0), .second, .val (.int p1), .val (.long p2), .second, .val (.int p3), .val (.int p4), .val (.long ta), .second, .val (.int pa), .val (.long tb), .second, .val (.int pb), .val (.ref b6), .val (.ref b8), .val (.int (((p4.toUInt32 >>> ((2 : Int32) &&& 31).toUInt32).toInt32) &&& (3 : Int32))), .unset, .unset, .unset, .unset, .unset] [(.long ta)])) (fun t_ k_ => XS.lload X9.here hx rfl (hb hby at_98) rfl k_) ?_
        refine own_go (T9.setTop (mkF m 102 #[.val (.long p0), .second, .val (.int p1), .val (.long p2), .second, .val (.int p3), .val (.int p4), .val (.long ta), .second, .val (.int pa), .val (.long tb), .second, .val (.int pb), .val (.ref b6), .val (.ref b8), .val (.int (((p4.toUInt32 >>> ((2 : Int32) &&& 31).toUInt32).toInt32) &&& (3 : Int32))), .unset, .unset, .unset, .unset, .unset] [(.long tb), (.long ta)])) (fun t_ k_ => XS.lload X9.here hx rfl (hb hby at_100) rfl k_) ?_
        refine own_go (T9.setTop (mkF m 103 #[.val (.long p0), .second, .val (.int p1), .val (.long p2), .second, .val (.int p3), .val (.int p4), .val (.long ta), .second, .val (.int pa), .val (.long tb), .second, .val (.int pb), .val (.ref b6), .val (.ref b8), .val (.int (((p4.toUInt32 >>> ((2 : Int32) &&& 31).toUInt32).toInt32) &&& (3 : Int32))), .unset, .unset, .unset, .unset, .unset] [(.int (lcmpW ta tb))])) (fun t_ k_ => XS.lcmp X9.here hx rfl (hb hby at_102) rfl k_) ?_
        by_cases hc103_11 : ta = tb
        ·
          refine own_go (T9.setTop (mkF m 106 #[.val (.long p0), .second, .val (.int p1), .val (.long p2), .second, .val (.int p3), .val (.int p4), .val (.long ta), .second, .val (.int pa), .val (.long tb), .second, .val (.int pb), .val (.ref b6), .val (.ref b8), .val (.int (((p4.toUInt32 >>> ((2 : Int32) &&& 31).toUInt32).toInt32) &&& (3 : Int32))), .unset, .unset, .unset, .unset, .unset] [])) (fun t_ k_ => XS.ifNo X9.here hx rfl (hb hby at_103) rfl ((if0 _ _).trans (teq (own_eq.mpr hc103_11)).2) k_) ?_
          refine own_go (T9.setTop (mkF m 108 #[.val (.long p0), .second, .val (.int p1), .val (.long p2), .second, .val (.int p3), .val (.int p4), .val (.long ta), .second, .val (.int pa), .val (.long tb), .second, .val (.int pb), .val (.ref b6), .val (.ref b8), .val (.int (((p4.toUInt32 >>> ((2 : Int32) &&& 31).toUInt32).toInt32) &&& (3 : Int32))), .unset, .unset, .unset, .unset, .unset] [(.int pa)])) (fun t_ k_ => XS.iload X9.here hx rfl (hb hby at_106) rfl k_) ?_
          refine own_go (T9.setTop (mkF m 110 #[.val (.long p0), .second, .val (.int p1), .val (.long p2), .second, .val (.int p3), .val (.int p4), .val (.long ta), .second, .val (.int pa), .val (.long tb), .second, .val (.int pb), .val (.ref b6), .val (.ref b8), .val (.int (((p4.toUInt32 >>> ((2 : Int32) &&& 31).toUInt32).toInt32) &&& (3 : Int32))), .unset, .unset, .unset, .unset, .unset] [(.int pb), (.int pa)])) (fun t_ k_ => XS.iload X9.here hx rfl (hb hby at_108) rfl k_) ?_
          by_cases hc110_12 : pa = pb
          ·
            refine own_go (T9.setTop (mkF m 113 #[.val (.long p0), .second, .val (.int p1), .val (.long p2), .second, .val (.int p3), .val (.int p4), .val (.long ta), .second, .val (.int pa), .val (.long tb), .second, .val (.int pb), .val (.ref b6), .val (.ref b8), .val (.int (((p4.toUInt32 >>> ((2 : Int32) &&& 31).toUInt32).toInt32) &&& (3 : Int32))), .unset, .unset, .unset, .unset, .unset] [])) (fun t_ k_ => XS.icmpNo X9.here hx rfl (hb hby at_110) rfl (teq hc110_12).2 k_) ?_
            refine own_go (T9.setTop (mkF m 114 #[.val (.long p0), .second, .val (.int p1), .val (.long p2), .second, .val (.int p3), .val (.int p4), .val (.long ta), .second, .val (.int pa), .val (.long tb), .second, .val (.int pb), .val (.ref b6), .val (.ref b8), .val (.int (((p4.toUInt32 >>> ((2 : Int32) &&& 31).toUInt32).toInt32) &&& (3 : Int32))), .unset, .unset, .unset, .unset, .unset] [(.int (1 : Int32))])) (fun t_ k_ => XS.iconst X9.here hx rfl (hb hby at_113) k_) ?_
            refine own_go (T9.setTop (mkF m 118 #[.val (.long p0), .second, .val (.int p1), .val (.long p2), .second, .val (.int p3), .val (.int p4), .val (.long ta), .second, .val (.int pa), .val (.long tb), .second, .val (.int pb), .val (.ref b6), .val (.ref b8), .val (.int (((p4.toUInt32 >>> ((2 : Int32) &&& 31).toUInt32).toInt32) &&& (3 : Int32))), .unset, .unset, .unset, .unset, .unset] [(.int (1 : Int32))])) (fun t_ k_ => XS.goto X9.here hx rfl (pc0 := 114) (pc' := 118) rfl (hb hby at_114) (by decide) (by decide) k_) ?_
            refine own_go (T9.setTop (mkF m 120 #[.val (.long p0), .second, .val (.int p1), .val (.long p2), .second, .val (.int p3), .val (.int p4), .val (.long ta), .second, .val (.int pa), .val (.long tb), .second, .val (.int pb), .val (.ref b6), .val (.ref b8), .val (.int (((p4.toUInt32 >>> ((2 : Int32) &&& 31).toUInt32).toInt32) &&& (3 : Int32))), .val (.int (1 : Int32)), .unset, .unset, .unset, .unset] [])) (fun t_ k_ => XS.istore X9.here hx rfl (hb hby at_118) rfl (l' := #[.val (.long p0), .second, .val (.int p1), .val (.long p2), .second, .val (.int p3), .val (.int p4), .val (.long ta), .second, .val (.int pa), .val (.long tb), .second, .val (.int pb), .val (.ref b6), .val (.ref b8), .val (.int (((p4.toUInt32 >>> ((2 : Int32) &&& 31).toUInt32).toInt32) &&& (3 : Int32))), .val (.int (1 : Int32)), .unset, .unset, .unset, .unset]) rfl k_) ?_
            refine own_go (T9.setTop (mkF m 122 #[.val (.long p0), .second, .val (.int p1), .val (.long p2), .second, .val (.int p3), .val (.int p4), .val (.long ta), .second, .val (.int pa), .val (.long tb), .second, .val (.int pb), .val (.ref b6), .val (.ref b8), .val (.int (((p4.toUInt32 >>> ((2 : Int32) &&& 31).toUInt32).toInt32) &&& (3 : Int32))), .val (.int (1 : Int32)), .unset, .unset, .unset, .unset] [(.ref b8)])) (fun t_ k_ => XS.aload X9.here hx rfl (hb hby at_120) rfl rfl k_) ?_
            refine own_go (T9.setTop (mkF m 124 #[.val (.long p0), .second, .val (.int p1), .val (.long p2), .second, .val (.int p3), .val (.int p4), .val (.long ta), .second, .val (.int pa), .val (.long tb), .second, .val (.int pb), .val (.ref b6), .val (.ref b8), .val (.int (((p4.toUInt32 >>> ((2 : Int32) &&& 31).toUInt32).toInt32) &&& (3 : Int32))), .val (.int (1 : Int32)), .val (.ref b8), .unset, .unset, .unset] [])) (fun t_ k_ => XS.astore X9.here hx rfl (hb hby at_122) rfl rfl (l' := #[.val (.long p0), .second, .val (.int p1), .val (.long p2), .second, .val (.int p3), .val (.int p4), .val (.long ta), .second, .val (.int pa), .val (.long tb), .second, .val (.int pb), .val (.ref b6), .val (.ref b8), .val (.int (((p4.toUInt32 >>> ((2 : Int32) &&& 31).toUInt32).toInt32) &&& (3 : Int32))), .val (.int (1 : Int32)), .val (.ref b8), .unset, .unset, .unset]) rfl k_) ?_
            refine own_go (T9.setTop (mkF m 126 #[.val (.long p0), .second, .val (.int p1), .val (.long p2), .second, .val (.int p3), .val (.int p4), .val (.long ta), .second, .val (.int pa), .val (.long tb), .second, .val (.int pb), .val (.ref b6), .val (.ref b8), .val (.int (((p4.toUInt32 >>> ((2 : Int32) &&& 31).toUInt32).toInt32) &&& (3 : Int32))), .val (.int (1 : Int32)), .val (.ref b8), .unset, .unset, .unset] [(.ref b6)])) (fun t_ k_ => XS.aload X9.here hx rfl (hb hby at_124) rfl rfl k_) ?_
            refine own_go (T9.setTop (mkF m 128 #[.val (.long p0), .second, .val (.int p1), .val (.long p2), .second, .val (.int p3), .val (.int p4), .val (.long ta), .second, .val (.int pa), .val (.long tb), .second, .val (.int pb), .val (.ref b6), .val (.ref b8), .val (.int (((p4.toUInt32 >>> ((2 : Int32) &&& 31).toUInt32).toInt32) &&& (3 : Int32))), .val (.int (1 : Int32)), .val (.ref b8), .val (.ref b6), .unset, .unset] [])) (fun t_ k_ => XS.astore X9.here hx rfl (hb hby at_126) rfl rfl (l' := #[.val (.long p0), .second, .val (.int p1), .val (.long p2), .second, .val (.int p3), .val (.int p4), .val (.long ta), .second, .val (.int pa), .val (.long tb), .second, .val (.int pb), .val (.ref b6), .val (.ref b8), .val (.int (((p4.toUInt32 >>> ((2 : Int32) &&& 31).toUInt32).toInt32) &&& (3 : Int32))), .val (.int (1 : Int32)), .val (.ref b8), .val (.ref b6), .unset, .unset]) rfl k_) ?_
            refine own_go (T9.setTop (mkF m 130 #[.val (.long p0), .second, .val (.int p1), .val (.long p2), .second, .val (.int p3), .val (.int p4), .val (.long ta), .second, .val (.int pa), .val (.long tb), .second, .val (.int pb), .val (.ref b6), .val (.ref b8), .val (.int (((p4.toUInt32 >>> ((2 : Int32) &&& 31).toUInt32).toInt32) &&& (3 : Int32))), .val (.int (1 : Int32)), .val (.ref b8), .val (.ref b6), .unset, .unset] [(.ref b6)])) (fun t_ k_ => XS.aload X9.here hx rfl (hb hby at_128) rfl rfl k_) ?_
            refine own_go (T9.setTop (mkF m 132 #[.val (.long p0), .second, .val (.int p1), .val (.long p2), .second, .val (.int p3), .val (.int p4), .val (.long ta), .second, .val (.int pa), .val (.long tb), .second, .val (.int pb), .val (.ref b6), .val (.ref b8), .val (.int (((p4.toUInt32 >>> ((2 : Int32) &&& 31).toUInt32).toInt32) &&& (3 : Int32))), .val (.int (1 : Int32)), .val (.ref b8), .val (.ref b6), .unset, .unset] [(.ref b8), (.ref b6)])) (fun t_ k_ => XS.aload X9.here hx rfl (hb hby at_130) rfl rfl k_) ?_
            have Nz13 : b6 ≠ b8 := (Nat.ne_of_lt (Nat.lt_of_lt_of_le X7q.lt (Nat.le_of_eq g8.symm)))
            have Fz14 := ((F7q.ext E8).keep K9q (ninS Nz13 nin0))
            have Fz15 := ((G7q.ext E8).keep K9q (ninS Nz13 nin0))
            have Fz17 := ((X7q.ext E8).keep K9q)
            obtain ⟨cq16, kq16, q16a, q16b, q16c⟩ := isOf hZ rfl Fz17
            obtain ⟨_, _, ⟨T16, Lu16, ku16, nu16⟩, -, X16, ⟨Lc16, hQ16, lu16, yu16, zu16⟩, st16⟩ := X9.virtualBack hx (y := (⟨"com/example/eager_quorum/eagerquorum/model/Stamp", "equals", "(Ljava/lang/Object;)Z"⟩ : MethodName)) (z := (⟨"com/example/eager_quorum/eagerquorum/model/Stamp", "equals", "(Ljava/lang/Object;)Z"⟩ : MethodName)) hown (mvT hZ (hw _ (List.mem_of_getElem? (i := 23) rfl))) (mvT hZ (hw _ (List.mem_of_getElem? (i := 24) rfl))) (notFace_of_selects (args := #[]) (mvT hZ (hw _ (List.mem_of_getElem? (i := 26) rfl)))) (mvT hZ (hw _ (List.mem_of_getElem? (i := 26) rfl))) (mvT hZ (hw _ (List.mem_of_getElem? (i := 25) rfl))) (by decide) (backOf (W := 0) (rm_eS l Z a0 hw [] (b6) (b8) (ta) (pa) (tb) (pb) T9.heap O9 X9q Fz14 Fz15 F9q G9q) hZ (hw _ (List.mem_of_getElem? (i := 27) rfl)) (hw _ (List.mem_of_getElem? (i := 8) rfl)) (by decide) (by decide)) q16a q16c (g := (mkF m 132 #[.val (.long p0), .second, .val (.int p1), .val (.long p2), .second, .val (.int p3), .val (.int p4), .val (.long ta), .second, .val (.int pa), .val (.long tb), .second, .val (.int pb), .val (.ref b6), .val (.ref b8), .val (.int (((p4.toUInt32 >>> ((2 : Int32) &&& 31).toUInt32).toInt32) &&& (3 : Int32))), .val (.int (1 : Int32)), .val (.ref b8), .val (.ref b6), .unset, .unset] [(.ref b8), (.ref b6)])) rfl (by rw [hml]; rfl) (Steps.refl _) (argsL := [(.ref b8)]) (rest := []) (lenOf own_pd5 rfl) rfl (by show 2 * 0 + _ ≤ _; exact Nat.le_of_eq rfl) (hb hby at_132) (fun _ _ => ⟨rfl, rfl, (by decide : 2 + 0 ≤ _), (by decide : 4 + 0 ≤ _)⟩)
            dsimp only [Pt.U, Pt.locs, Pt.cells, Pt.slots] at X16 lu16 yu16 zu16 st16 hQ16
            subst lu16 yu16 zu16
            obtain ⟨rfl, N16q, e16⟩ := hQ16
            have N16 := Fr.app N9 N16q
            refine own_go (T16.setTop (mkF m 135 #[.val (.long p0), .second, .val (.int p1), .val (.long p2), .second, .val (.int p3), .val (.int p4), .val (.long ta), .second, .val (.int pa), .val (.long tb), .second, .val (.int pb), .val (.ref b6), .val (.ref b8), .val (.int (((p4.toUInt32 >>> ((2 : Int32) &&& 31).toUInt32).toInt32) &&& (3 : Int32))), .val (.int (1 : Int32)), .val (.ref b8), .val (.ref b6), .unset, .unset] [(.int (if ta = tb then if pa = pb then 1 else 0 else 0))])) (fun t_ k_ => st16.trans k_) ?_
            refine own_go (T16.setTop (mkF m 137 #[.val (.long p0), .second, .val (.int p1), .val (.long p2), .second, .val (.int p3), .val (.int p4), .val (.long ta), .second, .val (.int pa), .val (.long tb), .second, .val (.int pb), .val (.ref b6), .val (.ref b8), .val (.int (((p4.toUInt32 >>> ((2 : Int32) &&& 31).toUInt32).toInt32) &&& (3 : Int32))), .val (.int (1 : Int32)), .val (.ref b8), .val (.ref b6), .val (.int (if ta = tb then if pa = pb then 1 else 0 else 0)), .unset] [])) (fun t_ k_ => XS.istore X16.here hx rfl (hb hby at_135) rfl (l' := #[.val (.long p0), .second, .val (.int p1), .val (.long p2), .second, .val (.int p3), .val (.int p4), .val (.long ta), .second, .val (.int pa), .val (.long tb), .second, .val (.int pb), .val (.ref b6), .val (.ref b8), .val (.int (((p4.toUInt32 >>> ((2 : Int32) &&& 31).toUInt32).toInt32) &&& (3 : Int32))), .val (.int (1 : Int32)), .val (.ref b8), .val (.ref b6), .val (.int (if ta = tb then if pa = pb then 1 else 0 else 0)), .unset]) rfl k_) ?_
            refine own_go (T16.setTop (mkF m 139 #[.val (.long p0), .second, .val (.int p1), .val (.long p2), .second, .val (.int p3), .val (.int p4), .val (.long ta), .second, .val (.int pa), .val (.long tb), .second, .val (.int pb), .val (.ref b6), .val (.ref b8), .val (.int (((p4.toUInt32 >>> ((2 : Int32) &&& 31).toUInt32).toInt32) &&& (3 : Int32))), .val (.int (1 : Int32)), .val (.ref b8), .val (.ref b6), .val (.int (if ta = tb then if pa = pb then 1 else 0 else 0)), .unset] [(.ref b8)])) (fun t_ k_ => XS.aload X16.here hx rfl (hb hby at_137) rfl rfl k_) ?_
            refine own_go (T16.setTop (mkF m 141 #[.val (.long p0), .second, .val (.int p1), .val (.long p2), .second, .val (.int p3), .val (.int p4), .val (.long ta), .second, .val (.int pa), .val (.long tb), .second, .val (.int pb), .val (.ref b6), .val (.ref b8), .val (.int (((p4.toUInt32 >>> ((2 : Int32) &&& 31).toUInt32).toInt32) &&& (3 : Int32))), .val (.int (1 : Int32)), .val (.ref b8), .val (.ref b6), .val (.int (if ta = tb then if pa = pb then 1 else 0 else 0)), .unset] [(.ref b6), (.ref b8)])) (fun t_ k_ => XS.aload X16.here hx rfl (hb hby at_139) rfl rfl k_) ?_
            obtain ⟨cq18, kq18, q18a, q18b, q18c⟩ := isOf hZ e16 X9q
            obtain ⟨_, _, ⟨T18, Lu18, ku18, nu18⟩, -, X18, ⟨Lc18, hQ18, lu18, yu18, zu18⟩, st18⟩ := X16.virtualBack hx (y := (⟨"com/example/eager_quorum/eagerquorum/model/Stamp", "equals", "(Ljava/lang/Object;)Z"⟩ : MethodName)) (z := (⟨"com/example/eager_quorum/eagerquorum/model/Stamp", "equals", "(Ljava/lang/Object;)Z"⟩ : MethodName)) hown (mvT hZ (hw _ (List.mem_of_getElem? (i := 23) rfl))) (mvT hZ (hw _ (List.mem_of_getElem? (i := 24) rfl))) (notFace_of_selects (args := #[]) (mvT hZ (hw _ (List.mem_of_getElem? (i := 26) rfl)))) (mvT hZ (hw _ (List.mem_of_getElem? (i := 26) rfl))) (mvT hZ (hw _ (List.mem_of_getElem? (i := 25) rfl))) (by decide) (backOf (W := 0) (rm_eS l Z a0 hw [] (b8) (b6) (tb) (pb) (ta) (pa) T9.heap O9 Fz17 F9q G9q Fz14 Fz15) hZ (hw _ (List.mem_of_getElem? (i := 27) rfl)) (hw _ (List.mem_of_getElem? (i := 8) rfl)) (by decide) (by decide)) q18a q18c (g := (mkF m 141 #[.val (.long p0), .second, .val (.int p1), .val (.long p2), .second, .val (.int p3), .val (.int p4), .val (.long ta), .second, .val (.int pa), .val (.long tb), .second, .val (.int pb), .val (.ref b6), .val (.ref b8), .val (.int (((p4.toUInt32 >>> ((2 : Int32) &&& 31).toUInt32).toInt32) &&& (3 : Int32))), .val (.int (1 : Int32)), .val (.ref b8), .val (.ref b6), .val (.int (if ta = tb then if pa = pb then 1 else 0 else 0)), .unset] [(.ref b6), (.ref b8)])) rfl (by rw [hml]; rfl) (Steps.refl _) (argsL := [(.ref b6)]) (rest := []) (lenOf own_pd5 rfl) rfl (by show 2 * 0 + _ ≤ _; exact Nat.le_of_eq rfl) (hb hby at_141) (fun _ _ => ⟨rfl, e16, (by decide : 2 + 0 ≤ _), (by decide : 4 + 0 ≤ _)⟩)
            dsimp only [Pt.U, Pt.locs, Pt.cells, Pt.slots] at X18 lu18 yu18 zu18 st18 hQ18
            subst lu18 yu18 zu18
            obtain ⟨rfl, N18q, e18⟩ := hQ18
            have N18 := Fr.app N16 N18q
            refine own_go (T18.setTop (mkF m 144 #[.val (.long p0), .second, .val (.int p1), .val (.long p2), .second, .val (.int p3), .val (.int p4), .val (.long ta), .second, .val (.int pa), .val (.long tb), .second, .val (.int pb), .val (.ref b6), .val (.ref b8), .val (.int (((p4.toUInt32 >>> ((2 : Int32) &&& 31).toUInt32).toInt32) &&& (3 : Int32))), .val (.int (1 : Int32)), .val (.ref b8), .val (.ref b6), .val (.int (if ta = tb then if pa = pb then 1 else 0 else 0)), .unset] [(.int (if tb = ta then if pb = pa then 1 else 0 else 0))])) (fun t_ k_ => st18.trans k_) ?_
            refine own_go (T18.setTop (mkF m 146 #[.val (.long p0), .second, .val (.int p1), .val (.long p2), .second, .val (.int p3), .val (.int p4), .val (.long ta), .second, .val (.int pa), .val (.long tb), .second, .val (.int pb), .val (.ref b6), .val (.ref b8), .val (.int (((p4.toUInt32 >>> ((2 : Int32) &&& 31).toUInt32).toInt32) &&& (3 : Int32))), .val (.int (1 : Int32)), .val (.ref b8), .val (.ref b6), .val (.int (if ta = tb then if pa = pb then 1 else 0 else 0)), .val (.int (if tb = ta then if pb = pa then 1 else 0 else 0))] [])) (fun t_ k_ => XS.istore X18.here hx rfl (hb hby at_144) rfl (l' := #[.val (.long p0), .second, .val (.int p1), .val (.long p2), .second, .val (.int p3), .val (.int p4), .val (.long ta), .second, .val (.int pa), .val (.long tb), .second, .val (.int pb), .val (.ref b6), .val (.ref b8), .val (.int (((p4.toUInt32 >>> ((2 : Int32) &&& 31).toUInt32).toInt32) &&& (3 : Int32))), .val (.int (1 : Int32)), .val (.ref b8), .val (.ref b6), .val (.int (if ta = tb then if pa = pb then 1 else 0 else 0)), .val (.int (if tb = ta then if pb = pa then 1 else 0 else 0))]) rfl k_) ?_
            refine own_go (T18.setTop (mkF m 148 #[.val (.long p0), .second, .val (.int p1), .val (.long p2), .second, .val (.int p3), .val (.int p4), .val (.long ta), .second, .val (.int pa), .val (.long tb), .second, .val (.int pb), .val (.ref b6), .val (.ref b8), .val (.int (((p4.toUInt32 >>> ((2 : Int32) &&& 31).toUInt32).toInt32) &&& (3 : Int32))), .val (.int (1 : Int32)), .val (.ref b8), .val (.ref b6), .val (.int (if ta = tb then if pa = pb then 1 else 0 else 0)), .val (.int (if tb = ta then if pb = pa then 1 else 0 else 0))] [(.int (if ta = tb then if pa = pb then 1 else 0 else 0))])) (fun t_ k_ => XS.iload X18.here hx rfl (hb hby at_146) rfl k_) ?_
            refine own_go (T18.setTop (mkF m 150 #[.val (.long p0), .second, .val (.int p1), .val (.long p2), .second, .val (.int p3), .val (.int p4), .val (.long ta), .second, .val (.int pa), .val (.long tb), .second, .val (.int pb), .val (.ref b6), .val (.ref b8), .val (.int (((p4.toUInt32 >>> ((2 : Int32) &&& 31).toUInt32).toInt32) &&& (3 : Int32))), .val (.int (1 : Int32)), .val (.ref b8), .val (.ref b6), .val (.int (if ta = tb then if pa = pb then 1 else 0 else 0)), .val (.int (if tb = ta then if pb = pa then 1 else 0 else 0))] [(.int (1 : Int32)), (.int (if ta = tb then if pa = pb then 1 else 0 else 0))])) (fun t_ k_ => XS.iload X18.here hx rfl (hb hby at_148) rfl k_) ?_
            have hs1 : tb = ta := hc103_11.symm
            have hs2 : pb = pa := hc110_12.symm
            have hfin19 : (if ta = tb then if pa = pb then 1 else 0 else 0) = (1 : Int32) := by simp [hc103_11, hc110_12]
            refine own_go (T18.setTop (mkF m 153 #[.val (.long p0), .second, .val (.int p1), .val (.long p2), .second, .val (.int p3), .val (.int p4), .val (.long ta), .second, .val (.int pa), .val (.long tb), .second, .val (.int pb), .val (.ref b6), .val (.ref b8), .val (.int (((p4.toUInt32 >>> ((2 : Int32) &&& 31).toUInt32).toInt32) &&& (3 : Int32))), .val (.int (1 : Int32)), .val (.ref b8), .val (.ref b6), .val (.int (if ta = tb then if pa = pb then 1 else 0 else 0)), .val (.int (if tb = ta then if pb = pa then 1 else 0 else 0))] [])) (fun t_ k_ => XS.icmpNo X18.here hx rfl (hb hby at_150) rfl (teq hfin19).2 k_) ?_
            refine own_go (T18.setTop (mkF m 155 #[.val (.long p0), .second, .val (.int p1), .val (.long p2), .second, .val (.int p3), .val (.int p4), .val (.long ta), .second, .val (.int pa), .val (.long tb), .second, .val (.int pb), .val (.ref b6), .val (.ref b8), .val (.int (((p4.toUInt32 >>> ((2 : Int32) &&& 31).toUInt32).toInt32) &&& (3 : Int32))), .val (.int (1 : Int32)), .val (.ref b8), .val (.ref b6), .val (.int (if ta = tb then if pa = pb then 1 else 0 else 0)), .val (.int (if tb = ta then if pb = pa then 1 else 0 else 0))] [(.int (if tb = ta then if pb = pa then 1 else 0 else 0))])) (fun t_ k_ => XS.iload X18.here hx rfl (hb hby at_153) rfl k_) ?_
            refine own_go (T18.setTop (mkF m 157 #[.val (.long p0), .second, .val (.int p1), .val (.long p2), .second, .val (.int p3), .val (.int p4), .val (.long ta), .second, .val (.int pa), .val (.long tb), .second, .val (.int pb), .val (.ref b6), .val (.ref b8), .val (.int (((p4.toUInt32 >>> ((2 : Int32) &&& 31).toUInt32).toInt32) &&& (3 : Int32))), .val (.int (1 : Int32)), .val (.ref b8), .val (.ref b6), .val (.int (if ta = tb then if pa = pb then 1 else 0 else 0)), .val (.int (if tb = ta then if pb = pa then 1 else 0 else 0))] [(.int (1 : Int32)), (.int (if tb = ta then if pb = pa then 1 else 0 else 0))])) (fun t_ k_ => XS.iload X18.here hx rfl (hb hby at_155) rfl k_) ?_
            have hs1 : tb = ta := hc103_11.symm
            have hs2 : pb = pa := hc110_12.symm
            have hfin20 : (if tb = ta then if pb = pa then 1 else 0 else 0) = (1 : Int32) := by simp [hc103_11, hc110_12]
            refine own_go (T18.setTop (mkF m 160 #[.val (.long p0), .second, .val (.int p1), .val (.long p2), .second, .val (.int p3), .val (.int p4), .val (.long ta), .second, .val (.int pa), .val (.long tb), .second, .val (.int pb), .val (.ref b6), .val (.ref b8), .val (.int (((p4.toUInt32 >>> ((2 : Int32) &&& 31).toUInt32).toInt32) &&& (3 : Int32))), .val (.int (1 : Int32)), .val (.ref b8), .val (.ref b6), .val (.int (if ta = tb then if pa = pb then 1 else 0 else 0)), .val (.int (if tb = ta then if pb = pa then 1 else 0 else 0))] [])) (fun t_ k_ => XS.icmpNo X18.here hx rfl (hb hby at_157) rfl (teq hfin20).2 k_) ?_
            refine own_go (T18.setTop (mkF m 161 #[.val (.long p0), .second, .val (.int p1), .val (.long p2), .second, .val (.int p3), .val (.int p4), .val (.long ta), .second, .val (.int pa), .val (.long tb), .second, .val (.int pb), .val (.ref b6), .val (.ref b8), .val (.int (((p4.toUInt32 >>> ((2 : Int32) &&& 31).toUInt32).toInt32) &&& (3 : Int32))), .val (.int (1 : Int32)), .val (.ref b8), .val (.ref b6), .val (.int (if ta = tb then if pa = pb then 1 else 0 else 0)), .val (.int (if tb = ta then if pb = pa then 1 else 0 else 0))] [(.int (1 : Int32))])) (fun t_ k_ => XS.iconst X18.here hx rfl (hb hby at_160) k_) ?_
            refine own_go (T18.setTop (mkF m 165 #[.val (.long p0), .second, .val (.int p1), .val (.long p2), .second, .val (.int p3), .val (.int p4), .val (.long ta), .second, .val (.int pa), .val (.long tb), .second, .val (.int pb), .val (.ref b6), .val (.ref b8), .val (.int (((p4.toUInt32 >>> ((2 : Int32) &&& 31).toUInt32).toInt32) &&& (3 : Int32))), .val (.int (1 : Int32)), .val (.ref b8), .val (.ref b6), .val (.int (if ta = tb then if pa = pb then 1 else 0 else 0)), .val (.int (if tb = ta then if pb = pa then 1 else 0 else 0))] [(.int (1 : Int32))])) (fun t_ k_ => XS.goto X18.here hx rfl (pc0 := 161) (pc' := 165) rfl (hb hby at_161) (by decide) (by decide) k_) ?_
            obtain ⟨fs, hr, hrun, hended, hW, hsame⟩ := X18.leave (v := some (.int (nar .boolean (1 : Int32)))) (fun h => by rw [Bd.returns] at h; cases h)
            refine ⟨_, _, retN X18 hx (t := .boolean) Bd.returns (by simp) (hb hby at_165) hr, hrun, hended, _, _, rfl, ?_, ⟨_, rfl⟩, hW, hsame.mono (by decide) (by decide)⟩
            show Q_law Z p0 p1 p2 p3 p4 a_cache cl_cache h0 _ T18.heap _
            exact ⟨rfl, N18, trivial⟩
          ·
            refine own_go (T9.setTop (mkF m 117 #[.val (.long p0), .second, .val (.int p1), .val (.long p2), .second, .val (.int p3), .val (.int p4), .val (.long ta), .second, .val (.int pa), .val (.long tb), .second, .val (.int pb), .val (.ref b6), .val (.ref b8), .val (.int (((p4.toUInt32 >>> ((2 : Int32) &&& 31).toUInt32).toInt32) &&& (3 : Int32))), .unset, .unset, .unset, .unset, .unset] [])) (fun t_ k_ => XS.icmpYes X9.here hx rfl (pc0 := 110) (pc' := 117) rfl (hb hby at_110) rfl (feq hc110_12).2 (by decide) (by decide) k_) ?_
            refine own_go (T9.setTop (mkF m 118 #[.val (.long p0), .second, .val (.int p1), .val (.long p2), .second, .val (.int p3), .val (.int p4), .val (.long ta), .second, .val (.int pa), .val (.long tb), .second, .val (.int pb), .val (.ref b6), .val (.ref b8), .val (.int (((p4.toUInt32 >>> ((2 : Int32) &&& 31).toUInt32).toInt32) &&& (3 : Int32))), .unset, .unset, .unset, .unset, .unset] [(.int (0 : Int32))])) (fun t_ k_ => XS.iconst X9.here hx rfl (hb hby at_117) k_) ?_
            refine own_go (T9.setTop (mkF m 120 #[.val (.long p0), .second, .val (.int p1), .val (.long p2), .second, .val (.int p3), .val (.int p4), .val (.long ta), .second, .val (.int pa), .val (.long tb), .second, .val (.int pb), .val (.ref b6), .val (.ref b8), .val (.int (((p4.toUInt32 >>> ((2 : Int32) &&& 31).toUInt32).toInt32) &&& (3 : Int32))), .val (.int (0 : Int32)), .unset, .unset, .unset, .unset] [])) (fun t_ k_ => XS.istore X9.here hx rfl (hb hby at_118) rfl (l' := #[.val (.long p0), .second, .val (.int p1), .val (.long p2), .second, .val (.int p3), .val (.int p4), .val (.long ta), .second, .val (.int pa), .val (.long tb), .second, .val (.int pb), .val (.ref b6), .val (.ref b8), .val (.int (((p4.toUInt32 >>> ((2 : Int32) &&& 31).toUInt32).toInt32) &&& (3 : Int32))), .val (.int (0 : Int32)), .unset, .unset, .unset, .unset]) rfl k_) ?_
            refine own_go (T9.setTop (mkF m 122 #[.val (.long p0), .second, .val (.int p1), .val (.long p2), .second, .val (.int p3), .val (.int p4), .val (.long ta), .second, .val (.int pa), .val (.long tb), .second, .val (.int pb), .val (.ref b6), .val (.ref b8), .val (.int (((p4.toUInt32 >>> ((2 : Int32) &&& 31).toUInt32).toInt32) &&& (3 : Int32))), .val (.int (0 : Int32)), .unset, .unset, .unset, .unset] [(.ref b8)])) (fun t_ k_ => XS.aload X9.here hx rfl (hb hby at_120) rfl rfl k_) ?_
            refine own_go (T9.setTop (mkF m 124 #[.val (.long p0), .second, .val (.int p1), .val (.long p2), .second, .val (.int p3), .val (.int p4), .val (.long ta), .second, .val (.int pa), .val (.long tb), .second, .val (.int pb), .val (.ref b6), .val (.ref b8), .val (.int (((p4.toUInt32 >>> ((2 : Int32) &&& 31).toUInt32).toInt32) &&& (3 : Int32))), .val (.int (0 : Int32)), .val (.ref b8), .unset, .unset, .unset] [])) (fun t_ k_ => XS.astore X9.here hx rfl (hb hby at_122) rfl rfl (l' := #[.val (.long p0), .second, .val (.int p1), .val (.long p2), .second, .val (.int p3), .val (.int p4), .val (.long ta), .second, .val (.int pa), .val (.long tb), .second, .val (.int pb), .val (.ref b6), .val (.ref b8), .val (.int (((p4.toUInt32 >>> ((2 : Int32) &&& 31).toUInt32).toInt32) &&& (3 : Int32))), .val (.int (0 : Int32)), .val (.ref b8), .unset, .unset, .unset]) rfl k_) ?_
            refine own_go (T9.setTop (mkF m 126 #[.val (.long p0), .second, .val (.int p1), .val (.long p2), .second, .val (.int p3), .val (.int p4), .val (.long ta), .second, .val (.int pa), .val (.long tb), .second, .val (.int pb), .val (.ref b6), .val (.ref b8), .val (.int (((p4.toUInt32 >>> ((2 : Int32) &&& 31).toUInt32).toInt32) &&& (3 : Int32))), .val (.int (0 : Int32)), .val (.ref b8), .unset, .unset, .unset] [(.ref b6)])) (fun t_ k_ => XS.aload X9.here hx rfl (hb hby at_124) rfl rfl k_) ?_
            refine own_go (T9.setTop (mkF m 128 #[.val (.long p0), .second, .val (.int p1), .val (.long p2), .second, .val (.int p3), .val (.int p4), .val (.long ta), .second, .val (.int pa), .val (.long tb), .second, .val (.int pb), .val (.ref b6), .val (.ref b8), .val (.int (((p4.toUInt32 >>> ((2 : Int32) &&& 31).toUInt32).toInt32) &&& (3 : Int32))), .val (.int (0 : Int32)), .val (.ref b8), .val (.ref b6), .unset, .unset] [])) (fun t_ k_ => XS.astore X9.here hx rfl (hb hby at_126) rfl rfl (l' := #[.val (.long p0), .second, .val (.int p1), .val (.long p2), .second, .val (.int p3), .val (.int p4), .val (.long ta), .second, .val (.int pa), .val (.long tb), .second, .val (.int pb), .val (.ref b6), .val (.ref b8), .val (.int (((p4.toUInt32 >>> ((2 : Int32) &&& 31).toUInt32).toInt32) &&& (3 : Int32))), .val (.int (0 : Int32)), .val (.ref b8), .val (.ref b6), .unset, .unset]) rfl k_) ?_
            refine own_go (T9.setTop (mkF m 130 #[.val (.long p0), .second, .val (.int p1), .val (.long p2), .second, .val (.int p3), .val (.int p4), .val (.long ta), .second, .val (.int pa), .val (.long tb), .second, .val (.int pb), .val (.ref b6), .val (.ref b8), .val (.int (((p4.toUInt32 >>> ((2 : Int32) &&& 31).toUInt32).toInt32) &&& (3 : Int32))), .val (.int (0 : Int32)), .val (.ref b8), .val (.ref b6), .unset, .unset] [(.ref b6)])) (fun t_ k_ => XS.aload X9.here hx rfl (hb hby at_128) rfl rfl k_) ?_
            refine own_go (T9.setTop (mkF m 132 #[.val (.long p0), .second, .val (.int p1), .val (.long p2), .second, .val (.int p3), .val (.int p4), .val (.long ta), .second, .val (.int pa), .val (.long tb), .second, .val (.int pb), .val (.ref b6), .val (.ref b8), .val (.int (((p4.toUInt32 >>> ((2 : Int32) &&& 31).toUInt32).toInt32) &&& (3 : Int32))), .val (.int (0 : Int32)), .val (.ref b8), .val (.ref b6), .unset, .unset] [(.ref b8), (.ref b6)])) (fun t_ k_ => XS.aload X9.here hx rfl (hb hby at_130) rfl rfl k_) ?_
            have Nz21 : b6 ≠ b8 := (Nat.ne_of_lt (Nat.lt_of_lt_of_le X7q.lt (Nat.le_of_eq g8.symm)))
            have Fz22 := ((F7q.ext E8).keep K9q (ninS Nz21 nin0))
            have Fz23 := ((G7q.ext E8).keep K9q (ninS Nz21 nin0))
            have Fz25 := ((X7q.ext E8).keep K9q)
            obtain ⟨cq24, kq24, q24a, q24b, q24c⟩ := isOf hZ rfl Fz25
            obtain ⟨_, _, ⟨T24, Lu24, ku24, nu24⟩, -, X24, ⟨Lc24, hQ24, lu24, yu24, zu24⟩, st24⟩ := X9.virtualBack hx (y := (⟨"com/example/eager_quorum/eagerquorum/model/Stamp", "equals", "(Ljava/lang/Object;)Z"⟩ : MethodName)) (z := (⟨"com/example/eager_quorum/eagerquorum/model/Stamp", "equals", "(Ljava/lang/Object;)Z"⟩ : MethodName)) hown (mvT hZ (hw _ (List.mem_of_getElem? (i := 23) rfl))) (mvT hZ (hw _ (List.mem_of_getElem? (i := 24) rfl))) (notFace_of_selects (args := #[]) (mvT hZ (hw _ (List.mem_of_getElem? (i := 26) rfl)))) (mvT hZ (hw _ (List.mem_of_getElem? (i := 26) rfl))) (mvT hZ (hw _ (List.mem_of_getElem? (i := 25) rfl))) (by decide) (backOf (W := 0) (rm_eS l Z a0 hw [] (b6) (b8) (ta) (pa) (tb) (pb) T9.heap O9 X9q Fz22 Fz23 F9q G9q) hZ (hw _ (List.mem_of_getElem? (i := 27) rfl)) (hw _ (List.mem_of_getElem? (i := 8) rfl)) (by decide) (by decide)) q24a q24c (g := (mkF m 132 #[.val (.long p0), .second, .val (.int p1), .val (.long p2), .second, .val (.int p3), .val (.int p4), .val (.long ta), .second, .val (.int pa), .val (.long tb), .second, .val (.int pb), .val (.ref b6), .val (.ref b8), .val (.int (((p4.toUInt32 >>> ((2 : Int32) &&& 31).toUInt32).toInt32) &&& (3 : Int32))), .val (.int (0 : Int32)), .val (.ref b8), .val (.ref b6), .unset, .unset] [(.ref b8), (.ref b6)])) rfl (by rw [hml]; rfl) (Steps.refl _) (argsL := [(.ref b8)]) (rest := []) (lenOf own_pd5 rfl) rfl (by show 2 * 0 + _ ≤ _; exact Nat.le_of_eq rfl) (hb hby at_132) (fun _ _ => ⟨rfl, rfl, (by decide : 2 + 0 ≤ _), (by decide : 4 + 0 ≤ _)⟩)
            dsimp only [Pt.U, Pt.locs, Pt.cells, Pt.slots] at X24 lu24 yu24 zu24 st24 hQ24
            subst lu24 yu24 zu24
            obtain ⟨rfl, N24q, e24⟩ := hQ24
            have N24 := Fr.app N9 N24q
            refine own_go (T24.setTop (mkF m 135 #[.val (.long p0), .second, .val (.int p1), .val (.long p2), .second, .val (.int p3), .val (.int p4), .val (.long ta), .second, .val (.int pa), .val (.long tb), .second, .val (.int pb), .val (.ref b6), .val (.ref b8), .val (.int (((p4.toUInt32 >>> ((2 : Int32) &&& 31).toUInt32).toInt32) &&& (3 : Int32))), .val (.int (0 : Int32)), .val (.ref b8), .val (.ref b6), .unset, .unset] [(.int (if ta = tb then if pa = pb then 1 else 0 else 0))])) (fun t_ k_ => st24.trans k_) ?_
            refine own_go (T24.setTop (mkF m 137 #[.val (.long p0), .second, .val (.int p1), .val (.long p2), .second, .val (.int p3), .val (.int p4), .val (.long ta), .second, .val (.int pa), .val (.long tb), .second, .val (.int pb), .val (.ref b6), .val (.ref b8), .val (.int (((p4.toUInt32 >>> ((2 : Int32) &&& 31).toUInt32).toInt32) &&& (3 : Int32))), .val (.int (0 : Int32)), .val (.ref b8), .val (.ref b6), .val (.int (if ta = tb then if pa = pb then 1 else 0 else 0)), .unset] [])) (fun t_ k_ => XS.istore X24.here hx rfl (hb hby at_135) rfl (l' := #[.val (.long p0), .second, .val (.int p1), .val (.long p2), .second, .val (.int p3), .val (.int p4), .val (.long ta), .second, .val (.int pa), .val (.long tb), .second, .val (.int pb), .val (.ref b6), .val (.ref b8), .val (.int (((p4.toUInt32 >>> ((2 : Int32) &&& 31).toUInt32).toInt32) &&& (3 : Int32))), .val (.int (0 : Int32)), .val (.ref b8), .val (.ref b6), .val (.int (if ta = tb then if pa = pb then 1 else 0 else 0)), .unset]) rfl k_) ?_
            refine own_go (T24.setTop (mkF m 139 #[.val (.long p0), .second, .val (.int p1), .val (.long p2), .second, .val (.int p3), .val (.int p4), .val (.long ta), .second, .val (.int pa), .val (.long tb), .second, .val (.int pb), .val (.ref b6), .val (.ref b8), .val (.int (((p4.toUInt32 >>> ((2 : Int32) &&& 31).toUInt32).toInt32) &&& (3 : Int32))), .val (.int (0 : Int32)), .val (.ref b8), .val (.ref b6), .val (.int (if ta = tb then if pa = pb then 1 else 0 else 0)), .unset] [(.ref b8)])) (fun t_ k_ => XS.aload X24.here hx rfl (hb hby at_137) rfl rfl k_) ?_
            refine own_go (T24.setTop (mkF m 141 #[.val (.long p0), .second, .val (.int p1), .val (.long p2), .second, .val (.int p3), .val (.int p4), .val (.long ta), .second, .val (.int pa), .val (.long tb), .second, .val (.int pb), .val (.ref b6), .val (.ref b8), .val (.int (((p4.toUInt32 >>> ((2 : Int32) &&& 31).toUInt32).toInt32) &&& (3 : Int32))), .val (.int (0 : Int32)), .val (.ref b8), .val (.ref b6), .val (.int (if ta = tb then if pa = pb then 1 else 0 else 0)), .unset] [(.ref b6), (.ref b8)])) (fun t_ k_ => XS.aload X24.here hx rfl (hb hby at_139) rfl rfl k_) ?_
            obtain ⟨cq26, kq26, q26a, q26b, q26c⟩ := isOf hZ e24 X9q
            obtain ⟨_, _, ⟨T26, Lu26, ku26, nu26⟩, -, X26, ⟨Lc26, hQ26, lu26, yu26, zu26⟩, st26⟩ := X24.virtualBack hx (y := (⟨"com/example/eager_quorum/eagerquorum/model/Stamp", "equals", "(Ljava/lang/Object;)Z"⟩ : MethodName)) (z := (⟨"com/example/eager_quorum/eagerquorum/model/Stamp", "equals", "(Ljava/lang/Object;)Z"⟩ : MethodName)) hown (mvT hZ (hw _ (List.mem_of_getElem? (i := 23) rfl))) (mvT hZ (hw _ (List.mem_of_getElem? (i := 24) rfl))) (notFace_of_selects (args := #[]) (mvT hZ (hw _ (List.mem_of_getElem? (i := 26) rfl)))) (mvT hZ (hw _ (List.mem_of_getElem? (i := 26) rfl))) (mvT hZ (hw _ (List.mem_of_getElem? (i := 25) rfl))) (by decide) (backOf (W := 0) (rm_eS l Z a0 hw [] (b8) (b6) (tb) (pb) (ta) (pa) T9.heap O9 Fz25 F9q G9q Fz22 Fz23) hZ (hw _ (List.mem_of_getElem? (i := 27) rfl)) (hw _ (List.mem_of_getElem? (i := 8) rfl)) (by decide) (by decide)) q26a q26c (g := (mkF m 141 #[.val (.long p0), .second, .val (.int p1), .val (.long p2), .second, .val (.int p3), .val (.int p4), .val (.long ta), .second, .val (.int pa), .val (.long tb), .second, .val (.int pb), .val (.ref b6), .val (.ref b8), .val (.int (((p4.toUInt32 >>> ((2 : Int32) &&& 31).toUInt32).toInt32) &&& (3 : Int32))), .val (.int (0 : Int32)), .val (.ref b8), .val (.ref b6), .val (.int (if ta = tb then if pa = pb then 1 else 0 else 0)), .unset] [(.ref b6), (.ref b8)])) rfl (by rw [hml]; rfl) (Steps.refl _) (argsL := [(.ref b6)]) (rest := []) (lenOf own_pd5 rfl) rfl (by show 2 * 0 + _ ≤ _; exact Nat.le_of_eq rfl) (hb hby at_141) (fun _ _ => ⟨rfl, e24, (by decide : 2 + 0 ≤ _), (by decide : 4 + 0 ≤ _)⟩)
            dsimp only [Pt.U, Pt.locs, Pt.cells, Pt.slots] at X26 lu26 yu26 zu26 st26 hQ26
            subst lu26 yu26 zu26
            obtain ⟨rfl, N26q, e26⟩ := hQ26
            have N26 := Fr.app N24 N26q
            refine own_go (T26.setTop (mkF m 144 #[.val (.long p0), .second, .val (.int p1), .val (.long p2), .second, .val (.int p3), .val (.int p4), .val (.long ta), .second, .val (.int pa), .val (.long tb), .second, .val (.int pb), .val (.ref b6), .val (.ref b8), .val (.int (((p4.toUInt32 >>> ((2 : Int32) &&& 31).toUInt32).toInt32) &&& (3 : Int32))), .val (.int (0 : Int32)), .val (.ref b8), .val (.ref b6), .val (.int (if ta = tb then if pa = pb then 1 else 0 else 0)), .unset] [(.int (if tb = ta then if pb = pa then 1 else 0 else 0))])) (fun t_ k_ => st26.trans k_) ?_
            refine own_go (T26.setTop (mkF m 146 #[.val (.long p0), .second, .val (.int p1), .val (.long p2), .second, .val (.int p3), .val (.int p4), .val (.long ta), .second, .val (.int pa), .val (.long tb), .second, .val (.int pb), .val (.ref b6), .val (.ref b8), .val (.int (((p4.toUInt32 >>> ((2 : Int32) &&& 31).toUInt32).toInt32) &&& (3 : Int32))), .val (.int (0 : Int32)), .val (.ref b8), .val (.ref b6), .val (.int (if ta = tb then if pa = pb then 1 else 0 else 0)), .val (.int (if tb = ta then if pb = pa then 1 else 0 else 0))] [])) (fun t_ k_ => XS.istore X26.here hx rfl (hb hby at_144) rfl (l' := #[.val (.long p0), .second, .val (.int p1), .val (.long p2), .second, .val (.int p3), .val (.int p4), .val (.long ta), .second, .val (.int pa), .val (.long tb), .second, .val (.int pb), .val (.ref b6), .val (.ref b8), .val (.int (((p4.toUInt32 >>> ((2 : Int32) &&& 31).toUInt32).toInt32) &&& (3 : Int32))), .val (.int (0 : Int32)), .val (.ref b8), .val (.ref b6), .val (.int (if ta = tb then if pa = pb then 1 else 0 else 0)), .val (.int (if tb = ta then if pb = pa then 1 else 0 else 0))]) rfl k_) ?_
            refine own_go (T26.setTop (mkF m 148 #[.val (.long p0), .second, .val (.int p1), .val (.long p2), .second, .val (.int p3), .val (.int p4), .val (.long ta), .second, .val (.int pa), .val (.long tb), .second, .val (.int pb), .val (.ref b6), .val (.ref b8), .val (.int (((p4.toUInt32 >>> ((2 : Int32) &&& 31).toUInt32).toInt32) &&& (3 : Int32))), .val (.int (0 : Int32)), .val (.ref b8), .val (.ref b6), .val (.int (if ta = tb then if pa = pb then 1 else 0 else 0)), .val (.int (if tb = ta then if pb = pa then 1 else 0 else 0))] [(.int (if ta = tb then if pa = pb then 1 else 0 else 0))])) (fun t_ k_ => XS.iload X26.here hx rfl (hb hby at_146) rfl k_) ?_
            refine own_go (T26.setTop (mkF m 150 #[.val (.long p0), .second, .val (.int p1), .val (.long p2), .second, .val (.int p3), .val (.int p4), .val (.long ta), .second, .val (.int pa), .val (.long tb), .second, .val (.int pb), .val (.ref b6), .val (.ref b8), .val (.int (((p4.toUInt32 >>> ((2 : Int32) &&& 31).toUInt32).toInt32) &&& (3 : Int32))), .val (.int (0 : Int32)), .val (.ref b8), .val (.ref b6), .val (.int (if ta = tb then if pa = pb then 1 else 0 else 0)), .val (.int (if tb = ta then if pb = pa then 1 else 0 else 0))] [(.int (0 : Int32)), (.int (if ta = tb then if pa = pb then 1 else 0 else 0))])) (fun t_ k_ => XS.iload X26.here hx rfl (hb hby at_148) rfl k_) ?_
            have hs1 : tb = ta := hc103_11.symm
            have hs2 : ¬ pb = pa := fun q => hc110_12 q.symm
            have hfin27 : (if ta = tb then if pa = pb then 1 else 0 else 0) = (0 : Int32) := by simp [hc103_11, hc110_12, hs2]
            refine own_go (T26.setTop (mkF m 153 #[.val (.long p0), .second, .val (.int p1), .val (.long p2), .second, .val (.int p3), .val (.int p4), .val (.long ta), .second, .val (.int pa), .val (.long tb), .second, .val (.int pb), .val (.ref b6), .val (.ref b8), .val (.int (((p4.toUInt32 >>> ((2 : Int32) &&& 31).toUInt32).toInt32) &&& (3 : Int32))), .val (.int (0 : Int32)), .val (.ref b8), .val (.ref b6), .val (.int (if ta = tb then if pa = pb then 1 else 0 else 0)), .val (.int (if tb = ta then if pb = pa then 1 else 0 else 0))] [])) (fun t_ k_ => XS.icmpNo X26.here hx rfl (hb hby at_150) rfl (teq hfin27).2 k_) ?_
            refine own_go (T26.setTop (mkF m 155 #[.val (.long p0), .second, .val (.int p1), .val (.long p2), .second, .val (.int p3), .val (.int p4), .val (.long ta), .second, .val (.int pa), .val (.long tb), .second, .val (.int pb), .val (.ref b6), .val (.ref b8), .val (.int (((p4.toUInt32 >>> ((2 : Int32) &&& 31).toUInt32).toInt32) &&& (3 : Int32))), .val (.int (0 : Int32)), .val (.ref b8), .val (.ref b6), .val (.int (if ta = tb then if pa = pb then 1 else 0 else 0)), .val (.int (if tb = ta then if pb = pa then 1 else 0 else 0))] [(.int (if tb = ta then if pb = pa then 1 else 0 else 0))])) (fun t_ k_ => XS.iload X26.here hx rfl (hb hby at_153) rfl k_) ?_
            refine own_go (T26.setTop (mkF m 157 #[.val (.long p0), .second, .val (.int p1), .val (.long p2), .second, .val (.int p3), .val (.int p4), .val (.long ta), .second, .val (.int pa), .val (.long tb), .second, .val (.int pb), .val (.ref b6), .val (.ref b8), .val (.int (((p4.toUInt32 >>> ((2 : Int32) &&& 31).toUInt32).toInt32) &&& (3 : Int32))), .val (.int (0 : Int32)), .val (.ref b8), .val (.ref b6), .val (.int (if ta = tb then if pa = pb then 1 else 0 else 0)), .val (.int (if tb = ta then if pb = pa then 1 else 0 else 0))] [(.int (0 : Int32)), (.int (if tb = ta then if pb = pa then 1 else 0 else 0))])) (fun t_ k_ => XS.iload X26.here hx rfl (hb hby at_155) rfl k_) ?_
            have hs1 : tb = ta := hc103_11.symm
            have hs2 : ¬ pb = pa := fun q => hc110_12 q.symm
            have hfin28 : (if tb = ta then if pb = pa then 1 else 0 else 0) = (0 : Int32) := by simp [hc103_11, hc110_12, hs2]
            refine own_go (T26.setTop (mkF m 160 #[.val (.long p0), .second, .val (.int p1), .val (.long p2), .second, .val (.int p3), .val (.int p4), .val (.long ta), .second, .val (.int pa), .val (.long tb), .second, .val (.int pb), .val (.ref b6), .val (.ref b8), .val (.int (((p4.toUInt32 >>> ((2 : Int32) &&& 31).toUInt32).toInt32) &&& (3 : Int32))), .val (.int (0 : Int32)), .val (.ref b8), .val (.ref b6), .val (.int (if ta = tb then if pa = pb then 1 else 0 else 0)), .val (.int (if tb = ta then if pb = pa then 1 else 0 else 0))] [])) (fun t_ k_ => XS.icmpNo X26.here hx rfl (hb hby at_157) rfl (teq hfin28).2 k_) ?_
            refine own_go (T26.setTop (mkF m 161 #[.val (.long p0), .second, .val (.int p1), .val (.long p2), .second, .val (.int p3), .val (.int p4), .val (.long ta), .second, .val (.int pa), .val (.long tb), .second, .val (.int pb), .val (.ref b6), .val (.ref b8), .val (.int (((p4.toUInt32 >>> ((2 : Int32) &&& 31).toUInt32).toInt32) &&& (3 : Int32))), .val (.int (0 : Int32)), .val (.ref b8), .val (.ref b6), .val (.int (if ta = tb then if pa = pb then 1 else 0 else 0)), .val (.int (if tb = ta then if pb = pa then 1 else 0 else 0))] [(.int (1 : Int32))])) (fun t_ k_ => XS.iconst X26.here hx rfl (hb hby at_160) k_) ?_
            refine own_go (T26.setTop (mkF m 165 #[.val (.long p0), .second, .val (.int p1), .val (.long p2), .second, .val (.int p3), .val (.int p4), .val (.long ta), .second, .val (.int pa), .val (.long tb), .second, .val (.int pb), .val (.ref b6), .val (.ref b8), .val (.int (((p4.toUInt32 >>> ((2 : Int32) &&& 31).toUInt32).toInt32) &&& (3 : Int32))), .val (.int (0 : Int32)), .val (.ref b8), .val (.ref b6), .val (.int (if ta = tb then if pa = pb then 1 else 0 else 0)), .val (.int (if tb = ta then if pb = pa then 1 else 0 else 0))] [(.int (1 : Int32))])) (fun t_ k_ => XS.goto X26.here hx rfl (pc0 := 161) (pc' := 165) rfl (hb hby at_161) (by decide) (by decide) k_) ?_
            obtain ⟨fs, hr, hrun, hended, hW, hsame⟩ := X26.leave (v := some (.int (nar .boolean (1 : Int32)))) (fun h => by rw [Bd.returns] at h; cases h)
            refine ⟨_, _, retN X26 hx (t := .boolean) Bd.returns (by simp) (hb hby at_165) hr, hrun, hended, _, _, rfl, ?_, ⟨_, rfl⟩, hW, hsame.mono (by decide) (by decide)⟩
            show Q_law Z p0 p1 p2 p3 p4 a_cache cl_cache h0 _ T26.heap _
            exact ⟨rfl, N26, trivial⟩
        ·
          refine own_go (T9.setTop (mkF m 117 #[.val (.long p0), .second, .val (.int p1), .val (.long p2), .second, .val (.int p3), .val (.int p4), .val (.long ta), .second, .val (.int pa), .val (.long tb), .second, .val (.int pb), .val (.ref b6), .val (.ref b8), .val (.int (((p4.toUInt32 >>> ((2 : Int32) &&& 31).toUInt32).toInt32) &&& (3 : Int32))), .unset, .unset, .unset, .unset, .unset] [])) (fun t_ k_ => XS.ifYes X9.here hx rfl (pc0 := 103) (pc' := 117) rfl (hb hby at_103) rfl ((if0 _ _).trans (feq (fun q => hc103_11 (own_eq.mp q))).2) (by decide) (by decide) k_) ?_
          refine own_go (T9.setTop (mkF m 118 #[.val (.long p0), .second, .val (.int p1), .val (.long p2), .second, .val (.int p3), .val (.int p4), .val (.long ta), .second, .val (.int pa), .val (.long tb), .second, .val (.int pb), .val (.ref b6), .val (.ref b8), .val (.int (((p4.toUInt32 >>> ((2 : Int32) &&& 31).toUInt32).toInt32) &&& (3 : Int32))), .unset, .unset, .unset, .unset, .unset] [(.int (0 : Int32))])) (fun t_ k_ => XS.iconst X9.here hx rfl (hb hby at_117) k_) ?_
          refine own_go (T9.setTop (mkF m 120 #[.val (.long p0), .second, .val (.int p1), .val (.long p2), .second, .val (.int p3), .val (.int p4), .val (.long ta), .second, .val (.int pa), .val (.long tb), .second, .val (.int pb), .val (.ref b6), .val (.ref b8), .val (.int (((p4.toUInt32 >>> ((2 : Int32) &&& 31).toUInt32).toInt32) &&& (3 : Int32))), .val (.int (0 : Int32)), .unset, .unset, .unset, .unset] [])) (fun t_ k_ => XS.istore X9.here hx rfl (hb hby at_118) rfl (l' := #[.val (.long p0), .second, .val (.int p1), .val (.long p2), .second, .val (.int p3), .val (.int p4), .val (.long ta), .second, .val (.int pa), .val (.long tb), .second, .val (.int pb), .val (.ref b6), .val (.ref b8), .val (.int (((p4.toUInt32 >>> ((2 : Int32) &&& 31).toUInt32).toInt32) &&& (3 : Int32))), .val (.int (0 : Int32)), .unset, .unset, .unset, .unset]) rfl k_) ?_
          refine own_go (T9.setTop (mkF m 122 #[.val (.long p0), .second, .val (.int p1), .val (.long p2), .second, .val (.int p3), .val (.int p4), .val (.long ta), .second, .val (.int pa), .val (.long tb), .second, .val (.int pb), .val (.ref b6), .val (.ref b8), .val (.int (((p4.toUInt32 >>> ((2 : Int32) &&& 31).toUInt32).toInt32) &&& (3 : Int32))), .val (.int (0 : Int32)), .unset, .unset, .unset, .unset] [(.ref b8)])) (fun t_ k_ => XS.aload X9.here hx rfl (hb hby at_120) rfl rfl k_) ?_
          refine own_go (T9.setTop (mkF m 124 #[.val (.long p0), .second, .val (.int p1), .val (.long p2), .second, .val (.int p3), .val (.int p4), .val (.long ta), .second, .val (.int pa), .val (.long tb), .second, .val (.int pb), .val (.ref b6), .val (.ref b8), .val (.int (((p4.toUInt32 >>> ((2 : Int32) &&& 31).toUInt32).toInt32) &&& (3 : Int32))), .val (.int (0 : Int32)), .val (.ref b8), .unset, .unset, .unset] [])) (fun t_ k_ => XS.astore X9.here hx rfl (hb hby at_122) rfl rfl (l' := #[.val (.long p0), .second, .val (.int p1), .val (.long p2), .second, .val (.int p3), .val (.int p4), .val (.long ta), .second, .val (.int pa), .val (.long tb), .second, .val (.int pb), .val (.ref b6), .val (.ref b8), .val (.int (((p4.toUInt32 >>> ((2 : Int32) &&& 31).toUInt32).toInt32) &&& (3 : Int32))), .val (.int (0 : Int32)), .val (.ref b8), .unset, .unset, .unset]) rfl k_) ?_
          refine own_go (T9.setTop (mkF m 126 #[.val (.long p0), .second, .val (.int p1), .val (.long p2), .second, .val (.int p3), .val (.int p4), .val (.long ta), .second, .val (.int pa), .val (.long tb), .second, .val (.int pb), .val (.ref b6), .val (.ref b8), .val (.int (((p4.toUInt32 >>> ((2 : Int32) &&& 31).toUInt32).toInt32) &&& (3 : Int32))), .val (.int (0 : Int32)), .val (.ref b8), .unset, .unset, .unset] [(.ref b6)])) (fun t_ k_ => XS.aload X9.here hx rfl (hb hby at_124) rfl rfl k_) ?_
          refine own_go (T9.setTop (mkF m 128 #[.val (.long p0), .second, .val (.int p1), .val (.long p2), .second, .val (.int p3), .val (.int p4), .val (.long ta), .second, .val (.int pa), .val (.long tb), .second, .val (.int pb), .val (.ref b6), .val (.ref b8), .val (.int (((p4.toUInt32 >>> ((2 : Int32) &&& 31).toUInt32).toInt32) &&& (3 : Int32))), .val (.int (0 : Int32)), .val (.ref b8), .val (.ref b6), .unset, .unset] [])) (fun t_ k_ => XS.astore X9.here hx rfl (hb hby at_126) rfl rfl (l' := #[.val (.long p0), .second, .val (.int p1), .val (.long p2), .second, .val (.int p3), .val (.int p4), .val (.long ta), .second, .val (.int pa), .val (.long tb), .second, .val (.int pb), .val (.ref b6), .val (.ref b8), .val (.int (((p4.toUInt32 >>> ((2 : Int32) &&& 31).toUInt32).toInt32) &&& (3 : Int32))), .val (.int (0 : Int32)), .val (.ref b8), .val (.ref b6), .unset, .unset]) rfl k_) ?_
          refine own_go (T9.setTop (mkF m 130 #[.val (.long p0), .second, .val (.int p1), .val (.long p2), .second, .val (.int p3), .val (.int p4), .val (.long ta), .second, .val (.int pa), .val (.long tb), .second, .val (.int pb), .val (.ref b6), .val (.ref b8), .val (.int (((p4.toUInt32 >>> ((2 : Int32) &&& 31).toUInt32).toInt32) &&& (3 : Int32))), .val (.int (0 : Int32)), .val (.ref b8), .val (.ref b6), .unset, .unset] [(.ref b6)])) (fun t_ k_ => XS.aload X9.here hx rfl (hb hby at_128) rfl rfl k_) ?_
          refine own_go (T9.setTop (mkF m 132 #[.val (.long p0), .second, .val (.int p1), .val (.long p2), .second, .val (.int p3), .val (.int p4), .val (.long ta), .second, .val (.int pa), .val (.long tb), .second, .val (.int pb), .val (.ref b6), .val (.ref b8), .val (.int (((p4.toUInt32 >>> ((2 : Int32) &&& 31).toUInt32).toInt32) &&& (3 : Int32))), .val (.int (0 : Int32)), .val (.ref b8), .val (.ref b6), .unset, .unset] [(.ref b8), (.ref b6)])) (fun t_ k_ => XS.aload X9.here hx rfl (hb hby at_130) rfl rfl k_) ?_
          have Nz29 : b6 ≠ b8 := (Nat.ne_of_lt (Nat.lt_of_lt_of_le X7q.lt (Nat.le_of_eq g8.symm)))
          have Fz30 := ((F7q.ext E8).keep K9q (ninS Nz29 nin0))
          have Fz31 := ((G7q.ext E8).keep K9q (ninS Nz29 nin0))
          have Fz33 := ((X7q.ext E8).keep K9q)
          obtain ⟨cq32, kq32, q32a, q32b, q32c⟩ := isOf hZ rfl Fz33
          obtain ⟨_, _, ⟨T32, Lu32, ku32, nu32⟩, -, X32, ⟨Lc32, hQ32, lu32, yu32, zu32⟩, st32⟩ := X9.virtualBack hx (y := (⟨"com/example/eager_quorum/eagerquorum/model/Stamp", "equals", "(Ljava/lang/Object;)Z"⟩ : MethodName)) (z := (⟨"com/example/eager_quorum/eagerquorum/model/Stamp", "equals", "(Ljava/lang/Object;)Z"⟩ : MethodName)) hown (mvT hZ (hw _ (List.mem_of_getElem? (i := 23) rfl))) (mvT hZ (hw _ (List.mem_of_getElem? (i := 24) rfl))) (notFace_of_selects (args := #[]) (mvT hZ (hw _ (List.mem_of_getElem? (i := 26) rfl)))) (mvT hZ (hw _ (List.mem_of_getElem? (i := 26) rfl))) (mvT hZ (hw _ (List.mem_of_getElem? (i := 25) rfl))) (by decide) (backOf (W := 0) (rm_eS l Z a0 hw [] (b6) (b8) (ta) (pa) (tb) (pb) T9.heap O9 X9q Fz30 Fz31 F9q G9q) hZ (hw _ (List.mem_of_getElem? (i := 27) rfl)) (hw _ (List.mem_of_getElem? (i := 8) rfl)) (by decide) (by decide)) q32a q32c (g := (mkF m 132 #[.val (.long p0), .second, .val (.int p1), .val (.long p2), .second, .val (.int p3), .val (.int p4), .val (.long ta), .second, .val (.int pa), .val (.long tb), .second, .val (.int pb), .val (.ref b6), .val (.ref b8), .val (.int (((p4.toUInt32 >>> ((2 : Int32) &&& 31).toUInt32).toInt32) &&& (3 : Int32))), .val (.int (0 : Int32)), .val (.ref b8), .val (.ref b6), .unset, .unset] [(.ref b8), (.ref b6)])) rfl (by rw [hml]; rfl) (Steps.refl _) (argsL := [(.ref b8)]) (rest := []) (lenOf own_pd5 rfl) rfl (by show 2 * 0 + _ ≤ _; exact Nat.le_of_eq rfl) (hb hby at_132) (fun _ _ => ⟨rfl, rfl, (by decide : 2 + 0 ≤ _), (by decide : 4 + 0 ≤ _)⟩)
          dsimp only [Pt.U, Pt.locs, Pt.cells, Pt.slots] at X32 lu32 yu32 zu32 st32 hQ32
          subst lu32 yu32 zu32
          obtain ⟨rfl, N32q, e32⟩ := hQ32
          have N32 := Fr.app N9 N32q
          refine own_go (T32.setTop (mkF m 135 #[.val (.long p0), .second, .val (.int p1), .val (.long p2), .second, .val (.int p3), .val (.int p4), .val (.long ta), .second, .val (.int pa), .val (.long tb), .second, .val (.int pb), .val (.ref b6), .val (.ref b8), .val (.int (((p4.toUInt32 >>> ((2 : Int32) &&& 31).toUInt32).toInt32) &&& (3 : Int32))), .val (.int (0 : Int32)), .val (.ref b8), .val (.ref b6), .unset, .unset] [(.int (if ta = tb then if pa = pb then 1 else 0 else 0))])) (fun t_ k_ => st32.trans k_) ?_
          refine own_go (T32.setTop (mkF m 137 #[.val (.long p0), .second, .val (.int p1), .val (.long p2), .second, .val (.int p3), .val (.int p4), .val (.long ta), .second, .val (.int pa), .val (.long tb), .second, .val (.int pb), .val (.ref b6), .val (.ref b8), .val (.int (((p4.toUInt32 >>> ((2 : Int32) &&& 31).toUInt32).toInt32) &&& (3 : Int32))), .val (.int (0 : Int32)), .val (.ref b8), .val (.ref b6), .val (.int (if ta = tb then if pa = pb then 1 else 0 else 0)), .unset] [])) (fun t_ k_ => XS.istore X32.here hx rfl (hb hby at_135) rfl (l' := #[.val (.long p0), .second, .val (.int p1), .val (.long p2), .second, .val (.int p3), .val (.int p4), .val (.long ta), .second, .val (.int pa), .val (.long tb), .second, .val (.int pb), .val (.ref b6), .val (.ref b8), .val (.int (((p4.toUInt32 >>> ((2 : Int32) &&& 31).toUInt32).toInt32) &&& (3 : Int32))), .val (.int (0 : Int32)), .val (.ref b8), .val (.ref b6), .val (.int (if ta = tb then if pa = pb then 1 else 0 else 0)), .unset]) rfl k_) ?_
          refine own_go (T32.setTop (mkF m 139 #[.val (.long p0), .second, .val (.int p1), .val (.long p2), .second, .val (.int p3), .val (.int p4), .val (.long ta), .second, .val (.int pa), .val (.long tb), .second, .val (.int pb), .val (.ref b6), .val (.ref b8), .val (.int (((p4.toUInt32 >>> ((2 : Int32) &&& 31).toUInt32).toInt32) &&& (3 : Int32))), .val (.int (0 : Int32)), .val (.ref b8), .val (.ref b6), .val (.int (if ta = tb then if pa = pb then 1 else 0 else 0)), .unset] [(.ref b8)])) (fun t_ k_ => XS.aload X32.here hx rfl (hb hby at_137) rfl rfl k_) ?_
          refine own_go (T32.setTop (mkF m 141 #[.val (.long p0), .second, .val (.int p1), .val (.long p2), .second, .val (.int p3), .val (.int p4), .val (.long ta), .second, .val (.int pa), .val (.long tb), .second, .val (.int pb), .val (.ref b6), .val (.ref b8), .val (.int (((p4.toUInt32 >>> ((2 : Int32) &&& 31).toUInt32).toInt32) &&& (3 : Int32))), .val (.int (0 : Int32)), .val (.ref b8), .val (.ref b6), .val (.int (if ta = tb then if pa = pb then 1 else 0 else 0)), .unset] [(.ref b6), (.ref b8)])) (fun t_ k_ => XS.aload X32.here hx rfl (hb hby at_139) rfl rfl k_) ?_
          obtain ⟨cq34, kq34, q34a, q34b, q34c⟩ := isOf hZ e32 X9q
          obtain ⟨_, _, ⟨T34, Lu34, ku34, nu34⟩, -, X34, ⟨Lc34, hQ34, lu34, yu34, zu34⟩, st34⟩ := X32.virtualBack hx (y := (⟨"com/example/eager_quorum/eagerquorum/model/Stamp", "equals", "(Ljava/lang/Object;)Z"⟩ : MethodName)) (z := (⟨"com/example/eager_quorum/eagerquorum/model/Stamp", "equals", "(Ljava/lang/Object;)Z"⟩ : MethodName)) hown (mvT hZ (hw _ (List.mem_of_getElem? (i := 23) rfl))) (mvT hZ (hw _ (List.mem_of_getElem? (i := 24) rfl))) (notFace_of_selects (args := #[]) (mvT hZ (hw _ (List.mem_of_getElem? (i := 26) rfl)))) (mvT hZ (hw _ (List.mem_of_getElem? (i := 26) rfl))) (mvT hZ (hw _ (List.mem_of_getElem? (i := 25) rfl))) (by decide) (backOf (W := 0) (rm_eS l Z a0 hw [] (b8) (b6) (tb) (pb) (ta) (pa) T9.heap O9 Fz33 F9q G9q Fz30 Fz31) hZ (hw _ (List.mem_of_getElem? (i := 27) rfl)) (hw _ (List.mem_of_getElem? (i := 8) rfl)) (by decide) (by decide)) q34a q34c (g := (mkF m 141 #[.val (.long p0), .second, .val (.int p1), .val (.long p2), .second, .val (.int p3), .val (.int p4), .val (.long ta), .second, .val (.int pa), .val (.long tb), .second, .val (.int pb), .val (.ref b6), .val (.ref b8), .val (.int (((p4.toUInt32 >>> ((2 : Int32) &&& 31).toUInt32).toInt32) &&& (3 : Int32))), .val (.int (0 : Int32)), .val (.ref b8), .val (.ref b6), .val (.int (if ta = tb then if pa = pb then 1 else 0 else 0)), .unset] [(.ref b6), (.ref b8)])) rfl (by rw [hml]; rfl) (Steps.refl _) (argsL := [(.ref b6)]) (rest := []) (lenOf own_pd5 rfl) rfl (by show 2 * 0 + _ ≤ _; exact Nat.le_of_eq rfl) (hb hby at_141) (fun _ _ => ⟨rfl, e32, (by decide : 2 + 0 ≤ _), (by decide : 4 + 0 ≤ _)⟩)
          dsimp only [Pt.U, Pt.locs, Pt.cells, Pt.slots] at X34 lu34 yu34 zu34 st34 hQ34
          subst lu34 yu34 zu34
          obtain ⟨rfl, N34q, e34⟩ := hQ34
          have N34 := Fr.app N32 N34q
          refine own_go (T34.setTop (mkF m 144 #[.val (.long p0), .second, .val (.int p1), .val (.long p2), .second, .val (.int p3), .val (.int p4), .val (.long ta), .second, .val (.int pa), .val (.long tb), .second, .val (.int pb), .val (.ref b6), .val (.ref b8), .val (.int (((p4.toUInt32 >>> ((2 : Int32) &&& 31).toUInt32).toInt32) &&& (3 : Int32))), .val (.int (0 : Int32)), .val (.ref b8), .val (.ref b6), .val (.int (if ta = tb then if pa = pb then 1 else 0 else 0)), .unset] [(.int (if tb = ta then if pb = pa then 1 else 0 else 0))])) (fun t_ k_ => st34.trans k_) ?_
          refine own_go (T34.setTop (mkF m 146 #[.val (.long p0), .second, .val (.int p1), .val (.long p2), .second, .val (.int p3), .val (.int p4), .val (.long ta), .second, .val (.int pa), .val (.long tb), .second, .val (.int pb), .val (.ref b6), .val (.ref b8), .val (.int (((p4.toUInt32 >>> ((2 : Int32) &&& 31).toUInt32).toInt32) &&& (3 : Int32))), .val (.int (0 : Int32)), .val (.ref b8), .val (.ref b6), .val (.int (if ta = tb then if pa = pb then 1 else 0 else 0)), .val (.int (if tb = ta then if pb = pa then 1 else 0 else 0))] [])) (fun t_ k_ => XS.istore X34.here hx rfl (hb hby at_144) rfl (l' := #[.val (.long p0), .second, .val (.int p1), .val (.long p2), .second, .val (.int p3), .val (.int p4), .val (.long ta), .second, .val (.int pa), .val (.long tb), .second, .val (.int pb), .val (.ref b6), .val (.ref b8), .val (.int (((p4.toUInt32 >>> ((2 : Int32) &&& 31).toUInt32).toInt32) &&& (3 : Int32))), .val (.int (0 : Int32)), .val (.ref b8), .val (.ref b6), .val (.int (if ta = tb then if pa = pb then 1 else 0 else 0)), .val (.int (if tb = ta then if pb = pa then 1 else 0 else 0))]) rfl k_) ?_
          refine own_go (T34.setTop (mkF m 148 #[.val (.long p0), .second, .val (.int p1), .val (.long p2), .second, .val (.int p3), .val (.int p4), .val (.long ta), .second, .val (.int pa), .val (.long tb), .second, .val (.int pb), .val (.ref b6), .val (.ref b8), .val (.int (((p4.toUInt32 >>> ((2 : Int32) &&& 31).toUInt32).toInt32) &&& (3 : Int32))), .val (.int (0 : Int32)), .val (.ref b8), .val (.ref b6), .val (.int (if ta = tb then if pa = pb then 1 else 0 else 0)), .val (.int (if tb = ta then if pb = pa then 1 else 0 else 0))] [(.int (if ta = tb then if pa = pb then 1 else 0 else 0))])) (fun t_ k_ => XS.iload X34.here hx rfl (hb hby at_146) rfl k_) ?_
          refine own_go (T34.setTop (mkF m 150 #[.val (.long p0), .second, .val (.int p1), .val (.long p2), .second, .val (.int p3), .val (.int p4), .val (.long ta), .second, .val (.int pa), .val (.long tb), .second, .val (.int pb), .val (.ref b6), .val (.ref b8), .val (.int (((p4.toUInt32 >>> ((2 : Int32) &&& 31).toUInt32).toInt32) &&& (3 : Int32))), .val (.int (0 : Int32)), .val (.ref b8), .val (.ref b6), .val (.int (if ta = tb then if pa = pb then 1 else 0 else 0)), .val (.int (if tb = ta then if pb = pa then 1 else 0 else 0))] [(.int (0 : Int32)), (.int (if ta = tb then if pa = pb then 1 else 0 else 0))])) (fun t_ k_ => XS.iload X34.here hx rfl (hb hby at_148) rfl k_) ?_
          have hs1 : ¬ tb = ta := fun q => hc103_11 q.symm
          have hfin35 : (if ta = tb then if pa = pb then 1 else 0 else 0) = (0 : Int32) := by simp [hc103_11, hs1]
          refine own_go (T34.setTop (mkF m 153 #[.val (.long p0), .second, .val (.int p1), .val (.long p2), .second, .val (.int p3), .val (.int p4), .val (.long ta), .second, .val (.int pa), .val (.long tb), .second, .val (.int pb), .val (.ref b6), .val (.ref b8), .val (.int (((p4.toUInt32 >>> ((2 : Int32) &&& 31).toUInt32).toInt32) &&& (3 : Int32))), .val (.int (0 : Int32)), .val (.ref b8), .val (.ref b6), .val (.int (if ta = tb then if pa = pb then 1 else 0 else 0)), .val (.int (if tb = ta then if pb = pa then 1 else 0 else 0))] [])) (fun t_ k_ => XS.icmpNo X34.here hx rfl (hb hby at_150) rfl (teq hfin35).2 k_) ?_
          refine own_go (T34.setTop (mkF m 155 #[.val (.long p0), .second, .val (.int p1), .val (.long p2), .second, .val (.int p3), .val (.int p4), .val (.long ta), .second, .val (.int pa), .val (.long tb), .second, .val (.int pb), .val (.ref b6), .val (.ref b8), .val (.int (((p4.toUInt32 >>> ((2 : Int32) &&& 31).toUInt32).toInt32) &&& (3 : Int32))), .val (.int (0 : Int32)), .val (.ref b8), .val (.ref b6), .val (.int (if ta = tb then if pa = pb then 1 else 0 else 0)), .val (.int (if tb = ta then if pb = pa then 1 else 0 else 0))] [(.int (if tb = ta then if pb = pa then 1 else 0 else 0))])) (fun t_ k_ => XS.iload X34.here hx rfl (hb hby at_153) rfl k_) ?_
          refine own_go (T34.setTop (mkF m 157 #[.val (.long p0), .second, .val (.int p1), .val (.long p2), .second, .val (.int p3), .val (.int p4), .val (.long ta), .second, .val (.int pa), .val (.long tb), .second, .val (.int pb), .val (.ref b6), .val (.ref b8), .val (.int (((p4.toUInt32 >>> ((2 : Int32) &&& 31).toUInt32).toInt32) &&& (3 : Int32))), .val (.int (0 : Int32)), .val (.ref b8), .val (.ref b6), .val (.int (if ta = tb then if pa = pb then 1 else 0 else 0)), .val (.int (if tb = ta then if pb = pa then 1 else 0 else 0))] [(.int (0 : Int32)), (.int (if tb = ta then if pb = pa then 1 else 0 else 0))])) (fun t_ k_ => XS.iload X34.here hx rfl (hb hby at_155) rfl k_) ?_
          have hs1 : ¬ tb = ta := fun q => hc103_11 q.symm
          have hfin36 : (if tb = ta then if pb = pa then 1 else 0 else 0) = (0 : Int32) := by simp [hc103_11, hs1]
          refine own_go (T34.setTop (mkF m 160 #[.val (.long p0), .second, .val (.int p1), .val (.long p2), .second, .val (.int p3), .val (.int p4), .val (.long ta), .second, .val (.int pa), .val (.long tb), .second, .val (.int pb), .val (.ref b6), .val (.ref b8), .val (.int (((p4.toUInt32 >>> ((2 : Int32) &&& 31).toUInt32).toInt32) &&& (3 : Int32))), .val (.int (0 : Int32)), .val (.ref b8), .val (.ref b6), .val (.int (if ta = tb then if pa = pb then 1 else 0 else 0)), .val (.int (if tb = ta then if pb = pa then 1 else 0 else 0))] [])) (fun t_ k_ => XS.icmpNo X34.here hx rfl (hb hby at_157) rfl (teq hfin36).2 k_) ?_
          refine own_go (T34.setTop (mkF m 161 #[.val (.long p0), .second, .val (.int p1), .val (.long p2), .second, .val (.int p3), .val (.int p4), .val (.long ta), .second, .val (.int pa), .val (.long tb), .second, .val (.int pb), .val (.ref b6), .val (.ref b8), .val (.int (((p4.toUInt32 >>> ((2 : Int32) &&& 31).toUInt32).toInt32) &&& (3 : Int32))), .val (.int (0 : Int32)), .val (.ref b8), .val (.ref b6), .val (.int (if ta = tb then if pa = pb then 1 else 0 else 0)), .val (.int (if tb = ta then if pb = pa then 1 else 0 else 0))] [(.int (1 : Int32))])) (fun t_ k_ => XS.iconst X34.here hx rfl (hb hby at_160) k_) ?_
          refine own_go (T34.setTop (mkF m 165 #[.val (.long p0), .second, .val (.int p1), .val (.long p2), .second, .val (.int p3), .val (.int p4), .val (.long ta), .second, .val (.int pa), .val (.long tb), .second, .val (.int pb), .val (.ref b6), .val (.ref b8), .val (.int (((p4.toUInt32 >>> ((2 : Int32) &&& 31).toUInt32).toInt32) &&& (3 : Int32))), .val (.int (0 : Int32)), .val (.ref b8), .val (.ref b6), .val (.int (if ta = tb then if pa = pb then 1 else 0 else 0)), .val (.int (if tb = ta then if pb = pa then 1 else 0 else 0))] [(.int (1 : Int32))])) (fun t_ k_ => XS.goto X34.here hx rfl (pc0 := 161) (pc' := 165) rfl (hb hby at_161) (by decide) (by decide) k_) ?_
          obtain ⟨fs, hr, hrun, hended, hW, hsame⟩ := X34.leave (v := some (.int (nar .boolean (1 : Int32)))) (fun h => by rw [Bd.returns] at h; cases h)
          refine ⟨_, _, retN X34 hx (t := .boolean) Bd.returns (by simp) (hb hby at_165) hr, hrun, hended, _, _, rfl, ?_, ⟨_, rfl⟩, hW, hsame.mono (by decide) (by decide)⟩
          show Q_law Z p0 p1 p2 p3 p4 a_cache cl_cache h0 _ T34.heap _
          exact ⟨rfl, N34, trivial⟩
      ·
        refine own_go (T9.setTop (mkF m 166 #[.val (.long p0), .second, .val (.int p1), .val (.long p2), .second, .val (.int p3), .val (.int p4), .val (.long ta), .second, .val (.int pa), .val (.long tb), .second, .val (.int pb), .val (.ref b6), .val (.ref b8), .val (.int (((p4.toUInt32 >>> ((2 : Int32) &&& 31).toUInt32).toInt32) &&& (3 : Int32))), .unset, .unset, .unset, .unset, .unset] [])) (fun t_ k_ => XS.ifYes X9.here hx rfl (pc0 := 95) (pc' := 166) rfl (hb hby at_95) rfl ((if0 _ _).trans (feq hc95_10).2) (by decide) (by decide) k_) ?_
        refine own_go (T9.setTop (mkF m 168 #[.val (.long p0), .second, .val (.int p1), .val (.long p2), .second, .val (.int p3), .val (.int p4), .val (.long ta), .second, .val (.int pa), .val (.long tb), .second, .val (.int pb), .val (.ref b6), .val (.ref b8), .val (.int (((p4.toUInt32 >>> ((2 : Int32) &&& 31).toUInt32).toInt32) &&& (3 : Int32))), .unset, .unset, .unset, .unset, .unset] [(.int (((p4.toUInt32 >>> ((2 : Int32) &&& 31).toUInt32).toInt32) &&& (3 : Int32)))])) (fun t_ k_ => XS.iload X9.here hx rfl (hb hby at_166) rfl k_) ?_
        refine own_go (T9.setTop (mkF m 169 #[.val (.long p0), .second, .val (.int p1), .val (.long p2), .second, .val (.int p3), .val (.int p4), .val (.long ta), .second, .val (.int pa), .val (.long tb), .second, .val (.int pb), .val (.ref b6), .val (.ref b8), .val (.int (((p4.toUInt32 >>> ((2 : Int32) &&& 31).toUInt32).toInt32) &&& (3 : Int32))), .unset, .unset, .unset, .unset, .unset] [(.int (1 : Int32)), (.int (((p4.toUInt32 >>> ((2 : Int32) &&& 31).toUInt32).toInt32) &&& (3 : Int32)))])) (fun t_ k_ => XS.iconst X9.here hx rfl (hb hby at_168) k_) ?_
        by_cases hc169_37 : (((p4.toUInt32 >>> ((2 : Int32) &&& 31).toUInt32).toInt32) &&& (3 : Int32)) = (1 : Int32)
        ·
          refine own_go (T9.setTop (mkF m 172 #[.val (.long p0), .second, .val (.int p1), .val (.long p2), .second, .val (.int p3), .val (.int p4), .val (.long ta), .second, .val (.int pa), .val (.long tb), .second, .val (.int pb), .val (.ref b6), .val (.ref b8), .val (.int (((p4.toUInt32 >>> ((2 : Int32) &&& 31).toUInt32).toInt32) &&& (3 : Int32))), .unset, .unset, .unset, .unset, .unset] [])) (fun t_ k_ => XS.icmpNo X9.here hx rfl (hb hby at_169) rfl (teq hc169_37).2 k_) ?_
          refine own_go (T9.setTop (mkF m 174 #[.val (.long p0), .second, .val (.int p1), .val (.long p2), .second, .val (.int p3), .val (.int p4), .val (.long ta), .second, .val (.int pa), .val (.long tb), .second, .val (.int pb), .val (.ref b6), .val (.ref b8), .val (.int (((p4.toUInt32 >>> ((2 : Int32) &&& 31).toUInt32).toInt32) &&& (3 : Int32))), .unset, .unset, .unset, .unset, .unset] [(.ref b6)])) (fun t_ k_ => XS.aload X9.here hx rfl (hb hby at_172) rfl rfl k_) ?_
          refine own_go (T9.setTop (mkF m 175 #[.val (.long p0), .second, .val (.int p1), .val (.long p2), .second, .val (.int p3), .val (.int p4), .val (.long ta), .second, .val (.int pa), .val (.long tb), .second, .val (.int pb), .val (.ref b6), .val (.ref b8), .val (.int (((p4.toUInt32 >>> ((2 : Int32) &&& 31).toUInt32).toInt32) &&& (3 : Int32))), .unset, .unset, .unset, .unset, .unset] [.null, (.ref b6)])) (fun t_ k_ => XS.aconstNull X9.here hx rfl (hb hby at_174) k_) ?_
          have Fz39 := ((X7q.ext E8).keep K9q)
          obtain ⟨cq38, kq38, q38a, q38b, q38c⟩ := isOf hZ rfl Fz39
          obtain ⟨_, _, ⟨T38, Lu38, ku38, nu38⟩, -, X38, ⟨Lc38, hQ38, lu38, yu38, zu38⟩, st38⟩ := X9.virtualBack hx (y := (⟨"com/example/eager_quorum/eagerquorum/model/Stamp", "equals", "(Ljava/lang/Object;)Z"⟩ : MethodName)) (z := (⟨"com/example/eager_quorum/eagerquorum/model/Stamp", "equals", "(Ljava/lang/Object;)Z"⟩ : MethodName)) hown (mvT hZ (hw _ (List.mem_of_getElem? (i := 23) rfl))) (mvT hZ (hw _ (List.mem_of_getElem? (i := 24) rfl))) (notFace_of_selects (args := #[]) (mvT hZ (hw _ (List.mem_of_getElem? (i := 26) rfl)))) (mvT hZ (hw _ (List.mem_of_getElem? (i := 26) rfl))) (mvT hZ (hw _ (List.mem_of_getElem? (i := 25) rfl))) (by decide) (backOf (W := 0) (rm_eN l Z a0 hw [] (b6) T9.heap O9 ) hZ (hw _ (List.mem_of_getElem? (i := 27) rfl)) (hw _ (List.mem_of_getElem? (i := 8) rfl)) (by decide) (by decide)) q38a q38c (g := (mkF m 175 #[.val (.long p0), .second, .val (.int p1), .val (.long p2), .second, .val (.int p3), .val (.int p4), .val (.long ta), .second, .val (.int pa), .val (.long tb), .second, .val (.int pb), .val (.ref b6), .val (.ref b8), .val (.int (((p4.toUInt32 >>> ((2 : Int32) &&& 31).toUInt32).toInt32) &&& (3 : Int32))), .unset, .unset, .unset, .unset, .unset] [.null, (.ref b6)])) rfl (by rw [hml]; rfl) (Steps.refl _) (argsL := [.null]) (rest := []) (lenOf own_pd5 rfl) rfl (by show 2 * 0 + _ ≤ _; exact Nat.le_of_eq rfl) (hb hby at_175) (fun _ _ => ⟨rfl, rfl, (by decide : 2 + 0 ≤ _), (by decide : 4 + 0 ≤ _)⟩)
          dsimp only [Pt.U, Pt.locs, Pt.cells, Pt.slots] at X38 lu38 yu38 zu38 st38 hQ38
          subst lu38 yu38 zu38
          obtain ⟨rfl, N38q, e38⟩ := hQ38
          have N38 := Fr.app N9 N38q
          refine own_go (T38.setTop (mkF m 178 #[.val (.long p0), .second, .val (.int p1), .val (.long p2), .second, .val (.int p3), .val (.int p4), .val (.long ta), .second, .val (.int pa), .val (.long tb), .second, .val (.int pb), .val (.ref b6), .val (.ref b8), .val (.int (((p4.toUInt32 >>> ((2 : Int32) &&& 31).toUInt32).toInt32) &&& (3 : Int32))), .unset, .unset, .unset, .unset, .unset] [(.int (0 : Int32))])) (fun t_ k_ => st38.trans k_) ?_
          refine own_go (T38.setTop (mkF m 181 #[.val (.long p0), .second, .val (.int p1), .val (.long p2), .second, .val (.int p3), .val (.int p4), .val (.long ta), .second, .val (.int pa), .val (.long tb), .second, .val (.int pb), .val (.ref b6), .val (.ref b8), .val (.int (((p4.toUInt32 >>> ((2 : Int32) &&& 31).toUInt32).toInt32) &&& (3 : Int32))), .unset, .unset, .unset, .unset, .unset] [])) (fun t_ k_ => XS.ifNo X38.here hx rfl (hb hby at_178) rfl ((if0 _ _).trans (teq (by decide : (0 : Int32) = (0 : Int32))).2) k_) ?_
          refine own_go (T38.setTop (mkF m 182 #[.val (.long p0), .second, .val (.int p1), .val (.long p2), .second, .val (.int p3), .val (.int p4), .val (.long ta), .second, .val (.int pa), .val (.long tb), .second, .val (.int pb), .val (.ref b6), .val (.ref b8), .val (.int (((p4.toUInt32 >>> ((2 : Int32) &&& 31).toUInt32).toInt32) &&& (3 : Int32))), .unset, .unset, .unset, .unset, .unset] [(.int (1 : Int32))])) (fun t_ k_ => XS.iconst X38.here hx rfl (hb hby at_181) k_) ?_
          refine own_go (T38.setTop (mkF m 186 #[.val (.long p0), .second, .val (.int p1), .val (.long p2), .second, .val (.int p3), .val (.int p4), .val (.long ta), .second, .val (.int pa), .val (.long tb), .second, .val (.int pb), .val (.ref b6), .val (.ref b8), .val (.int (((p4.toUInt32 >>> ((2 : Int32) &&& 31).toUInt32).toInt32) &&& (3 : Int32))), .unset, .unset, .unset, .unset, .unset] [(.int (1 : Int32))])) (fun t_ k_ => XS.goto X38.here hx rfl (pc0 := 182) (pc' := 186) rfl (hb hby at_182) (by decide) (by decide) k_) ?_
          obtain ⟨fs, hr, hrun, hended, hW, hsame⟩ := X38.leave (v := some (.int (nar .boolean (1 : Int32)))) (fun h => by rw [Bd.returns] at h; cases h)
          refine ⟨_, _, retN X38 hx (t := .boolean) Bd.returns (by simp) (hb hby at_186) hr, hrun, hended, _, _, rfl, ?_, ⟨_, rfl⟩, hW, hsame.mono (by decide) (by decide)⟩
          show Q_law Z p0 p1 p2 p3 p4 a_cache cl_cache h0 _ T38.heap _
          exact ⟨rfl, N38, trivial⟩
        ·
          refine own_go (T9.setTop (mkF m 187 #[.val (.long p0), .second, .val (.int p1), .val (.long p2), .second, .val (.int p3), .val (.int p4), .val (.long ta), .second, .val (.int pa), .val (.long tb), .second, .val (.int pb), .val (.ref b6), .val (.ref b8), .val (.int (((p4.toUInt32 >>> ((2 : Int32) &&& 31).toUInt32).toInt32) &&& (3 : Int32))), .unset, .unset, .unset, .unset, .unset] [])) (fun t_ k_ => XS.icmpYes X9.here hx rfl (pc0 := 169) (pc' := 187) rfl (hb hby at_169) rfl (feq hc169_37).2 (by decide) (by decide) k_) ?_
          refine own_go (T9.setTop (mkF m 189 #[.val (.long p0), .second, .val (.int p1), .val (.long p2), .second, .val (.int p3), .val (.int p4), .val (.long ta), .second, .val (.int pa), .val (.long tb), .second, .val (.int pb), .val (.ref b6), .val (.ref b8), .val (.int (((p4.toUInt32 >>> ((2 : Int32) &&& 31).toUInt32).toInt32) &&& (3 : Int32))), .unset, .unset, .unset, .unset, .unset] [(.int (((p4.toUInt32 >>> ((2 : Int32) &&& 31).toUInt32).toInt32) &&& (3 : Int32)))])) (fun t_ k_ => XS.iload X9.here hx rfl (hb hby at_187) rfl k_) ?_
          refine own_go (T9.setTop (mkF m 190 #[.val (.long p0), .second, .val (.int p1), .val (.long p2), .second, .val (.int p3), .val (.int p4), .val (.long ta), .second, .val (.int pa), .val (.long tb), .second, .val (.int pb), .val (.ref b6), .val (.ref b8), .val (.int (((p4.toUInt32 >>> ((2 : Int32) &&& 31).toUInt32).toInt32) &&& (3 : Int32))), .unset, .unset, .unset, .unset, .unset] [(.int (2 : Int32)), (.int (((p4.toUInt32 >>> ((2 : Int32) &&& 31).toUInt32).toInt32) &&& (3 : Int32)))])) (fun t_ k_ => XS.iconst X9.here hx rfl (hb hby at_189) k_) ?_
          by_cases hc190_40 : (((p4.toUInt32 >>> ((2 : Int32) &&& 31).toUInt32).toInt32) &&& (3 : Int32)) = (2 : Int32)
          ·
            refine own_go (T9.setTop (mkF m 193 #[.val (.long p0), .second, .val (.int p1), .val (.long p2), .second, .val (.int p3), .val (.int p4), .val (.long ta), .second, .val (.int pa), .val (.long tb), .second, .val (.int pb), .val (.ref b6), .val (.ref b8), .val (.int (((p4.toUInt32 >>> ((2 : Int32) &&& 31).toUInt32).toInt32) &&& (3 : Int32))), .unset, .unset, .unset, .unset, .unset] [])) (fun t_ k_ => XS.icmpNo X9.here hx rfl (hb hby at_190) rfl (teq hc190_40).2 k_) ?_
            refine own_go (T9.setTop (mkF m 195 #[.val (.long p0), .second, .val (.int p1), .val (.long p2), .second, .val (.int p3), .val (.int p4), .val (.long ta), .second, .val (.int pa), .val (.long tb), .second, .val (.int pb), .val (.ref b6), .val (.ref b8), .val (.int (((p4.toUInt32 >>> ((2 : Int32) &&& 31).toUInt32).toInt32) &&& (3 : Int32))), .unset, .unset, .unset, .unset, .unset] [(.long ta)])) (fun t_ k_ => XS.lload X9.here hx rfl (hb hby at_193) rfl k_) ?_
            obtain ⟨_, _, ⟨T41, Lu41, ku41, nu41⟩, -, X41, ⟨Lc41, hQ41, lu41, yu41, zu41⟩, st41⟩ := Jvm.LawKit.callS X9 hx (y := (⟨"java/lang/Long", "valueOf", "(J)Ljava/lang/Long;"⟩ : MethodName)) hown (mvT hZ (hw _ (List.mem_of_getElem? (i := 30) rfl))) (mvT hZ (hw _ (List.mem_of_getElem? (i := 31) rfl))) (mvT hZ (hw _ (List.mem_of_getElem? (i := 32) rfl))) (mvT hZ (hw _ (List.mem_of_getElem? (i := 33) rfl))) (by decide) (backOf (W := 0) (rm_lv l Z a0 hw [] (ta) (a_cache) (cl_cache) T9.heap O9 w) hZ (hw _ (List.mem_of_getElem? (i := 33) rfl)) (hw _ (List.mem_of_getElem? (i := 32) rfl)) (by decide) (by decide)) (g := (mkF m 195 #[.val (.long p0), .second, .val (.int p1), .val (.long p2), .second, .val (.int p3), .val (.int p4), .val (.long ta), .second, .val (.int pa), .val (.long tb), .second, .val (.int pb), .val (.ref b6), .val (.ref b8), .val (.int (((p4.toUInt32 >>> ((2 : Int32) &&& 31).toUInt32).toInt32) &&& (3 : Int32))), .unset, .unset, .unset, .unset, .unset] [(.long ta)])) rfl (by rw [hml]; rfl) (argsL := [(.long ta)]) (rest := []) (lenOf own_pd6 rfl) rfl (by show 2 * 0 + _ ≤ _; exact Nat.le_of_eq rfl) (hb hby at_195) (fun _ _ => ⟨rfl, rfl, (by decide : 2 + 1 ≤ _), (by decide : 4 + 1 ≤ _)⟩)
            dsimp only [Pt.U, Pt.locs, Pt.cells, Pt.slots] at X41 lu41 yu41 zu41 st41 hQ41
            subst lu41 yu41 zu41
            obtain ⟨o41, rfl, N41q, K41q, X41q⟩ := hQ41
            have N41 := Fr.app N9 N41q
            have O41 := own_extK O9 K41q all0
            have KK41 : Keep h0 T41.heap [] := KK9.trans K41q all0
            refine own_go (T41.setTop (mkF m 198 #[.val (.long p0), .second, .val (.int p1), .val (.long p2), .second, .val (.int p3), .val (.int p4), .val (.long ta), .second, .val (.int pa), .val (.long tb), .second, .val (.int pb), .val (.ref b6), .val (.ref b8), .val (.int (((p4.toUInt32 >>> ((2 : Int32) &&& 31).toUInt32).toInt32) &&& (3 : Int32))), .unset, .unset, .unset, .unset, .unset] [(.ref o41)])) (fun t_ k_ => st41 _ k_) ?_
            refine own_go (T41.setTop (mkF m 200 #[.val (.long p0), .second, .val (.int p1), .val (.long p2), .second, .val (.int p3), .val (.int p4), .val (.long ta), .second, .val (.int pa), .val (.long tb), .second, .val (.int pb), .val (.ref b6), .val (.ref b8), .val (.int (((p4.toUInt32 >>> ((2 : Int32) &&& 31).toUInt32).toInt32) &&& (3 : Int32))), .val (.ref o41), .unset, .unset, .unset, .unset] [])) (fun t_ k_ => XS.astore X41.here hx rfl (hb hby at_198) rfl rfl (l' := #[.val (.long p0), .second, .val (.int p1), .val (.long p2), .second, .val (.int p3), .val (.int p4), .val (.long ta), .second, .val (.int pa), .val (.long tb), .second, .val (.int pb), .val (.ref b6), .val (.ref b8), .val (.int (((p4.toUInt32 >>> ((2 : Int32) &&& 31).toUInt32).toInt32) &&& (3 : Int32))), .val (.ref o41), .unset, .unset, .unset, .unset]) rfl k_) ?_
            refine own_go (T41.setTop (mkF m 202 #[.val (.long p0), .second, .val (.int p1), .val (.long p2), .second, .val (.int p3), .val (.int p4), .val (.long ta), .second, .val (.int pa), .val (.long tb), .second, .val (.int pb), .val (.ref b6), .val (.ref b8), .val (.int (((p4.toUInt32 >>> ((2 : Int32) &&& 31).toUInt32).toInt32) &&& (3 : Int32))), .val (.ref o41), .unset, .unset, .unset, .unset] [(.ref b6)])) (fun t_ k_ => XS.aload X41.here hx rfl (hb hby at_200) rfl rfl k_) ?_
            refine own_go (T41.setTop (mkF m 204 #[.val (.long p0), .second, .val (.int p1), .val (.long p2), .second, .val (.int p3), .val (.int p4), .val (.long ta), .second, .val (.int pa), .val (.long tb), .second, .val (.int pb), .val (.ref b6), .val (.ref b8), .val (.int (((p4.toUInt32 >>> ((2 : Int32) &&& 31).toUInt32).toInt32) &&& (3 : Int32))), .val (.ref o41), .unset, .unset, .unset, .unset] [(.ref o41), (.ref b6)])) (fun t_ k_ => XS.aload X41.here hx rfl (hb hby at_202) rfl rfl k_) ?_
            have Fz43 := (((X7q.ext E8).keep K9q).keep K41q)
            obtain ⟨cq42, kq42, q42a, q42b, q42c⟩ := isOf hZ rfl Fz43
            obtain ⟨_, _, ⟨T42, Lu42, ku42, nu42⟩, -, X42, ⟨Lc42, hQ42, lu42, yu42, zu42⟩, st42⟩ := X41.virtualBack hx (y := (⟨"com/example/eager_quorum/eagerquorum/model/Stamp", "equals", "(Ljava/lang/Object;)Z"⟩ : MethodName)) (z := (⟨"com/example/eager_quorum/eagerquorum/model/Stamp", "equals", "(Ljava/lang/Object;)Z"⟩ : MethodName)) hown (mvT hZ (hw _ (List.mem_of_getElem? (i := 23) rfl))) (mvT hZ (hw _ (List.mem_of_getElem? (i := 24) rfl))) (notFace_of_selects (args := #[]) (mvT hZ (hw _ (List.mem_of_getElem? (i := 26) rfl)))) (mvT hZ (hw _ (List.mem_of_getElem? (i := 26) rfl))) (mvT hZ (hw _ (List.mem_of_getElem? (i := 25) rfl))) (by decide) (backOf (W := 0) (rm_eL l Z a0 hw [] (b6) (o41) T41.heap O41 X41q) hZ (hw _ (List.mem_of_getElem? (i := 27) rfl)) (hw _ (List.mem_of_getElem? (i := 8) rfl)) (by decide) (by decide)) q42a q42c (g := (mkF m 204 #[.val (.long p0), .second, .val (.int p1), .val (.long p2), .second, .val (.int p3), .val (.int p4), .val (.long ta), .second, .val (.int pa), .val (.long tb), .second, .val (.int pb), .val (.ref b6), .val (.ref b8), .val (.int (((p4.toUInt32 >>> ((2 : Int32) &&& 31).toUInt32).toInt32) &&& (3 : Int32))), .val (.ref o41), .unset, .unset, .unset, .unset] [(.ref o41), (.ref b6)])) rfl (by rw [hml]; rfl) (Steps.refl _) (argsL := [(.ref o41)]) (rest := []) (lenOf own_pd5 rfl) rfl (by show 2 * 0 + _ ≤ _; exact Nat.le_of_eq rfl) (hb hby at_204) (fun _ _ => ⟨rfl, rfl, (by decide : 3 + 0 ≤ _), (by decide : 5 + 0 ≤ _)⟩)
            dsimp only [Pt.U, Pt.locs, Pt.cells, Pt.slots] at X42 lu42 yu42 zu42 st42 hQ42
            subst lu42 yu42 zu42
            obtain ⟨rfl, N42q, e42⟩ := hQ42
            have N42 := Fr.app N41 N42q
            refine own_go (T42.setTop (mkF m 207 #[.val (.long p0), .second, .val (.int p1), .val (.long p2), .second, .val (.int p3), .val (.int p4), .val (.long ta), .second, .val (.int pa), .val (.long tb), .second, .val (.int pb), .val (.ref b6), .val (.ref b8), .val (.int (((p4.toUInt32 >>> ((2 : Int32) &&& 31).toUInt32).toInt32) &&& (3 : Int32))), .val (.ref o41), .unset, .unset, .unset, .unset] [(.int (0 : Int32))])) (fun t_ k_ => st42.trans k_) ?_
            refine own_go (T42.setTop (mkF m 210 #[.val (.long p0), .second, .val (.int p1), .val (.long p2), .second, .val (.int p3), .val (.int p4), .val (.long ta), .second, .val (.int pa), .val (.long tb), .second, .val (.int pb), .val (.ref b6), .val (.ref b8), .val (.int (((p4.toUInt32 >>> ((2 : Int32) &&& 31).toUInt32).toInt32) &&& (3 : Int32))), .val (.ref o41), .unset, .unset, .unset, .unset] [])) (fun t_ k_ => XS.ifNo X42.here hx rfl (hb hby at_207) rfl ((if0 _ _).trans (teq (by decide : (0 : Int32) = (0 : Int32))).2) k_) ?_
            refine own_go (T42.setTop (mkF m 211 #[.val (.long p0), .second, .val (.int p1), .val (.long p2), .second, .val (.int p3), .val (.int p4), .val (.long ta), .second, .val (.int pa), .val (.long tb), .second, .val (.int pb), .val (.ref b6), .val (.ref b8), .val (.int (((p4.toUInt32 >>> ((2 : Int32) &&& 31).toUInt32).toInt32) &&& (3 : Int32))), .val (.ref o41), .unset, .unset, .unset, .unset] [(.int (1 : Int32))])) (fun t_ k_ => XS.iconst X42.here hx rfl (hb hby at_210) k_) ?_
            refine own_go (T42.setTop (mkF m 215 #[.val (.long p0), .second, .val (.int p1), .val (.long p2), .second, .val (.int p3), .val (.int p4), .val (.long ta), .second, .val (.int pa), .val (.long tb), .second, .val (.int pb), .val (.ref b6), .val (.ref b8), .val (.int (((p4.toUInt32 >>> ((2 : Int32) &&& 31).toUInt32).toInt32) &&& (3 : Int32))), .val (.ref o41), .unset, .unset, .unset, .unset] [(.int (1 : Int32))])) (fun t_ k_ => XS.goto X42.here hx rfl (pc0 := 211) (pc' := 215) rfl (hb hby at_211) (by decide) (by decide) k_) ?_
            obtain ⟨fs, hr, hrun, hended, hW, hsame⟩ := X42.leave (v := some (.int (nar .boolean (1 : Int32)))) (fun h => by rw [Bd.returns] at h; cases h)
            refine ⟨_, _, retN X42 hx (t := .boolean) Bd.returns (by simp) (hb hby at_215) hr, hrun, hended, _, _, rfl, ?_, ⟨_, rfl⟩, hW, hsame.mono (by decide) (by decide)⟩
            show Q_law Z p0 p1 p2 p3 p4 a_cache cl_cache h0 _ T42.heap _
            exact ⟨rfl, N42, trivial⟩
          ·
            refine own_go (T9.setTop (mkF m 216 #[.val (.long p0), .second, .val (.int p1), .val (.long p2), .second, .val (.int p3), .val (.int p4), .val (.long ta), .second, .val (.int pa), .val (.long tb), .second, .val (.int pb), .val (.ref b6), .val (.ref b8), .val (.int (((p4.toUInt32 >>> ((2 : Int32) &&& 31).toUInt32).toInt32) &&& (3 : Int32))), .unset, .unset, .unset, .unset, .unset] [])) (fun t_ k_ => XS.icmpYes X9.here hx rfl (pc0 := 190) (pc' := 216) rfl (hb hby at_190) rfl (feq hc190_40).2 (by decide) (by decide) k_) ?_
            refine own_go (T9.setTop (mkF m 218 #[.val (.long p0), .second, .val (.int p1), .val (.long p2), .second, .val (.int p3), .val (.int p4), .val (.long ta), .second, .val (.int pa), .val (.long tb), .second, .val (.int pb), .val (.ref b6), .val (.ref b8), .val (.int (((p4.toUInt32 >>> ((2 : Int32) &&& 31).toUInt32).toInt32) &&& (3 : Int32))), .unset, .unset, .unset, .unset, .unset] [(.ref b6)])) (fun t_ k_ => XS.aload X9.here hx rfl (hb hby at_216) rfl rfl k_) ?_
            refine own_go (T9.setTop (mkF m 220 #[.val (.long p0), .second, .val (.int p1), .val (.long p2), .second, .val (.int p3), .val (.int p4), .val (.long ta), .second, .val (.int pa), .val (.long tb), .second, .val (.int pb), .val (.ref b6), .val (.ref b8), .val (.int (((p4.toUInt32 >>> ((2 : Int32) &&& 31).toUInt32).toInt32) &&& (3 : Int32))), .val (.ref b6), .unset, .unset, .unset, .unset] [])) (fun t_ k_ => XS.astore X9.here hx rfl (hb hby at_218) rfl rfl (l' := #[.val (.long p0), .second, .val (.int p1), .val (.long p2), .second, .val (.int p3), .val (.int p4), .val (.long ta), .second, .val (.int pa), .val (.long tb), .second, .val (.int pb), .val (.ref b6), .val (.ref b8), .val (.int (((p4.toUInt32 >>> ((2 : Int32) &&& 31).toUInt32).toInt32) &&& (3 : Int32))), .val (.ref b6), .unset, .unset, .unset, .unset]) rfl k_) ?_
            refine own_go (T9.setTop (mkF m 222 #[.val (.long p0), .second, .val (.int p1), .val (.long p2), .second, .val (.int p3), .val (.int p4), .val (.long ta), .second, .val (.int pa), .val (.long tb), .second, .val (.int pb), .val (.ref b6), .val (.ref b8), .val (.int (((p4.toUInt32 >>> ((2 : Int32) &&& 31).toUInt32).toInt32) &&& (3 : Int32))), .val (.ref b6), .unset, .unset, .unset, .unset] [(.ref b6)])) (fun t_ k_ => XS.aload X9.here hx rfl (hb hby at_220) rfl rfl k_) ?_
            refine own_go (T9.setTop (mkF m 224 #[.val (.long p0), .second, .val (.int p1), .val (.long p2), .second, .val (.int p3), .val (.int p4), .val (.long ta), .second, .val (.int pa), .val (.long tb), .second, .val (.int pb), .val (.ref b6), .val (.ref b8), .val (.int (((p4.toUInt32 >>> ((2 : Int32) &&& 31).toUInt32).toInt32) &&& (3 : Int32))), .val (.ref b6), .unset, .unset, .unset, .unset] [(.ref b6), (.ref b6)])) (fun t_ k_ => XS.aload X9.here hx rfl (hb hby at_222) rfl rfl k_) ?_
            have Fz44 := ((X7q.ext E8).keep K9q)
            have Nz45 : b6 ≠ b8 := (Nat.ne_of_lt (Nat.lt_of_lt_of_le X7q.lt (Nat.le_of_eq g8.symm)))
            have Fz46 := ((F7q.ext E8).keep K9q (ninS Nz45 nin0))
            have Fz47 := ((G7q.ext E8).keep K9q (ninS Nz45 nin0))
            obtain ⟨cq48, kq48, q48a, q48b, q48c⟩ := isOf hZ rfl Fz44
            obtain ⟨_, _, ⟨T48, Lu48, ku48, nu48⟩, -, X48, ⟨Lc48, hQ48, lu48, yu48, zu48⟩, st48⟩ := X9.virtualBack hx (y := (⟨"com/example/eager_quorum/eagerquorum/model/Stamp", "equals", "(Ljava/lang/Object;)Z"⟩ : MethodName)) (z := (⟨"com/example/eager_quorum/eagerquorum/model/Stamp", "equals", "(Ljava/lang/Object;)Z"⟩ : MethodName)) hown (mvT hZ (hw _ (List.mem_of_getElem? (i := 23) rfl))) (mvT hZ (hw _ (List.mem_of_getElem? (i := 24) rfl))) (notFace_of_selects (args := #[]) (mvT hZ (hw _ (List.mem_of_getElem? (i := 26) rfl)))) (mvT hZ (hw _ (List.mem_of_getElem? (i := 26) rfl))) (mvT hZ (hw _ (List.mem_of_getElem? (i := 25) rfl))) (by decide) (backOf (W := 0) (rm_eS l Z a0 hw [] (b6) (b6) (ta) (pa) (ta) (pa) T9.heap O9 Fz44 Fz46 Fz47 Fz46 Fz47) hZ (hw _ (List.mem_of_getElem? (i := 27) rfl)) (hw _ (List.mem_of_getElem? (i := 8) rfl)) (by decide) (by decide)) q48a q48c (g := (mkF m 224 #[.val (.long p0), .second, .val (.int p1), .val (.long p2), .second, .val (.int p3), .val (.int p4), .val (.long ta), .second, .val (.int pa), .val (.long tb), .second, .val (.int pb), .val (.ref b6), .val (.ref b8), .val (.int (((p4.toUInt32 >>> ((2 : Int32) &&& 31).toUInt32).toInt32) &&& (3 : Int32))), .val (.ref b6), .unset, .unset, .unset, .unset] [(.ref b6), (.ref b6)])) rfl (by rw [hml]; rfl) (Steps.refl _) (argsL := [(.ref b6)]) (rest := []) (lenOf own_pd5 rfl) rfl (by show 2 * 0 + _ ≤ _; exact Nat.le_of_eq rfl) (hb hby at_224) (fun _ _ => ⟨rfl, rfl, (by decide : 2 + 0 ≤ _), (by decide : 4 + 0 ≤ _)⟩)
            dsimp only [Pt.U, Pt.locs, Pt.cells, Pt.slots] at X48 lu48 yu48 zu48 st48 hQ48
            subst lu48 yu48 zu48
            obtain ⟨rfl, N48q, e48⟩ := hQ48
            have N48 := Fr.app N9 N48q
            rw [show (if ta = ta then if pa = pa then (1 : Int32) else 0 else 0) = 1 by simp] at st48
            refine own_go (T48.setTop (mkF m 227 #[.val (.long p0), .second, .val (.int p1), .val (.long p2), .second, .val (.int p3), .val (.int p4), .val (.long ta), .second, .val (.int pa), .val (.long tb), .second, .val (.int pb), .val (.ref b6), .val (.ref b8), .val (.int (((p4.toUInt32 >>> ((2 : Int32) &&& 31).toUInt32).toInt32) &&& (3 : Int32))), .val (.ref b6), .unset, .unset, .unset, .unset] [(.int (1 : Int32))])) (fun t_ k_ => st48.trans k_) ?_
            obtain ⟨fs, hr, hrun, hended, hW, hsame⟩ := X48.leave (v := some (.int (nar .boolean (1 : Int32)))) (fun h => by rw [Bd.returns] at h; cases h)
            refine ⟨_, _, retN X48 hx (t := .boolean) Bd.returns (by simp) (hb hby at_227) hr, hrun, hended, _, _, rfl, ?_, ⟨_, rfl⟩, hW, hsame.mono (by decide) (by decide)⟩
            show Q_law Z p0 p1 p2 p3 p4 a_cache cl_cache h0 _ T48.heap _
            exact ⟨rfl, N48, trivial⟩
    refine own_go (T3.setTop (mkF m 38 #[.val (.long p0), .second, .val (.int p1), .val (.long p2), .second, .val (.int p3), .val (.int p4), .val (.long ta), .second, .val (.int pa), .val (.long tb), .second, .unset, .unset, .unset, .unset, .unset, .unset, .unset, .unset, .unset] [(.int p4)])) (fun t_ k_ => XS.iload X3.here hx rfl (hb hby at_36) rfl k_) ?_
    refine own_go (T3.setTop (mkF m 39 #[.val (.long p0), .second, .val (.int p1), .val (.long p2), .second, .val (.int p3), .val (.int p4), .val (.long ta), .second, .val (.int pa), .val (.long tb), .second, .unset, .unset, .unset, .unset, .unset, .unset, .unset, .unset, .unset] [(.int (2 : Int32)), (.int p4)])) (fun t_ k_ => XS.iconst X3.here hx rfl (hb hby at_38) k_) ?_
    refine own_go (T3.setTop (mkF m 40 #[.val (.long p0), .second, .val (.int p1), .val (.long p2), .second, .val (.int p3), .val (.int p4), .val (.long ta), .second, .val (.int pa), .val (.long tb), .second, .unset, .unset, .unset, .unset, .unset, .unset, .unset, .unset, .unset] [(.int (p4 &&& (2 : Int32)))])) (fun t_ k_ => XS.iand X3.here hx rfl (hb hby at_39) rfl k_) ?_
    by_cases hc40_49 : (p4 &&& (2 : Int32)) = (0 : Int32)
    ·
      refine own_go (T3.setTop (mkF m 48 #[.val (.long p0), .second, .val (.int p1), .val (.long p2), .second, .val (.int p3), .val (.int p4), .val (.long ta), .second, .val (.int pa), .val (.long tb), .second, .unset, .unset, .unset, .unset, .unset, .unset, .unset, .unset, .unset] [])) (fun t_ k_ => XS.ifYes X3.here hx rfl (pc0 := 40) (pc' := 48) rfl (hb hby at_40) rfl ((if0 _ _).trans (teq hc40_49).1) (by decide) (by decide) k_) ?_
      refine own_go (T3.setTop (mkF m 49 #[.val (.long p0), .second, .val (.int p1), .val (.long p2), .second, .val (.int p3), .val (.int p4), .val (.long ta), .second, .val (.int pa), .val (.long tb), .second, .unset, .unset, .unset, .unset, .unset, .unset, .unset, .unset, .unset] [(.int (1 : Int32))])) (fun t_ k_ => XS.iconst X3.here hx rfl (hb hby at_48) k_) ?_
      refine own_go (T3.setTop (mkF m 51 #[.val (.long p0), .second, .val (.int p1), .val (.long p2), .second, .val (.int p3), .val (.int p4), .val (.long ta), .second, .val (.int pa), .val (.long tb), .second, .unset, .unset, .unset, .unset, .unset, .unset, .unset, .unset, .unset] [(.int p3), (.int (1 : Int32))])) (fun t_ k_ => XS.iload X3.here hx rfl (hb hby at_49) rfl k_) ?_
      refine own_go (T3.setTop (mkF m 53 #[.val (.long p0), .second, .val (.int p1), .val (.long p2), .second, .val (.int p3), .val (.int p4), .val (.long ta), .second, .val (.int pa), .val (.long tb), .second, .unset, .unset, .unset, .unset, .unset, .unset, .unset, .unset, .unset] [(.int (2147483647 : Int32)), (.int p3), (.int (1 : Int32))])) (fun t_ k_ => X3.ldcInt hx hown (mvT hZ (hw _ (List.mem_of_getElem? (i := 1) rfl))) (g := (mkF m 51 #[.val (.long p0), .second, .val (.int p1), .val (.long p2), .second, .val (.int p3), .val (.int p4), .val (.long ta), .second, .val (.int pa), .val (.long tb), .second, .unset, .unset, .unset, .unset, .unset, .unset, .unset, .unset, .unset] [(.int p3), (.int (1 : Int32))])) rfl (hb hby at_51) _ k_) ?_
      refine own_go (T3.setTop (mkF m 54 #[.val (.long p0), .second, .val (.int p1), .val (.long p2), .second, .val (.int p3), .val (.int p4), .val (.long ta), .second, .val (.int pa), .val (.long tb), .second, .unset, .unset, .unset, .unset, .unset, .unset, .unset, .unset, .unset] [(.int (p3 &&& (2147483647 : Int32))), (.int (1 : Int32))])) (fun t_ k_ => XS.iand X3.here hx rfl (hb hby at_53) rfl k_) ?_
      obtain ⟨_, _, ⟨T50, Lu50, ku50, nu50⟩, -, X50, ⟨Lc50, hQ50, lu50, yu50, zu50⟩, st50⟩ := Jvm.LawKit.callS X3 hx (y := (⟨"java/lang/Math", "max", "(II)I"⟩ : MethodName)) hown (mvT hZ (hw _ (List.mem_of_getElem? (i := 2) rfl))) (mvT hZ (hw _ (List.mem_of_getElem? (i := 3) rfl))) (mvT hZ (hw _ (List.mem_of_getElem? (i := 4) rfl))) (mvT hZ (hw _ (List.mem_of_getElem? (i := 5) rfl))) (by decide) (backOf (W := 0) (rm_mx l Z a0 hw [] ((1 : Int32)) ((p3 &&& (2147483647 : Int32))) h0 O ) hZ (hw _ (List.mem_of_getElem? (i := 5) rfl)) (hw _ (List.mem_of_getElem? (i := 4) rfl)) (by decide) (by decide)) (g := (mkF m 54 #[.val (.long p0), .second, .val (.int p1), .val (.long p2), .second, .val (.int p3), .val (.int p4), .val (.long ta), .second, .val (.int pa), .val (.long tb), .second, .unset, .unset, .unset, .unset, .unset, .unset, .unset, .unset, .unset] [(.int (p3 &&& (2147483647 : Int32))), (.int (1 : Int32))])) rfl (by rw [hml]; rfl) (argsL := [(.int (1 : Int32)), (.int (p3 &&& (2147483647 : Int32)))]) (rest := []) (lenOf own_pd3 rfl) rfl (by show 2 * 0 + _ ≤ _; exact Nat.le_of_eq rfl) (hb hby at_54) (fun _ _ => ⟨rfl, e3, (by decide : 0 + 0 ≤ _), (by decide : 0 + 0 ≤ _)⟩)
      dsimp only [Pt.U, Pt.locs, Pt.cells, Pt.slots] at X50 lu50 yu50 zu50 st50 hQ50
      subst lu50 yu50 zu50
      obtain ⟨rfl, N50q, e50⟩ := hQ50
      have N50 := Fr.app N3 N50q
      refine own_go (T50.setTop (mkF m 57 #[.val (.long p0), .second, .val (.int p1), .val (.long p2), .second, .val (.int p3), .val (.int p4), .val (.long ta), .second, .val (.int pa), .val (.long tb), .second, .unset, .unset, .unset, .unset, .unset, .unset, .unset, .unset, .unset] [(.int (own_max (1 : Int32) (p3 &&& (2147483647 : Int32))))])) (fun t_ k_ => st50 _ k_) ?_
      exact J4 _ _ X50 N50 e50 ((own_max (1 : Int32) (p3 &&& (2147483647 : Int32)))) (own_max1 _)
    ·
      refine own_go (T3.setTop (mkF m 43 #[.val (.long p0), .second, .val (.int p1), .val (.long p2), .second, .val (.int p3), .val (.int p4), .val (.long ta), .second, .val (.int pa), .val (.long tb), .second, .unset, .unset, .unset, .unset, .unset, .unset, .unset, .unset, .unset] [])) (fun t_ k_ => XS.ifNo X3.here hx rfl (hb hby at_40) rfl ((if0 _ _).trans (feq hc40_49).1) k_) ?_
      refine own_go (T3.setTop (mkF m 45 #[.val (.long p0), .second, .val (.int p1), .val (.long p2), .second, .val (.int p3), .val (.int p4), .val (.long ta), .second, .val (.int pa), .val (.long tb), .second, .unset, .unset, .unset, .unset, .unset, .unset, .unset, .unset, .unset] [(.int pa)])) (fun t_ k_ => XS.iload X3.here hx rfl (hb hby at_43) rfl k_) ?_
      refine own_go (T3.setTop (mkF m 57 #[.val (.long p0), .second, .val (.int p1), .val (.long p2), .second, .val (.int p3), .val (.int p4), .val (.long ta), .second, .val (.int pa), .val (.long tb), .second, .unset, .unset, .unset, .unset, .unset, .unset, .unset, .unset, .unset] [(.int pa)])) (fun t_ k_ => XS.goto X3.here hx rfl (pc0 := 45) (pc' := 57) rfl (hb hby at_45) (by decide) (by decide) k_) ?_
      exact J4 _ _ X3 N3 e3 (pa) (hpa)
  refine own_go (T1.setTop (mkF m 19 #[.val (.long p0), .second, .val (.int p1), .val (.long p2), .second, .val (.int p3), .val (.int p4), .val (.long ta), .second, .val (.int pa), .unset, .unset, .unset, .unset, .unset, .unset, .unset, .unset, .unset, .unset, .unset] [(.int p4)])) (fun t_ k_ => XS.iload X1.here hx rfl (hb hby at_17) rfl k_) ?_
  refine own_go (T1.setTop (mkF m 20 #[.val (.long p0), .second, .val (.int p1), .val (.long p2), .second, .val (.int p3), .val (.int p4), .val (.long ta), .second, .val (.int pa), .unset, .unset, .unset, .unset, .unset, .unset, .unset, .unset, .unset, .unset, .unset] [(.int (1 : Int32)), (.int p4)])) (fun t_ k_ => XS.iconst X1.here hx rfl (hb hby at_19) k_) ?_
  refine own_go (T1.setTop (mkF m 21 #[.val (.long p0), .second, .val (.int p1), .val (.long p2), .second, .val (.int p3), .val (.int p4), .val (.long ta), .second, .val (.int pa), .unset, .unset, .unset, .unset, .unset, .unset, .unset, .unset, .unset, .unset, .unset] [(.int (p4 &&& (1 : Int32)))])) (fun t_ k_ => XS.iand X1.here hx rfl (hb hby at_20) rfl k_) ?_
  by_cases hc21_51 : (p4 &&& (1 : Int32)) = (0 : Int32)
  ·
    refine own_go (T1.setTop (mkF m 29 #[.val (.long p0), .second, .val (.int p1), .val (.long p2), .second, .val (.int p3), .val (.int p4), .val (.long ta), .second, .val (.int pa), .unset, .unset, .unset, .unset, .unset, .unset, .unset, .unset, .unset, .unset, .unset] [])) (fun t_ k_ => XS.ifYes X1.here hx rfl (pc0 := 21) (pc' := 29) rfl (hb hby at_21) rfl ((if0 _ _).trans (teq hc21_51).1) (by decide) (by decide) k_) ?_
    refine own_go (T1.setTop (mkF m 30 #[.val (.long p0), .second, .val (.int p1), .val (.long p2), .second, .val (.int p3), .val (.int p4), .val (.long ta), .second, .val (.int pa), .unset, .unset, .unset, .unset, .unset, .unset, .unset, .unset, .unset, .unset, .unset] [(.long p2)])) (fun t_ k_ => XS.lloadN X1.here hx rfl (hb hby at_29) rfl k_) ?_
    refine own_go (T1.setTop (mkF m 33 #[.val (.long p0), .second, .val (.int p1), .val (.long p2), .second, .val (.int p3), .val (.int p4), .val (.long ta), .second, .val (.int pa), .unset, .unset, .unset, .unset, .unset, .unset, .unset, .unset, .unset, .unset, .unset] [(.long (9223372036854775807 : Int64)), (.long p2)])) (fun t_ k_ => X1.ldc2Long hx hown (mvT hZ (hw _ (List.mem_of_getElem? (i := 0) rfl))) (g := (mkF m 30 #[.val (.long p0), .second, .val (.int p1), .val (.long p2), .second, .val (.int p3), .val (.int p4), .val (.long ta), .second, .val (.int pa), .unset, .unset, .unset, .unset, .unset, .unset, .unset, .unset, .unset, .unset, .unset] [(.long p2)])) rfl (hb hby at_30) _ k_) ?_
    refine own_go (T1.setTop (mkF m 34 #[.val (.long p0), .second, .val (.int p1), .val (.long p2), .second, .val (.int p3), .val (.int p4), .val (.long ta), .second, .val (.int pa), .unset, .unset, .unset, .unset, .unset, .unset, .unset, .unset, .unset, .unset, .unset] [(.long (p2 &&& (9223372036854775807 : Int64)))])) (fun t_ k_ => XS.land X1.here hx rfl (hb hby at_33) rfl k_) ?_
    exact J2 _ _ X1 N1 e1 ((p2 &&& (9223372036854775807 : Int64))) (own_nn p2)
  ·
    refine own_go (T1.setTop (mkF m 24 #[.val (.long p0), .second, .val (.int p1), .val (.long p2), .second, .val (.int p3), .val (.int p4), .val (.long ta), .second, .val (.int pa), .unset, .unset, .unset, .unset, .unset, .unset, .unset, .unset, .unset, .unset, .unset] [])) (fun t_ k_ => XS.ifNo X1.here hx rfl (hb hby at_21) rfl ((if0 _ _).trans (feq hc21_51).1) k_) ?_
    refine own_go (T1.setTop (mkF m 26 #[.val (.long p0), .second, .val (.int p1), .val (.long p2), .second, .val (.int p3), .val (.int p4), .val (.long ta), .second, .val (.int pa), .unset, .unset, .unset, .unset, .unset, .unset, .unset, .unset, .unset, .unset, .unset] [(.long ta)])) (fun t_ k_ => XS.lload X1.here hx rfl (hb hby at_24) rfl k_) ?_
    refine own_go (T1.setTop (mkF m 34 #[.val (.long p0), .second, .val (.int p1), .val (.long p2), .second, .val (.int p3), .val (.int p4), .val (.long ta), .second, .val (.int pa), .unset, .unset, .unset, .unset, .unset, .unset, .unset, .unset, .unset, .unset, .unset] [(.long ta)])) (fun t_ k_ => XS.goto X1.here hx rfl (pc0 := 26) (pc' := 34) rfl (hb hby at_26) (by decide) (by decide) k_) ?_
    exact J2 _ _ X1 N1 e1 (ta) (hta)
set_option maxRecDepth 65536 in
set_option maxHeartbeats 40000000 in
theorem comes_1 {Post : Tables → Env → Array Value → State → Outcome → State → Prop} (hpost : ∀ tb e args s v u, (limb_1_1.after args s (.returned v) u = true ∧ limb_1_2.after args s (.returned v) u = true ∧ True) → FrameEnd s (.returned v) u (Jvm.fieldLocs frame_1_writes args s ++ Jvm.arrayLocs frame_1_arrays args s ++ Jvm.staticLocs frame_1_statics s) 16 128 → Post tb e args s (.returned v) u) :
    ArmFor flags0 classFile x code maxLocals ret World_1 tables_1 room_1 Calls_1 rest_1 Pre_1 Post := by
  intro l hfl _ _ p e ha hc hk s m args below hf hA hF happ hP
  obtain ⟨hcalls, hrest, hpre⟩ := hP
  obtain ⟨-, -, -, hnamed, -, -, -, hat⟩ := (Spec.applies_iff hf).mp happ
  obtain ⟨hg, hn⟩ := and_e (Cond.before_iff.mp (show (Jvm.Cond.and given_1 narrow_1).before args s = true from hpre))
  obtain ⟨g1, g2⟩ := and_e hg
  obtain ⟨g3, g4⟩ := and_e g2
  obtain ⟨g5, g6⟩ := and_e g4
  obtain ⟨g7, g8⟩ := and_e g6
  obtain ⟨g9, g10⟩ := and_e g8
  obtain ⟨w0, w1, w2, w3, w4, rfl⟩ : ∃ w0 w1 w2 w3 w4 : Value, args = #[w0, w1, w2, w3, w4] := by
    have hs : args.size = 5 := by simpa [Cond.value, given_1] using g1
    obtain ⟨L⟩ := args
    match L, hs with
    | [w0, w1, w2, w3, w4], _ => exact ⟨w0, w1, w2, w3, w4, rfl⟩
  have hw := fun d (hd : d ∈ tables_1) => atoms_spec (ws := Jvm.Cond.code x code maxLocals ret :: tables_1) hat d (List.mem_cons_of_mem _ hd)
  have hfit : Fit s := fun {y c} hc i hi => by
    obtain ⟨ha, rfl⟩ := Array.getElem?_eq_some_iff.mp hc
    have q := List.all_eq_true.mp ((Array.all_eq_true_iff_forall_mem.mp hF) _ (Array.getElem_mem ha)) i (List.mem_range.mpr hi)
    simpa [Array.getElem?_eq_getElem hi] using q
  obtain ⟨hsets, hown0⟩ := atoms_of _ (rest_1_c_eq ▸ (show rest_1_c.before _ s = true from hrest))
  have hr0 := Cond.before_iff.mp hown0
  obtain ⟨i0, ei0⟩ := isL_v g3
  obtain rfl : w0 = (.long i0) := Option.some.inj ei0
  obtain ⟨i1, ei1⟩ := is_v g5
  obtain rfl : w1 = (.int i1) := Option.some.inj ei1
  obtain ⟨i2, ei2⟩ := isL_v g7
  obtain rfl : w2 = (.long i2) := Option.some.inj ei2
  obtain ⟨i3, ei3⟩ := is_v g9
  obtain rfl : w3 = (.int i3) := Option.some.inj ei3
  obtain ⟨i4, ei4⟩ := is_v g10
  obtain rfl : w4 = (.int i4) := Option.some.inj ei4
  obtain ⟨a_cache, ev_cache⟩ := arr_v (Cond.before_iff.mp (hsets _ (List.mem_of_getElem? (i := 2) rfl)))
  have S_cache : Sta s s.heap "java/lang/Long$LongCache" "cache" "[Ljava/lang/Long;" (.ref a_cache) := Sta.start ev_cache (Or.inl (hsets _ (List.mem_of_getElem? (i := 1) rfl)))
  obtain ⟨cl_cache, A_cache⟩ := Arr.start ev_cache (Cond.before_iff.mp (hsets _ (List.mem_of_getElem? (i := 2) rfl)))
  have L_cache := own_cache ev_cache A_cache (Cond.before_iff.mp (hsets _ (List.mem_of_getElem? (i := 4) rfl))) (Cond.before_iff.mp (hsets _ (List.mem_of_getElem? (i := 5) rfl)))
  obtain ⟨n, o, h1, h2, h3, _, L, rfl, ⟨rfl, N, -⟩, hq⟩ := rm_law l s _ hw tables_1 i0 i1 i2 i3 i4 a_cache cl_cache s.heap ⟨Nat.le_refl _, fun _ _ q => q⟩ ⟨S_cache, A_cache, L_cache⟩  p e ha hc hk s m _ below hf ((Spec.applies_iff_loose hf).mp happ).1 ⟨rfl, State.Warmed39.refl s, rfl⟩ trivial
  refine ⟨n, _, h1, h2, h3, hpost _ _ _ _ _ _ ⟨Cond.after_iff.mpr rfl, Cond.after_iff.mpr (eq_i res_at (Term.int_eval (1)) rfl), trivial⟩ ⟨hq.1, hq.2.1, (hq.2.2.sift fun y hy => Or.inr (N y hy)).mono (by decide) (by decide)⟩⟩
theorem main_1_1 : Claimed_1_1 := comes_1 fun _ _ _ _ _ _ h hF => ⟨h.1, hF⟩
theorem main_1_2 : Claimed_1_2 := comes_1 fun _ _ _ _ _ _ h hF => ⟨h.2.1, hF⟩
end Jvm.Pilot.@@N@@
namespace Jvm.Pilot.@@N@@
open Jvm Jvm.ClassFile Sem Op Lib Jvm.Free Jvm.Stand Jvm.Pilot.@@N@@.Jvm.D
/-! MADE BY PROGRAM (witnessworld.py) out of the Statement's table words and the real class files: 18 classes; the members and pool entries that the words name. The judged class is class 1, her method 1. -/
namespace start1
open Jvm.ClassFile
def u (s : String) : CpInfo := .utf8 (stringToUtf16 s)
/-- a pool by its gaps: so many unusable entries, then the entry; so many at the end -/
def gap : Nat → List CpInfo → List CpInfo
  | 0, r => r
  | n + 1, r => .unusable :: gap n r
def poolList (es : List (Nat × CpInfo)) (last : Nat) : List CpInfo := es.foldr (fun e r => gap e.1 (e.2 :: r)) (gap last [])
def pool (es : List (Nat × CpInfo)) (last : Nat) : Array CpInfo := ⟨poolList es last⟩
def fileOf (pool : Array CpInfo) (this : Nat) (attrs : Array Attribute := #[]) (ms : Array MethodInfo := #[]) (fl : Nat := 33) (sup : Nat := 0) (ifs : Array Nat := #[]) (fds : Array FieldInfo := #[]) : ClassFile where
  minorVersion := 0
  majorVersion := 65
  constantPool := pool
  accessFlags := fl
  thisClass := this
  superClass := sup
  interfaces := ifs
  fields := fds
  methods := ms
  attributes := attrs
def plain (name : String) (sup : Option ClassId) : Class where
  name := name
  kind := .ordinary
  loader := none
  accessFlags := 33
  super := sup
  interfaces := #[]
  cf := none
  fields := #[]
  methods := #[]
  instanceTypes := #[]
  staticTypes := #[]
  resolved := #[]
  callSites := []
  init := .initialized
  statics := none
  mirror := none

def pool0 : Array CpInfo := pool [(5, u "<init>"), (0, u "()V"), (1, .class_ 10), (1, u "java/lang/Object")] 113

def k0c0 : Code := { maxStack := 0, maxLocals := 1, code := object_method_1_code, exceptionTable := #[], attributes := #[] }
def k0m0 : Method := { name := "<init>", desc := "()V", sig := { parameters := [], returnType := none }, accessFlags := 1, code := some k0c0 }
/-- java/lang/Object -/
def k0 : Class := { plain "java/lang/Object" none with
  accessFlags := 33
  interfaces := #[]
  cf := some (fileOf pool0 8 #[] #[{ accessFlags := 1, nameIndex := 5, descriptorIndex := 6, attributes := #[] }] 33 0 #[] #[])
  fields := #[]
  methods := #[k0m0]
  instanceTypes := #[]
  staticTypes := #[]
  resolved := Array.replicate 124 none
  statics := none }

def pool1 : Array CpInfo := pool [(2, .class_ 4), (1, u "java/lang/Object"), (0, u "<init>"), (0, u "()V"), (0, .class_ 8), (0, u "java/lang/Long"), (0, .long 9223372036854775807), (1, .integer 2147483647), (0, .methodref 13 14), (0, .class_ 15), (0, .nameAndType 16 17), (0, u "java/lang/Math"), (0, u "max"), (0, u "(II)I"), (0, .class_ 19), (0, u "com/example/eager_quorum/eagerquorum/model/Stamp"), (0, .methodref 18 21), (0, .nameAndType 5 22), (0, u "(JI)V"), (0, .methodref 18 24), (0, .nameAndType 25 26), (0, u "equals"), (0, u "(Ljava/lang/Object;)Z"), (0, .methodref 7 28), (0, .nameAndType 29 30), (0, u "valueOf"), (0, u "(J)Ljava/lang/Long;"), (0, .class_ 32), (0, u "com/example/eager_quorum/eagerquorum/model/StampEqualsPinLaw"), (2, u "law"), (0, u "(JIJII)Z")] 3

def k1m0 : Method := { name := "<init>", desc := "()V", sig := { parameters := [], returnType := none }, accessFlags := 1, code := none }
def k1c1 : Code := { maxStack := 5, maxLocals := 21, code := code, exceptionTable := #[], attributes := #[] }
def k1m1 : Method := { name := "law", desc := "(JIJII)Z", sig := { parameters := [.long, .int, .long, .int, .int], returnType := some .boolean }, accessFlags := 9, code := some k1c1 }
/-- com/example/eager_quorum/eagerquorum/model/StampEqualsPinLaw -/
def k1 : Class := { plain "com/example/eager_quorum/eagerquorum/model/StampEqualsPinLaw" (some 0) with
  accessFlags := 49
  interfaces := #[]
  cf := some (fileOf pool1 31 #[] #[{ accessFlags := 1, nameIndex := 5, descriptorIndex := 6, attributes := #[] }, { accessFlags := 9, nameIndex := 35, descriptorIndex := 36, attributes := #[] }] 49 2 #[] #[])
  fields := #[]
  methods := #[k1m0, k1m1]
  instanceTypes := #[]
  staticTypes := #[]
  resolved := Array.replicate 40 none
  statics := none }

def pool2 : Array CpInfo := pool [(1, .class_ 2), (0, u "java/lang/Math"), (1, .class_ 6), (1, u "java/lang/Object"), (0, u "<init>"), (0, u "()V"), (89, .class_ 100), (1, u "java/lang/Math$RandomNumberGeneratorHolder"), (71, u "negativeZeroFloatBits"), (0, u "J"), (2, u "negativeZeroDoubleBits"), (21, u "max"), (46, u "$assertionsDisabled"), (0, u "Z"), (88, u "(II)I"), (2, u "twoToTheDoubleScaleDown"), (0, u "D"), (4, u "twoToTheDoubleScaleUp"), (9, u "E"), (3, u "PI"), (2, u "TAU"), (2, u "DEGREES_TO_RADIANS"), (0, u "RADIANS_TO_DEGREES")] 94

def k2m0 : Method := { name := "<init>", desc := "()V", sig := { parameters := [], returnType := none }, accessFlags := 2, code := none }
def k2c1 : Code := { maxStack := 2, maxLocals := 2, code := jdk_29_method_65_code, exceptionTable := #[], attributes := #[] }
def k2m1 : Method := { name := "max", desc := "(II)I", sig := { parameters := [.int, .int], returnType := some .int }, accessFlags := 9, code := some k2c1 }
/-- java/lang/Math -/
def k2 : Class := { plain "java/lang/Math" (some 0) with
  accessFlags := 49
  interfaces := #[]
  cf := some (fileOf pool2 1 #[.nestMembers #[98]] #[{ accessFlags := 2, nameIndex := 7, descriptorIndex := 8, attributes := #[] }, { accessFlags := 9, nameIndex := 198, descriptorIndex := 335, attributes := #[] }] 49 4 #[] #[{ accessFlags := 25, nameIndex := 354, descriptorIndex := 339, attributes := #[] }, { accessFlags := 25, nameIndex := 358, descriptorIndex := 339, attributes := #[] }, { accessFlags := 25, nameIndex := 361, descriptorIndex := 339, attributes := #[] }, { accessFlags := 26, nameIndex := 364, descriptorIndex := 339, attributes := #[] }, { accessFlags := 26, nameIndex := 365, descriptorIndex := 339, attributes := #[] }, { accessFlags := 26, nameIndex := 172, descriptorIndex := 173, attributes := #[] }, { accessFlags := 26, nameIndex := 176, descriptorIndex := 173, attributes := #[] }, { accessFlags := 8, nameIndex := 344, descriptorIndex := 339, attributes := #[] }, { accessFlags := 8, nameIndex := 338, descriptorIndex := 339, attributes := #[] }, { accessFlags := 4120, nameIndex := 245, descriptorIndex := 246, attributes := #[] }])
  fields := #[{ name := "E", type := .double, accessFlags := 25, slot := 0, constantValue := 0 }, { name := "PI", type := .double, accessFlags := 25, slot := 1, constantValue := 0 }, { name := "TAU", type := .double, accessFlags := 25, slot := 2, constantValue := 0 }, { name := "DEGREES_TO_RADIANS", type := .double, accessFlags := 26, slot := 3, constantValue := 0 }, { name := "RADIANS_TO_DEGREES", type := .double, accessFlags := 26, slot := 4, constantValue := 0 }, { name := "negativeZeroFloatBits", type := .long, accessFlags := 26, slot := 5, constantValue := 0 }, { name := "negativeZeroDoubleBits", type := .long, accessFlags := 26, slot := 6, constantValue := 0 }, { name := "twoToTheDoubleScaleUp", type := .double, accessFlags := 8, slot := 7, constantValue := 0 }, { name := "twoToTheDoubleScaleDown", type := .double, accessFlags := 8, slot := 8, constantValue := 0 }, { name := "$assertionsDisabled", type := .boolean, accessFlags := 4120, slot := 9, constantValue := 0 }]
  methods := #[k2m0, k2m1]
  instanceTypes := #[]
  staticTypes := #[.double, .double, .double, .double, .double, .long, .long, .double, .double, .boolean]
  resolved := Array.replicate 460 none
  statics := none }

def pool3 : Array CpInfo := pool [(1, .class_ 2), (0, u "java/lang/Comparable"), (0, .class_ 4), (0, u "java/lang/Object")] 7

/-- java/lang/Comparable -/
def k3 : Class := { plain "java/lang/Comparable" (some 0) with
  accessFlags := 1537
  interfaces := #[]
  cf := some (fileOf pool3 1 #[] #[] 1537 3 #[] #[])
  fields := #[]
  methods := #[]
  instanceTypes := #[]
  staticTypes := #[]
  resolved := Array.replicate 12 none
  statics := none }

def pool4 : Array CpInfo := pool [(1, .methodref 2 3), (0, .class_ 4), (0, .nameAndType 5 6), (0, u "java/lang/Object"), (0, u "<init>"), (0, u "()V"), (9, .methodref 17 18), (0, .class_ 19), (0, .nameAndType 20 21), (0, u "com/example/eager_quorum/eagerquorum/model/LogicalClock"), (0, u "requireReading"), (0, u "(J)J"), (0, .fieldref 23 24), (0, .class_ 25), (0, .nameAndType 26 27), (0, u "com/example/eager_quorum/eagerquorum/model/Stamp"), (0, u "time"), (0, u "J"), (0, .fieldref 23 29), (0, .nameAndType 30 31), (0, u "process"), (0, u "I"), (22, .class_ 55), (0, u "java/lang/Comparable"), (0, u "(JI)V"), (7, u "equals"), (0, u "(Ljava/lang/Object;)Z")] 25

def k4c0 : Code := { maxStack := 3, maxLocals := 4, code := prog_38_method_1_code, exceptionTable := #[], attributes := #[] }
def k4m0 : Method := { name := "<init>", desc := "(JI)V", sig := { parameters := [.long, .int], returnType := none }, accessFlags := 1, code := some k4c0 }
def k4c1 : Code := { maxStack := 4, maxLocals := 3, code := prog_38_method_6_code, exceptionTable := #[], attributes := #[] }
def k4m1 : Method := { name := "equals", desc := "(Ljava/lang/Object;)Z", sig := { parameters := [(.object "java/lang/Object")], returnType := some .boolean }, accessFlags := 1, code := some k4c1 }
/-- com/example/eager_quorum/eagerquorum/model/Stamp -/
def k4 : Class := { plain "com/example/eager_quorum/eagerquorum/model/Stamp" (some 0) with
  accessFlags := 49
  interfaces := #[3]
  cf := some (fileOf pool4 23 #[] #[{ accessFlags := 1, nameIndex := 5, descriptorIndex := 56, attributes := #[] }, { accessFlags := 1, nameIndex := 64, descriptorIndex := 65, attributes := #[] }] 49 2 #[54] #[{ accessFlags := 18, nameIndex := 26, descriptorIndex := 27, attributes := #[] }, { accessFlags := 18, nameIndex := 30, descriptorIndex := 31, attributes := #[] }])
  fields := #[{ name := "time", type := .long, accessFlags := 18, slot := 0, constantValue := 0 }, { name := "process", type := .int, accessFlags := 18, slot := 1, constantValue := 0 }]
  methods := #[k4m0, k4m1]
  instanceTypes := #[.long, .int]
  staticTypes := #[]
  resolved := Array.replicate 91 none
  statics := none }

def pool5 : Array CpInfo := pool [(2, .class_ 4), (1, u "java/lang/Object"), (0, u "<init>"), (0, u "()V"), (1, .class_ 10), (1, u "com/example/eager_quorum/eagerquorum/model/LogicalClock"), (0, u "time"), (0, u "J"), (5, u "(J)J"), (2, u "requireReading")] 37

def k5m0 : Method := { name := "<init>", desc := "()V", sig := { parameters := [], returnType := none }, accessFlags := 1, code := none }
def k5c1 : Code := { maxStack := 4, maxLocals := 2, code := prog_29_method_5_code, exceptionTable := #[], attributes := #[] }
def k5m1 : Method := { name := "requireReading", desc := "(J)J", sig := { parameters := [.long], returnType := some .long }, accessFlags := 8, code := some k5c1 }
/-- com/example/eager_quorum/eagerquorum/model/LogicalClock -/
def k5 : Class := { plain "com/example/eager_quorum/eagerquorum/model/LogicalClock" (some 0) with
  accessFlags := 49
  interfaces := #[]
  cf := some (fileOf pool5 8 #[] #[{ accessFlags := 1, nameIndex := 5, descriptorIndex := 6, attributes := #[] }, { accessFlags := 8, nameIndex := 21, descriptorIndex := 18, attributes := #[] }] 49 2 #[] #[{ accessFlags := 2, nameIndex := 11, descriptorIndex := 12, attributes := #[] }])
  fields := #[{ name := "time", type := .long, accessFlags := 2, slot := 0, constantValue := 0 }]
  methods := #[k5m0, k5m1]
  instanceTypes := #[.long]
  staticTypes := #[]
  resolved := Array.replicate 59 none
  statics := none }

def pool6 : Array CpInfo := pool [(1, .class_ 2), (0, u "java/io/Serializable"), (0, .class_ 4), (0, u "java/lang/Object")] 2

/-- java/io/Serializable -/
def k6 : Class := { plain "java/io/Serializable" (some 0) with
  accessFlags := 1537
  interfaces := #[]
  cf := some (fileOf pool6 1 #[] #[] 1537 3 #[] #[])
  fields := #[]
  methods := #[]
  instanceTypes := #[]
  staticTypes := #[]
  resolved := Array.replicate 7 none
  statics := none }

def pool7 : Array CpInfo := pool [(1, .methodref 2 3), (0, .class_ 4), (0, .nameAndType 5 6), (0, u "java/lang/Object"), (0, u "<init>"), (0, u "()V"), (1, .class_ 10), (1, u "java/lang/Number"), (2, .class_ 14), (0, u "java/io/Serializable"), (0, u "serialVersionUID"), (0, u "J")] 20

def k7c0 : Code := { maxStack := 1, maxLocals := 1, code := jdk_18_method_1_code, exceptionTable := #[], attributes := #[] }
def k7m0 : Method := { name := "<init>", desc := "()V", sig := { parameters := [], returnType := none }, accessFlags := 1, code := some k7c0 }
/-- java/lang/Number -/
def k7 : Class := { plain "java/lang/Number" (some 0) with
  accessFlags := 1057
  interfaces := #[6]
  cf := some (fileOf pool7 8 #[] #[{ accessFlags := 1, nameIndex := 5, descriptorIndex := 6, attributes := #[] }] 1057 2 #[13] #[{ accessFlags := 26, nameIndex := 15, descriptorIndex := 16, attributes := #[] }])
  fields := #[{ name := "serialVersionUID", type := .long, accessFlags := 26, slot := 0, constantValue := 0 }]
  methods := #[k7m0]
  instanceTypes := #[]
  staticTypes := #[.long]
  resolved := Array.replicate 37 none
  statics := none }

def pool8 : Array CpInfo := pool [(1, .class_ 2), (0, u "java/lang/constant/Constable"), (0, .class_ 4), (0, u "java/lang/Object")] 6

/-- java/lang/constant/Constable -/
def k8 : Class := { plain "java/lang/constant/Constable" (some 0) with
  accessFlags := 1537
  interfaces := #[]
  cf := some (fileOf pool8 1 #[] #[] 1537 3 #[] #[])
  fields := #[]
  methods := #[]
  instanceTypes := #[]
  staticTypes := #[]
  resolved := Array.replicate 11 none
  statics := none }

def pool9 : Array CpInfo := pool [(1, .class_ 2), (0, u "java/lang/constant/ConstantDesc"), (0, .class_ 4), (0, u "java/lang/Object")] 32

/-- java/lang/constant/ConstantDesc -/
def k9 : Class := { plain "java/lang/constant/ConstantDesc" (some 0) with
  accessFlags := 1537
  interfaces := #[]
  cf := some (fileOf pool9 1 #[] #[] 1537 3 #[] #[])
  fields := #[]
  methods := #[]
  instanceTypes := #[]
  staticTypes := #[]
  resolved := Array.replicate 37 none
  statics := none }

def pool10 : Array CpInfo := pool [(1, .class_ 2), (0, u "java/lang/Long"), (55, .nameAndType 59 60), (0, u "<init>"), (0, u "()V"), (24, u "valueOf"), (143, u "(J)Ljava/lang/Long;"), (0, .long 18446744073709551488), (1, .long 127), (1, .fieldref 235 236), (0, .class_ 237), (0, .nameAndType 238 239), (0, u "java/lang/Long$LongCache"), (0, u "cache"), (0, u "[Ljava/lang/Long;"), (0, .methodref 1 241), (0, .nameAndType 59 242), (0, u "(J)V"), (27, .methodref 271 58), (0, .class_ 272), (0, u "java/lang/Number"), (0, .fieldref 1 274), (0, .nameAndType 275 276), (0, u "value"), (0, u "J"), (84, u "TYPE"), (0, u "Ljava/lang/Class;"), (0, .class_ 364), (0, u "java/lang/Comparable"), (0, .class_ 366), (0, u "java/lang/constant/Constable"), (0, .class_ 368), (0, u "java/lang/constant/ConstantDesc"), (0, u "MIN_VALUE"), (1, u "MAX_VALUE"), (4, u "SIZE"), (0, u "I"), (1, u "BYTES"), (1, u "serialVersionUID")] 142

def k10c0 : Code := { maxStack := 4, maxLocals := 3, code := jdk_35_method_24_code, exceptionTable := #[], attributes := #[] }
def k10m0 : Method := { name := "valueOf", desc := "(J)Ljava/lang/Long;", sig := { parameters := [.long], returnType := some (.object "java/lang/Long") }, accessFlags := 9, code := some k10c0 }
def k10c1 : Code := { maxStack := 3, maxLocals := 3, code := jdk_35_method_26_code, exceptionTable := #[], attributes := #[] }
def k10m1 : Method := { name := "<init>", desc := "(J)V", sig := { parameters := [.long], returnType := none }, accessFlags := 1, code := some k10c1 }
/-- java/lang/Long -/
def k10 : Class := { plain "java/lang/Long" (some 7) with
  accessFlags := 49
  interfaces := #[3, 8, 9]
  cf := some (fileOf pool10 1 #[.nestMembers #[235]] #[{ accessFlags := 9, nameIndex := 85, descriptorIndex := 229, attributes := #[] }, { accessFlags := 1, nameIndex := 59, descriptorIndex := 242, attributes := #[] }] 49 271 #[363, 365, 367] #[{ accessFlags := 25, nameIndex := 369, descriptorIndex := 276, attributes := #[] }, { accessFlags := 25, nameIndex := 371, descriptorIndex := 276, attributes := #[] }, { accessFlags := 25, nameIndex := 361, descriptorIndex := 362, attributes := #[] }, { accessFlags := 18, nameIndex := 275, descriptorIndex := 276, attributes := #[] }, { accessFlags := 25, nameIndex := 376, descriptorIndex := 377, attributes := #[] }, { accessFlags := 25, nameIndex := 379, descriptorIndex := 377, attributes := #[] }, { accessFlags := 26, nameIndex := 381, descriptorIndex := 276, attributes := #[] }])
  fields := #[{ name := "MIN_VALUE", type := .long, accessFlags := 25, slot := 0, constantValue := 0 }, { name := "MAX_VALUE", type := .long, accessFlags := 25, slot := 1, constantValue := 0 }, { name := "TYPE", type := (.object "java/lang/Class"), accessFlags := 25, slot := 2, constantValue := 0 }, { name := "value", type := .long, accessFlags := 18, slot := 0, constantValue := 0 }, { name := "SIZE", type := .int, accessFlags := 25, slot := 3, constantValue := 0 }, { name := "BYTES", type := .int, accessFlags := 25, slot := 4, constantValue := 0 }, { name := "serialVersionUID", type := .long, accessFlags := 26, slot := 5, constantValue := 0 }]
  methods := #[k10m0, k10m1]
  instanceTypes := #[.long]
  staticTypes := #[.long, .long, (.object "java/lang/Class"), .int, .int, .long]
  resolved := Array.replicate 524 none
  statics := none }

def pool11 : Array CpInfo := pool [(2, .class_ 4), (1, u "java/lang/Object"), (0, u "<init>"), (0, u "()V"), (0, .class_ 8), (0, u "java/lang/Long"), (7, .class_ 18), (1, u "java/lang/Long$LongCache"), (0, u "$assertionsDisabled"), (0, u "Z"), (8, u "archivedCache"), (0, u "[Ljava/lang/Long;"), (7, u "cache")] 24

def k11m0 : Method := { name := "<init>", desc := "()V", sig := { parameters := [], returnType := none }, accessFlags := 2, code := none }
/-- java/lang/Long$LongCache -/
def k11 : Class := { plain "java/lang/Long$LongCache" (some 0) with
  accessFlags := 48
  interfaces := #[]
  cf := some (fileOf pool11 16 #[.nestHost 7] #[{ accessFlags := 2, nameIndex := 5, descriptorIndex := 6, attributes := #[] }] 48 2 #[] #[{ accessFlags := 24, nameIndex := 38, descriptorIndex := 30, attributes := #[] }, { accessFlags := 8, nameIndex := 29, descriptorIndex := 30, attributes := #[] }, { accessFlags := 4120, nameIndex := 19, descriptorIndex := 20, attributes := #[] }])
  fields := #[{ name := "cache", type := (.array (.object "java/lang/Long")), accessFlags := 24, slot := 0, constantValue := 0 }, { name := "archivedCache", type := (.array (.object "java/lang/Long")), accessFlags := 8, slot := 1, constantValue := 0 }, { name := "$assertionsDisabled", type := .boolean, accessFlags := 4120, slot := 2, constantValue := 0 }]
  methods := #[k11m0]
  instanceTypes := #[]
  staticTypes := #[(.array (.object "java/lang/Long")), (.array (.object "java/lang/Long")), .boolean]
  resolved := Array.replicate 63 none
  statics := some 0 }

def pool12 : Array CpInfo := pool [(1, u "java/lang/Cloneable"), (0, .class_ 1), (0, u "java/lang/Object"), (0, .class_ 3)] 3

/-- java/lang/Cloneable -/
def k12 : Class := { plain "java/lang/Cloneable" (some 0) with
  accessFlags := 1537
  interfaces := #[]
  cf := some (fileOf pool12 2 #[] #[] 1537 4 #[] #[])
  fields := #[]
  methods := #[]
  instanceTypes := #[]
  staticTypes := #[]
  resolved := Array.replicate 8 none
  statics := none }

/-- the primitive byte -/
def k13 : Class := { plain "byte" none with kind := .primitive 'B', accessFlags := 0x411 }
/-- [B -/
def k14 : Class := { plain "[B" (some 0) with kind := .array 13 .byte, interfaces := #[12, 6], accessFlags := 1041 }

/-- the primitive int -/
def k15 : Class := { plain "int" none with kind := .primitive 'I', accessFlags := 0x411 }
/-- [I -/
def k16 : Class := { plain "[I" (some 0) with kind := .array 15 .int, interfaces := #[12, 6], accessFlags := 1041 }

/-- [Ljava/lang/Long; -/
def k17 : Class := { plain "[Ljava/lang/Long;" (some 0) with kind := .array 10 (.object "java/lang/Long"), interfaces := #[12, 6], accessFlags := 1041 }

def heap : Heap := #[{ cls := 11, slots := #[.ref 1, .null, .int 0], vm := .statics 11 },
  { cls := 17, slots := #[.ref 2, .ref 3, .ref 4, .ref 5, .ref 6, .ref 7, .ref 8, .ref 9, .ref 10, .ref 11, .ref 12, .ref 13, .ref 14, .ref 15, .ref 16, .ref 17, .ref 18, .ref 19, .ref 20, .ref 21, .ref 22, .ref 23, .ref 24, .ref 25, .ref 26, .ref 27, .ref 28, .ref 29, .ref 30, .ref 31, .ref 32, .ref 33, .ref 34, .ref 35, .ref 36, .ref 37, .ref 38, .ref 39, .ref 40, .ref 41, .ref 42, .ref 43, .ref 44, .ref 45, .ref 46, .ref 47, .ref 48, .ref 49, .ref 50, .ref 51, .ref 52, .ref 53, .ref 54, .ref 55, .ref 56, .ref 57, .ref 58, .ref 59, .ref 60, .ref 61, .ref 62, .ref 63, .ref 64, .ref 65, .ref 66, .ref 67, .ref 68, .ref 69, .ref 70, .ref 71, .ref 72, .ref 73, .ref 74, .ref 75, .ref 76, .ref 77, .ref 78, .ref 79, .ref 80, .ref 81, .ref 82, .ref 83, .ref 84, .ref 85, .ref 86, .ref 87, .ref 88, .ref 89, .ref 90, .ref 91, .ref 92, .ref 93, .ref 94, .ref 95, .ref 96, .ref 97, .ref 98, .ref 99, .ref 100, .ref 101, .ref 102, .ref 103, .ref 104, .ref 105, .ref 106, .ref 107, .ref 108, .ref 109, .ref 110, .ref 111, .ref 112, .ref 113, .ref 114, .ref 115, .ref 116, .ref 117, .ref 118, .ref 119, .ref 120, .ref 121, .ref 122, .ref 123, .ref 124, .ref 125, .ref 126, .ref 127, .ref 128, .ref 129, .ref 130, .ref 131, .ref 132, .ref 133, .ref 134, .ref 135, .ref 136, .ref 137, .ref 138, .ref 139, .ref 140, .ref 141, .ref 142, .ref 143, .ref 144, .ref 145, .ref 146, .ref 147, .ref 148, .ref 149, .ref 150, .ref 151, .ref 152, .ref 153, .ref 154, .ref 155, .ref 156, .ref 157, .ref 158, .ref 159, .ref 160, .ref 161, .ref 162, .ref 163, .ref 164, .ref 165, .ref 166, .ref 167, .ref 168, .ref 169, .ref 170, .ref 171, .ref 172, .ref 173, .ref 174, .ref 175, .ref 176, .ref 177, .ref 178, .ref 179, .ref 180, .ref 181, .ref 182, .ref 183, .ref 184, .ref 185, .ref 186, .ref 187, .ref 188, .ref 189, .ref 190, .ref 191, .ref 192, .ref 193, .ref 194, .ref 195, .ref 196, .ref 197, .ref 198, .ref 199, .ref 200, .ref 201, .ref 202, .ref 203, .ref 204, .ref 205, .ref 206, .ref 207, .ref 208, .ref 209, .ref 210, .ref 211, .ref 212, .ref 213, .ref 214, .ref 215, .ref 216, .ref 217, .ref 218, .ref 219, .ref 220, .ref 221, .ref 222, .ref 223, .ref 224, .ref 225, .ref 226, .ref 227, .ref 228, .ref 229, .ref 230, .ref 231, .ref 232, .ref 233, .ref 234, .ref 235, .ref 236, .ref 237, .ref 238, .ref 239, .ref 240, .ref 241, .ref 242, .ref 243, .ref 244, .ref 245, .ref 246, .ref 247, .ref 248, .ref 249, .ref 250, .ref 251, .ref 252, .ref 253, .ref 254, .ref 255, .ref 256, .ref 257], vm := .none },
  { cls := 10, slots := #[.long (-128)], vm := .none },
  { cls := 10, slots := #[.long (-127)], vm := .none },
  { cls := 10, slots := #[.long (-126)], vm := .none },
  { cls := 10, slots := #[.long (-125)], vm := .none },
  { cls := 10, slots := #[.long (-124)], vm := .none },
  { cls := 10, slots := #[.long (-123)], vm := .none },
  { cls := 10, slots := #[.long (-122)], vm := .none },
  { cls := 10, slots := #[.long (-121)], vm := .none },
  { cls := 10, slots := #[.long (-120)], vm := .none },
  { cls := 10, slots := #[.long (-119)], vm := .none },
  { cls := 10, slots := #[.long (-118)], vm := .none },
  { cls := 10, slots := #[.long (-117)], vm := .none },
  { cls := 10, slots := #[.long (-116)], vm := .none },
  { cls := 10, slots := #[.long (-115)], vm := .none },
  { cls := 10, slots := #[.long (-114)], vm := .none },
  { cls := 10, slots := #[.long (-113)], vm := .none },
  { cls := 10, slots := #[.long (-112)], vm := .none },
  { cls := 10, slots := #[.long (-111)], vm := .none },
  { cls := 10, slots := #[.long (-110)], vm := .none },
  { cls := 10, slots := #[.long (-109)], vm := .none },
  { cls := 10, slots := #[.long (-108)], vm := .none },
  { cls := 10, slots := #[.long (-107)], vm := .none },
  { cls := 10, slots := #[.long (-106)], vm := .none },
  { cls := 10, slots := #[.long (-105)], vm := .none },
  { cls := 10, slots := #[.long (-104)], vm := .none },
  { cls := 10, slots := #[.long (-103)], vm := .none },
  { cls := 10, slots := #[.long (-102)], vm := .none },
  { cls := 10, slots := #[.long (-101)], vm := .none },
  { cls := 10, slots := #[.long (-100)], vm := .none },
  { cls := 10, slots := #[.long (-99)], vm := .none },
  { cls := 10, slots := #[.long (-98)], vm := .none },
  { cls := 10, slots := #[.long (-97)], vm := .none },
  { cls := 10, slots := #[.long (-96)], vm := .none },
  { cls := 10, slots := #[.long (-95)], vm := .none },
  { cls := 10, slots := #[.long (-94)], vm := .none },
  { cls := 10, slots := #[.long (-93)], vm := .none },
  { cls := 10, slots := #[.long (-92)], vm := .none },
  { cls := 10, slots := #[.long (-91)], vm := .none },
  { cls := 10, slots := #[.long (-90)], vm := .none },
  { cls := 10, slots := #[.long (-89)], vm := .none },
  { cls := 10, slots := #[.long (-88)], vm := .none },
  { cls := 10, slots := #[.long (-87)], vm := .none },
  { cls := 10, slots := #[.long (-86)], vm := .none },
  { cls := 10, slots := #[.long (-85)], vm := .none },
  { cls := 10, slots := #[.long (-84)], vm := .none },
  { cls := 10, slots := #[.long (-83)], vm := .none },
  { cls := 10, slots := #[.long (-82)], vm := .none },
  { cls := 10, slots := #[.long (-81)], vm := .none },
  { cls := 10, slots := #[.long (-80)], vm := .none },
  { cls := 10, slots := #[.long (-79)], vm := .none },
  { cls := 10, slots := #[.long (-78)], vm := .none },
  { cls := 10, slots := #[.long (-77)], vm := .none },
  { cls := 10, slots := #[.long (-76)], vm := .none },
  { cls := 10, slots := #[.long (-75)], vm := .none },
  { cls := 10, slots := #[.long (-74)], vm := .none },
  { cls := 10, slots := #[.long (-73)], vm := .none },
  { cls := 10, slots := #[.long (-72)], vm := .none },
  { cls := 10, slots := #[.long (-71)], vm := .none },
  { cls := 10, slots := #[.long (-70)], vm := .none },
  { cls := 10, slots := #[.long (-69)], vm := .none },
  { cls := 10, slots := #[.long (-68)], vm := .none },
  { cls := 10, slots := #[.long (-67)], vm := .none },
  { cls := 10, slots := #[.long (-66)], vm := .none },
  { cls := 10, slots := #[.long (-65)], vm := .none },
  { cls := 10, slots := #[.long (-64)], vm := .none },
  { cls := 10, slots := #[.long (-63)], vm := .none },
  { cls := 10, slots := #[.long (-62)], vm := .none },
  { cls := 10, slots := #[.long (-61)], vm := .none },
  { cls := 10, slots := #[.long (-60)], vm := .none },
  { cls := 10, slots := #[.long (-59)], vm := .none },
  { cls := 10, slots := #[.long (-58)], vm := .none },
  { cls := 10, slots := #[.long (-57)], vm := .none },
  { cls := 10, slots := #[.long (-56)], vm := .none },
  { cls := 10, slots := #[.long (-55)], vm := .none },
  { cls := 10, slots := #[.long (-54)], vm := .none },
  { cls := 10, slots := #[.long (-53)], vm := .none },
  { cls := 10, slots := #[.long (-52)], vm := .none },
  { cls := 10, slots := #[.long (-51)], vm := .none },
  { cls := 10, slots := #[.long (-50)], vm := .none },
  { cls := 10, slots := #[.long (-49)], vm := .none },
  { cls := 10, slots := #[.long (-48)], vm := .none },
  { cls := 10, slots := #[.long (-47)], vm := .none },
  { cls := 10, slots := #[.long (-46)], vm := .none },
  { cls := 10, slots := #[.long (-45)], vm := .none },
  { cls := 10, slots := #[.long (-44)], vm := .none },
  { cls := 10, slots := #[.long (-43)], vm := .none },
  { cls := 10, slots := #[.long (-42)], vm := .none },
  { cls := 10, slots := #[.long (-41)], vm := .none },
  { cls := 10, slots := #[.long (-40)], vm := .none },
  { cls := 10, slots := #[.long (-39)], vm := .none },
  { cls := 10, slots := #[.long (-38)], vm := .none },
  { cls := 10, slots := #[.long (-37)], vm := .none },
  { cls := 10, slots := #[.long (-36)], vm := .none },
  { cls := 10, slots := #[.long (-35)], vm := .none },
  { cls := 10, slots := #[.long (-34)], vm := .none },
  { cls := 10, slots := #[.long (-33)], vm := .none },
  { cls := 10, slots := #[.long (-32)], vm := .none },
  { cls := 10, slots := #[.long (-31)], vm := .none },
  { cls := 10, slots := #[.long (-30)], vm := .none },
  { cls := 10, slots := #[.long (-29)], vm := .none },
  { cls := 10, slots := #[.long (-28)], vm := .none },
  { cls := 10, slots := #[.long (-27)], vm := .none },
  { cls := 10, slots := #[.long (-26)], vm := .none },
  { cls := 10, slots := #[.long (-25)], vm := .none },
  { cls := 10, slots := #[.long (-24)], vm := .none },
  { cls := 10, slots := #[.long (-23)], vm := .none },
  { cls := 10, slots := #[.long (-22)], vm := .none },
  { cls := 10, slots := #[.long (-21)], vm := .none },
  { cls := 10, slots := #[.long (-20)], vm := .none },
  { cls := 10, slots := #[.long (-19)], vm := .none },
  { cls := 10, slots := #[.long (-18)], vm := .none },
  { cls := 10, slots := #[.long (-17)], vm := .none },
  { cls := 10, slots := #[.long (-16)], vm := .none },
  { cls := 10, slots := #[.long (-15)], vm := .none },
  { cls := 10, slots := #[.long (-14)], vm := .none },
  { cls := 10, slots := #[.long (-13)], vm := .none },
  { cls := 10, slots := #[.long (-12)], vm := .none },
  { cls := 10, slots := #[.long (-11)], vm := .none },
  { cls := 10, slots := #[.long (-10)], vm := .none },
  { cls := 10, slots := #[.long (-9)], vm := .none },
  { cls := 10, slots := #[.long (-8)], vm := .none },
  { cls := 10, slots := #[.long (-7)], vm := .none },
  { cls := 10, slots := #[.long (-6)], vm := .none },
  { cls := 10, slots := #[.long (-5)], vm := .none },
  { cls := 10, slots := #[.long (-4)], vm := .none },
  { cls := 10, slots := #[.long (-3)], vm := .none },
  { cls := 10, slots := #[.long (-2)], vm := .none },
  { cls := 10, slots := #[.long (-1)], vm := .none },
  { cls := 10, slots := #[.long 0], vm := .none },
  { cls := 10, slots := #[.long 1], vm := .none },
  { cls := 10, slots := #[.long 2], vm := .none },
  { cls := 10, slots := #[.long 3], vm := .none },
  { cls := 10, slots := #[.long 4], vm := .none },
  { cls := 10, slots := #[.long 5], vm := .none },
  { cls := 10, slots := #[.long 6], vm := .none },
  { cls := 10, slots := #[.long 7], vm := .none },
  { cls := 10, slots := #[.long 8], vm := .none },
  { cls := 10, slots := #[.long 9], vm := .none },
  { cls := 10, slots := #[.long 10], vm := .none },
  { cls := 10, slots := #[.long 11], vm := .none },
  { cls := 10, slots := #[.long 12], vm := .none },
  { cls := 10, slots := #[.long 13], vm := .none },
  { cls := 10, slots := #[.long 14], vm := .none },
  { cls := 10, slots := #[.long 15], vm := .none },
  { cls := 10, slots := #[.long 16], vm := .none },
  { cls := 10, slots := #[.long 17], vm := .none },
  { cls := 10, slots := #[.long 18], vm := .none },
  { cls := 10, slots := #[.long 19], vm := .none },
  { cls := 10, slots := #[.long 20], vm := .none },
  { cls := 10, slots := #[.long 21], vm := .none },
  { cls := 10, slots := #[.long 22], vm := .none },
  { cls := 10, slots := #[.long 23], vm := .none },
  { cls := 10, slots := #[.long 24], vm := .none },
  { cls := 10, slots := #[.long 25], vm := .none },
  { cls := 10, slots := #[.long 26], vm := .none },
  { cls := 10, slots := #[.long 27], vm := .none },
  { cls := 10, slots := #[.long 28], vm := .none },
  { cls := 10, slots := #[.long 29], vm := .none },
  { cls := 10, slots := #[.long 30], vm := .none },
  { cls := 10, slots := #[.long 31], vm := .none },
  { cls := 10, slots := #[.long 32], vm := .none },
  { cls := 10, slots := #[.long 33], vm := .none },
  { cls := 10, slots := #[.long 34], vm := .none },
  { cls := 10, slots := #[.long 35], vm := .none },
  { cls := 10, slots := #[.long 36], vm := .none },
  { cls := 10, slots := #[.long 37], vm := .none },
  { cls := 10, slots := #[.long 38], vm := .none },
  { cls := 10, slots := #[.long 39], vm := .none },
  { cls := 10, slots := #[.long 40], vm := .none },
  { cls := 10, slots := #[.long 41], vm := .none },
  { cls := 10, slots := #[.long 42], vm := .none },
  { cls := 10, slots := #[.long 43], vm := .none },
  { cls := 10, slots := #[.long 44], vm := .none },
  { cls := 10, slots := #[.long 45], vm := .none },
  { cls := 10, slots := #[.long 46], vm := .none },
  { cls := 10, slots := #[.long 47], vm := .none },
  { cls := 10, slots := #[.long 48], vm := .none },
  { cls := 10, slots := #[.long 49], vm := .none },
  { cls := 10, slots := #[.long 50], vm := .none },
  { cls := 10, slots := #[.long 51], vm := .none },
  { cls := 10, slots := #[.long 52], vm := .none },
  { cls := 10, slots := #[.long 53], vm := .none },
  { cls := 10, slots := #[.long 54], vm := .none },
  { cls := 10, slots := #[.long 55], vm := .none },
  { cls := 10, slots := #[.long 56], vm := .none },
  { cls := 10, slots := #[.long 57], vm := .none },
  { cls := 10, slots := #[.long 58], vm := .none },
  { cls := 10, slots := #[.long 59], vm := .none },
  { cls := 10, slots := #[.long 60], vm := .none },
  { cls := 10, slots := #[.long 61], vm := .none },
  { cls := 10, slots := #[.long 62], vm := .none },
  { cls := 10, slots := #[.long 63], vm := .none },
  { cls := 10, slots := #[.long 64], vm := .none },
  { cls := 10, slots := #[.long 65], vm := .none },
  { cls := 10, slots := #[.long 66], vm := .none },
  { cls := 10, slots := #[.long 67], vm := .none },
  { cls := 10, slots := #[.long 68], vm := .none },
  { cls := 10, slots := #[.long 69], vm := .none },
  { cls := 10, slots := #[.long 70], vm := .none },
  { cls := 10, slots := #[.long 71], vm := .none },
  { cls := 10, slots := #[.long 72], vm := .none },
  { cls := 10, slots := #[.long 73], vm := .none },
  { cls := 10, slots := #[.long 74], vm := .none },
  { cls := 10, slots := #[.long 75], vm := .none },
  { cls := 10, slots := #[.long 76], vm := .none },
  { cls := 10, slots := #[.long 77], vm := .none },
  { cls := 10, slots := #[.long 78], vm := .none },
  { cls := 10, slots := #[.long 79], vm := .none },
  { cls := 10, slots := #[.long 80], vm := .none },
  { cls := 10, slots := #[.long 81], vm := .none },
  { cls := 10, slots := #[.long 82], vm := .none },
  { cls := 10, slots := #[.long 83], vm := .none },
  { cls := 10, slots := #[.long 84], vm := .none },
  { cls := 10, slots := #[.long 85], vm := .none },
  { cls := 10, slots := #[.long 86], vm := .none },
  { cls := 10, slots := #[.long 87], vm := .none },
  { cls := 10, slots := #[.long 88], vm := .none },
  { cls := 10, slots := #[.long 89], vm := .none },
  { cls := 10, slots := #[.long 90], vm := .none },
  { cls := 10, slots := #[.long 91], vm := .none },
  { cls := 10, slots := #[.long 92], vm := .none },
  { cls := 10, slots := #[.long 93], vm := .none },
  { cls := 10, slots := #[.long 94], vm := .none },
  { cls := 10, slots := #[.long 95], vm := .none },
  { cls := 10, slots := #[.long 96], vm := .none },
  { cls := 10, slots := #[.long 97], vm := .none },
  { cls := 10, slots := #[.long 98], vm := .none },
  { cls := 10, slots := #[.long 99], vm := .none },
  { cls := 10, slots := #[.long 100], vm := .none },
  { cls := 10, slots := #[.long 101], vm := .none },
  { cls := 10, slots := #[.long 102], vm := .none },
  { cls := 10, slots := #[.long 103], vm := .none },
  { cls := 10, slots := #[.long 104], vm := .none },
  { cls := 10, slots := #[.long 105], vm := .none },
  { cls := 10, slots := #[.long 106], vm := .none },
  { cls := 10, slots := #[.long 107], vm := .none },
  { cls := 10, slots := #[.long 108], vm := .none },
  { cls := 10, slots := #[.long 109], vm := .none },
  { cls := 10, slots := #[.long 110], vm := .none },
  { cls := 10, slots := #[.long 111], vm := .none },
  { cls := 10, slots := #[.long 112], vm := .none },
  { cls := 10, slots := #[.long 113], vm := .none },
  { cls := 10, slots := #[.long 114], vm := .none },
  { cls := 10, slots := #[.long 115], vm := .none },
  { cls := 10, slots := #[.long 116], vm := .none },
  { cls := 10, slots := #[.long 117], vm := .none },
  { cls := 10, slots := #[.long 118], vm := .none },
  { cls := 10, slots := #[.long 119], vm := .none },
  { cls := 10, slots := #[.long 120], vm := .none },
  { cls := 10, slots := #[.long 121], vm := .none },
  { cls := 10, slots := #[.long 122], vm := .none },
  { cls := 10, slots := #[.long 123], vm := .none },
  { cls := 10, slots := #[.long 124], vm := .none },
  { cls := 10, slots := #[.long 125], vm := .none },
  { cls := 10, slots := #[.long 126], vm := .none },
  { cls := 10, slots := #[.long 127], vm := .none }]
def classes : Array Class := #[k0, k1, k2, k3, k4, k5, k6, k7, k8, k9, k10, k11, k12, k13, k14, k15, k16, k17]
def interned : List (Array UInt16 × Addr) := []
def slotsUsed : Nat := 515
def theMethod : MethodId := ⟨1, 1⟩
def args0 : Array Value := #[.long 5, .int 3, .long 6, .int 4, .int 0]
def aboutOver (below : List Frame) : State where
  vm := { classes := classes, interned := interned.toArray }
  heap := heap
  slotsUsed := slotsUsed
  threads := #[{ frames := .invoking theMethod args0 :: below }]
def below0 : List Frame := [.native { method := ⟨0, 0⟩, args := #[] }]
def about1 : State := aboutOver below0
def p0 : Program := .bare "" "" ""
def e0 : Env := launch0.env 0 0 0
theorem w_frames : about1.frames = Frame.invoking theMethod args0 :: below0 := rfl
set_option maxRecDepth 65536 in
theorem w_args : argsFit about1.vm theMethod args0 = true := by decide +kernel
set_option maxRecDepth 65536 in
theorem w_heap : heapFits about1 = true := by decide +kernel
set_option maxRecDepth 65536 in
theorem w_runnable : about1.curStatus? = some .runnable := by decide +kernel
set_option maxRecDepth 65536 in
theorem w_alone : about1.alone = true := by decide +kernel
set_option maxRecDepth 65536 in
theorem w_named : about1.methodNamed? x = some theMethod := by decide +kernel
set_option maxRecDepth 65536 in
theorem w_hears : about1.hears theMethod below0 = true := by decide +kernel
set_option maxRecDepth 65536 in
theorem w_ripe : about1.ripe theMethod args0 below0 = true := by decide +kernel
theorem w_running : about1.status = .running := rfl
set_option maxRecDepth 65536 in
theorem w_room : about1.hasRoom e0.platform room_1 = true :=
  launch0.hasRoom_least _ room_1 (by decide +kernel) (by decide +kernel) (by decide +kernel) (by decide +kernel) (by decide +kernel) (by decide +kernel)
theorem allAtoms_all (ts : List Jvm.Cond) (a : Array Jvm.Value) (st : Jvm.State) : (allAtoms ts).before a st = ts.all (fun c => c.before a st) := by
  induction ts with
  | nil => rfl
  | cons c t ih =>
    show (Jvm.Cond.and c (allAtoms t)).before a st = _
    rw [Jvm.Cond.before_and, ih, List.all_cons]
def words1 : List Jvm.Cond := Jvm.Cond.code x code maxLocals ret :: tables_1
/-- a 'code' word, met by the world's own term for the bytes: nothing is compared byte by byte -/
theorem code_word {y : MethodName} {bytes : ByteArray} {mx : Nat} {rt : Option FieldType} {a : Array Value} {s : State} {m : MethodId} {meth : Method} {c : Code} (h1 : s.methodNamed? y = some m) (h2 : s.vm.method? m = some meth) (h3 : meth.code = some c) (h4 : c.code = bytes)
    (h5 : (c.maxLocals == mx && c.exceptionTable.isEmpty && decide (c.maxStack ≤ mostOperands) && decide (meth.sig.returnType = rt) && !meth.locks && decide (parseMethodDescriptor y.desc = some meth.sig)) = true) : (Jvm.Cond.code y bytes mx rt).before a s = true := by
  simp only [Bool.and_eq_true, beq_iff_eq, Bool.not_eq_true', decide_eq_true_eq] at h5
  obtain ⟨⟨⟨⟨⟨g1, g2⟩, g3⟩, g4⟩, g5⟩, g6⟩ := h5
  simp [Cond.before, Cond.holds, Cond.value, h1, h2, h3, h4, g1, g2, g3, g4, g5, g6]
def isCode : Jvm.Cond → Bool
  | .code _ _ _ _ => true
  | _ => false
theorem all_split {L : List Jvm.Cond} {P : Jvm.Cond → Bool} (h1 : L.all (fun c => isCode c || P c) = true) (h2 : ∀ c ∈ L.filter isCode, P c = true) : L.all P = true := by
  refine List.all_eq_true.mpr fun c hc => ?_
  have h := List.all_eq_true.mp h1 c hc
  rcases Bool.eq_false_or_eq_true (isCode c) with hi | hi
  · exact h2 c (List.mem_filter.mpr ⟨hc, hi⟩)
  · simpa [hi] using h
set_option maxRecDepth 65536 in
theorem w_c0 : (Jvm.Cond.code x code maxLocals ret).before args0 about1 = true := code_word (m := ⟨1, 1⟩) (meth := k1m1) (c := k1c1) (by decide +kernel) rfl rfl rfl (by decide +kernel)
set_option maxRecDepth 65536 in
theorem w_c1 : (Jvm.Cond.code ({ cls := "java/lang/Math", name := "max", desc := "(II)I" } : Jvm.MethodName) jdk_29_method_65_code (2 : Nat) (Option.some Jvm.ClassFile.FieldType.int)).before args0 about1 = true := code_word (m := ⟨2, 1⟩) (meth := k2m1) (c := k2c1) (by decide +kernel) rfl rfl rfl (by decide +kernel)
set_option maxRecDepth 65536 in
theorem w_c2 : (Jvm.Cond.code ({ cls := "com/example/eager_quorum/eagerquorum/model/Stamp", name := "<init>", desc := "(JI)V" } : Jvm.MethodName) prog_38_method_1_code (4 : Nat) (Option.none : Option Jvm.ClassFile.FieldType)).before args0 about1 = true := code_word (m := ⟨4, 0⟩) (meth := k4m0) (c := k4c0) (by decide +kernel) rfl rfl rfl (by decide +kernel)
set_option maxRecDepth 65536 in
theorem w_c3 : (Jvm.Cond.code ({ cls := "java/lang/Object", name := "<init>", desc := "()V" } : Jvm.MethodName) object_method_1_code (1 : Nat) (Option.none : Option Jvm.ClassFile.FieldType)).before args0 about1 = true := code_word (m := ⟨0, 0⟩) (meth := k0m0) (c := k0c0) (by decide +kernel) rfl rfl rfl (by decide +kernel)
set_option maxRecDepth 65536 in
theorem w_c4 : (Jvm.Cond.code ({ cls := "com/example/eager_quorum/eagerquorum/model/LogicalClock", name := "requireReading", desc := "(J)J" } : Jvm.MethodName) prog_29_method_5_code (2 : Nat) (Option.some Jvm.ClassFile.FieldType.long)).before args0 about1 = true := code_word (m := ⟨5, 1⟩) (meth := k5m1) (c := k5c1) (by decide +kernel) rfl rfl rfl (by decide +kernel)
set_option maxRecDepth 65536 in
theorem w_c5 : (Jvm.Cond.code ({ cls := "com/example/eager_quorum/eagerquorum/model/Stamp", name := "equals", desc := "(Ljava/lang/Object;)Z" } : Jvm.MethodName) prog_38_method_6_code (3 : Nat) (Option.some Jvm.ClassFile.FieldType.boolean)).before args0 about1 = true := code_word (m := ⟨4, 1⟩) (meth := k4m1) (c := k4c1) (by decide +kernel) rfl rfl rfl (by decide +kernel)
set_option maxRecDepth 65536 in
theorem w_c6 : (Jvm.Cond.code ({ cls := "java/lang/Long", name := "valueOf", desc := "(J)Ljava/lang/Long;" } : Jvm.MethodName) jdk_35_method_24_code (3 : Nat) (Option.some (Jvm.ClassFile.FieldType.object "java/lang/Long"))).before args0 about1 = true := code_word (m := ⟨10, 0⟩) (meth := k10m0) (c := k10c0) (by decide +kernel) rfl rfl rfl (by decide +kernel)
set_option maxRecDepth 65536 in
theorem w_c7 : (Jvm.Cond.code ({ cls := "java/lang/Long", name := "<init>", desc := "(J)V" } : Jvm.MethodName) jdk_35_method_26_code (3 : Nat) (Option.none : Option Jvm.ClassFile.FieldType)).before args0 about1 = true := code_word (m := ⟨10, 1⟩) (meth := k10m1) (c := k10c1) (by decide +kernel) rfl rfl rfl (by decide +kernel)
set_option maxRecDepth 65536 in
theorem w_c8 : (Jvm.Cond.code ({ cls := "java/lang/Number", name := "<init>", desc := "()V" } : Jvm.MethodName) jdk_18_method_1_code (1 : Nat) (Option.none : Option Jvm.ClassFile.FieldType)).before args0 about1 = true := code_word (m := ⟨7, 0⟩) (meth := k7m0) (c := k7c0) (by decide +kernel) rfl rfl rfl (by decide +kernel)
def codes1 : List Jvm.Cond := [Jvm.Cond.code x code maxLocals ret, Jvm.Cond.code ({ cls := "java/lang/Math", name := "max", desc := "(II)I" } : Jvm.MethodName) jdk_29_method_65_code (2 : Nat) (Option.some Jvm.ClassFile.FieldType.int), Jvm.Cond.code ({ cls := "com/example/eager_quorum/eagerquorum/model/Stamp", name := "<init>", desc := "(JI)V" } : Jvm.MethodName) prog_38_method_1_code (4 : Nat) (Option.none : Option Jvm.ClassFile.FieldType), Jvm.Cond.code ({ cls := "java/lang/Object", name := "<init>", desc := "()V" } : Jvm.MethodName) object_method_1_code (1 : Nat) (Option.none : Option Jvm.ClassFile.FieldType), Jvm.Cond.code ({ cls := "com/example/eager_quorum/eagerquorum/model/LogicalClock", name := "requireReading", desc := "(J)J" } : Jvm.MethodName) prog_29_method_5_code (2 : Nat) (Option.some Jvm.ClassFile.FieldType.long), Jvm.Cond.code ({ cls := "com/example/eager_quorum/eagerquorum/model/Stamp", name := "equals", desc := "(Ljava/lang/Object;)Z" } : Jvm.MethodName) prog_38_method_6_code (3 : Nat) (Option.some Jvm.ClassFile.FieldType.boolean), Jvm.Cond.code ({ cls := "java/lang/Long", name := "valueOf", desc := "(J)Ljava/lang/Long;" } : Jvm.MethodName) jdk_35_method_24_code (3 : Nat) (Option.some (Jvm.ClassFile.FieldType.object "java/lang/Long")), Jvm.Cond.code ({ cls := "java/lang/Long", name := "<init>", desc := "(J)V" } : Jvm.MethodName) jdk_35_method_26_code (3 : Nat) (Option.none : Option Jvm.ClassFile.FieldType), Jvm.Cond.code ({ cls := "java/lang/Number", name := "<init>", desc := "()V" } : Jvm.MethodName) jdk_18_method_1_code (1 : Nat) (Option.none : Option Jvm.ClassFile.FieldType)]
set_option maxRecDepth 65536 in
theorem codes_eq : words1.filter isCode = codes1 := rfl
theorem w_codes : ∀ c ∈ words1.filter isCode, c.before args0 about1 = true := by
  rw [codes_eq]
  intro c hc
  simp only [codes1, List.mem_cons, List.not_mem_nil, or_false] at hc
  rcases hc with rfl | rfl | rfl | rfl | rfl | rfl | rfl | rfl | rfl
  · exact w_c0
  · exact w_c1
  · exact w_c2
  · exact w_c3
  · exact w_c4
  · exact w_c5
  · exact w_c6
  · exact w_c7
  · exact w_c8
set_option maxRecDepth 65536 in
theorem w_t1 : (words1.take 24).all (fun c => isCode c || c.before args0 about1) = true := by decide +kernel
set_option maxRecDepth 65536 in
theorem w_t2 : ((words1.drop 24).take 24).all (fun c => isCode c || c.before args0 about1) = true := by decide +kernel
set_option maxRecDepth 65536 in
theorem w_t3 : ((words1.drop 24).drop 24).all (fun c => isCode c || c.before args0 about1) = true := by decide +kernel
theorem w_tables : (allAtoms (Jvm.Cond.code x code maxLocals ret :: tables_1)).before args0 about1 = true := by
  rw [allAtoms_all]
  show words1.all (fun c => c.before args0 about1) = true
  refine all_split ?_ w_codes
  rw [← List.take_append_drop 24 words1, List.all_append, w_t1, ← List.take_append_drop 24 (words1.drop 24), List.all_append, w_t2, w_t3]
  rfl
set_option maxRecDepth 65536 in
theorem w_rest : rest_1_c.before args0 about1 = true := by decide +kernel
set_option maxRecDepth 65536 in
theorem w_case : (Jvm.Cond.and given_1 narrow_1).before args0 about1 = true := by decide +kernel
theorem w_applies : (headSpec (Jvm.Cond.code x code maxLocals ret :: tables_1) room_1).applies x e0.platform about1 = true :=
  (Spec.applies_iff w_frames).mpr ⟨w_running, w_runnable, w_alone, w_named, w_hears, w_ripe, w_room, w_tables⟩
theorem atStart : AtStart classFile x code maxLocals ret World_1 tables_1 room_1 Calls_1 rest_1 Pre_1 launch0 p0 e0 about1 theMethod args0 below0 :=
  ⟨lists_1, trivial, launch0.admits_env _ _ _, launch0.least_env, fairChoices_fair.cas, fairChoices_fair.clock, w_frames, w_args, w_heap, w_applies, trivial, w_rest, w_case⟩
end start1
theorem witness_1 : WitnessClaimed_1 := ⟨start1.p0, start1.e0, start1.about1, start1.theMethod, start1.args0, start1.below0, start1.atStart⟩
end Jvm.Pilot.@@N@@
