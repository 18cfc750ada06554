import JvmDerived
import JvmDerived.Pilot.@@N@@Statement
import JvmDerived.Pilot.@@N@@Code
set_option linter.unusedVariables false
set_option linter.unusedSimpArgs false
namespace Jvm.RoadKit
open Sem ClassFile Op Lib Jvm.Stand Jvm.Free Jvm.LawKit
section New
variable {p : Program} {l : Launch} {e : Env} {R : Room} {s : State} {m : MethodId} {args : Array Value} {below : List Frame} {meth : Method} {c : Code} {T : State} {locs : List Loc} {cells slots : Nat}
theorem retI (X : Stand p l e R s m args below meth c T locs cells slots) (hx : p.tables.exec = Jvm.exec) {pc : Nat} {Ls : Array Slot} {z : Int32} {rest : List Value} (hret : meth.sig.returnType = some .int) (hd : decode c.code pc = .ok (.ireturn, 1)) {fs : List Frame}
    (hl : ∀ (f : JFrame) (acts : List Action), f.method = m → f.locked = none → f.entered = [] → (doReturn e (T.setTop f) acts (some (.int z))).1 = T.setFrames fs) : Steps p.tables e below (T.setTop (mkF m pc Ls (.int z :: rest))) (T.setFrames fs) := by
  have hm' : T.vm.method? m = some meth := X.method'
  have hn : narrow .int (.int z) = .int z := rfl
  show Steps p.tables e below (T.setTop { method := m, pc := pc, locals := Ls, stack := _ :: rest, locked := none }) _
  jvm_step X.here [X.here.top, hx, hd, hm', hret, hn]
  first | (intro acts; rw [hl _ acts rfl rfl rfl]) | rw [hl _ _ rfl rfl rfl]
  exact Steps.refl _
end New
end Jvm.RoadKit
@@BLOCK:NumsL.lean.txt@@
namespace Jvm.Pilot.@@N@@
open Jvm Jvm.ClassFile Sem Op Lib Jvm.Free Jvm.Stand Jvm.LawKit Jvm.RoadKit Bundle Jvm.Pilot.@@N@@.Jvm.D
/-- a run from here that ends well -/
def own_G (p : Program) (e : Env) (below : List Frame) (P : Outcome → State → Prop) (S : State) : Prop := ∃ s₂ o, Steps p.tables e below S s₂ ∧ s₂.status = .running ∧ Ended s₂ below o ∧ P o s₂
theorem own_go {p : Program} {e : Env} {below : List Frame} {P : Outcome → State → Prop} {S : State} (S' : State) (k : ∀ t, Steps p.tables e below S' t → Steps p.tables e below S t) (h : own_G p e below P S') : own_G p e below P S := by
  obtain ⟨s₂, o, h1, h2⟩ := h
  exact ⟨s₂, o, k _ h1, h2⟩
theorem own_one {x : Slot} (h : One x) : (match x with | .second => False | .val old => old.category = 1 | .unset => True) := by
  rcases h with rfl | ⟨w, rfl, hw⟩
  · trivial
  · exact hw
theorem own_selp {s : State} {args : Array Value} {D : String} {y z : MethodName} (h : (Cond.selects D z z).before args s = true) (hc : z.cls = y.cls) (hpriv : s.PrivateAt y) (hinst : (Cond.instanceMethod y).before args s = true) (hy : y.cls ≠ "java/lang/invoke/MethodHandle" ∧ y.cls ≠ "java/lang/invoke/VarHandle") : (Cond.selects y.cls y y).before args s = true := by
  obtain ⟨c, r, m, q1, q2, q3, q4, mk, hk, hi⟩ := Cond.selects_spec h
  exact selects_self_of_private (hc ▸ findClass_of_methodNamed q3) hk hi hpriv hinst hy
theorem own_sameM {s : State} {args : Array Value} {D : String} {y z : MethodName} (hinst : (Cond.instanceMethod y).before args s = true) (hsel : (Cond.selects D z z).before args s = true) (hc : z.cls = y.cls) (hy : y.cls ≠ "java/lang/invoke/MethodHandle" ∧ y.cls ≠ "java/lang/invoke/VarHandle") : (Cond.sameMethod y.cls y.cls y.name y.desc).before args s = true := by
  obtain ⟨mk, methM, hnamed, hmethM, -, -⟩ := Cond.instanceMethod_spec hinst
  obtain ⟨c, r, m, q1, q2, q3, q4, k, hk, hi⟩ := Cond.selects_spec hsel
  have hfound := State.methodFound?_of_named hnamed hy
  have hcn := findClass_of_methodNamed hnamed
  have e : m.cls = mk.cls := Option.some.inj ((findClass_of_methodNamed q3).symm.trans (hc ▸ hcn))
  rw [e] at hk
  obtain ⟨yc, yn, yd⟩ := y
  simp_all [Cond.before, Cond.holds, Cond.value]
theorem own_nf {s : State} {args : Array Value} {D : String} {y z : MethodName} (hsel : (Cond.selects D z z).before args s = true) (hc : z.cls = y.cls) : NotFace s y := fun r0 h0 => by
  obtain ⟨c, r, m, q1, q2, q3, q4, k, hk, hi⟩ := Cond.selects_spec hsel
  have e : m.cls = r0.cls := Option.some.inj ((findClass_of_methodNamed q3).symm.trans (hc ▸ findClass_of_methodNamed h0))
  exact ⟨k, e ▸ hk, hi⟩
theorem own_lt {x y : Int64} : lcmpW x y < 0 ↔ x < y := by rw [lcW]; exact lc_lt x y
theorem own_gt {x y : Int64} : (0 : Int32) < lcmpW x y ↔ y < x := by rw [lcW]; exact lc_gt x y
theorem own_eq {x y : Int64} : lcmpW x y = 0 ↔ x = y := by rw [lcW]; exact lc_eq x y
theorem own_extK {Z : State} {h h' : Heap} {ws : List Addr} (O : Ext Z.heap h) (K : Keep h h' ws) (q : ∀ x ∈ ws, Z.heap.size ≤ x) : Ext Z.heap h' :=
  (Old.keep (n0 := Z.heap.size) ⟨rfl, O⟩ K q).2
theorem own_ext {h h1 h2 : Heap} (E : Ext h h1) (F : Ext h1 h2) : Ext h h2 := ⟨Nat.le_trans E.1 F.1, fun a c q => F.2 a c (E.2 a c q)⟩
theorem own_extW {Z : State} {h h' : Heap} {a : Addr} {sl : Nat} {v : Value} (O : Ext Z.heap h) (W : Wr h h' a sl v) (q : Z.heap.size ≤ a) : Ext Z.heap h' := own_extK O (Keep.of_wr W) (allS q all0)
theorem own_fldI {s : State} {args : Array Value} {t : Term} {C n d : String} {k : Int32} {a : Addr} (h : (Cond.eq (Term.field t C n d) (Term.int k)).value args s none s [] = some true) (ev : t.eval args s none [] s = some (.ref a)) : Fld s s.heap a C n d (.int k) := by
  obtain ⟨x, y, h1, h2, h3, -⟩ := cmp_v (Or.inl h)
  have h4 : s.fieldOf? a C n d = some x := (fld_at ev).symm.trans h1
  have h5 : y = .int k := (Option.some.inj (h2.symm.trans (Term.int_eval k)))
  subst h5
  cases x with
  | int z =>
    simp only [Cond.value, h1, h2] at h
    have e : z = k := by simpa using h
    subst e
    exact Fld.start h4
  | _ => simp [Kin, Value.isRef] at h3
theorem own_fldV {s : State} {args : Array Value} {t u : Term} {C n d : String} {b : Addr} {a : Addr} (h : (Cond.eq (Term.field t C n d) u).value args s none s [] = some true) (ev : t.eval args s none [] s = some (.ref a)) (eu : u.eval args s none [] s = some (.ref b)) : Fld s s.heap a C n d (.ref b) := by
  obtain ⟨x, y, h1, h2, h3, -⟩ := cmp_v (Or.inl h)
  have h4 : s.fieldOf? a C n d = some x := (fld_at ev).symm.trans h1
  have h5 : y = .ref b := (Option.some.inj (h2.symm.trans eu))
  subst h5
  cases x with
  | ref z =>
    simp only [Cond.value, h1, h2] at h
    have e : z = b := by simpa using h
    subst e
    exact Fld.start h4
  | null => simp [Cond.value, h1, h2] at h
  | _ => simp [Kin, Value.isRef] at h3
theorem own_elemI {s : State} {args : Array Value} {t : Term} {j k : Int32} {a : Addr} {cl : Cell} (h : (Cond.eq (Term.elem t (Term.int j)) (Term.int k)).value args s none s [] = some true) (ev : t.eval args s none [] s = some (.ref a)) (hc : s.heap[a]? = some cl) : ¬ (j < 0 ∨ cl.slots.size ≤ j.toNatClampNeg) ∧ cl.slots[j.toNatClampNeg]? = some (.int k) := by
  obtain ⟨x, y, h1, h2, h3, -⟩ := cmp_v (Or.inl h)
  have h4 := elem_in h1 ev (Term.int_eval j) hc
  have h5 : y = .int k := (Option.some.inj (h2.symm.trans (Term.int_eval k)))
  subst h5
  cases x with
  | int z =>
    simp only [Cond.value, h1, h2] at h
    have e : z = k := by simpa using h
    subst e
    exact h4
  | _ => simp [Kin, Value.isRef] at h3
theorem own_elemV {s : State} {args : Array Value} {t u : Term} {j : Int32} {a b : Addr} {cl : Cell} (h : (Cond.eq (Term.elem t (Term.int j)) u).value args s none s [] = some true) (ev : t.eval args s none [] s = some (.ref a)) (eu : u.eval args s none [] s = some (.ref b)) (hc : s.heap[a]? = some cl) : ¬ (j < 0 ∨ cl.slots.size ≤ j.toNatClampNeg) ∧ cl.slots[j.toNatClampNeg]? = some (.ref b) := by
  obtain ⟨x, y, h1, h2, h3, -⟩ := cmp_v (Or.inl h)
  have h4 := elem_in h1 ev (Term.int_eval j) hc
  have h5 : y = .ref b := (Option.some.inj (h2.symm.trans eu))
  subst h5
  cases x with
  | ref z =>
    simp only [Cond.value, h1, h2] at h
    have e : z = b := by simpa using h
    subst e
    exact h4
  | null => simp [Cond.value, h1, h2] at h
  | _ => simp [Kin, Value.isRef] at h3
theorem own_fldN {s : State} {args : Array Value} {t : Term} {C n d : String} {a : Addr} (h : (Cond.eq (Term.field t C n d) Term.null).value args s none s [] = some true) (ev : t.eval args s none [] s = some (.ref a)) : Fld s s.heap a C n d .null :=
  Fld.start ((fld_at ev).symm.trans (null_v h))
theorem own_cache {s : State} {args : Array Value} {a : Addr} {cl : Cell} (ev : (Term.static "java/lang/Long$LongCache" "cache" "[Ljava/lang/Long;").eval args s none [] s = some (.ref a)) (A : Arr s s.heap a cl (.object "java/lang/Long")) (hlen : (Cond.eq (Term.length (Term.static "java/lang/Long$LongCache" "cache" "[Ljava/lang/Long;")) (Term.int 256)).value args s none s [] = some true) {d : Cond}
    (hall : (Cond.all (Term.static "java/lang/Long$LongCache" "cache" "[Ljava/lang/Long;") (Cond.and (Cond.exactly (Term.elem (Term.static "java/lang/Long$LongCache" "cache" "[Ljava/lang/Long;") (Term.index 0)) "java/lang/Long") d)).value args s none s [] = some true) : ∀ j : Int32, ¬ (j < 0 ∨ 256 ≤ j.toNatClampNeg) → ¬ (j < 0 ∨ cl.slots.size ≤ j.toNatClampNeg) ∧ ∃ x : Addr, cl.slots[j.toNatClampNeg]? = some (.ref x) ∧ Exa s s.heap x "java/lang/Long" := by
  have hat : s.arrayAt? a = some cl := A.fin (Vm.Alike.refl _)
  obtain ⟨hsz, hsize⟩ := IntBox.length_fwd (Cond.before_iff.mpr hlen) ev A.1 A.2.1 A.2.2
  have h256 : cl.slots.size = 256 := by
    have e := len_toInt (n := cl.slots.size) (by omega)
    rw [hsize] at e
    have e2 : (256 : Int32).toInt = 256 := by decide
    omega
  intro j hj
  rw [← h256] at hj
  have hlt : j.toNatClampNeg < cl.slots.size := Nat.lt_of_not_le fun q => hj (Or.inr q)
  obtain ⟨q1, -⟩ := and_e (Cond.all_elim ev hat hall _ hlt)
  obtain ⟨x, ex⟩ := exa_v q1
  have ev' : (Term.static "java/lang/Long$LongCache" "cache" "[Ljava/lang/Long;").eval args s none [j.toNatClampNeg] s = some (.ref a) := by simpa [Term.eval] using ev
  exact ⟨hj, x, (elem_in ex ev' (idx_at fun q => hj (Or.inl q)) A.1).2, exa_at ex q1⟩
def own_W (Z : State) (a_cache : Addr) (cl_cache : Cell) : Prop := (Sta Z Z.heap "java/lang/Long$LongCache" "cache" "[Ljava/lang/Long;" (.ref a_cache)) ∧ (Arr Z Z.heap a_cache cl_cache (.object "java/lang/Long")) ∧ (∀ j : Int32, ¬ (j < 0 ∨ 256 ≤ j.toNatClampNeg) → ¬ (j < 0 ∨ cl_cache.slots.size ≤ j.toNatClampNeg) ∧ ∃ x : Addr, cl_cache.slots[j.toNatClampNeg]? = some (.ref x) ∧ Exa Z Z.heap x "java/lang/Long")
theorem own_case {i : Int32} {k : Int} (c : Int32) (h : i.toInt = k) (hc : c.toInt = k) : i = c := Int32.toInt_inj.mp (h.trans hc.symm)
theorem own_mask (x : Int32) : 0 ≤ (x &&& 2147483647).toInt := by
  have e := Jvm.Kit.i32_mask x 2147483647 (k := 31) (by decide) (by decide)
  omega
theorem own_mod (x n : Int32) (hn : 0 < n.toInt) : 0 ≤ ((x &&& 2147483647) % n).toInt ∧ ((x &&& 2147483647) % n).toInt < n.toInt := by
  rw [Jvm.Kit.i32_rem_nonneg (own_mask x)]
  exact ⟨Int.emod_nonneg _ (by omega), Int.emod_lt_of_pos _ hn⟩
theorem own_and3 (x : Int32) : (x &&& 3) = 0 ∨ (x &&& 3) = 1 ∨ (x &&& 3) = 2 ∨ (x &&& 3) = 3 := by
  have e := Jvm.Kit.i32_mask x 3 (k := 2) (by decide) (by decide)
  rcases (by omega : (x &&& 3).toInt = 0 ∨ (x &&& 3).toInt = 1 ∨ (x &&& 3).toInt = 2 ∨ (x &&& 3).toInt = 3) with q | q | q | q
  · exact Or.inl (own_case 0 q (by decide))
  · exact Or.inr (Or.inl (own_case 1 q (by decide)))
  · exact Or.inr (Or.inr (Or.inl (own_case 2 q (by decide))))
  · exact Or.inr (Or.inr (Or.inr (own_case 3 q (by decide))))
def own_min (x y : Int64) : Int64 := if y < x then y else x
def own_max (x y : Int64) : Int64 := if x < y then y else x
theorem own_minI (x y : Int64) : (own_min x y).toInt = if y.toInt < x.toInt then y.toInt else x.toInt := by
  unfold own_min
  simp only [Int64.lt_iff_toInt_lt]
  split <;> rfl
theorem own_maxI (x y : Int64) : (own_max x y).toInt = if x.toInt < y.toInt then y.toInt else x.toInt := by
  unfold own_max
  simp only [Int64.lt_iff_toInt_lt]
  split <;> rfl
theorem own_med1 (a b c : Int64) : ¬ own_max (own_min a b) (own_min (own_max a b) c) < own_min a (own_min b c) := by
  rw [Int64.lt_iff_toInt_lt]
  simp only [own_minI, own_maxI]
  repeat' split
  all_goals omega
theorem own_med2 (a b c : Int64) : ¬ own_max a (own_max b c) < own_max (own_min a b) (own_min (own_max a b) c) := by
  rw [Int64.lt_iff_toInt_lt]
  simp only [own_minI, own_maxI]
  repeat' split
  all_goals omega
theorem own_box1 {r e x d rB eB : Int64} (hc1 : ¬ e < r) (hc2 : ¬ x < e) (hr : rB = r ∨ rB = own_min d e) (he : eB = e ∨ eB = own_max r (own_min d x)) : ¬ eB < rB := by
  rw [Int64.lt_iff_toInt_lt] at *
  rcases hr with rfl | rfl <;> rcases he with rfl | rfl <;> (try simp only [own_minI, own_maxI]) <;> (repeat' split) <;> omega
theorem own_box2 {r e x d eB xB : Int64} (hc1 : ¬ e < r) (hc2 : ¬ x < e) (he : eB = e ∨ eB = own_max r (own_min d x)) (hx : xB = x ∨ xB = own_max d e) : ¬ xB < eB := by
  rw [Int64.lt_iff_toInt_lt] at *
  rcases he with rfl | rfl <;> rcases hx with rfl | rfl <;> (try simp only [own_minI, own_maxI]) <;> (repeat' split) <;> omega
def own_same (p q : Int32) (r s e f x y : Int64) : Int32 := if p = q then if r = s then if e = f then if x = y then 1 else 0 else 0 else 0 else 0
theorem own_flip (p q : Int32) (r s e f x y : Int64) : own_same p q r s e f x y = own_same q p s r f e y x := by
  unfold own_same
  (repeat' split) <;> simp_all
theorem own_self (p : Int32) (r e x : Int64) : own_same p p r r e e x x = 1 := by simp [own_same]
theorem own_nar (p q : Int32) (r s e f x y : Int64) : nar .boolean (own_same p q r s e f x y) = own_same p q r s e f x y := by
  unfold own_same
  (repeat' split) <;> rfl
theorem own_ef_mn (m : MethodId) (x : Int64) (y : Int64) : entryFrame m #[(.long x), (.long y)] 4 = mkF m 0 #[.val (.long x), .second, .val (.long y), .second] [] := by first | (simp [entryFrame, mkF, argsToLocals, Value.category]; done) | rfl
theorem own_d_jdk_29_method_70_0 : decode jdk_29_method_70_code 0 = .ok (.lload_n 0, 1) := by decide +kernel
theorem own_d_jdk_29_method_70_1 : decode jdk_29_method_70_code 1 = .ok (.lload_n 2, 1) := by decide +kernel
theorem own_d_jdk_29_method_70_2 : decode jdk_29_method_70_code 2 = .ok (.lcmp, 1) := by decide +kernel
theorem own_d_jdk_29_method_70_3 : decode jdk_29_method_70_code 3 = .ok (.ifCond .gt 7, 3) := by decide +kernel
theorem own_d_jdk_29_method_70_10 : decode jdk_29_method_70_code 10 = .ok (.lload_n 2, 1) := by decide +kernel
theorem own_d_jdk_29_method_70_11 : decode jdk_29_method_70_code 11 = .ok (.lreturn, 1) := by decide +kernel
theorem own_d_jdk_29_method_70_6 : decode jdk_29_method_70_code 6 = .ok (.lload_n 0, 1) := by decide +kernel
theorem own_d_jdk_29_method_70_7 : decode jdk_29_method_70_code 7 = .ok (.goto 4, 3) := by decide +kernel
def Q_mn (Z : State) (x : Int64) (y : Int64) (h0 : Heap) (v_ : Option Value) (h : Heap) (L_ : List Loc) : Prop := v_ = some (.long (own_min x y)) ∧ Fr Z.heap.size L_ ∧ (h = h0)
set_option maxRecDepth 65536 in
set_option maxHeartbeats 40000000 in
theorem rm_mn (l : Launch) (Z : State) (a0 : Array Value) (hw : ∀ d ∈ tables_1, d.before a0 Z = true) (ws : List Jvm.Cond) (x : Int64) (y : Int64) (h0 : Heap) (O : Ext Z.heap h0) :
    MetFree l (⟨"java/lang/Math", "min", "(JJ)J"⟩ : MethodName) (head1 (Jvm.Cond.code (⟨"java/lang/Math", "min", "(JJ)J"⟩ : MethodName) jdk_29_method_70_code 4 (some .long) :: ws) ({ frames := 0, cells := 0, slots := 0, locals := 0 } : Room)) (fun a_ U_ => a_ = #[(.long x), (.long y)] ∧ Z.Warmed39 U_.vm ∧ U_.heap = h0) (fun _ _ _ _ _ => True) (fun _ U_ o_ U2_ => ∃ v_ L_, o_ = .returned v_ ∧ Q_mn Z x y h0 v_ U2_.heap L_ ∧ FrameEnd U_ o_ U2_ L_ ({ frames := 0, cells := 0, slots := 0, locals := 0 } : Room).cells ({ frames := 0, cells := 0, slots := 0, locals := 0 } : Room).slots) := by
  refine MetFree.of_bodySF (Jvm.Free.JP.mathPlain rfl (by decide +kernel)) hisR ?_
  intro p e s m args below meth c s₁ Bd hml0 hP hK
  obtain ⟨rfl, hZ, hh⟩ := hP
  have hx := Bd.exec
  have hby := Bd.bytes
  have hml : c.maxLocals = 4 := hml0
  have hown : s.vm.findClass "java/lang/Math" = some m.cls := findClass_of_methodNamed Bd.named
  have hnm := (name_of_methodNamed Bd.named Bd.method).1
  have X0 : Stand p l e ({ frames := 0, cells := 0, slots := 0, locals := 0 } : Room) s m #[(.long x), (.long y)] below meth c s₁ [] 0 0 := Stand.of_body Bd
  have e0 : s₁.heap = h0 := by rw [← hh, Bd.state]; rfl
  have N0 := Fr.nil Z.heap.size
  show own_G p e below (fun o_ s₂ => ∃ v_ L_, o_ = .returned v_ ∧ Q_mn Z x y h0 v_ s₂.heap L_ ∧ FrameEnd s o_ s₂ L_ ({ frames := 0, cells := 0, slots := 0, locals := 0 } : Room).cells ({ frames := 0, cells := 0, slots := 0, locals := 0 } : Room).slots) (s₁.setTop (entryFrame m #[(.long x), (.long y)] 4))
  refine own_go (s₁.setTop (mkF m 0 #[.val (.long x), .second, .val (.long y), .second] [])) (fun t_ k_ => castTop (own_ef_mn m x y) k_) ?_
  refine own_go (s₁.setTop (mkF m 1 #[.val (.long x), .second, .val (.long y), .second] [(.long x)])) (fun t_ k_ => XS.lloadN X0.here hx rfl (hb hby own_d_jdk_29_method_70_0) rfl k_) ?_
  refine own_go (s₁.setTop (mkF m 2 #[.val (.long x), .second, .val (.long y), .second] [(.long y), (.long x)])) (fun t_ k_ => XS.lloadN X0.here hx rfl (hb hby own_d_jdk_29_method_70_1) rfl k_) ?_
  refine own_go (s₁.setTop (mkF m 3 #[.val (.long x), .second, .val (.long y), .second] [(.int (lcmpW x y))])) (fun t_ k_ => XS.lcmp X0.here hx rfl (hb hby own_d_jdk_29_method_70_2) rfl k_) ?_
  by_cases hc3_1 : y < x
  ·
    refine own_go (s₁.setTop (mkF m 10 #[.val (.long x), .second, .val (.long y), .second] [])) (fun t_ k_ => XS.ifYes X0.here hx rfl (pc0 := 3) (pc' := 10) rfl (hb hby own_d_jdk_29_method_70_3) rfl ((if0 _ _).trans (tlt (own_gt.mpr hc3_1)).2.2.1) (by decide) (by decide) k_) ?_
    refine own_go (s₁.setTop (mkF m 11 #[.val (.long x), .second, .val (.long y), .second] [(.long y)])) (fun t_ k_ => XS.lloadN X0.here hx rfl (hb hby own_d_jdk_29_method_70_10) rfl k_) ?_
    obtain ⟨fs, hr, hrun, hended, hW, hsame⟩ := X0.leave (v := some (.long y)) (fun h => by rw [Bd.returns] at h; cases h)
    refine ⟨_, _, Jvm.RoadKit.retOut X0 hx Bd.returns rfl (Or.inr (Or.inl ⟨rfl, rfl, _, rfl⟩)) (hb hby own_d_jdk_29_method_70_11) hr, hrun, hended, _, _, rfl, ?_, ⟨_, rfl⟩, hW, hsame.mono (by decide) (by decide)⟩
    show Q_mn Z x y h0 _ s₁.heap _
    exact ⟨by simp [own_min, hc3_1], N0, e0⟩
  ·
    refine own_go (s₁.setTop (mkF m 6 #[.val (.long x), .second, .val (.long y), .second] [])) (fun t_ k_ => XS.ifNo X0.here hx rfl (hb hby own_d_jdk_29_method_70_3) rfl ((if0 _ _).trans (flt (fun q => hc3_1 (own_gt.mp q))).2.2.1) k_) ?_
    refine own_go (s₁.setTop (mkF m 7 #[.val (.long x), .second, .val (.long y), .second] [(.long x)])) (fun t_ k_ => XS.lloadN X0.here hx rfl (hb hby own_d_jdk_29_method_70_6) rfl k_) ?_
    refine own_go (s₁.setTop (mkF m 11 #[.val (.long x), .second, .val (.long y), .second] [(.long x)])) (fun t_ k_ => XS.goto X0.here hx rfl (pc0 := 7) (pc' := 11) rfl (hb hby own_d_jdk_29_method_70_7) (by decide) (by decide) k_) ?_
    obtain ⟨fs, hr, hrun, hended, hW, hsame⟩ := X0.leave (v := some (.long x)) (fun h => by rw [Bd.returns] at h; cases h)
    refine ⟨_, _, Jvm.RoadKit.retOut X0 hx Bd.returns rfl (Or.inr (Or.inl ⟨rfl, rfl, _, rfl⟩)) (hb hby own_d_jdk_29_method_70_11) hr, hrun, hended, _, _, rfl, ?_, ⟨_, rfl⟩, hW, hsame.mono (by decide) (by decide)⟩
    show Q_mn Z x y h0 _ s₁.heap _
    exact ⟨by simp [own_min, hc3_1], N0, e0⟩
theorem own_ef_mx (m : MethodId) (x : Int64) (y : Int64) : entryFrame m #[(.long x), (.long y)] 4 = mkF m 0 #[.val (.long x), .second, .val (.long y), .second] [] := by first | (simp [entryFrame, mkF, argsToLocals, Value.category]; done) | rfl
theorem own_d_jdk_29_method_66_0 : decode jdk_29_method_66_code 0 = .ok (.lload_n 0, 1) := by decide +kernel
theorem own_d_jdk_29_method_66_1 : decode jdk_29_method_66_code 1 = .ok (.lload_n 2, 1) := by decide +kernel
theorem own_d_jdk_29_method_66_2 : decode jdk_29_method_66_code 2 = .ok (.lcmp, 1) := by decide +kernel
theorem own_d_jdk_29_method_66_3 : decode jdk_29_method_66_code 3 = .ok (.ifCond .lt 7, 3) := by decide +kernel
theorem own_d_jdk_29_method_66_10 : decode jdk_29_method_66_code 10 = .ok (.lload_n 2, 1) := by decide +kernel
theorem own_d_jdk_29_method_66_11 : decode jdk_29_method_66_code 11 = .ok (.lreturn, 1) := by decide +kernel
theorem own_d_jdk_29_method_66_6 : decode jdk_29_method_66_code 6 = .ok (.lload_n 0, 1) := by decide +kernel
theorem own_d_jdk_29_method_66_7 : decode jdk_29_method_66_code 7 = .ok (.goto 4, 3) := by decide +kernel
def Q_mx (Z : State) (x : Int64) (y : Int64) (h0 : Heap) (v_ : Option Value) (h : Heap) (L_ : List Loc) : Prop := v_ = some (.long (own_max x y)) ∧ Fr Z.heap.size L_ ∧ (h = h0)
set_option maxRecDepth 65536 in
set_option maxHeartbeats 40000000 in
theorem rm_mx (l : Launch) (Z : State) (a0 : Array Value) (hw : ∀ d ∈ tables_1, d.before a0 Z = true) (ws : List Jvm.Cond) (x : Int64) (y : Int64) (h0 : Heap) (O : Ext Z.heap h0) :
    MetFree l (⟨"java/lang/Math", "max", "(JJ)J"⟩ : MethodName) (head1 (Jvm.Cond.code (⟨"java/lang/Math", "max", "(JJ)J"⟩ : MethodName) jdk_29_method_66_code 4 (some .long) :: ws) ({ frames := 0, cells := 0, slots := 0, locals := 0 } : Room)) (fun a_ U_ => a_ = #[(.long x), (.long y)] ∧ Z.Warmed39 U_.vm ∧ U_.heap = h0) (fun _ _ _ _ _ => True) (fun _ U_ o_ U2_ => ∃ v_ L_, o_ = .returned v_ ∧ Q_mx Z x y h0 v_ U2_.heap L_ ∧ FrameEnd U_ o_ U2_ L_ ({ frames := 0, cells := 0, slots := 0, locals := 0 } : Room).cells ({ frames := 0, cells := 0, slots := 0, locals := 0 } : Room).slots) := by
  refine MetFree.of_bodySF (Jvm.Free.JP.mathPlain rfl (by decide +kernel)) hisR ?_
  intro p e s m args below meth c s₁ Bd hml0 hP hK
  obtain ⟨rfl, hZ, hh⟩ := hP
  have hx := Bd.exec
  have hby := Bd.bytes
  have hml : c.maxLocals = 4 := hml0
  have hown : s.vm.findClass "java/lang/Math" = some m.cls := findClass_of_methodNamed Bd.named
  have hnm := (name_of_methodNamed Bd.named Bd.method).1
  have X0 : Stand p l e ({ frames := 0, cells := 0, slots := 0, locals := 0 } : Room) s m #[(.long x), (.long y)] below meth c s₁ [] 0 0 := Stand.of_body Bd
  have e0 : s₁.heap = h0 := by rw [← hh, Bd.state]; rfl
  have N0 := Fr.nil Z.heap.size
  show own_G p e below (fun o_ s₂ => ∃ v_ L_, o_ = .returned v_ ∧ Q_mx Z x y h0 v_ s₂.heap L_ ∧ FrameEnd s o_ s₂ L_ ({ frames := 0, cells := 0, slots := 0, locals := 0 } : Room).cells ({ frames := 0, cells := 0, slots := 0, locals := 0 } : Room).slots) (s₁.setTop (entryFrame m #[(.long x), (.long y)] 4))
  refine own_go (s₁.setTop (mkF m 0 #[.val (.long x), .second, .val (.long y), .second] [])) (fun t_ k_ => castTop (own_ef_mx m x y) k_) ?_
  refine own_go (s₁.setTop (mkF m 1 #[.val (.long x), .second, .val (.long y), .second] [(.long x)])) (fun t_ k_ => XS.lloadN X0.here hx rfl (hb hby own_d_jdk_29_method_66_0) rfl k_) ?_
  refine own_go (s₁.setTop (mkF m 2 #[.val (.long x), .second, .val (.long y), .second] [(.long y), (.long x)])) (fun t_ k_ => XS.lloadN X0.here hx rfl (hb hby own_d_jdk_29_method_66_1) rfl k_) ?_
  refine own_go (s₁.setTop (mkF m 3 #[.val (.long x), .second, .val (.long y), .second] [(.int (lcmpW x y))])) (fun t_ k_ => XS.lcmp X0.here hx rfl (hb hby own_d_jdk_29_method_66_2) rfl k_) ?_
  by_cases hc3_1 : x < y
  ·
    refine own_go (s₁.setTop (mkF m 10 #[.val (.long x), .second, .val (.long y), .second] [])) (fun t_ k_ => XS.ifYes X0.here hx rfl (pc0 := 3) (pc' := 10) rfl (hb hby own_d_jdk_29_method_66_3) rfl ((if0 _ _).trans (tlt (own_lt.mpr hc3_1)).1) (by decide) (by decide) k_) ?_
    refine own_go (s₁.setTop (mkF m 11 #[.val (.long x), .second, .val (.long y), .second] [(.long y)])) (fun t_ k_ => XS.lloadN X0.here hx rfl (hb hby own_d_jdk_29_method_66_10) rfl k_) ?_
    obtain ⟨fs, hr, hrun, hended, hW, hsame⟩ := X0.leave (v := some (.long y)) (fun h => by rw [Bd.returns] at h; cases h)
    refine ⟨_, _, Jvm.RoadKit.retOut X0 hx Bd.returns rfl (Or.inr (Or.inl ⟨rfl, rfl, _, rfl⟩)) (hb hby own_d_jdk_29_method_66_11) hr, hrun, hended, _, _, rfl, ?_, ⟨_, rfl⟩, hW, hsame.mono (by decide) (by decide)⟩
    show Q_mx Z x y h0 _ s₁.heap _
    exact ⟨by simp [own_max, hc3_1], N0, e0⟩
  ·
    refine own_go (s₁.setTop (mkF m 6 #[.val (.long x), .second, .val (.long y), .second] [])) (fun t_ k_ => XS.ifNo X0.here hx rfl (hb hby own_d_jdk_29_method_66_3) rfl ((if0 _ _).trans (flt (fun q => hc3_1 (own_lt.mp q))).1) k_) ?_
    refine own_go (s₁.setTop (mkF m 7 #[.val (.long x), .second, .val (.long y), .second] [(.long x)])) (fun t_ k_ => XS.lloadN X0.here hx rfl (hb hby own_d_jdk_29_method_66_6) rfl k_) ?_
    refine own_go (s₁.setTop (mkF m 11 #[.val (.long x), .second, .val (.long y), .second] [(.long x)])) (fun t_ k_ => XS.goto X0.here hx rfl (pc0 := 7) (pc' := 11) rfl (hb hby own_d_jdk_29_method_66_7) (by decide) (by decide) k_) ?_
    obtain ⟨fs, hr, hrun, hended, hW, hsame⟩ := X0.leave (v := some (.long x)) (fun h => by rw [Bd.returns] at h; cases h)
    refine ⟨_, _, Jvm.RoadKit.retOut X0 hx Bd.returns rfl (Or.inr (Or.inl ⟨rfl, rfl, _, rfl⟩)) (hb hby own_d_jdk_29_method_66_11) hr, hrun, hended, _, _, rfl, ?_, ⟨_, rfl⟩, hW, hsame.mono (by decide) (by decide)⟩
    show Q_mx Z x y h0 _ s₁.heap _
    exact ⟨by simp [own_max, hc3_1], N0, e0⟩
theorem own_pn0 : plainName "com/example/eager_quorum/eagerquorum/model/CriticalSection" = true := by first | (simp [plainName, overriddenIn]; done) | decide +kernel
theorem own_ef_ci (m : MethodId) (a : Addr) (q : Int32) (r : Int64) (ev : Int64) (x : Int64) : entryFrame m #[(.ref a), (.int q), (.long r), (.long ev), (.long x)] 8 = mkF m 0 #[.val (.ref a), .val (.int q), .val (.long r), .second, .val (.long ev), .second, .val (.long x), .second] [] := by first | (simp [entryFrame, mkF, argsToLocals, Value.category]; done) | rfl
theorem own_d_prog_24_method_1_0 : decode prog_24_method_1_code 0 = .ok (.aload_n 0, 1) := by decide +kernel
theorem own_d_prog_24_method_1_1 : decode prog_24_method_1_code 1 = .ok (.invokespecial 1, 3) := by decide +kernel
theorem own_d_prog_24_method_1_4 : decode prog_24_method_1_code 4 = .ok (.lload_n 2, 1) := by decide +kernel
theorem own_d_prog_24_method_1_5 : decode prog_24_method_1_code 5 = .ok (.lload 4, 2) := by decide +kernel
theorem own_d_prog_24_method_1_7 : decode prog_24_method_1_code 7 = .ok (.lcmp, 1) := by decide +kernel
theorem own_d_prog_24_method_1_8 : decode prog_24_method_1_code 8 = .ok (.ifCond .gt 11, 3) := by decide +kernel
theorem own_d_prog_24_method_1_11 : decode prog_24_method_1_code 11 = .ok (.lload 4, 2) := by decide +kernel
theorem own_d_prog_24_method_1_13 : decode prog_24_method_1_code 13 = .ok (.lload 6, 2) := by decide +kernel
theorem own_d_prog_24_method_1_15 : decode prog_24_method_1_code 15 = .ok (.lcmp, 1) := by decide +kernel
theorem own_d_prog_24_method_1_16 : decode prog_24_method_1_code 16 = .ok (.ifCond .le 21, 3) := by decide +kernel
theorem own_d_prog_24_method_1_37 : decode prog_24_method_1_code 37 = .ok (.aload_n 0, 1) := by decide +kernel
theorem own_d_prog_24_method_1_38 : decode prog_24_method_1_code 38 = .ok (.iload_n 1, 1) := by decide +kernel
theorem own_d_prog_24_method_1_39 : decode prog_24_method_1_code 39 = .ok (.putfield 16, 3) := by decide +kernel
theorem own_d_prog_24_method_1_42 : decode prog_24_method_1_code 42 = .ok (.aload_n 0, 1) := by decide +kernel
theorem own_d_prog_24_method_1_43 : decode prog_24_method_1_code 43 = .ok (.lload_n 2, 1) := by decide +kernel
theorem own_d_prog_24_method_1_44 : decode prog_24_method_1_code 44 = .ok (.putfield 22, 3) := by decide +kernel
theorem own_d_prog_24_method_1_47 : decode prog_24_method_1_code 47 = .ok (.aload_n 0, 1) := by decide +kernel
theorem own_d_prog_24_method_1_48 : decode prog_24_method_1_code 48 = .ok (.lload 4, 2) := by decide +kernel
theorem own_d_prog_24_method_1_50 : decode prog_24_method_1_code 50 = .ok (.putfield 26, 3) := by decide +kernel
theorem own_d_prog_24_method_1_53 : decode prog_24_method_1_code 53 = .ok (.aload_n 0, 1) := by decide +kernel
theorem own_d_prog_24_method_1_54 : decode prog_24_method_1_code 54 = .ok (.lload 6, 2) := by decide +kernel
theorem own_d_prog_24_method_1_56 : decode prog_24_method_1_code 56 = .ok (.putfield 29, 3) := by decide +kernel
theorem own_d_prog_24_method_1_59 : decode prog_24_method_1_code 59 = .ok (.return_, 1) := by decide +kernel
def Q_ci (Z : State) (a : Addr) (q : Int32) (r : Int64) (ev : Int64) (x : Int64) (h0 : Heap) (v_ : Option Value) (h : Heap) (L_ : List Loc) : Prop := v_ = none ∧ Fr Z.heap.size L_ ∧ (Keep h0 h [a] ∧ Exa Z h a "com/example/eager_quorum/eagerquorum/model/CriticalSection" ∧ Fld Z h a "com/example/eager_quorum/eagerquorum/model/CriticalSection" "process" "I" (.int q) ∧ Fld Z h a "com/example/eager_quorum/eagerquorum/model/CriticalSection" "requested" "J" (.long r) ∧ Fld Z h a "com/example/eager_quorum/eagerquorum/model/CriticalSection" "entered" "J" (.long ev) ∧ Fld Z h a "com/example/eager_quorum/eagerquorum/model/CriticalSection" "exited" "J" (.long x))
set_option maxRecDepth 65536 in
set_option maxHeartbeats 40000000 in
theorem rm_ci (l : Launch) (Z : State) (a0 : Array Value) (hw : ∀ d ∈ tables_1, d.before a0 Z = true) (ws : List Jvm.Cond) (a : Addr) (q : Int32) (r : Int64) (ev : Int64) (x : Int64) (h0 : Heap) (O : Ext Z.heap h0) (X : Exa Z h0 a "com/example/eager_quorum/eagerquorum/model/CriticalSection") (F0 : Fld Z h0 a "com/example/eager_quorum/eagerquorum/model/CriticalSection" "process" "I" (.int (0 : Int32))) (F1 : Fld Z h0 a "com/example/eager_quorum/eagerquorum/model/CriticalSection" "requested" "J" (.long (0 : Int64))) (F2 : Fld Z h0 a "com/example/eager_quorum/eagerquorum/model/CriticalSection" "entered" "J" (.long (0 : Int64))) (F3 : Fld Z h0 a "com/example/eager_quorum/eagerquorum/model/CriticalSection" "exited" "J" (.long (0 : Int64))) (ga : Z.heap.size ≤ a) (hc1 : ¬ ev < r) (hc2 : ¬ x < ev) :
    MetFree l (⟨"com/example/eager_quorum/eagerquorum/model/CriticalSection", "<init>", "(IJJJ)V"⟩ : MethodName) (head1 (Jvm.Cond.code (⟨"com/example/eager_quorum/eagerquorum/model/CriticalSection", "<init>", "(IJJJ)V"⟩ : MethodName) prog_24_method_1_code 8 none :: ws) ({ frames := 1, cells := 0, slots := 0, locals := 12 } : Room)) (fun a_ U_ => a_ = #[(.ref a), (.int q), (.long r), (.long ev), (.long x)] ∧ Z.Warmed39 U_.vm ∧ U_.heap = h0) (fun _ _ _ _ _ => True) (fun _ U_ o_ U2_ => ∃ v_ L_, o_ = .returned v_ ∧ Q_ci Z a q r ev x h0 v_ U2_.heap L_ ∧ FrameEnd U_ o_ U2_ L_ ({ frames := 1, cells := 0, slots := 0, locals := 12 } : Room).cells ({ frames := 1, cells := 0, slots := 0, locals := 12 } : Room).slots) := by
  refine MetFree.of_bodySF (plainFor_of_name own_pn0) hisR ?_
  intro p e s m args below meth c s₁ Bd hml0 hP hK
  obtain ⟨rfl, hZ, hh⟩ := hP
  have hx := Bd.exec
  have hby := Bd.bytes
  have hml : c.maxLocals = 8 := hml0
  have hown : s.vm.findClass "com/example/eager_quorum/eagerquorum/model/CriticalSection" = some m.cls := findClass_of_methodNamed Bd.named
  have hnm := (name_of_methodNamed Bd.named Bd.method).1
  have X0 : Stand p l e ({ frames := 1, cells := 0, slots := 0, locals := 12 } : Room) s m #[(.ref a), (.int q), (.long r), (.long ev), (.long x)] below meth c s₁ [] 0 0 := Stand.of_body Bd
  have e0 : s₁.heap = h0 := by rw [← hh, Bd.state]; rfl
  have N0 := Fr.nil Z.heap.size
  show own_G p e below (fun o_ s₂ => ∃ v_ L_, o_ = .returned v_ ∧ Q_ci Z a q r ev x h0 v_ s₂.heap L_ ∧ FrameEnd s o_ s₂ L_ ({ frames := 1, cells := 0, slots := 0, locals := 12 } : Room).cells ({ frames := 1, cells := 0, slots := 0, locals := 12 } : Room).slots) (s₁.setTop (entryFrame m #[(.ref a), (.int q), (.long r), (.long ev), (.long x)] 8))
  refine own_go (s₁.setTop (mkF m 0 #[.val (.ref a), .val (.int q), .val (.long r), .second, .val (.long ev), .second, .val (.long x), .second] [])) (fun t_ k_ => castTop (own_ef_ci m a q r ev x) k_) ?_
  refine own_go (s₁.setTop (mkF m 1 #[.val (.ref a), .val (.int q), .val (.long r), .second, .val (.long ev), .second, .val (.long x), .second] [(.ref a)])) (fun t_ k_ => XS.aloadN X0.here hx rfl (hb hby own_d_prog_24_method_1_0) rfl rfl k_) ?_
  obtain ⟨T1, X1, e1, st1⟩ := initO X0 hx hZ hown (hw _ (List.mem_of_getElem? (i := 13) rfl)) (hw _ (List.mem_of_getElem? (i := 14) rfl)) (hw _ (List.mem_of_getElem? (i := 15) rfl)) e0 (g := (mkF m 1 #[.val (.ref a), .val (.int q), .val (.long r), .second, .val (.long ev), .second, .val (.long x), .second] [(.ref a)])) rfl (by rw [hml]; rfl) rfl (hb hby own_d_prog_24_method_1_1) (by decide) (W := 0) (by show 2 * 0 + _ ≤ _; exact Nat.le_of_eq rfl) (by decide)
  refine own_go (T1.setTop (mkF m 4 #[.val (.ref a), .val (.int q), .val (.long r), .second, .val (.long ev), .second, .val (.long x), .second] [])) (fun t_ k_ => st1 _ k_) ?_
  refine own_go (T1.setTop (mkF m 5 #[.val (.ref a), .val (.int q), .val (.long r), .second, .val (.long ev), .second, .val (.long x), .second] [(.long r)])) (fun t_ k_ => XS.lloadN X1.here hx rfl (hb hby own_d_prog_24_method_1_4) rfl k_) ?_
  refine own_go (T1.setTop (mkF m 7 #[.val (.ref a), .val (.int q), .val (.long r), .second, .val (.long ev), .second, .val (.long x), .second] [(.long ev), (.long r)])) (fun t_ k_ => XS.lload X1.here hx rfl (hb hby own_d_prog_24_method_1_5) rfl k_) ?_
  refine own_go (T1.setTop (mkF m 8 #[.val (.ref a), .val (.int q), .val (.long r), .second, .val (.long ev), .second, .val (.long x), .second] [(.int (lcmpW r ev))])) (fun t_ k_ => XS.lcmp X1.here hx rfl (hb hby own_d_prog_24_method_1_7) rfl k_) ?_
  refine own_go (T1.setTop (mkF m 11 #[.val (.ref a), .val (.int q), .val (.long r), .second, .val (.long ev), .second, .val (.long x), .second] [])) (fun t_ k_ => XS.ifNo X1.here hx rfl (hb hby own_d_prog_24_method_1_8) rfl ((if0 _ _).trans (flt (fun q => hc1 (own_gt.mp q))).2.2.1) k_) ?_
  refine own_go (T1.setTop (mkF m 13 #[.val (.ref a), .val (.int q), .val (.long r), .second, .val (.long ev), .second, .val (.long x), .second] [(.long ev)])) (fun t_ k_ => XS.lload X1.here hx rfl (hb hby own_d_prog_24_method_1_11) rfl k_) ?_
  refine own_go (T1.setTop (mkF m 15 #[.val (.ref a), .val (.int q), .val (.long r), .second, .val (.long ev), .second, .val (.long x), .second] [(.long x), (.long ev)])) (fun t_ k_ => XS.lload X1.here hx rfl (hb hby own_d_prog_24_method_1_13) rfl k_) ?_
  refine own_go (T1.setTop (mkF m 16 #[.val (.ref a), .val (.int q), .val (.long r), .second, .val (.long ev), .second, .val (.long x), .second] [(.int (lcmpW ev x))])) (fun t_ k_ => XS.lcmp X1.here hx rfl (hb hby own_d_prog_24_method_1_15) rfl k_) ?_
  refine own_go (T1.setTop (mkF m 37 #[.val (.ref a), .val (.int q), .val (.long r), .second, .val (.long ev), .second, .val (.long x), .second] [])) (fun t_ k_ => XS.ifYes X1.here hx rfl (pc0 := 16) (pc' := 37) rfl (hb hby own_d_prog_24_method_1_16) rfl ((if0 _ _).trans (flt (fun q => hc2 (own_gt.mp q))).2.2.2) (by decide) (by decide) k_) ?_
  refine own_go (T1.setTop (mkF m 38 #[.val (.ref a), .val (.int q), .val (.long r), .second, .val (.long ev), .second, .val (.long x), .second] [(.ref a)])) (fun t_ k_ => XS.aloadN X1.here hx rfl (hb hby own_d_prog_24_method_1_37) rfl rfl k_) ?_
  refine own_go (T1.setTop (mkF m 39 #[.val (.ref a), .val (.int q), .val (.long r), .second, .val (.long ev), .second, .val (.long x), .second] [(.int q), (.ref a)])) (fun t_ k_ => XS.iloadN X1.here hx rfl (hb hby own_d_prog_24_method_1_38) rfl k_) ?_
  obtain ⟨T2, h2, X2, e2, W2, st2⟩ := putF X1 hx hZ hown (host := "") (Or.inl (hw _ (List.mem_of_getElem? (i := 16) rfl))) Via.refl e1 F0 X (Or.inr ⟨(hw _ (List.mem_of_getElem? (i := 17) rfl)), rfl, hnm⟩) (hw _ (List.mem_of_getElem? (i := 8) rfl)) (ty := .int) (by decide) rfl rfl (g := (mkF m 39 #[.val (.ref a), .val (.int q), .val (.long r), .second, .val (.long ev), .second, .val (.long x), .second] [(.int q), (.ref a)])) rfl rfl (hb hby own_d_prog_24_method_1_39)
  have Fw2 := F0.same W2
  have K2 : Keep h0 h2 [a] := (Keep.refl h0 [a]).wr W2 (Or.inl (List.mem_of_getElem? (i := 0) rfl))
  have N2 := Fr.snoc X2 N0 ga
  have O2 := own_extW O W2 ga
  refine own_go (T2.setTop (mkF m 42 #[.val (.ref a), .val (.int q), .val (.long r), .second, .val (.long ev), .second, .val (.long x), .second] [])) (fun t_ k_ => st2 _ k_) ?_
  refine own_go (T2.setTop (mkF m 43 #[.val (.ref a), .val (.int q), .val (.long r), .second, .val (.long ev), .second, .val (.long x), .second] [(.ref a)])) (fun t_ k_ => XS.aloadN X2.here hx rfl (hb hby own_d_prog_24_method_1_42) rfl rfl k_) ?_
  refine own_go (T2.setTop (mkF m 44 #[.val (.ref a), .val (.int q), .val (.long r), .second, .val (.long ev), .second, .val (.long x), .second] [(.long r), (.ref a)])) (fun t_ k_ => XS.lloadN X2.here hx rfl (hb hby own_d_prog_24_method_1_43) rfl k_) ?_
  have Fz3 := (X.wr W2)
  have Fz4 := (F1.other W2 (Or.inr (slot_ne (a0 := a0) (Or.inr (hw _ (List.mem_of_getElem? (i := 19) rfl))) (Or.inr (hw _ (List.mem_of_getElem? (i := 17) rfl))) (by decide) (t := .long) (t' := .int) (by decide) (by decide))))
  obtain ⟨T5, h5, X5, e5, W5, st5⟩ := putF X2 hx hZ hown (host := "") (Or.inl (hw _ (List.mem_of_getElem? (i := 18) rfl))) Via.refl e2 Fz4 Fz3 (Or.inr ⟨(hw _ (List.mem_of_getElem? (i := 19) rfl)), rfl, hnm⟩) (hw _ (List.mem_of_getElem? (i := 8) rfl)) (ty := .long) (by decide) rfl rfl (g := (mkF m 44 #[.val (.ref a), .val (.int q), .val (.long r), .second, .val (.long ev), .second, .val (.long x), .second] [(.long r), (.ref a)])) rfl rfl (hb hby own_d_prog_24_method_1_44)
  have Fw5 := Fz4.same W5
  have K5 : Keep h0 h5 [a] := K2.wr W5 (Or.inl (List.mem_of_getElem? (i := 0) rfl))
  have N5 := Fr.snoc X5 N2 ga
  have O5 := own_extW O2 W5 ga
  refine own_go (T5.setTop (mkF m 47 #[.val (.ref a), .val (.int q), .val (.long r), .second, .val (.long ev), .second, .val (.long x), .second] [])) (fun t_ k_ => st5 _ k_) ?_
  refine own_go (T5.setTop (mkF m 48 #[.val (.ref a), .val (.int q), .val (.long r), .second, .val (.long ev), .second, .val (.long x), .second] [(.ref a)])) (fun t_ k_ => XS.aloadN X5.here hx rfl (hb hby own_d_prog_24_method_1_47) rfl rfl k_) ?_
  refine own_go (T5.setTop (mkF m 50 #[.val (.ref a), .val (.int q), .val (.long r), .second, .val (.long ev), .second, .val (.long x), .second] [(.long ev), (.ref a)])) (fun t_ k_ => XS.lload X5.here hx rfl (hb hby own_d_prog_24_method_1_48) rfl k_) ?_
  have Fz6 := (Fz3.wr W5)
  have Fz7 := ((F2.other W2 (Or.inr (slot_ne (a0 := a0) (Or.inr (hw _ (List.mem_of_getElem? (i := 21) rfl))) (Or.inr (hw _ (List.mem_of_getElem? (i := 17) rfl))) (by decide) (t := .long) (t' := .int) (by decide) (by decide)))).other W5 (Or.inr (slot_ne (a0 := a0) (Or.inr (hw _ (List.mem_of_getElem? (i := 21) rfl))) (Or.inr (hw _ (List.mem_of_getElem? (i := 19) rfl))) (by decide) (t := .long) (t' := .long) (by decide) (by decide))))
  obtain ⟨T8, h8, X8, e8, W8, st8⟩ := putF X5 hx hZ hown (host := "") (Or.inl (hw _ (List.mem_of_getElem? (i := 20) rfl))) Via.refl e5 Fz7 Fz6 (Or.inr ⟨(hw _ (List.mem_of_getElem? (i := 21) rfl)), rfl, hnm⟩) (hw _ (List.mem_of_getElem? (i := 8) rfl)) (ty := .long) (by decide) rfl rfl (g := (mkF m 50 #[.val (.ref a), .val (.int q), .val (.long r), .second, .val (.long ev), .second, .val (.long x), .second] [(.long ev), (.ref a)])) rfl rfl (hb hby own_d_prog_24_method_1_50)
  have Fw8 := Fz7.same W8
  have K8 : Keep h0 h8 [a] := K5.wr W8 (Or.inl (List.mem_of_getElem? (i := 0) rfl))
  have N8 := Fr.snoc X8 N5 ga
  have O8 := own_extW O5 W8 ga
  refine own_go (T8.setTop (mkF m 53 #[.val (.ref a), .val (.int q), .val (.long r), .second, .val (.long ev), .second, .val (.long x), .second] [])) (fun t_ k_ => st8 _ k_) ?_
  refine own_go (T8.setTop (mkF m 54 #[.val (.ref a), .val (.int q), .val (.long r), .second, .val (.long ev), .second, .val (.long x), .second] [(.ref a)])) (fun t_ k_ => XS.aloadN X8.here hx rfl (hb hby own_d_prog_24_method_1_53) rfl rfl k_) ?_
  refine own_go (T8.setTop (mkF m 56 #[.val (.ref a), .val (.int q), .val (.long r), .second, .val (.long ev), .second, .val (.long x), .second] [(.long x), (.ref a)])) (fun t_ k_ => XS.lload X8.here hx rfl (hb hby own_d_prog_24_method_1_54) rfl k_) ?_
  have Fz9 := (Fz6.wr W8)
  have Fz10 := (((F3.other W2 (Or.inr (slot_ne (a0 := a0) (Or.inr (hw _ (List.mem_of_getElem? (i := 23) rfl))) (Or.inr (hw _ (List.mem_of_getElem? (i := 17) rfl))) (by decide) (t := .long) (t' := .int) (by decide) (by decide)))).other W5 (Or.inr (slot_ne (a0 := a0) (Or.inr (hw _ (List.mem_of_getElem? (i := 23) rfl))) (Or.inr (hw _ (List.mem_of_getElem? (i := 19) rfl))) (by decide) (t := .long) (t' := .long) (by decide) (by decide)))).other W8 (Or.inr (slot_ne (a0 := a0) (Or.inr (hw _ (List.mem_of_getElem? (i := 23) rfl))) (Or.inr (hw _ (List.mem_of_getElem? (i := 21) rfl))) (by decide) (t := .long) (t' := .long) (by decide) (by decide))))
  obtain ⟨T11, h11, X11, e11, W11, st11⟩ := putF X8 hx hZ hown (host := "") (Or.inl (hw _ (List.mem_of_getElem? (i := 22) rfl))) Via.refl e8 Fz10 Fz9 (Or.inr ⟨(hw _ (List.mem_of_getElem? (i := 23) rfl)), rfl, hnm⟩) (hw _ (List.mem_of_getElem? (i := 8) rfl)) (ty := .long) (by decide) rfl rfl (g := (mkF m 56 #[.val (.ref a), .val (.int q), .val (.long r), .second, .val (.long ev), .second, .val (.long x), .second] [(.long x), (.ref a)])) rfl rfl (hb hby own_d_prog_24_method_1_56)
  have Fw11 := Fz10.same W11
  have K11 : Keep h0 h11 [a] := K8.wr W11 (Or.inl (List.mem_of_getElem? (i := 0) rfl))
  have N11 := Fr.snoc X11 N8 ga
  have O11 := own_extW O8 W11 ga
  refine own_go (T11.setTop (mkF m 59 #[.val (.ref a), .val (.int q), .val (.long r), .second, .val (.long ev), .second, .val (.long x), .second] [])) (fun t_ k_ => st11 _ k_) ?_
  obtain ⟨fs, hr, hrun, hended, hW, hsame⟩ := X11.leave (v := none) (fun _ => rfl)
  refine ⟨_, _, X11.returnOut hx Bd.returns (hb hby own_d_prog_24_method_1_59) hr, hrun, hended, _, _, rfl, ?_, ⟨_, rfl⟩, hW, hsame.mono (by decide) (by decide)⟩
  show Q_ci Z a q r ev x h0 _ T11.heap _
  have Fz12 := (Fz9.wr W11)
  have Fz13 := (((Fw2.other W5 (Or.inr (slot_ne (a0 := a0) (Or.inr (hw _ (List.mem_of_getElem? (i := 17) rfl))) (Or.inr (hw _ (List.mem_of_getElem? (i := 19) rfl))) (by decide) (t := .int) (t' := .long) (by decide) (by decide)))).other W8 (Or.inr (slot_ne (a0 := a0) (Or.inr (hw _ (List.mem_of_getElem? (i := 17) rfl))) (Or.inr (hw _ (List.mem_of_getElem? (i := 21) rfl))) (by decide) (t := .int) (t' := .long) (by decide) (by decide)))).other W11 (Or.inr (slot_ne (a0 := a0) (Or.inr (hw _ (List.mem_of_getElem? (i := 17) rfl))) (Or.inr (hw _ (List.mem_of_getElem? (i := 23) rfl))) (by decide) (t := .int) (t' := .long) (by decide) (by decide))))
  have Fz14 := ((Fw5.other W8 (Or.inr (slot_ne (a0 := a0) (Or.inr (hw _ (List.mem_of_getElem? (i := 19) rfl))) (Or.inr (hw _ (List.mem_of_getElem? (i := 21) rfl))) (by decide) (t := .long) (t' := .long) (by decide) (by decide)))).other W11 (Or.inr (slot_ne (a0 := a0) (Or.inr (hw _ (List.mem_of_getElem? (i := 19) rfl))) (Or.inr (hw _ (List.mem_of_getElem? (i := 23) rfl))) (by decide) (t := .long) (t' := .long) (by decide) (by decide))))
  have Fz15 := (Fw8.other W11 (Or.inr (slot_ne (a0 := a0) (Or.inr (hw _ (List.mem_of_getElem? (i := 21) rfl))) (Or.inr (hw _ (List.mem_of_getElem? (i := 23) rfl))) (by decide) (t := .long) (t' := .long) (by decide) (by decide))))
  show Q_ci Z a q r ev x h0 _ T11.heap _
  rw [e11]
  exact ⟨rfl, N11, K11, Fz12, Fz13, Fz14, Fz15, Fw11⟩
theorem own_ef_eS (m : MethodId) (a : Addr) (b : Addr) : entryFrame m #[(.ref a), (.ref b)] 3 = mkF m 0 #[.val (.ref a), .val (.ref b), .unset] [] := by first | (simp [entryFrame, mkF, argsToLocals, Value.category]; done) | rfl
theorem own_d_prog_24_method_6_0 : decode prog_24_method_6_code 0 = .ok (.aload_n 1, 1) := by decide +kernel
theorem own_d_prog_24_method_6_1 : decode prog_24_method_6_code 1 = .ok (.instanceof 17, 3) := by decide +kernel
theorem own_d_prog_24_method_6_4 : decode prog_24_method_6_code 4 = .ok (.ifCond .eq 11, 3) := by decide +kernel
theorem own_d_prog_24_method_6_7 : decode prog_24_method_6_code 7 = .ok (.aload_n 1, 1) := by decide +kernel
theorem own_d_prog_24_method_6_8 : decode prog_24_method_6_code 8 = .ok (.checkcast 17, 3) := by decide +kernel
theorem own_d_prog_24_method_6_11 : decode prog_24_method_6_code 11 = .ok (.astore_n 2, 1) := by decide +kernel
theorem own_d_prog_24_method_6_12 : decode prog_24_method_6_code 12 = .ok (.goto 5, 3) := by decide +kernel
theorem own_d_prog_24_method_6_17 : decode prog_24_method_6_code 17 = .ok (.aload_n 0, 1) := by decide +kernel
theorem own_d_prog_24_method_6_18 : decode prog_24_method_6_code 18 = .ok (.getfield 16, 3) := by decide +kernel
theorem own_d_prog_24_method_6_21 : decode prog_24_method_6_code 21 = .ok (.aload_n 2, 1) := by decide +kernel
theorem own_d_prog_24_method_6_22 : decode prog_24_method_6_code 22 = .ok (.getfield 16, 3) := by decide +kernel
theorem own_d_prog_24_method_6_25 : decode prog_24_method_6_code 25 = .ok (.if_icmp .ne 43, 3) := by decide +kernel
theorem own_d_prog_24_method_6_28 : decode prog_24_method_6_code 28 = .ok (.aload_n 0, 1) := by decide +kernel
theorem own_d_prog_24_method_6_29 : decode prog_24_method_6_code 29 = .ok (.getfield 22, 3) := by decide +kernel
theorem own_d_prog_24_method_6_32 : decode prog_24_method_6_code 32 = .ok (.aload_n 2, 1) := by decide +kernel
theorem own_d_prog_24_method_6_33 : decode prog_24_method_6_code 33 = .ok (.getfield 22, 3) := by decide +kernel
theorem own_d_prog_24_method_6_36 : decode prog_24_method_6_code 36 = .ok (.lcmp, 1) := by decide +kernel
theorem own_d_prog_24_method_6_37 : decode prog_24_method_6_code 37 = .ok (.ifCond .ne 31, 3) := by decide +kernel
theorem own_d_prog_24_method_6_40 : decode prog_24_method_6_code 40 = .ok (.aload_n 0, 1) := by decide +kernel
theorem own_d_prog_24_method_6_41 : decode prog_24_method_6_code 41 = .ok (.getfield 26, 3) := by decide +kernel
theorem own_d_prog_24_method_6_44 : decode prog_24_method_6_code 44 = .ok (.aload_n 2, 1) := by decide +kernel
theorem own_d_prog_24_method_6_45 : decode prog_24_method_6_code 45 = .ok (.getfield 26, 3) := by decide +kernel
theorem own_d_prog_24_method_6_48 : decode prog_24_method_6_code 48 = .ok (.lcmp, 1) := by decide +kernel
theorem own_d_prog_24_method_6_49 : decode prog_24_method_6_code 49 = .ok (.ifCond .ne 19, 3) := by decide +kernel
theorem own_d_prog_24_method_6_52 : decode prog_24_method_6_code 52 = .ok (.aload_n 0, 1) := by decide +kernel
theorem own_d_prog_24_method_6_53 : decode prog_24_method_6_code 53 = .ok (.getfield 29, 3) := by decide +kernel
theorem own_d_prog_24_method_6_56 : decode prog_24_method_6_code 56 = .ok (.aload_n 2, 1) := by decide +kernel
theorem own_d_prog_24_method_6_57 : decode prog_24_method_6_code 57 = .ok (.getfield 29, 3) := by decide +kernel
theorem own_d_prog_24_method_6_60 : decode prog_24_method_6_code 60 = .ok (.lcmp, 1) := by decide +kernel
theorem own_d_prog_24_method_6_61 : decode prog_24_method_6_code 61 = .ok (.ifCond .ne 7, 3) := by decide +kernel
theorem own_d_prog_24_method_6_64 : decode prog_24_method_6_code 64 = .ok (.iconst 1, 1) := by decide +kernel
theorem own_d_prog_24_method_6_65 : decode prog_24_method_6_code 65 = .ok (.goto 4, 3) := by decide +kernel
theorem own_d_prog_24_method_6_69 : decode prog_24_method_6_code 69 = .ok (.ireturn, 1) := by decide +kernel
theorem own_d_prog_24_method_6_68 : decode prog_24_method_6_code 68 = .ok (.iconst 0, 1) := by decide +kernel
def Q_eS (Z : State) (a : Addr) (b : Addr) (q : Int32) (r : Int64) (ev : Int64) (x : Int64) (q' : Int32) (r' : Int64) (ev' : Int64) (x' : Int64) (h0 : Heap) (v_ : Option Value) (h : Heap) (L_ : List Loc) : Prop := v_ = some (.int (own_same q q' r r' ev ev' x x')) ∧ Fr Z.heap.size L_ ∧ (h = h0)
set_option maxRecDepth 65536 in
set_option maxHeartbeats 40000000 in
theorem rm_eS (l : Launch) (Z : State) (a0 : Array Value) (hw : ∀ d ∈ tables_1, d.before a0 Z = true) (ws : List Jvm.Cond) (a : Addr) (b : Addr) (q : Int32) (r : Int64) (ev : Int64) (x : Int64) (q' : Int32) (r' : Int64) (ev' : Int64) (x' : Int64) (h0 : Heap) (O : Ext Z.heap h0) (Xb : Exa Z h0 b "com/example/eager_quorum/eagerquorum/model/CriticalSection") (F0 : Fld Z h0 a "com/example/eager_quorum/eagerquorum/model/CriticalSection" "process" "I" (.int q)) (F1 : Fld Z h0 a "com/example/eager_quorum/eagerquorum/model/CriticalSection" "requested" "J" (.long r)) (F2 : Fld Z h0 a "com/example/eager_quorum/eagerquorum/model/CriticalSection" "entered" "J" (.long ev)) (F3 : Fld Z h0 a "com/example/eager_quorum/eagerquorum/model/CriticalSection" "exited" "J" (.long x)) (G0 : Fld Z h0 b "com/example/eager_quorum/eagerquorum/model/CriticalSection" "process" "I" (.int q')) (G1 : Fld Z h0 b "com/example/eager_quorum/eagerquorum/model/CriticalSection" "requested" "J" (.long r')) (G2 : Fld Z h0 b "com/example/eager_quorum/eagerquorum/model/CriticalSection" "entered" "J" (.long ev')) (G3 : Fld Z h0 b "com/example/eager_quorum/eagerquorum/model/CriticalSection" "exited" "J" (.long x')) :
    MetFree l (⟨"com/example/eager_quorum/eagerquorum/model/CriticalSection", "equals", "(Ljava/lang/Object;)Z"⟩ : MethodName) (head1 (Jvm.Cond.code (⟨"com/example/eager_quorum/eagerquorum/model/CriticalSection", "equals", "(Ljava/lang/Object;)Z"⟩ : MethodName) prog_24_method_6_code 3 (some .boolean) :: ws) ({ frames := 0, cells := 0, slots := 0, locals := 0 } : Room)) (fun a_ U_ => a_ = #[(.ref a), (.ref b)] ∧ Z.Warmed39 U_.vm ∧ U_.heap = h0) (fun _ _ _ _ _ => True) (fun _ U_ o_ U2_ => ∃ v_ L_, o_ = .returned v_ ∧ Q_eS Z a b q r ev x q' r' ev' x' h0 v_ U2_.heap L_ ∧ FrameEnd U_ o_ U2_ L_ ({ frames := 0, cells := 0, slots := 0, locals := 0 } : Room).cells ({ frames := 0, cells := 0, slots := 0, locals := 0 } : Room).slots) := by
  refine MetFree.of_bodySF (plainFor_of_name own_pn0) hisR ?_
  intro p e s m args below meth c s₁ Bd hml0 hP hK
  obtain ⟨rfl, hZ, hh⟩ := hP
  have hx := Bd.exec
  have hby := Bd.bytes
  have hml : c.maxLocals = 3 := hml0
  have hown : s.vm.findClass "com/example/eager_quorum/eagerquorum/model/CriticalSection" = some m.cls := findClass_of_methodNamed Bd.named
  have hnm := (name_of_methodNamed Bd.named Bd.method).1
  have X0 : Stand p l e ({ frames := 0, cells := 0, slots := 0, locals := 0 } : Room) s m #[(.ref a), (.ref b)] below meth c s₁ [] 0 0 := Stand.of_body Bd
  have e0 : s₁.heap = h0 := by rw [← hh, Bd.state]; rfl
  have N0 := Fr.nil Z.heap.size
  show own_G p e below (fun o_ s₂ => ∃ v_ L_, o_ = .returned v_ ∧ Q_eS Z a b q r ev x q' r' ev' x' h0 v_ s₂.heap L_ ∧ FrameEnd s o_ s₂ L_ ({ frames := 0, cells := 0, slots := 0, locals := 0 } : Room).cells ({ frames := 0, cells := 0, slots := 0, locals := 0 } : Room).slots) (s₁.setTop (entryFrame m #[(.ref a), (.ref b)] 3))
  refine own_go (s₁.setTop (mkF m 0 #[.val (.ref a), .val (.ref b), .unset] [])) (fun t_ k_ => castTop (own_ef_eS m a b) k_) ?_
  refine own_go (s₁.setTop (mkF m 1 #[.val (.ref a), .val (.ref b), .unset] [(.ref b)])) (fun t_ k_ => XS.aloadN X0.here hx rfl (hb hby own_d_prog_24_method_6_0) rfl rfl k_) ?_
  obtain ⟨T1, X1, e1, st1⟩ := instY X0 hx hZ hown (hw _ (List.mem_of_getElem? (i := 49) rfl)) e0 (Ins.self Xb) (g := (mkF m 1 #[.val (.ref a), .val (.ref b), .unset] [(.ref b)])) rfl rfl (hb hby own_d_prog_24_method_6_1)
  refine own_go (T1.setTop (mkF m 4 #[.val (.ref a), .val (.ref b), .unset] [(.int (1 : Int32))])) (fun t_ k_ => st1 _ k_) ?_
  refine own_go (T1.setTop (mkF m 7 #[.val (.ref a), .val (.ref b), .unset] [])) (fun t_ k_ => XS.ifNo X1.here hx rfl (hb hby own_d_prog_24_method_6_4) rfl ((if0 _ _).trans (feq (by decide : ¬ ((1 : Int32) = (0 : Int32)))).1) k_) ?_
  refine own_go (T1.setTop (mkF m 8 #[.val (.ref a), .val (.ref b), .unset] [(.ref b)])) (fun t_ k_ => XS.aloadN X1.here hx rfl (hb hby own_d_prog_24_method_6_7) rfl rfl k_) ?_
  obtain ⟨T2, X2, e2, st2⟩ := castY X1 hx hZ hown (hw _ (List.mem_of_getElem? (i := 49) rfl)) e1 (Ins.self Xb) (g := (mkF m 8 #[.val (.ref a), .val (.ref b), .unset] [(.ref b)])) rfl rfl (hb hby own_d_prog_24_method_6_8)
  refine own_go (T2.setTop (mkF m 11 #[.val (.ref a), .val (.ref b), .unset] [(.ref b)])) (fun t_ k_ => st2 _ k_) ?_
  refine own_go (T2.setTop (mkF m 12 #[.val (.ref a), .val (.ref b), .val (.ref b)] [])) (fun t_ k_ => XS.astoreN X2.here hx rfl (hb hby own_d_prog_24_method_6_11) rfl rfl (l' := #[.val (.ref a), .val (.ref b), .val (.ref b)]) rfl k_) ?_
  refine own_go (T2.setTop (mkF m 17 #[.val (.ref a), .val (.ref b), .val (.ref b)] [])) (fun t_ k_ => XS.goto X2.here hx rfl (pc0 := 12) (pc' := 17) rfl (hb hby own_d_prog_24_method_6_12) (by decide) (by decide) k_) ?_
  refine own_go (T2.setTop (mkF m 18 #[.val (.ref a), .val (.ref b), .val (.ref b)] [(.ref a)])) (fun t_ k_ => XS.aloadN X2.here hx rfl (hb hby own_d_prog_24_method_6_17) rfl rfl k_) ?_
  obtain ⟨T3, X3, e3, st3⟩ := getF X2 hx hZ hown (host := "") (Or.inl (hw _ (List.mem_of_getElem? (i := 16) rfl))) Via.refl e2 F0 (g := (mkF m 18 #[.val (.ref a), .val (.ref b), .val (.ref b)] [(.ref a)])) rfl rfl (hb hby own_d_prog_24_method_6_18)
  refine own_go (T3.setTop (mkF m 21 #[.val (.ref a), .val (.ref b), .val (.ref b)] [(.int q)])) (fun t_ k_ => st3 _ k_) ?_
  refine own_go (T3.setTop (mkF m 22 #[.val (.ref a), .val (.ref b), .val (.ref b)] [(.ref b), (.int q)])) (fun t_ k_ => XS.aloadN X3.here hx rfl (hb hby own_d_prog_24_method_6_21) rfl rfl k_) ?_
  obtain ⟨T4, X4, e4, st4⟩ := getF X3 hx hZ hown (host := "") (Or.inl (hw _ (List.mem_of_getElem? (i := 16) rfl))) Via.refl e3 G0 (g := (mkF m 22 #[.val (.ref a), .val (.ref b), .val (.ref b)] [(.ref b), (.int q)])) rfl rfl (hb hby own_d_prog_24_method_6_22)
  refine own_go (T4.setTop (mkF m 25 #[.val (.ref a), .val (.ref b), .val (.ref b)] [(.int q'), (.int q)])) (fun t_ k_ => st4 _ k_) ?_
  by_cases hc25_5 : q = q'
  ·
    refine own_go (T4.setTop (mkF m 28 #[.val (.ref a), .val (.ref b), .val (.ref b)] [])) (fun t_ k_ => XS.icmpNo X4.here hx rfl (hb hby own_d_prog_24_method_6_25) rfl (teq hc25_5).2 k_) ?_
    refine own_go (T4.setTop (mkF m 29 #[.val (.ref a), .val (.ref b), .val (.ref b)] [(.ref a)])) (fun t_ k_ => XS.aloadN X4.here hx rfl (hb hby own_d_prog_24_method_6_28) rfl rfl k_) ?_
    obtain ⟨T6, X6, e6, st6⟩ := getF X4 hx hZ hown (host := "") (Or.inl (hw _ (List.mem_of_getElem? (i := 18) rfl))) Via.refl e4 F1 (g := (mkF m 29 #[.val (.ref a), .val (.ref b), .val (.ref b)] [(.ref a)])) rfl rfl (hb hby own_d_prog_24_method_6_29)
    refine own_go (T6.setTop (mkF m 32 #[.val (.ref a), .val (.ref b), .val (.ref b)] [(.long r)])) (fun t_ k_ => st6 _ k_) ?_
    refine own_go (T6.setTop (mkF m 33 #[.val (.ref a), .val (.ref b), .val (.ref b)] [(.ref b), (.long r)])) (fun t_ k_ => XS.aloadN X6.here hx rfl (hb hby own_d_prog_24_method_6_32) rfl rfl k_) ?_
    obtain ⟨T7, X7, e7, st7⟩ := getF X6 hx hZ hown (host := "") (Or.inl (hw _ (List.mem_of_getElem? (i := 18) rfl))) Via.refl e6 G1 (g := (mkF m 33 #[.val (.ref a), .val (.ref b), .val (.ref b)] [(.ref b), (.long r)])) rfl rfl (hb hby own_d_prog_24_method_6_33)
    refine own_go (T7.setTop (mkF m 36 #[.val (.ref a), .val (.ref b), .val (.ref b)] [(.long r'), (.long r)])) (fun t_ k_ => st7 _ k_) ?_
    refine own_go (T7.setTop (mkF m 37 #[.val (.ref a), .val (.ref b), .val (.ref b)] [(.int (lcmpW r r'))])) (fun t_ k_ => XS.lcmp X7.here hx rfl (hb hby own_d_prog_24_method_6_36) rfl k_) ?_
    by_cases hc37_8 : r = r'
    ·
      refine own_go (T7.setTop (mkF m 40 #[.val (.ref a), .val (.ref b), .val (.ref b)] [])) (fun t_ k_ => XS.ifNo X7.here hx rfl (hb hby own_d_prog_24_method_6_37) rfl ((if0 _ _).trans (teq (own_eq.mpr hc37_8)).2) k_) ?_
      refine own_go (T7.setTop (mkF m 41 #[.val (.ref a), .val (.ref b), .val (.ref b)] [(.ref a)])) (fun t_ k_ => XS.aloadN X7.here hx rfl (hb hby own_d_prog_24_method_6_40) rfl rfl k_) ?_
      obtain ⟨T9, X9, e9, st9⟩ := getF X7 hx hZ hown (host := "") (Or.inl (hw _ (List.mem_of_getElem? (i := 20) rfl))) Via.refl e7 F2 (g := (mkF m 41 #[.val (.ref a), .val (.ref b), .val (.ref b)] [(.ref a)])) rfl rfl (hb hby own_d_prog_24_method_6_41)
      refine own_go (T9.setTop (mkF m 44 #[.val (.ref a), .val (.ref b), .val (.ref b)] [(.long ev)])) (fun t_ k_ => st9 _ k_) ?_
      refine own_go (T9.setTop (mkF m 45 #[.val (.ref a), .val (.ref b), .val (.ref b)] [(.ref b), (.long ev)])) (fun t_ k_ => XS.aloadN X9.here hx rfl (hb hby own_d_prog_24_method_6_44) rfl rfl k_) ?_
      obtain ⟨T10, X10, e10, st10⟩ := getF X9 hx hZ hown (host := "") (Or.inl (hw _ (List.mem_of_getElem? (i := 20) rfl))) Via.refl e9 G2 (g := (mkF m 45 #[.val (.ref a), .val (.ref b), .val (.ref b)] [(.ref b), (.long ev)])) rfl rfl (hb hby own_d_prog_24_method_6_45)
      refine own_go (T10.setTop (mkF m 48 #[.val (.ref a), .val (.ref b), .val (.ref b)] [(.long ev'), (.long ev)])) (fun t_ k_ => st10 _ k_) ?_
      refine own_go (T10.setTop (mkF m 49 #[.val (.ref a), .val (.ref b), .val (.ref b)] [(.int (lcmpW ev ev'))])) (fun t_ k_ => XS.lcmp X10.here hx rfl (hb hby own_d_prog_24_method_6_48) rfl k_) ?_
      by_cases hc49_11 : ev = ev'
      ·
        refine own_go (T10.setTop (mkF m 52 #[.val (.ref a), .val (.ref b), .val (.ref b)] [])) (fun t_ k_ => XS.ifNo X10.here hx rfl (hb hby own_d_prog_24_method_6_49) rfl ((if0 _ _).trans (teq (own_eq.mpr hc49_11)).2) k_) ?_
        refine own_go (T10.setTop (mkF m 53 #[.val (.ref a), .val (.ref b), .val (.ref b)] [(.ref a)])) (fun t_ k_ => XS.aloadN X10.here hx rfl (hb hby own_d_prog_24_method_6_52) rfl rfl k_) ?_
        obtain ⟨T12, X12, e12, st12⟩ := getF X10 hx hZ hown (host := "") (Or.inl (hw _ (List.mem_of_getElem? (i := 22) rfl))) Via.refl e10 F3 (g := (mkF m 53 #[.val (.ref a), .val (.ref b), .val (.ref b)] [(.ref a)])) rfl rfl (hb hby own_d_prog_24_method_6_53)
        refine own_go (T12.setTop (mkF m 56 #[.val (.ref a), .val (.ref b), .val (.ref b)] [(.long x)])) (fun t_ k_ => st12 _ k_) ?_
        refine own_go (T12.setTop (mkF m 57 #[.val (.ref a), .val (.ref b), .val (.ref b)] [(.ref b), (.long x)])) (fun t_ k_ => XS.aloadN X12.here hx rfl (hb hby own_d_prog_24_method_6_56) rfl rfl k_) ?_
        obtain ⟨T13, X13, e13, st13⟩ := getF X12 hx hZ hown (host := "") (Or.inl (hw _ (List.mem_of_getElem? (i := 22) rfl))) Via.refl e12 G3 (g := (mkF m 57 #[.val (.ref a), .val (.ref b), .val (.ref b)] [(.ref b), (.long x)])) rfl rfl (hb hby own_d_prog_24_method_6_57)
        refine own_go (T13.setTop (mkF m 60 #[.val (.ref a), .val (.ref b), .val (.ref b)] [(.long x'), (.long x)])) (fun t_ k_ => st13 _ k_) ?_
        refine own_go (T13.setTop (mkF m 61 #[.val (.ref a), .val (.ref b), .val (.ref b)] [(.int (lcmpW x x'))])) (fun t_ k_ => XS.lcmp X13.here hx rfl (hb hby own_d_prog_24_method_6_60) rfl k_) ?_
        by_cases hc61_14 : x = x'
        ·
          refine own_go (T13.setTop (mkF m 64 #[.val (.ref a), .val (.ref b), .val (.ref b)] [])) (fun t_ k_ => XS.ifNo X13.here hx rfl (hb hby own_d_prog_24_method_6_61) rfl ((if0 _ _).trans (teq (own_eq.mpr hc61_14)).2) k_) ?_
          refine own_go (T13.setTop (mkF m 65 #[.val (.ref a), .val (.ref b), .val (.ref b)] [(.int (1 : Int32))])) (fun t_ k_ => XS.iconst X13.here hx rfl (hb hby own_d_prog_24_method_6_64) k_) ?_
          refine own_go (T13.setTop (mkF m 69 #[.val (.ref a), .val (.ref b), .val (.ref b)] [(.int (1 : Int32))])) (fun t_ k_ => XS.goto X13.here hx rfl (pc0 := 65) (pc' := 69) rfl (hb hby own_d_prog_24_method_6_65) (by decide) (by decide) k_) ?_
          obtain ⟨fs, hr, hrun, hended, hW, hsame⟩ := X13.leave (v := some (.int (nar .boolean (1 : Int32)))) (fun h => by rw [Bd.returns] at h; cases h)
          refine ⟨_, _, retN X13 hx (t := .boolean) Bd.returns (by simp) (hb hby own_d_prog_24_method_6_69) hr, hrun, hended, _, _, rfl, ?_, ⟨_, rfl⟩, hW, hsame.mono (by decide) (by decide)⟩
          show Q_eS Z a b q r ev x q' r' ev' x' h0 _ T13.heap _
          exact ⟨by first | (simp [own_same, hc25_5, hc37_8, hc49_11, hc61_14]; done) | (simp [own_same, hc25_5, hc37_8, hc49_11, hc61_14]; rfl), N0, e13⟩
        ·
          refine own_go (T13.setTop (mkF m 68 #[.val (.ref a), .val (.ref b), .val (.ref b)] [])) (fun t_ k_ => XS.ifYes X13.here hx rfl (pc0 := 61) (pc' := 68) rfl (hb hby own_d_prog_24_method_6_61) rfl ((if0 _ _).trans (feq (fun q => hc61_14 (own_eq.mp q))).2) (by decide) (by decide) k_) ?_
          refine own_go (T13.setTop (mkF m 69 #[.val (.ref a), .val (.ref b), .val (.ref b)] [(.int (0 : Int32))])) (fun t_ k_ => XS.iconst X13.here hx rfl (hb hby own_d_prog_24_method_6_68) k_) ?_
          obtain ⟨fs, hr, hrun, hended, hW, hsame⟩ := X13.leave (v := some (.int (nar .boolean (0 : Int32)))) (fun h => by rw [Bd.returns] at h; cases h)
          refine ⟨_, _, retN X13 hx (t := .boolean) Bd.returns (by simp) (hb hby own_d_prog_24_method_6_69) hr, hrun, hended, _, _, rfl, ?_, ⟨_, rfl⟩, hW, hsame.mono (by decide) (by decide)⟩
          show Q_eS Z a b q r ev x q' r' ev' x' h0 _ T13.heap _
          exact ⟨by first | (simp [own_same, hc25_5, hc37_8, hc49_11, hc61_14]; done) | (simp [own_same, hc25_5, hc37_8, hc49_11, hc61_14]; rfl), N0, e13⟩
      ·
        refine own_go (T10.setTop (mkF m 68 #[.val (.ref a), .val (.ref b), .val (.ref b)] [])) (fun t_ k_ => XS.ifYes X10.here hx rfl (pc0 := 49) (pc' := 68) rfl (hb hby own_d_prog_24_method_6_49) rfl ((if0 _ _).trans (feq (fun q => hc49_11 (own_eq.mp q))).2) (by decide) (by decide) k_) ?_
        refine own_go (T10.setTop (mkF m 69 #[.val (.ref a), .val (.ref b), .val (.ref b)] [(.int (0 : Int32))])) (fun t_ k_ => XS.iconst X10.here hx rfl (hb hby own_d_prog_24_method_6_68) k_) ?_
        obtain ⟨fs, hr, hrun, hended, hW, hsame⟩ := X10.leave (v := some (.int (nar .boolean (0 : Int32)))) (fun h => by rw [Bd.returns] at h; cases h)
        refine ⟨_, _, retN X10 hx (t := .boolean) Bd.returns (by simp) (hb hby own_d_prog_24_method_6_69) hr, hrun, hended, _, _, rfl, ?_, ⟨_, rfl⟩, hW, hsame.mono (by decide) (by decide)⟩
        show Q_eS Z a b q r ev x q' r' ev' x' h0 _ T10.heap _
        exact ⟨by first | (simp [own_same, hc25_5, hc37_8, hc49_11]; done) | (simp [own_same, hc25_5, hc37_8, hc49_11]; rfl), N0, e10⟩
    ·
      refine own_go (T7.setTop (mkF m 68 #[.val (.ref a), .val (.ref b), .val (.ref b)] [])) (fun t_ k_ => XS.ifYes X7.here hx rfl (pc0 := 37) (pc' := 68) rfl (hb hby own_d_prog_24_method_6_37) rfl ((if0 _ _).trans (feq (fun q => hc37_8 (own_eq.mp q))).2) (by decide) (by decide) k_) ?_
      refine own_go (T7.setTop (mkF m 69 #[.val (.ref a), .val (.ref b), .val (.ref b)] [(.int (0 : Int32))])) (fun t_ k_ => XS.iconst X7.here hx rfl (hb hby own_d_prog_24_method_6_68) k_) ?_
      obtain ⟨fs, hr, hrun, hended, hW, hsame⟩ := X7.leave (v := some (.int (nar .boolean (0 : Int32)))) (fun h => by rw [Bd.returns] at h; cases h)
      refine ⟨_, _, retN X7 hx (t := .boolean) Bd.returns (by simp) (hb hby own_d_prog_24_method_6_69) hr, hrun, hended, _, _, rfl, ?_, ⟨_, rfl⟩, hW, hsame.mono (by decide) (by decide)⟩
      show Q_eS Z a b q r ev x q' r' ev' x' h0 _ T7.heap _
      exact ⟨by first | (simp [own_same, hc25_5, hc37_8]; done) | (simp [own_same, hc25_5, hc37_8]; rfl), N0, e7⟩
  ·
    refine own_go (T4.setTop (mkF m 68 #[.val (.ref a), .val (.ref b), .val (.ref b)] [])) (fun t_ k_ => XS.icmpYes X4.here hx rfl (pc0 := 25) (pc' := 68) rfl (hb hby own_d_prog_24_method_6_25) rfl (feq hc25_5).2 (by decide) (by decide) k_) ?_
    refine own_go (T4.setTop (mkF m 69 #[.val (.ref a), .val (.ref b), .val (.ref b)] [(.int (0 : Int32))])) (fun t_ k_ => XS.iconst X4.here hx rfl (hb hby own_d_prog_24_method_6_68) k_) ?_
    obtain ⟨fs, hr, hrun, hended, hW, hsame⟩ := X4.leave (v := some (.int (nar .boolean (0 : Int32)))) (fun h => by rw [Bd.returns] at h; cases h)
    refine ⟨_, _, retN X4 hx (t := .boolean) Bd.returns (by simp) (hb hby own_d_prog_24_method_6_69) hr, hrun, hended, _, _, rfl, ?_, ⟨_, rfl⟩, hW, hsame.mono (by decide) (by decide)⟩
    show Q_eS Z a b q r ev x q' r' ev' x' h0 _ T4.heap _
    exact ⟨by first | (simp [own_same, hc25_5]; done) | (simp [own_same, hc25_5]; rfl), N0, e4⟩
theorem own_ef_eN (m : MethodId) (a : Addr) : entryFrame m #[(.ref a), .null] 3 = mkF m 0 #[.val (.ref a), .val .null, .unset] [] := by first | (simp [entryFrame, mkF, argsToLocals, Value.category]; done) | rfl
theorem own_d_prog_24_method_6_15 : decode prog_24_method_6_code 15 = .ok (.iconst 0, 1) := by decide +kernel
theorem own_d_prog_24_method_6_16 : decode prog_24_method_6_code 16 = .ok (.ireturn, 1) := by decide +kernel
def Q_eN (Z : State) (a : Addr) (h0 : Heap) (v_ : Option Value) (h : Heap) (L_ : List Loc) : Prop := v_ = some (.int 0) ∧ Fr Z.heap.size L_ ∧ (h = h0)
set_option maxRecDepth 65536 in
set_option maxHeartbeats 40000000 in
theorem rm_eN (l : Launch) (Z : State) (a0 : Array Value) (hw : ∀ d ∈ tables_1, d.before a0 Z = true) (ws : List Jvm.Cond) (a : Addr) (h0 : Heap) (O : Ext Z.heap h0) :
    MetFree l (⟨"com/example/eager_quorum/eagerquorum/model/CriticalSection", "equals", "(Ljava/lang/Object;)Z"⟩ : MethodName) (head1 (Jvm.Cond.code (⟨"com/example/eager_quorum/eagerquorum/model/CriticalSection", "equals", "(Ljava/lang/Object;)Z"⟩ : MethodName) prog_24_method_6_code 3 (some .boolean) :: ws) ({ frames := 0, cells := 0, slots := 0, locals := 0 } : Room)) (fun a_ U_ => a_ = #[(.ref a), .null] ∧ Z.Warmed39 U_.vm ∧ U_.heap = h0) (fun _ _ _ _ _ => True) (fun _ U_ o_ U2_ => ∃ v_ L_, o_ = .returned v_ ∧ Q_eN Z a h0 v_ U2_.heap L_ ∧ FrameEnd U_ o_ U2_ L_ ({ frames := 0, cells := 0, slots := 0, locals := 0 } : Room).cells ({ frames := 0, cells := 0, slots := 0, locals := 0 } : Room).slots) := by
  refine MetFree.of_bodySF (plainFor_of_name own_pn0) hisR ?_
  intro p e s m args below meth c s₁ Bd hml0 hP hK
  obtain ⟨rfl, hZ, hh⟩ := hP
  have hx := Bd.exec
  have hby := Bd.bytes
  have hml : c.maxLocals = 3 := hml0
  have hown : s.vm.findClass "com/example/eager_quorum/eagerquorum/model/CriticalSection" = some m.cls := findClass_of_methodNamed Bd.named
  have hnm := (name_of_methodNamed Bd.named Bd.method).1
  have X0 : Stand p l e ({ frames := 0, cells := 0, slots := 0, locals := 0 } : Room) s m #[(.ref a), .null] below meth c s₁ [] 0 0 := Stand.of_body Bd
  have e0 : s₁.heap = h0 := by rw [← hh, Bd.state]; rfl
  have N0 := Fr.nil Z.heap.size
  show own_G p e below (fun o_ s₂ => ∃ v_ L_, o_ = .returned v_ ∧ Q_eN Z a h0 v_ s₂.heap L_ ∧ FrameEnd s o_ s₂ L_ ({ frames := 0, cells := 0, slots := 0, locals := 0 } : Room).cells ({ frames := 0, cells := 0, slots := 0, locals := 0 } : Room).slots) (s₁.setTop (entryFrame m #[(.ref a), .null] 3))
  refine own_go (s₁.setTop (mkF m 0 #[.val (.ref a), .val .null, .unset] [])) (fun t_ k_ => castTop (own_ef_eN m a) k_) ?_
  refine own_go (s₁.setTop (mkF m 1 #[.val (.ref a), .val .null, .unset] [.null])) (fun t_ k_ => XS.aloadN X0.here hx rfl (hb hby own_d_prog_24_method_6_0) rfl rfl k_) ?_
  refine own_go (s₁.setTop (mkF m 4 #[.val (.ref a), .val .null, .unset] [(.int (0 : Int32))])) (fun t_ k_ => X0.instanceofNull hx (g := (mkF m 1 #[.val (.ref a), .val .null, .unset] [.null])) rfl rfl (hb hby own_d_prog_24_method_6_1) _ k_) ?_
  refine own_go (s₁.setTop (mkF m 15 #[.val (.ref a), .val .null, .unset] [])) (fun t_ k_ => XS.ifYes X0.here hx rfl (pc0 := 4) (pc' := 15) rfl (hb hby own_d_prog_24_method_6_4) rfl ((if0 _ _).trans (teq (by decide : (0 : Int32) = (0 : Int32))).1) (by decide) (by decide) k_) ?_
  refine own_go (s₁.setTop (mkF m 16 #[.val (.ref a), .val .null, .unset] [(.int (0 : Int32))])) (fun t_ k_ => XS.iconst X0.here hx rfl (hb hby own_d_prog_24_method_6_15) k_) ?_
  obtain ⟨fs, hr, hrun, hended, hW, hsame⟩ := X0.leave (v := some (.int (nar .boolean (0 : Int32)))) (fun h => by rw [Bd.returns] at h; cases h)
  refine ⟨_, _, retN X0 hx (t := .boolean) Bd.returns (by simp) (hb hby own_d_prog_24_method_6_16) hr, hrun, hended, _, _, rfl, ?_, ⟨_, rfl⟩, hW, hsame.mono (by decide) (by decide)⟩
  show Q_eN Z a h0 _ s₁.heap _
  exact ⟨rfl, N0, e0⟩
theorem own_root {Z : State} {a0 : Array Value} {O K : String} {n : Nat} (w : (Cond.noSuperclass O).before a0 Z = true) (wk : (Cond.instantiable K n).before a0 Z = true) (hn : O ≠ K) : NS Z O K := by
  obtain ⟨c, k, h1, h2, h3, -, -⟩ := Cond.noSuperclass_spec w
  obtain ⟨t, kt, g1, -⟩ := Cond.instantiable_spec wk
  have ne := ids_ne h1 g1 hn
  refine ⟨c, t, h1, g1, fun fuel => ?_⟩
  cases fuel with
  | zero => rfl
  | succ f => simp [Vm.isSubclassAux, ne, h2, h3]
theorem own_no {Z : State} {a0 : Array Value} {C S K : String} {n : Nat} (w : (Cond.superclass C S).before a0 Z = true) (wk : (Cond.instantiable K n).before a0 Z = true) (q : NS Z C K) (hn : C ≠ K) : ∃ c t, Z.vm.findClass C = some c ∧ Z.vm.findClass K = some t ∧ Z.vm.assignable c t = false := by
  obtain ⟨c, t, h0, g0, n3⟩ := q
  obtain ⟨p, k, kp, h1, h2, h3, h4, h5, -, h7⟩ := Cond.superclass_spec h0 w
  obtain ⟨t', k', g1, g2, g5, g7, -⟩ := Cond.instantiable_spec wk
  cases g0.symm.trans g1
  have ne := ids_ne h0 g0 hn
  have g8 : k'.isInterface = false := (Bool.or_eq_false_iff.mp g7).1
  refine ⟨c, t, h0, g0, ?_⟩
  show Z.vm.assignableAux (255 + 1) c t = false
  simp [Vm.assignableAux, ne, h2, g2, h5, g5, g8, Vm.isSubclass, n3]
theorem own_ef_eL (m : MethodId) (a : Addr) (b : Addr) : entryFrame m #[(.ref a), (.ref b)] 3 = mkF m 0 #[.val (.ref a), .val (.ref b), .unset] [] := by first | (simp [entryFrame, mkF, argsToLocals, Value.category]; done) | rfl
def Q_eL (Z : State) (a : Addr) (b : Addr) (h0 : Heap) (v_ : Option Value) (h : Heap) (L_ : List Loc) : Prop := v_ = some (.int 0) ∧ Fr Z.heap.size L_ ∧ (h = h0)
set_option maxRecDepth 65536 in
set_option maxHeartbeats 40000000 in
theorem rm_eL (l : Launch) (Z : State) (a0 : Array Value) (hw : ∀ d ∈ tables_1, d.before a0 Z = true) (ws : List Jvm.Cond) (a : Addr) (b : Addr) (h0 : Heap) (O : Ext Z.heap h0) (Xb : Exa Z h0 b "java/lang/Long") :
    MetFree l (⟨"com/example/eager_quorum/eagerquorum/model/CriticalSection", "equals", "(Ljava/lang/Object;)Z"⟩ : MethodName) (head1 (Jvm.Cond.code (⟨"com/example/eager_quorum/eagerquorum/model/CriticalSection", "equals", "(Ljava/lang/Object;)Z"⟩ : MethodName) prog_24_method_6_code 3 (some .boolean) :: ws) ({ frames := 0, cells := 0, slots := 0, locals := 0 } : Room)) (fun a_ U_ => a_ = #[(.ref a), (.ref b)] ∧ Z.Warmed39 U_.vm ∧ U_.heap = h0) (fun _ _ _ _ _ => True) (fun _ U_ o_ U2_ => ∃ v_ L_, o_ = .returned v_ ∧ Q_eL Z a b h0 v_ U2_.heap L_ ∧ FrameEnd U_ o_ U2_ L_ ({ frames := 0, cells := 0, slots := 0, locals := 0 } : Room).cells ({ frames := 0, cells := 0, slots := 0, locals := 0 } : Room).slots) := by
  refine MetFree.of_bodySF (plainFor_of_name own_pn0) hisR ?_
  intro p e s m args below meth c s₁ Bd hml0 hP hK
  obtain ⟨rfl, hZ, hh⟩ := hP
  have hx := Bd.exec
  have hby := Bd.bytes
  have hml : c.maxLocals = 3 := hml0
  have hown : s.vm.findClass "com/example/eager_quorum/eagerquorum/model/CriticalSection" = some m.cls := findClass_of_methodNamed Bd.named
  have hnm := (name_of_methodNamed Bd.named Bd.method).1
  have X0 : Stand p l e ({ frames := 0, cells := 0, slots := 0, locals := 0 } : Room) s m #[(.ref a), (.ref b)] below meth c s₁ [] 0 0 := Stand.of_body Bd
  have e0 : s₁.heap = h0 := by rw [← hh, Bd.state]; rfl
  have N0 := Fr.nil Z.heap.size
  show own_G p e below (fun o_ s₂ => ∃ v_ L_, o_ = .returned v_ ∧ Q_eL Z a b h0 v_ s₂.heap L_ ∧ FrameEnd s o_ s₂ L_ ({ frames := 0, cells := 0, slots := 0, locals := 0 } : Room).cells ({ frames := 0, cells := 0, slots := 0, locals := 0 } : Room).slots) (s₁.setTop (entryFrame m #[(.ref a), (.ref b)] 3))
  refine own_go (s₁.setTop (mkF m 0 #[.val (.ref a), .val (.ref b), .unset] [])) (fun t_ k_ => castTop (own_ef_eL m a b) k_) ?_
  refine own_go (s₁.setTop (mkF m 1 #[.val (.ref a), .val (.ref b), .unset] [(.ref b)])) (fun t_ k_ => XS.aloadN X0.here hx rfl (hb hby own_d_prog_24_method_6_0) rfl rfl k_) ?_
  obtain ⟨T1, X1, e1, st1⟩ := instNo X0 hx hZ hown (hw _ (List.mem_of_getElem? (i := 49) rfl)) e0 Xb (own_no (hw _ (List.mem_of_getElem? (i := 51) rfl)) (hw _ (List.mem_of_getElem? (i := 8) rfl)) (NS.step (hw _ (List.mem_of_getElem? (i := 51) rfl)) (NS.step (hw _ (List.mem_of_getElem? (i := 52) rfl)) (own_root (hw _ (List.mem_of_getElem? (i := 53) rfl)) (hw _ (List.mem_of_getElem? (i := 8) rfl)) (by decide)) (by decide)) (by decide)) (by decide)) (g := (mkF m 1 #[.val (.ref a), .val (.ref b), .unset] [(.ref b)])) rfl rfl (hb hby own_d_prog_24_method_6_1)
  refine own_go (T1.setTop (mkF m 4 #[.val (.ref a), .val (.ref b), .unset] [(.int (0 : Int32))])) (fun t_ k_ => st1 _ k_) ?_
  refine own_go (T1.setTop (mkF m 15 #[.val (.ref a), .val (.ref b), .unset] [])) (fun t_ k_ => XS.ifYes X1.here hx rfl (pc0 := 4) (pc' := 15) rfl (hb hby own_d_prog_24_method_6_4) rfl ((if0 _ _).trans (teq (by decide : (0 : Int32) = (0 : Int32))).1) (by decide) (by decide) k_) ?_
  refine own_go (T1.setTop (mkF m 16 #[.val (.ref a), .val (.ref b), .unset] [(.int (0 : Int32))])) (fun t_ k_ => XS.iconst X1.here hx rfl (hb hby own_d_prog_24_method_6_15) k_) ?_
  obtain ⟨fs, hr, hrun, hended, hW, hsame⟩ := X1.leave (v := some (.int (nar .boolean (0 : Int32)))) (fun h => by rw [Bd.returns] at h; cases h)
  refine ⟨_, _, retN X1 hx (t := .boolean) Bd.returns (by simp) (hb hby own_d_prog_24_method_6_16) hr, hrun, hended, _, _, rfl, ?_, ⟨_, rfl⟩, hW, hsame.mono (by decide) (by decide)⟩
  show Q_eL Z a b h0 _ T1.heap _
  exact ⟨rfl, N0, e1⟩
theorem own_pn1 : plainName "java/lang/Number" = true := by first | (simp [plainName, overriddenIn]; done) | decide +kernel
theorem own_ef_ni (m : MethodId) (a : Addr) : entryFrame m #[(.ref a)] 1 = mkF m 0 #[.val (.ref a)] [] := by first | (simp [entryFrame, mkF, argsToLocals, Value.category]; done) | rfl
theorem own_d_jdk_18_method_1_0 : decode jdk_18_method_1_code 0 = .ok (.aload_n 0, 1) := by decide +kernel
theorem own_d_jdk_18_method_1_1 : decode jdk_18_method_1_code 1 = .ok (.invokespecial 1, 3) := by decide +kernel
theorem own_d_jdk_18_method_1_4 : decode jdk_18_method_1_code 4 = .ok (.return_, 1) := by decide +kernel
def Q_ni (Z : State) (a : Addr) (h0 : Heap) (v_ : Option Value) (h : Heap) (L_ : List Loc) : Prop := v_ = none ∧ Fr Z.heap.size L_ ∧ (h = h0)
set_option maxRecDepth 65536 in
set_option maxHeartbeats 40000000 in
theorem rm_ni (l : Launch) (Z : State) (a0 : Array Value) (hw : ∀ d ∈ tables_1, d.before a0 Z = true) (ws : List Jvm.Cond) (a : Addr) (h0 : Heap) (O : Ext Z.heap h0) :
    MetFree l (⟨"java/lang/Number", "<init>", "()V"⟩ : MethodName) (head1 (Jvm.Cond.code (⟨"java/lang/Number", "<init>", "()V"⟩ : MethodName) jdk_18_method_1_code 1 none :: ws) ({ frames := 1, cells := 0, slots := 0, locals := 12 } : Room)) (fun a_ U_ => a_ = #[(.ref a)] ∧ Z.Warmed39 U_.vm ∧ U_.heap = h0) (fun _ _ _ _ _ => True) (fun _ U_ o_ U2_ => ∃ v_ L_, o_ = .returned v_ ∧ Q_ni Z a h0 v_ U2_.heap L_ ∧ FrameEnd U_ o_ U2_ L_ ({ frames := 1, cells := 0, slots := 0, locals := 12 } : Room).cells ({ frames := 1, cells := 0, slots := 0, locals := 12 } : Room).slots) := by
  refine MetFree.of_bodySF (plainFor_of_name own_pn1) hisR ?_
  intro p e s m args below meth c s₁ Bd hml0 hP hK
  obtain ⟨rfl, hZ, hh⟩ := hP
  have hx := Bd.exec
  have hby := Bd.bytes
  have hml : c.maxLocals = 1 := hml0
  have hown : s.vm.findClass "java/lang/Number" = some m.cls := findClass_of_methodNamed Bd.named
  have hnm := (name_of_methodNamed Bd.named Bd.method).1
  have X0 : Stand p l e ({ frames := 1, cells := 0, slots := 0, locals := 12 } : Room) s m #[(.ref a)] below meth c s₁ [] 0 0 := Stand.of_body Bd
  have e0 : s₁.heap = h0 := by rw [← hh, Bd.state]; rfl
  have N0 := Fr.nil Z.heap.size
  show own_G p e below (fun o_ s₂ => ∃ v_ L_, o_ = .returned v_ ∧ Q_ni Z a h0 v_ s₂.heap L_ ∧ FrameEnd s o_ s₂ L_ ({ frames := 1, cells := 0, slots := 0, locals := 12 } : Room).cells ({ frames := 1, cells := 0, slots := 0, locals := 12 } : Room).slots) (s₁.setTop (entryFrame m #[(.ref a)] 1))
  refine own_go (s₁.setTop (mkF m 0 #[.val (.ref a)] [])) (fun t_ k_ => castTop (own_ef_ni m a) k_) ?_
  refine own_go (s₁.setTop (mkF m 1 #[.val (.ref a)] [(.ref a)])) (fun t_ k_ => XS.aloadN X0.here hx rfl (hb hby own_d_jdk_18_method_1_0) rfl rfl k_) ?_
  obtain ⟨T1, X1, e1, st1⟩ := initO X0 hx hZ hown (hw _ (List.mem_of_getElem? (i := 41) rfl)) (hw _ (List.mem_of_getElem? (i := 14) rfl)) (hw _ (List.mem_of_getElem? (i := 15) rfl)) e0 (g := (mkF m 1 #[.val (.ref a)] [(.ref a)])) rfl (by rw [hml]; rfl) rfl (hb hby own_d_jdk_18_method_1_1) (by decide) (W := 0) (by show 2 * 0 + _ ≤ _; exact Nat.le_of_eq rfl) (by decide)
  refine own_go (T1.setTop (mkF m 4 #[.val (.ref a)] [])) (fun t_ k_ => st1 _ k_) ?_
  obtain ⟨fs, hr, hrun, hended, hW, hsame⟩ := X1.leave (v := none) (fun _ => rfl)
  refine ⟨_, _, X1.returnOut hx Bd.returns (hb hby own_d_jdk_18_method_1_4) hr, hrun, hended, _, _, rfl, ?_, ⟨_, rfl⟩, hW, hsame.mono (by decide) (by decide)⟩
  show Q_ni Z a h0 _ T1.heap _
  exact ⟨rfl, N0, e1⟩
theorem own_pn2 : plainName "java/lang/Long" = true := by first | (simp [plainName, overriddenIn]; done) | decide +kernel
theorem own_ef_li (m : MethodId) (a : Addr) (x : Int64) : entryFrame m #[(.ref a), (.long x)] 3 = mkF m 0 #[.val (.ref a), .val (.long x), .second] [] := by first | (simp [entryFrame, mkF, argsToLocals, Value.category]; done) | rfl
theorem own_d_jdk_35_method_26_0 : decode jdk_35_method_26_code 0 = .ok (.aload_n 0, 1) := by decide +kernel
theorem own_d_jdk_35_method_26_1 : decode jdk_35_method_26_code 1 = .ok (.invokespecial 270, 3) := by decide +kernel
theorem own_pd0 : parseMethodDescriptor "()V" = some ⟨[], none⟩ := by decide +kernel
theorem own_d_jdk_35_method_26_4 : decode jdk_35_method_26_code 4 = .ok (.aload_n 0, 1) := by decide +kernel
theorem own_d_jdk_35_method_26_5 : decode jdk_35_method_26_code 5 = .ok (.lload_n 1, 1) := by decide +kernel
theorem own_d_jdk_35_method_26_6 : decode jdk_35_method_26_code 6 = .ok (.putfield 273, 3) := by decide +kernel
theorem own_d_jdk_35_method_26_9 : decode jdk_35_method_26_code 9 = .ok (.return_, 1) := by decide +kernel
def Q_li (Z : State) (a : Addr) (x : Int64) (h0 : Heap) (v_ : Option Value) (h : Heap) (L_ : List Loc) : Prop := v_ = none ∧ Fr Z.heap.size L_ ∧ (Keep h0 h [a] ∧ Exa Z h a "java/lang/Long")
set_option maxRecDepth 65536 in
set_option maxHeartbeats 40000000 in
theorem rm_li (l : Launch) (Z : State) (a0 : Array Value) (hw : ∀ d ∈ tables_1, d.before a0 Z = true) (ws : List Jvm.Cond) (a : Addr) (x : Int64) (h0 : Heap) (O : Ext Z.heap h0) (X : Exa Z h0 a "java/lang/Long") (F : Fld Z h0 a "java/lang/Long" "value" "J" (.long (0 : Int64))) (ga : Z.heap.size ≤ a) :
    MetFree l (⟨"java/lang/Long", "<init>", "(J)V"⟩ : MethodName) (head1 (Jvm.Cond.code (⟨"java/lang/Long", "<init>", "(J)V"⟩ : MethodName) jdk_35_method_26_code 3 none :: ws) ({ frames := 2, cells := 0, slots := 0, locals := 24 } : Room)) (fun a_ U_ => a_ = #[(.ref a), (.long x)] ∧ Z.Warmed39 U_.vm ∧ U_.heap = h0) (fun _ _ _ _ _ => True) (fun _ U_ o_ U2_ => ∃ v_ L_, o_ = .returned v_ ∧ Q_li Z a x h0 v_ U2_.heap L_ ∧ FrameEnd U_ o_ U2_ L_ ({ frames := 2, cells := 0, slots := 0, locals := 24 } : Room).cells ({ frames := 2, cells := 0, slots := 0, locals := 24 } : Room).slots) := by
  refine MetFree.of_bodySF (plainFor_of_name own_pn2) hisR ?_
  intro p e s m args below meth c s₁ Bd hml0 hP hK
  obtain ⟨rfl, hZ, hh⟩ := hP
  have hx := Bd.exec
  have hby := Bd.bytes
  have hml : c.maxLocals = 3 := hml0
  have hown : s.vm.findClass "java/lang/Long" = some m.cls := findClass_of_methodNamed Bd.named
  have hnm := (name_of_methodNamed Bd.named Bd.method).1
  have X0 : Stand p l e ({ frames := 2, cells := 0, slots := 0, locals := 24 } : Room) s m #[(.ref a), (.long x)] below meth c s₁ [] 0 0 := Stand.of_body Bd
  have e0 : s₁.heap = h0 := by rw [← hh, Bd.state]; rfl
  have N0 := Fr.nil Z.heap.size
  show own_G p e below (fun o_ s₂ => ∃ v_ L_, o_ = .returned v_ ∧ Q_li Z a x h0 v_ s₂.heap L_ ∧ FrameEnd s o_ s₂ L_ ({ frames := 2, cells := 0, slots := 0, locals := 24 } : Room).cells ({ frames := 2, cells := 0, slots := 0, locals := 24 } : Room).slots) (s₁.setTop (entryFrame m #[(.ref a), (.long x)] 3))
  refine own_go (s₁.setTop (mkF m 0 #[.val (.ref a), .val (.long x), .second] [])) (fun t_ k_ => castTop (own_ef_li m a x) k_) ?_
  refine own_go (s₁.setTop (mkF m 1 #[.val (.ref a), .val (.long x), .second] [(.ref a)])) (fun t_ k_ => XS.aloadN X0.here hx rfl (hb hby own_d_jdk_35_method_26_0) rfl rfl k_) ?_
  obtain ⟨_, _, ⟨T1, Lu1, ku1, nu1⟩, -, X1, ⟨Lc1, hQ1, lu1, yu1, zu1⟩, st1⟩ := X0.specialBack hx (y := (⟨"java/lang/Number", "<init>", "()V"⟩ : MethodName)) rfl hown (mvT hZ (hw _ (List.mem_of_getElem? (i := 35) rfl))) (mvT hZ (hw _ (List.mem_of_getElem? (i := 36) rfl))) (mvT hZ (hw _ (List.mem_of_getElem? (i := 40) rfl))) (by decide) (backOf (W := 0) (rm_ni l Z a0 hw [] (a) h0 O ) hZ (hw _ (List.mem_of_getElem? (i := 40) rfl)) (hw _ (List.mem_of_getElem? (i := 39) rfl)) (by decide) (by decide)) (g := (mkF m 1 #[.val (.ref a), .val (.long x), .second] [(.ref a)])) rfl (by rw [hml]; rfl) (Steps.refl _) (a := a) (argsL := []) (rest := []) (lenOf own_pd0 rfl) rfl (by show 2 * 0 + _ ≤ _; exact Nat.le_of_eq rfl) (hb hby own_d_jdk_35_method_26_1) (fun _ _ => ⟨rfl, e0, (by decide : 0 + 0 ≤ _), (by decide : 0 + 0 ≤ _)⟩)
  dsimp only [Pt.U, Pt.locs, Pt.cells, Pt.slots] at X1 lu1 yu1 zu1 st1 hQ1
  subst lu1 yu1 zu1
  obtain ⟨rfl, N1q, e1⟩ := hQ1
  have N1 := Fr.app N0 N1q
  refine own_go (T1.setTop (mkF m 4 #[.val (.ref a), .val (.long x), .second] [])) (fun t_ k_ => st1.trans k_) ?_
  refine own_go (T1.setTop (mkF m 5 #[.val (.ref a), .val (.long x), .second] [(.ref a)])) (fun t_ k_ => XS.aloadN X1.here hx rfl (hb hby own_d_jdk_35_method_26_4) rfl rfl k_) ?_
  refine own_go (T1.setTop (mkF m 6 #[.val (.ref a), .val (.long x), .second] [(.long x), (.ref a)])) (fun t_ k_ => XS.lloadN X1.here hx rfl (hb hby own_d_jdk_35_method_26_5) rfl k_) ?_
  obtain ⟨T2, h2, X2, e2, W2, st2⟩ := putF X1 hx hZ hown (host := "") (Or.inl (hw _ (List.mem_of_getElem? (i := 42) rfl))) Via.refl e1 F X (Or.inr ⟨(hw _ (List.mem_of_getElem? (i := 43) rfl)), rfl, hnm⟩) (hw _ (List.mem_of_getElem? (i := 30) rfl)) (ty := .long) (by decide) rfl rfl (g := (mkF m 6 #[.val (.ref a), .val (.long x), .second] [(.long x), (.ref a)])) rfl rfl (hb hby own_d_jdk_35_method_26_6)
  have Fw2 := F.same W2
  have K2 : Keep h0 h2 [a] := (Keep.refl h0 [a]).wr W2 (Or.inl (List.mem_of_getElem? (i := 0) rfl))
  have N2 := Fr.snoc X2 N1 ga
  have O2 := own_extW O W2 ga
  refine own_go (T2.setTop (mkF m 9 #[.val (.ref a), .val (.long x), .second] [])) (fun t_ k_ => st2 _ k_) ?_
  obtain ⟨fs, hr, hrun, hended, hW, hsame⟩ := X2.leave (v := none) (fun _ => rfl)
  refine ⟨_, _, X2.returnOut hx Bd.returns (hb hby own_d_jdk_35_method_26_9) hr, hrun, hended, _, _, rfl, ?_, ⟨_, rfl⟩, hW, hsame.mono (by decide) (by decide)⟩
  show Q_li Z a x h0 _ T2.heap _
  have Fz3 := (X.wr W2)
  show Q_li Z a x h0 _ T2.heap _
  rw [e2]
  exact ⟨rfl, N2, K2, Fz3⟩
theorem own_ef_lv (m : MethodId) (x : Int64) : entryFrame m #[(.long x)] 3 = mkF m 0 #[.val (.long x), .second, .unset] [] := by first | (simp [entryFrame, mkF, argsToLocals, Value.category]; done) | rfl
theorem own_d_jdk_35_method_24_0 : decode jdk_35_method_24_code 0 = .ok (.sipush 128, 3) := by decide +kernel
theorem own_d_jdk_35_method_24_3 : decode jdk_35_method_24_code 3 = .ok (.istore_n 2, 1) := by decide +kernel
theorem own_d_jdk_35_method_24_4 : decode jdk_35_method_24_code 4 = .ok (.lload_n 0, 1) := by decide +kernel
theorem own_d_jdk_35_method_24_5 : decode jdk_35_method_24_code 5 = .ok (.ldc2_w 230, 3) := by decide +kernel
theorem own_d_jdk_35_method_24_8 : decode jdk_35_method_24_code 8 = .ok (.lcmp, 1) := by decide +kernel
theorem own_d_jdk_35_method_24_9 : decode jdk_35_method_24_code 9 = .ok (.ifCond .lt 22, 3) := by decide +kernel
theorem own_d_jdk_35_method_24_31 : decode jdk_35_method_24_code 31 = .ok (.new 1, 3) := by decide +kernel
theorem own_d_jdk_35_method_24_34 : decode jdk_35_method_24_code 34 = .ok (.dup, 1) := by decide +kernel
theorem own_d_jdk_35_method_24_35 : decode jdk_35_method_24_code 35 = .ok (.lload_n 0, 1) := by decide +kernel
theorem own_d_jdk_35_method_24_36 : decode jdk_35_method_24_code 36 = .ok (.invokespecial 240, 3) := by decide +kernel
theorem own_pd1 : parseMethodDescriptor "(J)V" = some ⟨[.long], none⟩ := by decide +kernel
theorem own_d_jdk_35_method_24_39 : decode jdk_35_method_24_code 39 = .ok (.areturn, 1) := by decide +kernel
theorem own_d_jdk_35_method_24_12 : decode jdk_35_method_24_code 12 = .ok (.lload_n 0, 1) := by decide +kernel
theorem own_d_jdk_35_method_24_13 : decode jdk_35_method_24_code 13 = .ok (.ldc2_w 232, 3) := by decide +kernel
theorem own_d_jdk_35_method_24_16 : decode jdk_35_method_24_code 16 = .ok (.lcmp, 1) := by decide +kernel
theorem own_d_jdk_35_method_24_17 : decode jdk_35_method_24_code 17 = .ok (.ifCond .gt 14, 3) := by decide +kernel
theorem own_d_jdk_35_method_24_20 : decode jdk_35_method_24_code 20 = .ok (.getstatic 234, 3) := by decide +kernel
theorem own_d_jdk_35_method_24_23 : decode jdk_35_method_24_code 23 = .ok (.lload_n 0, 1) := by decide +kernel
theorem own_d_jdk_35_method_24_24 : decode jdk_35_method_24_code 24 = .ok (.l2i, 1) := by decide +kernel
theorem own_d_jdk_35_method_24_25 : decode jdk_35_method_24_code 25 = .ok (.sipush 128, 3) := by decide +kernel
theorem own_d_jdk_35_method_24_28 : decode jdk_35_method_24_code 28 = .ok (.iadd, 1) := by decide +kernel
theorem own_d_jdk_35_method_24_29 : decode jdk_35_method_24_code 29 = .ok (.aaload, 1) := by decide +kernel
theorem own_d_jdk_35_method_24_30 : decode jdk_35_method_24_code 30 = .ok (.areturn, 1) := by decide +kernel
def Q_lv (Z : State) (x : Int64) (a_cache : Addr) (cl_cache : Cell) (h0 : Heap) (v_ : Option Value) (h : Heap) (L_ : List Loc) : Prop := ∃ (o : Addr), v_ = some (.ref o) ∧ Fr Z.heap.size L_ ∧ (Keep h0 h [] ∧ Exa Z h o "java/lang/Long")
set_option maxRecDepth 65536 in
set_option maxHeartbeats 40000000 in
theorem rm_lv (l : Launch) (Z : State) (a0 : Array Value) (hw : ∀ d ∈ tables_1, d.before a0 Z = true) (ws : List Jvm.Cond) (x : Int64) (a_cache : Addr) (cl_cache : Cell) (h0 : Heap) (O : Ext Z.heap h0) (w : own_W Z a_cache cl_cache) :
    MetFree l (⟨"java/lang/Long", "valueOf", "(J)Ljava/lang/Long;"⟩ : MethodName) (head1 (Jvm.Cond.code (⟨"java/lang/Long", "valueOf", "(J)Ljava/lang/Long;"⟩ : MethodName) jdk_35_method_24_code 3 (some (.object "java/lang/Long")) :: ws) ({ frames := 3, cells := 1, slots := 1, locals := 39 } : Room)) (fun a_ U_ => a_ = #[(.long x)] ∧ Z.Warmed39 U_.vm ∧ U_.heap = h0) (fun _ _ _ _ _ => True) (fun _ U_ o_ U2_ => ∃ v_ L_, o_ = .returned v_ ∧ Q_lv Z x a_cache cl_cache h0 v_ U2_.heap L_ ∧ FrameEnd U_ o_ U2_ L_ ({ frames := 3, cells := 1, slots := 1, locals := 39 } : Room).cells ({ frames := 3, cells := 1, slots := 1, locals := 39 } : Room).slots) := by
  refine MetFree.of_bodySF (plainFor_of_name own_pn2) hisR ?_
  intro p e s m args below meth c s₁ Bd hml0 hP hK
  obtain ⟨rfl, hZ, hh⟩ := hP
  have hx := Bd.exec
  have hby := Bd.bytes
  have hml : c.maxLocals = 3 := hml0
  have hown : s.vm.findClass "java/lang/Long" = some m.cls := findClass_of_methodNamed Bd.named
  have hnm := (name_of_methodNamed Bd.named Bd.method).1
  have X0 : Stand p l e ({ frames := 3, cells := 1, slots := 1, locals := 39 } : Room) s m #[(.long x)] below meth c s₁ [] 0 0 := Stand.of_body Bd
  have e0 : s₁.heap = h0 := by rw [← hh, Bd.state]; rfl
  have N0 := Fr.nil Z.heap.size
  show own_G p e below (fun o_ s₂ => ∃ v_ L_, o_ = .returned v_ ∧ Q_lv Z x a_cache cl_cache h0 v_ s₂.heap L_ ∧ FrameEnd s o_ s₂ L_ ({ frames := 3, cells := 1, slots := 1, locals := 39 } : Room).cells ({ frames := 3, cells := 1, slots := 1, locals := 39 } : Room).slots) (s₁.setTop (entryFrame m #[(.long x)] 3))
  refine own_go (s₁.setTop (mkF m 0 #[.val (.long x), .second, .unset] [])) (fun t_ k_ => castTop (own_ef_lv m x) k_) ?_
  have w' := w
  obtain ⟨S_cache, A_cache, L_cache⟩ := w'
  refine own_go (s₁.setTop (mkF m 3 #[.val (.long x), .second, .unset] [(.int (128 : Int32))])) (fun t_ k_ => XS.sipush X0.here hx rfl (hb hby own_d_jdk_35_method_24_0) k_) ?_
  refine own_go (s₁.setTop (mkF m 4 #[.val (.long x), .second, .val (.int (128 : Int32))] [])) (fun t_ k_ => XS.istoreN X0.here hx rfl (hb hby own_d_jdk_35_method_24_3) rfl (l' := #[.val (.long x), .second, .val (.int (128 : Int32))]) rfl k_) ?_
  refine own_go (s₁.setTop (mkF m 5 #[.val (.long x), .second, .val (.int (128 : Int32))] [(.long x)])) (fun t_ k_ => XS.lloadN X0.here hx rfl (hb hby own_d_jdk_35_method_24_4) rfl k_) ?_
  refine own_go (s₁.setTop (mkF m 8 #[.val (.long x), .second, .val (.int (128 : Int32))] [(.long (-128 : Int64)), (.long x)])) (fun t_ k_ => X0.ldc2Long hx hown (mvT hZ (hw _ (List.mem_of_getElem? (i := 28) rfl))) (g := (mkF m 5 #[.val (.long x), .second, .val (.int (128 : Int32))] [(.long x)])) rfl (hb hby own_d_jdk_35_method_24_5) _ k_) ?_
  refine own_go (s₁.setTop (mkF m 9 #[.val (.long x), .second, .val (.int (128 : Int32))] [(.int (lcmpW x (-128 : Int64)))])) (fun t_ k_ => XS.lcmp X0.here hx rfl (hb hby own_d_jdk_35_method_24_8) rfl k_) ?_
  by_cases hc9_1 : x < (-128 : Int64)
  ·
    refine own_go (s₁.setTop (mkF m 31 #[.val (.long x), .second, .val (.int (128 : Int32))] [])) (fun t_ k_ => XS.ifYes X0.here hx rfl (pc0 := 9) (pc' := 31) rfl (hb hby own_d_jdk_35_method_24_9) rfl ((if0 _ _).trans (tlt (own_lt.mpr hc9_1)).1) (by decide) (by decide) k_) ?_
    obtain ⟨T2, h2, X2, e2, E2, A2, D2, U2, st2⟩ := newO X0 hx hZ hown (hw _ (List.mem_of_getElem? (i := 29) rfl)) (hw _ (List.mem_of_getElem? (i := 30) rfl)) (hw _ (List.mem_of_getElem? (i := 26) rfl)) e0 (g := (mkF m 31 #[.val (.long x), .second, .val (.int (128 : Int32))] [])) rfl (hb hby own_d_jdk_35_method_24_31) (by decide) (by decide)
    obtain ⟨b2, g2⟩ : ∃ z, z = h0.size := ⟨_, rfl⟩
    rw [← g2] at A2 D2 U2 st2
    have ge_b2 : Z.heap.size ≤ b2 := Nat.le_trans O.1 (Nat.le_of_eq g2.symm)
    have sz_b2 : h0.size ≤ b2 := Nat.le_trans (Keep.refl h0 []).1 (Nat.le_of_eq g2.symm)
    have K2 : Keep h0 h2 [] := (Keep.refl h0 []).ext E2
    have O2 := own_ext O E2
    have Fvalue_2 : Fld Z h2 b2 "java/lang/Long" "value" "J" (.long (0 : Int64)) := D2 (Or.inr (hw _ (List.mem_of_getElem? (i := 43) rfl))) (ty := .long) (by decide)
    refine own_go (T2.setTop (mkF m 34 #[.val (.long x), .second, .val (.int (128 : Int32))] [(.ref b2)])) (fun t_ k_ => st2 _ k_) ?_
    refine own_go (T2.setTop (mkF m 35 #[.val (.long x), .second, .val (.int (128 : Int32))] [(.ref b2), (.ref b2)])) (fun t_ k_ => XS.dup X2.here hx rfl (hb hby own_d_jdk_35_method_24_34) rfl rfl k_) ?_
    refine own_go (T2.setTop (mkF m 36 #[.val (.long x), .second, .val (.int (128 : Int32))] [(.long x), (.ref b2), (.ref b2)])) (fun t_ k_ => XS.lloadN X2.here hx rfl (hb hby own_d_jdk_35_method_24_35) rfl k_) ?_
    obtain ⟨_, _, ⟨T3, Lu3, ku3, nu3⟩, -, X3, ⟨Lc3, hQ3, lu3, yu3, zu3⟩, st3⟩ := X2.specialBack hx (y := (⟨"java/lang/Long", "<init>", "(J)V"⟩ : MethodName)) rfl hown (mvT hZ (hw _ (List.mem_of_getElem? (i := 31) rfl))) (mvT hZ (hw _ (List.mem_of_getElem? (i := 32) rfl))) (mvT hZ (hw _ (List.mem_of_getElem? (i := 34) rfl))) (by decide) (backOf (W := 1) (rm_li l Z a0 hw [] (b2) (x) h2 O2 A2 Fvalue_2 ge_b2) hZ (hw _ (List.mem_of_getElem? (i := 34) rfl)) (hw _ (List.mem_of_getElem? (i := 26) rfl)) (by decide) (by decide)) (g := (mkF m 36 #[.val (.long x), .second, .val (.int (128 : Int32))] [(.long x), (.ref b2), (.ref b2)])) rfl (by rw [hml]; rfl) (Steps.refl _) (a := b2) (argsL := [(.long x)]) (rest := [(.ref b2)]) (lenOf own_pd1 rfl) rfl (by show 2 * 0 + _ ≤ _; exact Nat.le_of_eq rfl) (hb hby own_d_jdk_35_method_24_36) (fun _ _ => ⟨rfl, e2, (by decide : 1 + 0 ≤ _), (by decide : 1 + 0 ≤ _)⟩)
    dsimp only [Pt.U, Pt.locs, Pt.cells, Pt.slots] at X3 lu3 yu3 zu3 st3 hQ3
    subst lu3 yu3 zu3
    obtain ⟨rfl, N3q, K3q, X3q⟩ := hQ3
    have N3 := Fr.app N0 N3q
    have O3 := own_extK O2 K3q (allS ge_b2 all0)
    have KK3 : Keep h0 T3.heap [] := K2.trans K3q (allS (Or.inr sz_b2) all0)
    refine own_go (T3.setTop (mkF m 39 #[.val (.long x), .second, .val (.int (128 : Int32))] [(.ref b2)])) (fun t_ k_ => st3.trans k_) ?_
    obtain ⟨fs, hr, hrun, hended, hW, hsame⟩ := X3.leave (v := some (.ref b2)) (fun h => by rw [Bd.returns] at h; cases h)
    refine ⟨_, _, Jvm.RoadKit.retOut X3 hx Bd.returns rfl (Or.inr (Or.inr (Or.inr (Or.inr ⟨rfl, rfl, rfl⟩)))) (hb hby own_d_jdk_35_method_24_39) hr, hrun, hended, _, _, rfl, ?_, ⟨_, rfl⟩, hW, hsame.mono (by decide) (by decide)⟩
    show Q_lv Z x a_cache cl_cache h0 _ T3.heap _
    exact ⟨_, rfl, N3, KK3, X3q⟩
  ·
    refine own_go (s₁.setTop (mkF m 12 #[.val (.long x), .second, .val (.int (128 : Int32))] [])) (fun t_ k_ => XS.ifNo X0.here hx rfl (hb hby own_d_jdk_35_method_24_9) rfl ((if0 _ _).trans (flt (fun q => hc9_1 (own_lt.mp q))).1) k_) ?_
    refine own_go (s₁.setTop (mkF m 13 #[.val (.long x), .second, .val (.int (128 : Int32))] [(.long x)])) (fun t_ k_ => XS.lloadN X0.here hx rfl (hb hby own_d_jdk_35_method_24_12) rfl k_) ?_
    refine own_go (s₁.setTop (mkF m 16 #[.val (.long x), .second, .val (.int (128 : Int32))] [(.long (127 : Int64)), (.long x)])) (fun t_ k_ => X0.ldc2Long hx hown (mvT hZ (hw _ (List.mem_of_getElem? (i := 54) rfl))) (g := (mkF m 13 #[.val (.long x), .second, .val (.int (128 : Int32))] [(.long x)])) rfl (hb hby own_d_jdk_35_method_24_13) _ k_) ?_
    refine own_go (s₁.setTop (mkF m 17 #[.val (.long x), .second, .val (.int (128 : Int32))] [(.int (lcmpW x (127 : Int64)))])) (fun t_ k_ => XS.lcmp X0.here hx rfl (hb hby own_d_jdk_35_method_24_16) rfl k_) ?_
    by_cases hc17_4 : (127 : Int64) < x
    ·
      refine own_go (s₁.setTop (mkF m 31 #[.val (.long x), .second, .val (.int (128 : Int32))] [])) (fun t_ k_ => XS.ifYes X0.here hx rfl (pc0 := 17) (pc' := 31) rfl (hb hby own_d_jdk_35_method_24_17) rfl ((if0 _ _).trans (tlt (own_gt.mpr hc17_4)).2.2.1) (by decide) (by decide) k_) ?_
      obtain ⟨T5, h5, X5, e5, E5, A5, D5, U5, st5⟩ := newO X0 hx hZ hown (hw _ (List.mem_of_getElem? (i := 29) rfl)) (hw _ (List.mem_of_getElem? (i := 30) rfl)) (hw _ (List.mem_of_getElem? (i := 26) rfl)) e0 (g := (mkF m 31 #[.val (.long x), .second, .val (.int (128 : Int32))] [])) rfl (hb hby own_d_jdk_35_method_24_31) (by decide) (by decide)
      obtain ⟨b5, g5⟩ : ∃ z, z = h0.size := ⟨_, rfl⟩
      rw [← g5] at A5 D5 U5 st5
      have ge_b5 : Z.heap.size ≤ b5 := Nat.le_trans O.1 (Nat.le_of_eq g5.symm)
      have sz_b5 : h0.size ≤ b5 := Nat.le_trans (Keep.refl h0 []).1 (Nat.le_of_eq g5.symm)
      have K5 : Keep h0 h5 [] := (Keep.refl h0 []).ext E5
      have O5 := own_ext O E5
      have Fvalue_5 : Fld Z h5 b5 "java/lang/Long" "value" "J" (.long (0 : Int64)) := D5 (Or.inr (hw _ (List.mem_of_getElem? (i := 43) rfl))) (ty := .long) (by decide)
      refine own_go (T5.setTop (mkF m 34 #[.val (.long x), .second, .val (.int (128 : Int32))] [(.ref b5)])) (fun t_ k_ => st5 _ k_) ?_
      refine own_go (T5.setTop (mkF m 35 #[.val (.long x), .second, .val (.int (128 : Int32))] [(.ref b5), (.ref b5)])) (fun t_ k_ => XS.dup X5.here hx rfl (hb hby own_d_jdk_35_method_24_34) rfl rfl k_) ?_
      refine own_go (T5.setTop (mkF m 36 #[.val (.long x), .second, .val (.int (128 : Int32))] [(.long x), (.ref b5), (.ref b5)])) (fun t_ k_ => XS.lloadN X5.here hx rfl (hb hby own_d_jdk_35_method_24_35) rfl k_) ?_
      obtain ⟨_, _, ⟨T6, Lu6, ku6, nu6⟩, -, X6, ⟨Lc6, hQ6, lu6, yu6, zu6⟩, st6⟩ := X5.specialBack hx (y := (⟨"java/lang/Long", "<init>", "(J)V"⟩ : MethodName)) rfl hown (mvT hZ (hw _ (List.mem_of_getElem? (i := 31) rfl))) (mvT hZ (hw _ (List.mem_of_getElem? (i := 32) rfl))) (mvT hZ (hw _ (List.mem_of_getElem? (i := 34) rfl))) (by decide) (backOf (W := 1) (rm_li l Z a0 hw [] (b5) (x) h5 O5 A5 Fvalue_5 ge_b5) hZ (hw _ (List.mem_of_getElem? (i := 34) rfl)) (hw _ (List.mem_of_getElem? (i := 26) rfl)) (by decide) (by decide)) (g := (mkF m 36 #[.val (.long x), .second, .val (.int (128 : Int32))] [(.long x), (.ref b5), (.ref b5)])) rfl (by rw [hml]; rfl) (Steps.refl _) (a := b5) (argsL := [(.long x)]) (rest := [(.ref b5)]) (lenOf own_pd1 rfl) rfl (by show 2 * 0 + _ ≤ _; exact Nat.le_of_eq rfl) (hb hby own_d_jdk_35_method_24_36) (fun _ _ => ⟨rfl, e5, (by decide : 1 + 0 ≤ _), (by decide : 1 + 0 ≤ _)⟩)
      dsimp only [Pt.U, Pt.locs, Pt.cells, Pt.slots] at X6 lu6 yu6 zu6 st6 hQ6
      subst lu6 yu6 zu6
      obtain ⟨rfl, N6q, K6q, X6q⟩ := hQ6
      have N6 := Fr.app N0 N6q
      have O6 := own_extK O5 K6q (allS ge_b5 all0)
      have KK6 : Keep h0 T6.heap [] := K5.trans K6q (allS (Or.inr sz_b5) all0)
      refine own_go (T6.setTop (mkF m 39 #[.val (.long x), .second, .val (.int (128 : Int32))] [(.ref b5)])) (fun t_ k_ => st6.trans k_) ?_
      obtain ⟨fs, hr, hrun, hended, hW, hsame⟩ := X6.leave (v := some (.ref b5)) (fun h => by rw [Bd.returns] at h; cases h)
      refine ⟨_, _, Jvm.RoadKit.retOut X6 hx Bd.returns rfl (Or.inr (Or.inr (Or.inr (Or.inr ⟨rfl, rfl, rfl⟩)))) (hb hby own_d_jdk_35_method_24_39) hr, hrun, hended, _, _, rfl, ?_, ⟨_, rfl⟩, hW, hsame.mono (by decide) (by decide)⟩
      show Q_lv Z x a_cache cl_cache h0 _ T6.heap _
      exact ⟨_, rfl, N6, KK6, X6q⟩
    ·
      refine own_go (s₁.setTop (mkF m 20 #[.val (.long x), .second, .val (.int (128 : Int32))] [])) (fun t_ k_ => XS.ifNo X0.here hx rfl (hb hby own_d_jdk_35_method_24_17) rfl ((if0 _ _).trans (flt (fun q => hc17_4 (own_gt.mp q))).2.2.1) k_) ?_
      obtain ⟨T7, X7, e7, st7⟩ := getS2 X0 hx hZ hown (host := "") (Or.inl (hw _ (List.mem_of_getElem? (i := 55) rfl))) Via.refl e0 (S_cache.ext O) (g := (mkF m 20 #[.val (.long x), .second, .val (.int (128 : Int32))] [])) rfl (hb hby own_d_jdk_35_method_24_20)
      refine own_go (T7.setTop (mkF m 23 #[.val (.long x), .second, .val (.int (128 : Int32))] [(.ref a_cache)])) (fun t_ k_ => st7 _ k_) ?_
      refine own_go (T7.setTop (mkF m 24 #[.val (.long x), .second, .val (.int (128 : Int32))] [(.long x), (.ref a_cache)])) (fun t_ k_ => XS.lloadN X7.here hx rfl (hb hby own_d_jdk_35_method_24_23) rfl k_) ?_
      refine own_go (T7.setTop (mkF m 25 #[.val (.long x), .second, .val (.int (128 : Int32))] [(.int (x.toInt32)), (.ref a_cache)])) (fun t_ k_ => XS.l2i X7.here hx rfl (hb hby own_d_jdk_35_method_24_24) rfl k_) ?_
      refine own_go (T7.setTop (mkF m 28 #[.val (.long x), .second, .val (.int (128 : Int32))] [(.int (128 : Int32)), (.int (x.toInt32)), (.ref a_cache)])) (fun t_ k_ => XS.sipush X7.here hx rfl (hb hby own_d_jdk_35_method_24_25) k_) ?_
      refine own_go (T7.setTop (mkF m 29 #[.val (.long x), .second, .val (.int (128 : Int32))] [(.int ((x.toInt32) + (128 : Int32))), (.ref a_cache)])) (fun t_ k_ => XS.iadd X7.here hx rfl (hb hby own_d_jdk_35_method_24_28) rfl k_) ?_
      obtain ⟨hin, o, hat, hxo⟩ := L_cache (x.toInt32 + 128) (Jvm.Free.LongBox.place_okL x hc9_1 hc17_4).1
      have Ar8 := (A_cache.ext O)
      refine own_go (T7.setTop (mkF m 30 #[.val (.long x), .second, .val (.int (128 : Int32))] [(.ref o)])) (fun t_ k_ => X7.aaload hx (j := ((x.toInt32) + (128 : Int32))) (v := (.ref o)) (by rw [e7]; exact Ar8.1) (State.isArrayOf_alike hZ.alike Ar8.2.1) rfl Ar8.2.2 hin hat (g := (mkF m 29 #[.val (.long x), .second, .val (.int (128 : Int32))] [(.int ((x.toInt32) + (128 : Int32))), (.ref a_cache)])) rfl rfl (hb hby own_d_jdk_35_method_24_29) _ k_) ?_
      obtain ⟨fs, hr, hrun, hended, hW, hsame⟩ := X7.leave (v := some (.ref o)) (fun h => by rw [Bd.returns] at h; cases h)
      refine ⟨_, _, Jvm.RoadKit.retOut X7 hx Bd.returns rfl (Or.inr (Or.inr (Or.inr (Or.inr ⟨rfl, rfl, rfl⟩)))) (hb hby own_d_jdk_35_method_24_30) hr, hrun, hended, _, _, rfl, ?_, ⟨_, rfl⟩, hW, hsame.mono (by decide) (by decide)⟩
      show Q_lv Z x a_cache cl_cache h0 _ T7.heap _
      exact ⟨_, rfl, N0, by rw [show T7.heap = h0 from e7]; exact Keep.refl _ _, by rw [show T7.heap = h0 from e7]; exact hxo.ext O⟩
theorem own_pn3 : plainName "com/example/eager_quorum/eagerquorum/model/CriticalSectionEqualsPinLaw" = true := by first | (simp [plainName, overriddenIn]; done) | decide +kernel
theorem own_ef_law (m : MethodId) (p0 : Int32) (p1 : Int64) (p2 : Int64) (p3 : Int64) (p4 : Int32) (p5 : Int64) : entryFrame m #[(.int p0), (.long p1), (.long p2), (.long p3), (.int p4), (.long p5)] maxLocals = mkF m 0 #[.val (.int p0), .val (.long p1), .second, .val (.long p2), .second, .val (.long p3), .second, .val (.int p4), .val (.long p5), .second, .unset, .unset, .unset, .unset, .unset, .unset, .unset, .unset, .unset, .unset, .unset, .unset, .unset, .unset, .unset, .unset, .unset, .unset, .unset, .unset, .unset] [] := by first | (simp [entryFrame, mkF, argsToLocals, Value.category, maxLocals]; done) | rfl
theorem own_pd2 : parseMethodDescriptor "(JJ)J" = some ⟨[.long, .long], some .long⟩ := by decide +kernel
theorem own_pd3 : parseMethodDescriptor "(IJJJ)V" = some ⟨[.int, .long, .long, .long], none⟩ := by decide +kernel
theorem own_pd4 : parseMethodDescriptor "(J)Ljava/lang/Long;" = some ⟨[.long], some (.object "java/lang/Long")⟩ := by decide +kernel
theorem own_pd5 : parseMethodDescriptor "(Ljava/lang/Object;)Z" = some ⟨[(.object "java/lang/Object")], some .boolean⟩ := by decide +kernel
def Q_law (Z : State) (p0 : Int32) (p1 : Int64) (p2 : Int64) (p3 : Int64) (p4 : Int32) (p5 : Int64) (a_cache : Addr) (cl_cache : Cell) (h0 : Heap) (v_ : Option Value) (h : Heap) (L_ : List Loc) : Prop := v_ = some (.int 1) ∧ Fr Z.heap.size L_ ∧ (True)
set_option maxRecDepth 65536 in
set_option maxHeartbeats 40000000 in
theorem rm_law (l : Launch) (Z : State) (a0 : Array Value) (hw : ∀ d ∈ tables_1, d.before a0 Z = true) (ws : List Jvm.Cond) (p0 : Int32) (p1 : Int64) (p2 : Int64) (p3 : Int64) (p4 : Int32) (p5 : Int64) (a_cache : Addr) (cl_cache : Cell) (h0 : Heap) (O : Ext Z.heap h0) (w : own_W Z a_cache cl_cache) :
    MetFree l x (head1 (Jvm.Cond.code x code maxLocals ret :: ws) room_1) (fun a_ U_ => a_ = #[(.int p0), (.long p1), (.long p2), (.long p3), (.int p4), (.long p5)] ∧ Z.Warmed39 U_.vm ∧ U_.heap = h0) (fun _ _ _ _ _ => True) (fun _ U_ o_ U2_ => ∃ v_ L_, o_ = .returned v_ ∧ Q_law Z p0 p1 p2 p3 p4 p5 a_cache cl_cache h0 v_ U2_.heap L_ ∧ FrameEnd U_ o_ U2_ L_ room_1.cells room_1.slots) := by
  refine MetFree.of_bodySF (plainFor_of_name own_pn3) hisR ?_
  intro p e s m args below meth c s₁ Bd hml0 hP hK
  obtain ⟨rfl, hZ, hh⟩ := hP
  have hx := Bd.exec
  have hby := Bd.bytes
  have hml : c.maxLocals = 31 := hml0
  have hown : s.vm.findClass "com/example/eager_quorum/eagerquorum/model/CriticalSectionEqualsPinLaw" = some m.cls := findClass_of_methodNamed Bd.named
  have hnm := (name_of_methodNamed Bd.named Bd.method).1
  have X0 : Stand p l e room_1 s m #[(.int p0), (.long p1), (.long p2), (.long p3), (.int p4), (.long p5)] below meth c s₁ [] 0 0 := Stand.of_body Bd
  have e0 : s₁.heap = h0 := by rw [← hh, Bd.state]; rfl
  have N0 := Fr.nil Z.heap.size
  show own_G p e below (fun o_ s₂ => ∃ v_ L_, o_ = .returned v_ ∧ Q_law Z p0 p1 p2 p3 p4 p5 a_cache cl_cache h0 v_ s₂.heap L_ ∧ FrameEnd s o_ s₂ L_ room_1.cells room_1.slots) (s₁.setTop (entryFrame m #[(.int p0), (.long p1), (.long p2), (.long p3), (.int p4), (.long p5)] maxLocals))
  refine own_go (s₁.setTop (mkF m 0 #[.val (.int p0), .val (.long p1), .second, .val (.long p2), .second, .val (.long p3), .second, .val (.int p4), .val (.long p5), .second, .unset, .unset, .unset, .unset, .unset, .unset, .unset, .unset, .unset, .unset, .unset, .unset, .unset, .unset, .unset, .unset, .unset, .unset, .unset, .unset, .unset] [])) (fun t_ k_ => castTop (own_ef_law m p0 p1 p2 p3 p4 p5) k_) ?_
  have w' := w
  obtain ⟨S_cache, A_cache, L_cache⟩ := w'
  refine own_go (s₁.setTop (mkF m 1 #[.val (.int p0), .val (.long p1), .second, .val (.long p2), .second, .val (.long p3), .second, .val (.int p4), .val (.long p5), .second, .unset, .unset, .unset, .unset, .unset, .unset, .unset, .unset, .unset, .unset, .unset, .unset, .unset, .unset, .unset, .unset, .unset, .unset, .unset, .unset, .unset] [(.long p1)])) (fun t_ k_ => XS.lloadN X0.here hx rfl (hb hby at_0) rfl k_) ?_
  refine own_go (s₁.setTop (mkF m 2 #[.val (.int p0), .val (.long p1), .second, .val (.long p2), .second, .val (.long p3), .second, .val (.int p4), .val (.long p5), .second, .unset, .unset, .unset, .unset, .unset, .unset, .unset, .unset, .unset, .unset, .unset, .unset, .unset, .unset, .unset, .unset, .unset, .unset, .unset, .unset, .unset] [(.long p2), (.long p1)])) (fun t_ k_ => XS.lloadN X0.here hx rfl (hb hby at_1) rfl k_) ?_
  refine own_go (s₁.setTop (mkF m 4 #[.val (.int p0), .val (.long p1), .second, .val (.long p2), .second, .val (.long p3), .second, .val (.int p4), .val (.long p5), .second, .unset, .unset, .unset, .unset, .unset, .unset, .unset, .unset, .unset, .unset, .unset, .unset, .unset, .unset, .unset, .unset, .unset, .unset, .unset, .unset, .unset] [(.long p3), (.long p2), (.long p1)])) (fun t_ k_ => XS.lload X0.here hx rfl (hb hby at_2) rfl k_) ?_
  obtain ⟨_, _, ⟨T1, Lu1, ku1, nu1⟩, -, X1, ⟨Lc1, hQ1, lu1, yu1, zu1⟩, st1⟩ := Jvm.LawKit.callS X0 hx (y := (⟨"java/lang/Math", "min", "(JJ)J"⟩ : MethodName)) hown (mvT hZ (hw _ (List.mem_of_getElem? (i := 0) rfl))) (mvT hZ (hw _ (List.mem_of_getElem? (i := 1) rfl))) (mvT hZ (hw _ (List.mem_of_getElem? (i := 2) rfl))) (mvT hZ (hw _ (List.mem_of_getElem? (i := 3) rfl))) (by decide) (backOf (W := 2) (rm_mn l Z a0 hw [] (p2) (p3) h0 O ) hZ (hw _ (List.mem_of_getElem? (i := 3) rfl)) (hw _ (List.mem_of_getElem? (i := 2) rfl)) (by decide) (by decide)) (g := (mkF m 4 #[.val (.int p0), .val (.long p1), .second, .val (.long p2), .second, .val (.long p3), .second, .val (.int p4), .val (.long p5), .second, .unset, .unset, .unset, .unset, .unset, .unset, .unset, .unset, .unset, .unset, .unset, .unset, .unset, .unset, .unset, .unset, .unset, .unset, .unset, .unset, .unset] [(.long p3), (.long p2), (.long p1)])) rfl (by rw [hml]; rfl) (argsL := [(.long p2), (.long p3)]) (rest := [(.long p1)]) (lenOf own_pd2 rfl) rfl (by show 2 * 0 + _ ≤ _; exact Nat.le_of_eq rfl) (hb hby at_4) (fun _ _ => ⟨rfl, e0, (by decide : 0 + 0 ≤ _), (by decide : 0 + 0 ≤ _)⟩)
  dsimp only [Pt.U, Pt.locs, Pt.cells, Pt.slots] at X1 lu1 yu1 zu1 st1 hQ1
  subst lu1 yu1 zu1
  obtain ⟨rfl, N1q, e1⟩ := hQ1
  have N1 := Fr.app N0 N1q
  refine own_go (T1.setTop (mkF m 7 #[.val (.int p0), .val (.long p1), .second, .val (.long p2), .second, .val (.long p3), .second, .val (.int p4), .val (.long p5), .second, .unset, .unset, .unset, .unset, .unset, .unset, .unset, .unset, .unset, .unset, .unset, .unset, .unset, .unset, .unset, .unset, .unset, .unset, .unset, .unset, .unset] [(.long (own_min p2 p3)), (.long p1)])) (fun t_ k_ => st1 _ k_) ?_
  obtain ⟨_, _, ⟨T2, Lu2, ku2, nu2⟩, -, X2, ⟨Lc2, hQ2, lu2, yu2, zu2⟩, st2⟩ := Jvm.LawKit.callS X1 hx (y := (⟨"java/lang/Math", "min", "(JJ)J"⟩ : MethodName)) hown (mvT hZ (hw _ (List.mem_of_getElem? (i := 0) rfl))) (mvT hZ (hw _ (List.mem_of_getElem? (i := 1) rfl))) (mvT hZ (hw _ (List.mem_of_getElem? (i := 2) rfl))) (mvT hZ (hw _ (List.mem_of_getElem? (i := 3) rfl))) (by decide) (backOf (W := 0) (rm_mn l Z a0 hw [] (p1) ((own_min p2 p3)) h0 O ) hZ (hw _ (List.mem_of_getElem? (i := 3) rfl)) (hw _ (List.mem_of_getElem? (i := 2) rfl)) (by decide) (by decide)) (g := (mkF m 7 #[.val (.int p0), .val (.long p1), .second, .val (.long p2), .second, .val (.long p3), .second, .val (.int p4), .val (.long p5), .second, .unset, .unset, .unset, .unset, .unset, .unset, .unset, .unset, .unset, .unset, .unset, .unset, .unset, .unset, .unset, .unset, .unset, .unset, .unset, .unset, .unset] [(.long (own_min p2 p3)), (.long p1)])) rfl (by rw [hml]; rfl) (argsL := [(.long p1), (.long (own_min p2 p3))]) (rest := []) (lenOf own_pd2 rfl) rfl (by show 2 * 0 + _ ≤ _; exact Nat.le_of_eq rfl) (hb hby at_7) (fun _ _ => ⟨rfl, e1, (by decide : 0 + 0 ≤ _), (by decide : 0 + 0 ≤ _)⟩)
  dsimp only [Pt.U, Pt.locs, Pt.cells, Pt.slots] at X2 lu2 yu2 zu2 st2 hQ2
  subst lu2 yu2 zu2
  obtain ⟨rfl, N2q, e2⟩ := hQ2
  have N2 := Fr.app N1 N2q
  refine own_go (T2.setTop (mkF m 10 #[.val (.int p0), .val (.long p1), .second, .val (.long p2), .second, .val (.long p3), .second, .val (.int p4), .val (.long p5), .second, .unset, .unset, .unset, .unset, .unset, .unset, .unset, .unset, .unset, .unset, .unset, .unset, .unset, .unset, .unset, .unset, .unset, .unset, .unset, .unset, .unset] [(.long (own_min p1 (own_min p2 p3)))])) (fun t_ k_ => st2 _ k_) ?_
  refine own_go (T2.setTop (mkF m 12 #[.val (.int p0), .val (.long p1), .second, .val (.long p2), .second, .val (.long p3), .second, .val (.int p4), .val (.long p5), .second, .val (.long (own_min p1 (own_min p2 p3))), .second, .unset, .unset, .unset, .unset, .unset, .unset, .unset, .unset, .unset, .unset, .unset, .unset, .unset, .unset, .unset, .unset, .unset, .unset, .unset] [])) (fun t_ k_ => XS.lstore X2.here hx rfl (hb hby at_10) rfl (l' := #[.val (.int p0), .val (.long p1), .second, .val (.long p2), .second, .val (.long p3), .second, .val (.int p4), .val (.long p5), .second, .val (.long (own_min p1 (own_min p2 p3))), .second, .unset, .unset, .unset, .unset, .unset, .unset, .unset, .unset, .unset, .unset, .unset, .unset, .unset, .unset, .unset, .unset, .unset, .unset, .unset]) rfl k_) ?_
  refine own_go (T2.setTop (mkF m 13 #[.val (.int p0), .val (.long p1), .second, .val (.long p2), .second, .val (.long p3), .second, .val (.int p4), .val (.long p5), .second, .val (.long (own_min p1 (own_min p2 p3))), .second, .unset, .unset, .unset, .unset, .unset, .unset, .unset, .unset, .unset, .unset, .unset, .unset, .unset, .unset, .unset, .unset, .unset, .unset, .unset] [(.long p1)])) (fun t_ k_ => XS.lloadN X2.here hx rfl (hb hby at_12) rfl k_) ?_
  refine own_go (T2.setTop (mkF m 14 #[.val (.int p0), .val (.long p1), .second, .val (.long p2), .second, .val (.long p3), .second, .val (.int p4), .val (.long p5), .second, .val (.long (own_min p1 (own_min p2 p3))), .second, .unset, .unset, .unset, .unset, .unset, .unset, .unset, .unset, .unset, .unset, .unset, .unset, .unset, .unset, .unset, .unset, .unset, .unset, .unset] [(.long p2), (.long p1)])) (fun t_ k_ => XS.lloadN X2.here hx rfl (hb hby at_13) rfl k_) ?_
  refine own_go (T2.setTop (mkF m 16 #[.val (.int p0), .val (.long p1), .second, .val (.long p2), .second, .val (.long p3), .second, .val (.int p4), .val (.long p5), .second, .val (.long (own_min p1 (own_min p2 p3))), .second, .unset, .unset, .unset, .unset, .unset, .unset, .unset, .unset, .unset, .unset, .unset, .unset, .unset, .unset, .unset, .unset, .unset, .unset, .unset] [(.long p3), (.long p2), (.long p1)])) (fun t_ k_ => XS.lload X2.here hx rfl (hb hby at_14) rfl k_) ?_
  obtain ⟨_, _, ⟨T3, Lu3, ku3, nu3⟩, -, X3, ⟨Lc3, hQ3, lu3, yu3, zu3⟩, st3⟩ := Jvm.LawKit.callS X2 hx (y := (⟨"java/lang/Math", "max", "(JJ)J"⟩ : MethodName)) hown (mvT hZ (hw _ (List.mem_of_getElem? (i := 4) rfl))) (mvT hZ (hw _ (List.mem_of_getElem? (i := 5) rfl))) (mvT hZ (hw _ (List.mem_of_getElem? (i := 2) rfl))) (mvT hZ (hw _ (List.mem_of_getElem? (i := 6) rfl))) (by decide) (backOf (W := 2) (rm_mx l Z a0 hw [] (p2) (p3) h0 O ) hZ (hw _ (List.mem_of_getElem? (i := 6) rfl)) (hw _ (List.mem_of_getElem? (i := 2) rfl)) (by decide) (by decide)) (g := (mkF m 16 #[.val (.int p0), .val (.long p1), .second, .val (.long p2), .second, .val (.long p3), .second, .val (.int p4), .val (.long p5), .second, .val (.long (own_min p1 (own_min p2 p3))), .second, .unset, .unset, .unset, .unset, .unset, .unset, .unset, .unset, .unset, .unset, .unset, .unset, .unset, .unset, .unset, .unset, .unset, .unset, .unset] [(.long p3), (.long p2), (.long p1)])) rfl (by rw [hml]; rfl) (argsL := [(.long p2), (.long p3)]) (rest := [(.long p1)]) (lenOf own_pd2 rfl) rfl (by show 2 * 0 + _ ≤ _; exact Nat.le_of_eq rfl) (hb hby at_16) (fun _ _ => ⟨rfl, e2, (by decide : 0 + 0 ≤ _), (by decide : 0 + 0 ≤ _)⟩)
  dsimp only [Pt.U, Pt.locs, Pt.cells, Pt.slots] at X3 lu3 yu3 zu3 st3 hQ3
  subst lu3 yu3 zu3
  obtain ⟨rfl, N3q, e3⟩ := hQ3
  have N3 := Fr.app N2 N3q
  refine own_go (T3.setTop (mkF m 19 #[.val (.int p0), .val (.long p1), .second, .val (.long p2), .second, .val (.long p3), .second, .val (.int p4), .val (.long p5), .second, .val (.long (own_min p1 (own_min p2 p3))), .second, .unset, .unset, .unset, .unset, .unset, .unset, .unset, .unset, .unset, .unset, .unset, .unset, .unset, .unset, .unset, .unset, .unset, .unset, .unset] [(.long (own_max p2 p3)), (.long p1)])) (fun t_ k_ => st3 _ k_) ?_
  obtain ⟨_, _, ⟨T4, Lu4, ku4, nu4⟩, -, X4, ⟨Lc4, hQ4, lu4, yu4, zu4⟩, st4⟩ := Jvm.LawKit.callS X3 hx (y := (⟨"java/lang/Math", "max", "(JJ)J"⟩ : MethodName)) hown (mvT hZ (hw _ (List.mem_of_getElem? (i := 4) rfl))) (mvT hZ (hw _ (List.mem_of_getElem? (i := 5) rfl))) (mvT hZ (hw _ (List.mem_of_getElem? (i := 2) rfl))) (mvT hZ (hw _ (List.mem_of_getElem? (i := 6) rfl))) (by decide) (backOf (W := 0) (rm_mx l Z a0 hw [] (p1) ((own_max p2 p3)) h0 O ) hZ (hw _ (List.mem_of_getElem? (i := 6) rfl)) (hw _ (List.mem_of_getElem? (i := 2) rfl)) (by decide) (by decide)) (g := (mkF m 19 #[.val (.int p0), .val (.long p1), .second, .val (.long p2), .second, .val (.long p3), .second, .val (.int p4), .val (.long p5), .second, .val (.long (own_min p1 (own_min p2 p3))), .second, .unset, .unset, .unset, .unset, .unset, .unset, .unset, .unset, .unset, .unset, .unset, .unset, .unset, .unset, .unset, .unset, .unset, .unset, .unset] [(.long (own_max p2 p3)), (.long p1)])) rfl (by rw [hml]; rfl) (argsL := [(.long p1), (.long (own_max p2 p3))]) (rest := []) (lenOf own_pd2 rfl) rfl (by show 2 * 0 + _ ≤ _; exact Nat.le_of_eq rfl) (hb hby at_19) (fun _ _ => ⟨rfl, e3, (by decide : 0 + 0 ≤ _), (by decide : 0 + 0 ≤ _)⟩)
  dsimp only [Pt.U, Pt.locs, Pt.cells, Pt.slots] at X4 lu4 yu4 zu4 st4 hQ4
  subst lu4 yu4 zu4
  obtain ⟨rfl, N4q, e4⟩ := hQ4
  have N4 := Fr.app N3 N4q
  refine own_go (T4.setTop (mkF m 22 #[.val (.int p0), .val (.long p1), .second, .val (.long p2), .second, .val (.long p3), .second, .val (.int p4), .val (.long p5), .second, .val (.long (own_min p1 (own_min p2 p3))), .second, .unset, .unset, .unset, .unset, .unset, .unset, .unset, .unset, .unset, .unset, .unset, .unset, .unset, .unset, .unset, .unset, .unset, .unset, .unset] [(.long (own_max p1 (own_max p2 p3)))])) (fun t_ k_ => st4 _ k_) ?_
  refine own_go (T4.setTop (mkF m 24 #[.val (.int p0), .val (.long p1), .second, .val (.long p2), .second, .val (.long p3), .second, .val (.int p4), .val (.long p5), .second, .val (.long (own_min p1 (own_min p2 p3))), .second, .val (.long (own_max p1 (own_max p2 p3))), .second, .unset, .unset, .unset, .unset, .unset, .unset, .unset, .unset, .unset, .unset, .unset, .unset, .unset, .unset, .unset, .unset, .unset] [])) (fun t_ k_ => XS.lstore X4.here hx rfl (hb hby at_22) rfl (l' := #[.val (.int p0), .val (.long p1), .second, .val (.long p2), .second, .val (.long p3), .second, .val (.int p4), .val (.long p5), .second, .val (.long (own_min p1 (own_min p2 p3))), .second, .val (.long (own_max p1 (own_max p2 p3))), .second, .unset, .unset, .unset, .unset, .unset, .unset, .unset, .unset, .unset, .unset, .unset, .unset, .unset, .unset, .unset, .unset, .unset]) rfl k_) ?_
  refine own_go (T4.setTop (mkF m 25 #[.val (.int p0), .val (.long p1), .second, .val (.long p2), .second, .val (.long p3), .second, .val (.int p4), .val (.long p5), .second, .val (.long (own_min p1 (own_min p2 p3))), .second, .val (.long (own_max p1 (own_max p2 p3))), .second, .unset, .unset, .unset, .unset, .unset, .unset, .unset, .unset, .unset, .unset, .unset, .unset, .unset, .unset, .unset, .unset, .unset] [(.long p1)])) (fun t_ k_ => XS.lloadN X4.here hx rfl (hb hby at_24) rfl k_) ?_
  refine own_go (T4.setTop (mkF m 26 #[.val (.int p0), .val (.long p1), .second, .val (.long p2), .second, .val (.long p3), .second, .val (.int p4), .val (.long p5), .second, .val (.long (own_min p1 (own_min p2 p3))), .second, .val (.long (own_max p1 (own_max p2 p3))), .second, .unset, .unset, .unset, .unset, .unset, .unset, .unset, .unset, .unset, .unset, .unset, .unset, .unset, .unset, .unset, .unset, .unset] [(.long p2), (.long p1)])) (fun t_ k_ => XS.lloadN X4.here hx rfl (hb hby at_25) rfl k_) ?_
  obtain ⟨_, _, ⟨T5, Lu5, ku5, nu5⟩, -, X5, ⟨Lc5, hQ5, lu5, yu5, zu5⟩, st5⟩ := Jvm.LawKit.callS X4 hx (y := (⟨"java/lang/Math", "min", "(JJ)J"⟩ : MethodName)) hown (mvT hZ (hw _ (List.mem_of_getElem? (i := 0) rfl))) (mvT hZ (hw _ (List.mem_of_getElem? (i := 1) rfl))) (mvT hZ (hw _ (List.mem_of_getElem? (i := 2) rfl))) (mvT hZ (hw _ (List.mem_of_getElem? (i := 3) rfl))) (by decide) (backOf (W := 0) (rm_mn l Z a0 hw [] (p1) (p2) h0 O ) hZ (hw _ (List.mem_of_getElem? (i := 3) rfl)) (hw _ (List.mem_of_getElem? (i := 2) rfl)) (by decide) (by decide)) (g := (mkF m 26 #[.val (.int p0), .val (.long p1), .second, .val (.long p2), .second, .val (.long p3), .second, .val (.int p4), .val (.long p5), .second, .val (.long (own_min p1 (own_min p2 p3))), .second, .val (.long (own_max p1 (own_max p2 p3))), .second, .unset, .unset, .unset, .unset, .unset, .unset, .unset, .unset, .unset, .unset, .unset, .unset, .unset, .unset, .unset, .unset, .unset] [(.long p2), (.long p1)])) rfl (by rw [hml]; rfl) (argsL := [(.long p1), (.long p2)]) (rest := []) (lenOf own_pd2 rfl) rfl (by show 2 * 0 + _ ≤ _; exact Nat.le_of_eq rfl) (hb hby at_26) (fun _ _ => ⟨rfl, e4, (by decide : 0 + 0 ≤ _), (by decide : 0 + 0 ≤ _)⟩)
  dsimp only [Pt.U, Pt.locs, Pt.cells, Pt.slots] at X5 lu5 yu5 zu5 st5 hQ5
  subst lu5 yu5 zu5
  obtain ⟨rfl, N5q, e5⟩ := hQ5
  have N5 := Fr.app N4 N5q
  refine own_go (T5.setTop (mkF m 29 #[.val (.int p0), .val (.long p1), .second, .val (.long p2), .second, .val (.long p3), .second, .val (.int p4), .val (.long p5), .second, .val (.long (own_min p1 (own_min p2 p3))), .second, .val (.long (own_max p1 (own_max p2 p3))), .second, .unset, .unset, .unset, .unset, .unset, .unset, .unset, .unset, .unset, .unset, .unset, .unset, .unset, .unset, .unset, .unset, .unset] [(.long (own_min p1 p2))])) (fun t_ k_ => st5 _ k_) ?_
  refine own_go (T5.setTop (mkF m 30 #[.val (.int p0), .val (.long p1), .second, .val (.long p2), .second, .val (.long p3), .second, .val (.int p4), .val (.long p5), .second, .val (.long (own_min p1 (own_min p2 p3))), .second, .val (.long (own_max p1 (own_max p2 p3))), .second, .unset, .unset, .unset, .unset, .unset, .unset, .unset, .unset, .unset, .unset, .unset, .unset, .unset, .unset, .unset, .unset, .unset] [(.long p1), (.long (own_min p1 p2))])) (fun t_ k_ => XS.lloadN X5.here hx rfl (hb hby at_29) rfl k_) ?_
  refine own_go (T5.setTop (mkF m 31 #[.val (.int p0), .val (.long p1), .second, .val (.long p2), .second, .val (.long p3), .second, .val (.int p4), .val (.long p5), .second, .val (.long (own_min p1 (own_min p2 p3))), .second, .val (.long (own_max p1 (own_max p2 p3))), .second, .unset, .unset, .unset, .unset, .unset, .unset, .unset, .unset, .unset, .unset, .unset, .unset, .unset, .unset, .unset, .unset, .unset] [(.long p2), (.long p1), (.long (own_min p1 p2))])) (fun t_ k_ => XS.lloadN X5.here hx rfl (hb hby at_30) rfl k_) ?_
  obtain ⟨_, _, ⟨T6, Lu6, ku6, nu6⟩, -, X6, ⟨Lc6, hQ6, lu6, yu6, zu6⟩, st6⟩ := Jvm.LawKit.callS X5 hx (y := (⟨"java/lang/Math", "max", "(JJ)J"⟩ : MethodName)) hown (mvT hZ (hw _ (List.mem_of_getElem? (i := 4) rfl))) (mvT hZ (hw _ (List.mem_of_getElem? (i := 5) rfl))) (mvT hZ (hw _ (List.mem_of_getElem? (i := 2) rfl))) (mvT hZ (hw _ (List.mem_of_getElem? (i := 6) rfl))) (by decide) (backOf (W := 2) (rm_mx l Z a0 hw [] (p1) (p2) h0 O ) hZ (hw _ (List.mem_of_getElem? (i := 6) rfl)) (hw _ (List.mem_of_getElem? (i := 2) rfl)) (by decide) (by decide)) (g := (mkF m 31 #[.val (.int p0), .val (.long p1), .second, .val (.long p2), .second, .val (.long p3), .second, .val (.int p4), .val (.long p5), .second, .val (.long (own_min p1 (own_min p2 p3))), .second, .val (.long (own_max p1 (own_max p2 p3))), .second, .unset, .unset, .unset, .unset, .unset, .unset, .unset, .unset, .unset, .unset, .unset, .unset, .unset, .unset, .unset, .unset, .unset] [(.long p2), (.long p1), (.long (own_min p1 p2))])) rfl (by rw [hml]; rfl) (argsL := [(.long p1), (.long p2)]) (rest := [(.long (own_min p1 p2))]) (lenOf own_pd2 rfl) rfl (by show 2 * 0 + _ ≤ _; exact Nat.le_of_eq rfl) (hb hby at_31) (fun _ _ => ⟨rfl, e5, (by decide : 0 + 0 ≤ _), (by decide : 0 + 0 ≤ _)⟩)
  dsimp only [Pt.U, Pt.locs, Pt.cells, Pt.slots] at X6 lu6 yu6 zu6 st6 hQ6
  subst lu6 yu6 zu6
  obtain ⟨rfl, N6q, e6⟩ := hQ6
  have N6 := Fr.app N5 N6q
  refine own_go (T6.setTop (mkF m 34 #[.val (.int p0), .val (.long p1), .second, .val (.long p2), .second, .val (.long p3), .second, .val (.int p4), .val (.long p5), .second, .val (.long (own_min p1 (own_min p2 p3))), .second, .val (.long (own_max p1 (own_max p2 p3))), .second, .unset, .unset, .unset, .unset, .unset, .unset, .unset, .unset, .unset, .unset, .unset, .unset, .unset, .unset, .unset, .unset, .unset] [(.long (own_max p1 p2)), (.long (own_min p1 p2))])) (fun t_ k_ => st6 _ k_) ?_
  refine own_go (T6.setTop (mkF m 36 #[.val (.int p0), .val (.long p1), .second, .val (.long p2), .second, .val (.long p3), .second, .val (.int p4), .val (.long p5), .second, .val (.long (own_min p1 (own_min p2 p3))), .second, .val (.long (own_max p1 (own_max p2 p3))), .second, .unset, .unset, .unset, .unset, .unset, .unset, .unset, .unset, .unset, .unset, .unset, .unset, .unset, .unset, .unset, .unset, .unset] [(.long p3), (.long (own_max p1 p2)), (.long (own_min p1 p2))])) (fun t_ k_ => XS.lload X6.here hx rfl (hb hby at_34) rfl k_) ?_
  obtain ⟨_, _, ⟨T7, Lu7, ku7, nu7⟩, -, X7, ⟨Lc7, hQ7, lu7, yu7, zu7⟩, st7⟩ := Jvm.LawKit.callS X6 hx (y := (⟨"java/lang/Math", "min", "(JJ)J"⟩ : MethodName)) hown (mvT hZ (hw _ (List.mem_of_getElem? (i := 0) rfl))) (mvT hZ (hw _ (List.mem_of_getElem? (i := 1) rfl))) (mvT hZ (hw _ (List.mem_of_getElem? (i := 2) rfl))) (mvT hZ (hw _ (List.mem_of_getElem? (i := 3) rfl))) (by decide) (backOf (W := 2) (rm_mn l Z a0 hw [] ((own_max p1 p2)) (p3) h0 O ) hZ (hw _ (List.mem_of_getElem? (i := 3) rfl)) (hw _ (List.mem_of_getElem? (i := 2) rfl)) (by decide) (by decide)) (g := (mkF m 36 #[.val (.int p0), .val (.long p1), .second, .val (.long p2), .second, .val (.long p3), .second, .val (.int p4), .val (.long p5), .second, .val (.long (own_min p1 (own_min p2 p3))), .second, .val (.long (own_max p1 (own_max p2 p3))), .second, .unset, .unset, .unset, .unset, .unset, .unset, .unset, .unset, .unset, .unset, .unset, .unset, .unset, .unset, .unset, .unset, .unset] [(.long p3), (.long (own_max p1 p2)), (.long (own_min p1 p2))])) rfl (by rw [hml]; rfl) (argsL := [(.long (own_max p1 p2)), (.long p3)]) (rest := [(.long (own_min p1 p2))]) (lenOf own_pd2 rfl) rfl (by show 2 * 0 + _ ≤ _; exact Nat.le_of_eq rfl) (hb hby at_36) (fun _ _ => ⟨rfl, e6, (by decide : 0 + 0 ≤ _), (by decide : 0 + 0 ≤ _)⟩)
  dsimp only [Pt.U, Pt.locs, Pt.cells, Pt.slots] at X7 lu7 yu7 zu7 st7 hQ7
  subst lu7 yu7 zu7
  obtain ⟨rfl, N7q, e7⟩ := hQ7
  have N7 := Fr.app N6 N7q
  refine own_go (T7.setTop (mkF m 39 #[.val (.int p0), .val (.long p1), .second, .val (.long p2), .second, .val (.long p3), .second, .val (.int p4), .val (.long p5), .second, .val (.long (own_min p1 (own_min p2 p3))), .second, .val (.long (own_max p1 (own_max p2 p3))), .second, .unset, .unset, .unset, .unset, .unset, .unset, .unset, .unset, .unset, .unset, .unset, .unset, .unset, .unset, .unset, .unset, .unset] [(.long (own_min (own_max p1 p2) p3)), (.long (own_min p1 p2))])) (fun t_ k_ => st7 _ k_) ?_
  obtain ⟨_, _, ⟨T8, Lu8, ku8, nu8⟩, -, X8, ⟨Lc8, hQ8, lu8, yu8, zu8⟩, st8⟩ := Jvm.LawKit.callS X7 hx (y := (⟨"java/lang/Math", "max", "(JJ)J"⟩ : MethodName)) hown (mvT hZ (hw _ (List.mem_of_getElem? (i := 4) rfl))) (mvT hZ (hw _ (List.mem_of_getElem? (i := 5) rfl))) (mvT hZ (hw _ (List.mem_of_getElem? (i := 2) rfl))) (mvT hZ (hw _ (List.mem_of_getElem? (i := 6) rfl))) (by decide) (backOf (W := 0) (rm_mx l Z a0 hw [] ((own_min p1 p2)) ((own_min (own_max p1 p2) p3)) h0 O ) hZ (hw _ (List.mem_of_getElem? (i := 6) rfl)) (hw _ (List.mem_of_getElem? (i := 2) rfl)) (by decide) (by decide)) (g := (mkF m 39 #[.val (.int p0), .val (.long p1), .second, .val (.long p2), .second, .val (.long p3), .second, .val (.int p4), .val (.long p5), .second, .val (.long (own_min p1 (own_min p2 p3))), .second, .val (.long (own_max p1 (own_max p2 p3))), .second, .unset, .unset, .unset, .unset, .unset, .unset, .unset, .unset, .unset, .unset, .unset, .unset, .unset, .unset, .unset, .unset, .unset] [(.long (own_min (own_max p1 p2) p3)), (.long (own_min p1 p2))])) rfl (by rw [hml]; rfl) (argsL := [(.long (own_min p1 p2)), (.long (own_min (own_max p1 p2) p3))]) (rest := []) (lenOf own_pd2 rfl) rfl (by show 2 * 0 + _ ≤ _; exact Nat.le_of_eq rfl) (hb hby at_39) (fun _ _ => ⟨rfl, e7, (by decide : 0 + 0 ≤ _), (by decide : 0 + 0 ≤ _)⟩)
  dsimp only [Pt.U, Pt.locs, Pt.cells, Pt.slots] at X8 lu8 yu8 zu8 st8 hQ8
  subst lu8 yu8 zu8
  obtain ⟨rfl, N8q, e8⟩ := hQ8
  have N8 := Fr.app N7 N8q
  refine own_go (T8.setTop (mkF m 42 #[.val (.int p0), .val (.long p1), .second, .val (.long p2), .second, .val (.long p3), .second, .val (.int p4), .val (.long p5), .second, .val (.long (own_min p1 (own_min p2 p3))), .second, .val (.long (own_max p1 (own_max p2 p3))), .second, .unset, .unset, .unset, .unset, .unset, .unset, .unset, .unset, .unset, .unset, .unset, .unset, .unset, .unset, .unset, .unset, .unset] [(.long (own_max (own_min p1 p2) (own_min (own_max p1 p2) p3)))])) (fun t_ k_ => st8 _ k_) ?_
  refine own_go (T8.setTop (mkF m 44 #[.val (.int p0), .val (.long p1), .second, .val (.long p2), .second, .val (.long p3), .second, .val (.int p4), .val (.long p5), .second, .val (.long (own_min p1 (own_min p2 p3))), .second, .val (.long (own_max p1 (own_max p2 p3))), .second, .val (.long (own_max (own_min p1 p2) (own_min (own_max p1 p2) p3))), .second, .unset, .unset, .unset, .unset, .unset, .unset, .unset, .unset, .unset, .unset, .unset, .unset, .unset, .unset, .unset] [])) (fun t_ k_ => XS.lstore X8.here hx rfl (hb hby at_42) rfl (l' := #[.val (.int p0), .val (.long p1), .second, .val (.long p2), .second, .val (.long p3), .second, .val (.int p4), .val (.long p5), .second, .val (.long (own_min p1 (own_min p2 p3))), .second, .val (.long (own_max p1 (own_max p2 p3))), .second, .val (.long (own_max (own_min p1 p2) (own_min (own_max p1 p2) p3))), .second, .unset, .unset, .unset, .unset, .unset, .unset, .unset, .unset, .unset, .unset, .unset, .unset, .unset, .unset, .unset]) rfl k_) ?_
  obtain ⟨r, h_r⟩ : ∃ z, z = (own_min p1 (own_min p2 p3)) := ⟨_, rfl⟩
  rw [← h_r]
  obtain ⟨x, h_x⟩ : ∃ z, z = (own_max p1 (own_max p2 p3)) := ⟨_, rfl⟩
  rw [← h_x]
  obtain ⟨ev, h_ev⟩ : ∃ z, z = (own_max (own_min p1 p2) (own_min (own_max p1 p2) p3)) := ⟨_, rfl⟩
  rw [← h_ev]
  have hc1 : ¬ ev < r := by rw [h_ev, h_r]; exact own_med1 _ _ _
  have hc2 : ¬ x < ev := by rw [h_ev, h_x]; exact own_med2 _ _ _
  have J9 : ∀ (T10 : State) (l10 : List Loc) (X10 : Stand p l e room_1 s m #[(.int p0), (.long p1), (.long p2), (.long p3), (.int p4), (.long p5)] below meth c T10 l10 0 0) (N10 : Fr Z.heap.size l10) (e10 : T10.heap = h0) (c1 : Int32), own_G p e below (fun o_ s₂ => ∃ v_ L_, o_ = .returned v_ ∧ Q_law Z p0 p1 p2 p3 p4 p5 a_cache cl_cache h0 v_ s₂.heap L_ ∧ FrameEnd s o_ s₂ L_ room_1.cells room_1.slots) (T10.setTop (mkF m 56 #[.val (.int p0), .val (.long p1), .second, .val (.long p2), .second, .val (.long p3), .second, .val (.int p4), .val (.long p5), .second, .val (.long r), .second, .val (.long x), .second, .val (.long ev), .second, .unset, .unset, .unset, .unset, .unset, .unset, .unset, .unset, .unset, .unset, .unset, .unset, .unset, .unset, .unset] [(.int c1)])) := by
    intro T10 l10 X10 N10 e10 c1
    refine own_go (T10.setTop (mkF m 58 #[.val (.int p0), .val (.long p1), .second, .val (.long p2), .second, .val (.long p3), .second, .val (.int p4), .val (.long p5), .second, .val (.long r), .second, .val (.long x), .second, .val (.long ev), .second, .val (.int c1), .unset, .unset, .unset, .unset, .unset, .unset, .unset, .unset, .unset, .unset, .unset, .unset, .unset, .unset] [])) (fun t_ k_ => XS.istore X10.here hx rfl (hb hby at_56) rfl (l' := #[.val (.int p0), .val (.long p1), .second, .val (.long p2), .second, .val (.long p3), .second, .val (.int p4), .val (.long p5), .second, .val (.long r), .second, .val (.long x), .second, .val (.long ev), .second, .val (.int c1), .unset, .unset, .unset, .unset, .unset, .unset, .unset, .unset, .unset, .unset, .unset, .unset, .unset, .unset]) rfl k_) ?_
    have J11 : ∀ (T12 : State) (l12 : List Loc) (X12 : Stand p l e room_1 s m #[(.int p0), (.long p1), (.long p2), (.long p3), (.int p4), (.long p5)] below meth c T12 l12 0 0) (N12 : Fr Z.heap.size l12) (e12 : T12.heap = h0) (c2 : Int32), own_G p e below (fun o_ s₂ => ∃ v_ L_, o_ = .returned v_ ∧ Q_law Z p0 p1 p2 p3 p4 p5 a_cache cl_cache h0 v_ s₂.heap L_ ∧ FrameEnd s o_ s₂ L_ room_1.cells room_1.slots) (T12.setTop (mkF m 70 #[.val (.int p0), .val (.long p1), .second, .val (.long p2), .second, .val (.long p3), .second, .val (.int p4), .val (.long p5), .second, .val (.long r), .second, .val (.long x), .second, .val (.long ev), .second, .val (.int c1), .unset, .unset, .unset, .unset, .unset, .unset, .unset, .unset, .unset, .unset, .unset, .unset, .unset, .unset] [(.int c2)])) := by
      intro T12 l12 X12 N12 e12 c2
      refine own_go (T12.setTop (mkF m 72 #[.val (.int p0), .val (.long p1), .second, .val (.long p2), .second, .val (.long p3), .second, .val (.int p4), .val (.long p5), .second, .val (.long r), .second, .val (.long x), .second, .val (.long ev), .second, .val (.int c1), .val (.int c2), .unset, .unset, .unset, .unset, .unset, .unset, .unset, .unset, .unset, .unset, .unset, .unset, .unset] [])) (fun t_ k_ => XS.istore X12.here hx rfl (hb hby at_70) rfl (l' := #[.val (.int p0), .val (.long p1), .second, .val (.long p2), .second, .val (.long p3), .second, .val (.int p4), .val (.long p5), .second, .val (.long r), .second, .val (.long x), .second, .val (.long ev), .second, .val (.int c1), .val (.int c2), .unset, .unset, .unset, .unset, .unset, .unset, .unset, .unset, .unset, .unset, .unset, .unset, .unset]) rfl k_) ?_
      have J13 : ∀ (T14 : State) (l14 : List Loc) (X14 : Stand p l e room_1 s m #[(.int p0), (.long p1), (.long p2), (.long p3), (.int p4), (.long p5)] below meth c T14 l14 0 0) (N14 : Fr Z.heap.size l14) (e14 : T14.heap = h0) (c3 : Int32), own_G p e below (fun o_ s₂ => ∃ v_ L_, o_ = .returned v_ ∧ Q_law Z p0 p1 p2 p3 p4 p5 a_cache cl_cache h0 v_ s₂.heap L_ ∧ FrameEnd s o_ s₂ L_ room_1.cells room_1.slots) (T14.setTop (mkF m 84 #[.val (.int p0), .val (.long p1), .second, .val (.long p2), .second, .val (.long p3), .second, .val (.int p4), .val (.long p5), .second, .val (.long r), .second, .val (.long x), .second, .val (.long ev), .second, .val (.int c1), .val (.int c2), .unset, .unset, .unset, .unset, .unset, .unset, .unset, .unset, .unset, .unset, .unset, .unset, .unset] [(.int c3)])) := by
        intro T14 l14 X14 N14 e14 c3
        refine own_go (T14.setTop (mkF m 86 #[.val (.int p0), .val (.long p1), .second, .val (.long p2), .second, .val (.long p3), .second, .val (.int p4), .val (.long p5), .second, .val (.long r), .second, .val (.long x), .second, .val (.long ev), .second, .val (.int c1), .val (.int c2), .val (.int c3), .unset, .unset, .unset, .unset, .unset, .unset, .unset, .unset, .unset, .unset, .unset, .unset] [])) (fun t_ k_ => XS.istore X14.here hx rfl (hb hby at_84) rfl (l' := #[.val (.int p0), .val (.long p1), .second, .val (.long p2), .second, .val (.long p3), .second, .val (.int p4), .val (.long p5), .second, .val (.long r), .second, .val (.long x), .second, .val (.long ev), .second, .val (.int c1), .val (.int c2), .val (.int c3), .unset, .unset, .unset, .unset, .unset, .unset, .unset, .unset, .unset, .unset, .unset, .unset]) rfl k_) ?_
        have J15 : ∀ (T16 : State) (l16 : List Loc) (X16 : Stand p l e room_1 s m #[(.int p0), (.long p1), (.long p2), (.long p3), (.int p4), (.long p5)] below meth c T16 l16 0 0) (N16 : Fr Z.heap.size l16) (e16 : T16.heap = h0) (c4 : Int32), own_G p e below (fun o_ s₂ => ∃ v_ L_, o_ = .returned v_ ∧ Q_law Z p0 p1 p2 p3 p4 p5 a_cache cl_cache h0 v_ s₂.heap L_ ∧ FrameEnd s o_ s₂ L_ room_1.cells room_1.slots) (T16.setTop (mkF m 99 #[.val (.int p0), .val (.long p1), .second, .val (.long p2), .second, .val (.long p3), .second, .val (.int p4), .val (.long p5), .second, .val (.long r), .second, .val (.long x), .second, .val (.long ev), .second, .val (.int c1), .val (.int c2), .val (.int c3), .unset, .unset, .unset, .unset, .unset, .unset, .unset, .unset, .unset, .unset, .unset, .unset] [(.int c4)])) := by
          intro T16 l16 X16 N16 e16 c4
          refine own_go (T16.setTop (mkF m 101 #[.val (.int p0), .val (.long p1), .second, .val (.long p2), .second, .val (.long p3), .second, .val (.int p4), .val (.long p5), .second, .val (.long r), .second, .val (.long x), .second, .val (.long ev), .second, .val (.int c1), .val (.int c2), .val (.int c3), .val (.int c4), .unset, .unset, .unset, .unset, .unset, .unset, .unset, .unset, .unset, .unset, .unset] [])) (fun t_ k_ => XS.istore X16.here hx rfl (hb hby at_99) rfl (l' := #[.val (.int p0), .val (.long p1), .second, .val (.long p2), .second, .val (.long p3), .second, .val (.int p4), .val (.long p5), .second, .val (.long r), .second, .val (.long x), .second, .val (.long ev), .second, .val (.int c1), .val (.int c2), .val (.int c3), .val (.int c4), .unset, .unset, .unset, .unset, .unset, .unset, .unset, .unset, .unset, .unset, .unset]) rfl k_) ?_
          have J17 : ∀ (T18 : State) (l18 : List Loc) (X18 : Stand p l e room_1 s m #[(.int p0), (.long p1), (.long p2), (.long p3), (.int p4), (.long p5)] below meth c T18 l18 0 0) (N18 : Fr Z.heap.size l18) (e18 : T18.heap = h0) (qB : Int32), own_G p e below (fun o_ s₂ => ∃ v_ L_, o_ = .returned v_ ∧ Q_law Z p0 p1 p2 p3 p4 p5 a_cache cl_cache h0 v_ s₂.heap L_ ∧ FrameEnd s o_ s₂ L_ room_1.cells room_1.slots) (T18.setTop (mkF m 113 #[.val (.int p0), .val (.long p1), .second, .val (.long p2), .second, .val (.long p3), .second, .val (.int p4), .val (.long p5), .second, .val (.long r), .second, .val (.long x), .second, .val (.long ev), .second, .val (.int c1), .val (.int c2), .val (.int c3), .val (.int c4), .unset, .unset, .unset, .unset, .unset, .unset, .unset, .unset, .unset, .unset, .unset] [(.int qB)])) := by
            intro T18 l18 X18 N18 e18 qB
            refine own_go (T18.setTop (mkF m 115 #[.val (.int p0), .val (.long p1), .second, .val (.long p2), .second, .val (.long p3), .second, .val (.int p4), .val (.long p5), .second, .val (.long r), .second, .val (.long x), .second, .val (.long ev), .second, .val (.int c1), .val (.int c2), .val (.int c3), .val (.int c4), .val (.int qB), .unset, .unset, .unset, .unset, .unset, .unset, .unset, .unset, .unset, .unset] [])) (fun t_ k_ => XS.istore X18.here hx rfl (hb hby at_113) rfl (l' := #[.val (.int p0), .val (.long p1), .second, .val (.long p2), .second, .val (.long p3), .second, .val (.int p4), .val (.long p5), .second, .val (.long r), .second, .val (.long x), .second, .val (.long ev), .second, .val (.int c1), .val (.int c2), .val (.int c3), .val (.int c4), .val (.int qB), .unset, .unset, .unset, .unset, .unset, .unset, .unset, .unset, .unset, .unset]) rfl k_) ?_
            have J19 : ∀ (T20 : State) (l20 : List Loc) (X20 : Stand p l e room_1 s m #[(.int p0), (.long p1), (.long p2), (.long p3), (.int p4), (.long p5)] below meth c T20 l20 0 0) (N20 : Fr Z.heap.size l20) (e20 : T20.heap = h0) (rB : Int64) (h_rB : rB = r ∨ rB = own_min p5 ev), own_G p e below (fun o_ s₂ => ∃ v_ L_, o_ = .returned v_ ∧ Q_law Z p0 p1 p2 p3 p4 p5 a_cache cl_cache h0 v_ s₂.heap L_ ∧ FrameEnd s o_ s₂ L_ room_1.cells room_1.slots) (T20.setTop (mkF m 132 #[.val (.int p0), .val (.long p1), .second, .val (.long p2), .second, .val (.long p3), .second, .val (.int p4), .val (.long p5), .second, .val (.long r), .second, .val (.long x), .second, .val (.long ev), .second, .val (.int c1), .val (.int c2), .val (.int c3), .val (.int c4), .val (.int qB), .unset, .unset, .unset, .unset, .unset, .unset, .unset, .unset, .unset, .unset] [(.long rB)])) := by
              intro T20 l20 X20 N20 e20 rB h_rB
              refine own_go (T20.setTop (mkF m 134 #[.val (.int p0), .val (.long p1), .second, .val (.long p2), .second, .val (.long p3), .second, .val (.int p4), .val (.long p5), .second, .val (.long r), .second, .val (.long x), .second, .val (.long ev), .second, .val (.int c1), .val (.int c2), .val (.int c3), .val (.int c4), .val (.int qB), .val (.long rB), .second, .unset, .unset, .unset, .unset, .unset, .unset, .unset, .unset] [])) (fun t_ k_ => XS.lstore X20.here hx rfl (hb hby at_132) rfl (l' := #[.val (.int p0), .val (.long p1), .second, .val (.long p2), .second, .val (.long p3), .second, .val (.int p4), .val (.long p5), .second, .val (.long r), .second, .val (.long x), .second, .val (.long ev), .second, .val (.int c1), .val (.int c2), .val (.int c3), .val (.int c4), .val (.int qB), .val (.long rB), .second, .unset, .unset, .unset, .unset, .unset, .unset, .unset, .unset]) rfl k_) ?_
              have J21 : ∀ (T22 : State) (l22 : List Loc) (X22 : Stand p l e room_1 s m #[(.int p0), (.long p1), (.long p2), (.long p3), (.int p4), (.long p5)] below meth c T22 l22 0 0) (N22 : Fr Z.heap.size l22) (e22 : T22.heap = h0) (eB : Int64) (h_eB : eB = ev ∨ eB = own_max r (own_min p5 x)), own_G p e below (fun o_ s₂ => ∃ v_ L_, o_ = .returned v_ ∧ Q_law Z p0 p1 p2 p3 p4 p5 a_cache cl_cache h0 v_ s₂.heap L_ ∧ FrameEnd s o_ s₂ L_ room_1.cells room_1.slots) (T22.setTop (mkF m 156 #[.val (.int p0), .val (.long p1), .second, .val (.long p2), .second, .val (.long p3), .second, .val (.int p4), .val (.long p5), .second, .val (.long r), .second, .val (.long x), .second, .val (.long ev), .second, .val (.int c1), .val (.int c2), .val (.int c3), .val (.int c4), .val (.int qB), .val (.long rB), .second, .unset, .unset, .unset, .unset, .unset, .unset, .unset, .unset] [(.long eB)])) := by
                intro T22 l22 X22 N22 e22 eB h_eB
                refine own_go (T22.setTop (mkF m 158 #[.val (.int p0), .val (.long p1), .second, .val (.long p2), .second, .val (.long p3), .second, .val (.int p4), .val (.long p5), .second, .val (.long r), .second, .val (.long x), .second, .val (.long ev), .second, .val (.int c1), .val (.int c2), .val (.int c3), .val (.int c4), .val (.int qB), .val (.long rB), .second, .val (.long eB), .second, .unset, .unset, .unset, .unset, .unset, .unset] [])) (fun t_ k_ => XS.lstore X22.here hx rfl (hb hby at_156) rfl (l' := #[.val (.int p0), .val (.long p1), .second, .val (.long p2), .second, .val (.long p3), .second, .val (.int p4), .val (.long p5), .second, .val (.long r), .second, .val (.long x), .second, .val (.long ev), .second, .val (.int c1), .val (.int c2), .val (.int c3), .val (.int c4), .val (.int qB), .val (.long rB), .second, .val (.long eB), .second, .unset, .unset, .unset, .unset, .unset, .unset]) rfl k_) ?_
                have J23 : ∀ (T24 : State) (l24 : List Loc) (X24 : Stand p l e room_1 s m #[(.int p0), (.long p1), (.long p2), (.long p3), (.int p4), (.long p5)] below meth c T24 l24 0 0) (N24 : Fr Z.heap.size l24) (e24 : T24.heap = h0) (xB : Int64) (h_xB : xB = x ∨ xB = own_max p5 ev), own_G p e below (fun o_ s₂ => ∃ v_ L_, o_ = .returned v_ ∧ Q_law Z p0 p1 p2 p3 p4 p5 a_cache cl_cache h0 v_ s₂.heap L_ ∧ FrameEnd s o_ s₂ L_ room_1.cells room_1.slots) (T24.setTop (mkF m 175 #[.val (.int p0), .val (.long p1), .second, .val (.long p2), .second, .val (.long p3), .second, .val (.int p4), .val (.long p5), .second, .val (.long r), .second, .val (.long x), .second, .val (.long ev), .second, .val (.int c1), .val (.int c2), .val (.int c3), .val (.int c4), .val (.int qB), .val (.long rB), .second, .val (.long eB), .second, .unset, .unset, .unset, .unset, .unset, .unset] [(.long xB)])) := by
                  intro T24 l24 X24 N24 e24 xB h_xB
                  refine own_go (T24.setTop (mkF m 177 #[.val (.int p0), .val (.long p1), .second, .val (.long p2), .second, .val (.long p3), .second, .val (.int p4), .val (.long p5), .second, .val (.long r), .second, .val (.long x), .second, .val (.long ev), .second, .val (.int c1), .val (.int c2), .val (.int c3), .val (.int c4), .val (.int qB), .val (.long rB), .second, .val (.long eB), .second, .val (.long xB), .second, .unset, .unset, .unset, .unset] [])) (fun t_ k_ => XS.lstore X24.here hx rfl (hb hby at_175) rfl (l' := #[.val (.int p0), .val (.long p1), .second, .val (.long p2), .second, .val (.long p3), .second, .val (.int p4), .val (.long p5), .second, .val (.long r), .second, .val (.long x), .second, .val (.long ev), .second, .val (.int c1), .val (.int c2), .val (.int c3), .val (.int c4), .val (.int qB), .val (.long rB), .second, .val (.long eB), .second, .val (.long xB), .second, .unset, .unset, .unset, .unset]) rfl k_) ?_
                  have hb1 : ¬ eB < rB := own_box1 hc1 hc2 h_rB h_eB
                  have hb2 : ¬ xB < eB := own_box2 hc1 hc2 h_eB h_xB
                  obtain ⟨T25, h25, X25, e25, E25, A25, D25, U25, st25⟩ := newO X24 hx hZ hown (hw _ (List.mem_of_getElem? (i := 7) rfl)) (hw _ (List.mem_of_getElem? (i := 8) rfl)) (hw _ (List.mem_of_getElem? (i := 9) rfl)) e24 (g := (mkF m 177 #[.val (.int p0), .val (.long p1), .second, .val (.long p2), .second, .val (.long p3), .second, .val (.int p4), .val (.long p5), .second, .val (.long r), .second, .val (.long x), .second, .val (.long ev), .second, .val (.int c1), .val (.int c2), .val (.int c3), .val (.int c4), .val (.int qB), .val (.long rB), .second, .val (.long eB), .second, .val (.long xB), .second, .unset, .unset, .unset, .unset] [])) rfl (hb hby at_177) (by decide) (by decide)
                  obtain ⟨b25, g25⟩ : ∃ z, z = h0.size := ⟨_, rfl⟩
                  rw [← g25] at A25 D25 U25 st25
                  have ge_b25 : Z.heap.size ≤ b25 := Nat.le_trans O.1 (Nat.le_of_eq g25.symm)
                  have sz_b25 : h0.size ≤ b25 := Nat.le_trans (Keep.refl h0 []).1 (Nat.le_of_eq g25.symm)
                  have K25 : Keep h0 h25 [] := (Keep.refl h0 []).ext E25
                  have O25 := own_ext O E25
                  have Fprocess_25 : Fld Z h25 b25 "com/example/eager_quorum/eagerquorum/model/CriticalSection" "process" "I" (.int (0 : Int32)) := D25 (Or.inr (hw _ (List.mem_of_getElem? (i := 17) rfl))) (ty := .int) (by decide)
                  have Frequested_25 : Fld Z h25 b25 "com/example/eager_quorum/eagerquorum/model/CriticalSection" "requested" "J" (.long (0 : Int64)) := D25 (Or.inr (hw _ (List.mem_of_getElem? (i := 19) rfl))) (ty := .long) (by decide)
                  have Fentered_25 : Fld Z h25 b25 "com/example/eager_quorum/eagerquorum/model/CriticalSection" "entered" "J" (.long (0 : Int64)) := D25 (Or.inr (hw _ (List.mem_of_getElem? (i := 21) rfl))) (ty := .long) (by decide)
                  have Fexited_25 : Fld Z h25 b25 "com/example/eager_quorum/eagerquorum/model/CriticalSection" "exited" "J" (.long (0 : Int64)) := D25 (Or.inr (hw _ (List.mem_of_getElem? (i := 23) rfl))) (ty := .long) (by decide)
                  refine own_go (T25.setTop (mkF m 180 #[.val (.int p0), .val (.long p1), .second, .val (.long p2), .second, .val (.long p3), .second, .val (.int p4), .val (.long p5), .second, .val (.long r), .second, .val (.long x), .second, .val (.long ev), .second, .val (.int c1), .val (.int c2), .val (.int c3), .val (.int c4), .val (.int qB), .val (.long rB), .second, .val (.long eB), .second, .val (.long xB), .second, .unset, .unset, .unset, .unset] [(.ref b25)])) (fun t_ k_ => st25 _ k_) ?_
                  refine own_go (T25.setTop (mkF m 181 #[.val (.int p0), .val (.long p1), .second, .val (.long p2), .second, .val (.long p3), .second, .val (.int p4), .val (.long p5), .second, .val (.long r), .second, .val (.long x), .second, .val (.long ev), .second, .val (.int c1), .val (.int c2), .val (.int c3), .val (.int c4), .val (.int qB), .val (.long rB), .second, .val (.long eB), .second, .val (.long xB), .second, .unset, .unset, .unset, .unset] [(.ref b25), (.ref b25)])) (fun t_ k_ => XS.dup X25.here hx rfl (hb hby at_180) rfl rfl k_) ?_
                  refine own_go (T25.setTop (mkF m 182 #[.val (.int p0), .val (.long p1), .second, .val (.long p2), .second, .val (.long p3), .second, .val (.int p4), .val (.long p5), .second, .val (.long r), .second, .val (.long x), .second, .val (.long ev), .second, .val (.int c1), .val (.int c2), .val (.int c3), .val (.int c4), .val (.int qB), .val (.long rB), .second, .val (.long eB), .second, .val (.long xB), .second, .unset, .unset, .unset, .unset] [(.int p0), (.ref b25), (.ref b25)])) (fun t_ k_ => XS.iloadN X25.here hx rfl (hb hby at_181) rfl k_) ?_
                  refine own_go (T25.setTop (mkF m 184 #[.val (.int p0), .val (.long p1), .second, .val (.long p2), .second, .val (.long p3), .second, .val (.int p4), .val (.long p5), .second, .val (.long r), .second, .val (.long x), .second, .val (.long ev), .second, .val (.int c1), .val (.int c2), .val (.int c3), .val (.int c4), .val (.int qB), .val (.long rB), .second, .val (.long eB), .second, .val (.long xB), .second, .unset, .unset, .unset, .unset] [(.long r), (.int p0), (.ref b25), (.ref b25)])) (fun t_ k_ => XS.lload X25.here hx rfl (hb hby at_182) rfl k_) ?_
                  refine own_go (T25.setTop (mkF m 186 #[.val (.int p0), .val (.long p1), .second, .val (.long p2), .second, .val (.long p3), .second, .val (.int p4), .val (.long p5), .second, .val (.long r), .second, .val (.long x), .second, .val (.long ev), .second, .val (.int c1), .val (.int c2), .val (.int c3), .val (.int c4), .val (.int qB), .val (.long rB), .second, .val (.long eB), .second, .val (.long xB), .second, .unset, .unset, .unset, .unset] [(.long ev), (.long r), (.int p0), (.ref b25), (.ref b25)])) (fun t_ k_ => XS.lload X25.here hx rfl (hb hby at_184) rfl k_) ?_
                  refine own_go (T25.setTop (mkF m 188 #[.val (.int p0), .val (.long p1), .second, .val (.long p2), .second, .val (.long p3), .second, .val (.int p4), .val (.long p5), .second, .val (.long r), .second, .val (.long x), .second, .val (.long ev), .second, .val (.int c1), .val (.int c2), .val (.int c3), .val (.int c4), .val (.int qB), .val (.long rB), .second, .val (.long eB), .second, .val (.long xB), .second, .unset, .unset, .unset, .unset] [(.long x), (.long ev), (.long r), (.int p0), (.ref b25), (.ref b25)])) (fun t_ k_ => XS.lload X25.here hx rfl (hb hby at_186) rfl k_) ?_
                  obtain ⟨_, _, ⟨T26, Lu26, ku26, nu26⟩, -, X26, ⟨Lc26, hQ26, lu26, yu26, zu26⟩, st26⟩ := X25.specialBack hx (y := (⟨"com/example/eager_quorum/eagerquorum/model/CriticalSection", "<init>", "(IJJJ)V"⟩ : MethodName)) rfl hown (mvT hZ (hw _ (List.mem_of_getElem? (i := 10) rfl))) (mvT hZ (hw _ (List.mem_of_getElem? (i := 11) rfl))) (mvT hZ (hw _ (List.mem_of_getElem? (i := 12) rfl))) (by decide) (backOf (W := 1) (rm_ci l Z a0 hw [] (b25) (p0) (r) (ev) (x) h25 O25 A25 Fprocess_25 Frequested_25 Fentered_25 Fexited_25 ge_b25 hc1 hc2) hZ (hw _ (List.mem_of_getElem? (i := 12) rfl)) (hw _ (List.mem_of_getElem? (i := 9) rfl)) (by decide) (by decide)) (g := (mkF m 188 #[.val (.int p0), .val (.long p1), .second, .val (.long p2), .second, .val (.long p3), .second, .val (.int p4), .val (.long p5), .second, .val (.long r), .second, .val (.long x), .second, .val (.long ev), .second, .val (.int c1), .val (.int c2), .val (.int c3), .val (.int c4), .val (.int qB), .val (.long rB), .second, .val (.long eB), .second, .val (.long xB), .second, .unset, .unset, .unset, .unset] [(.long x), (.long ev), (.long r), (.int p0), (.ref b25), (.ref b25)])) rfl (by rw [hml]; rfl) (Steps.refl _) (a := b25) (argsL := [(.int p0), (.long r), (.long ev), (.long x)]) (rest := [(.ref b25)]) (lenOf own_pd3 rfl) rfl (by show 2 * 0 + _ ≤ _; exact Nat.le_of_eq rfl) (hb hby at_188) (fun _ _ => ⟨rfl, e25, (by decide : 1 + 0 ≤ _), (by decide : 4 + 0 ≤ _)⟩)
                  dsimp only [Pt.U, Pt.locs, Pt.cells, Pt.slots] at X26 lu26 yu26 zu26 st26 hQ26
                  subst lu26 yu26 zu26
                  obtain ⟨rfl, N26q, K26q, X26q, F26q0, F26q1, F26q2, F26q3⟩ := hQ26
                  have N26 := Fr.app N24 N26q
                  have O26 := own_extK O25 K26q (allS ge_b25 all0)
                  have KK26 : Keep h0 T26.heap [] := K25.trans K26q (allS (Or.inr sz_b25) all0)
                  refine own_go (T26.setTop (mkF m 191 #[.val (.int p0), .val (.long p1), .second, .val (.long p2), .second, .val (.long p3), .second, .val (.int p4), .val (.long p5), .second, .val (.long r), .second, .val (.long x), .second, .val (.long ev), .second, .val (.int c1), .val (.int c2), .val (.int c3), .val (.int c4), .val (.int qB), .val (.long rB), .second, .val (.long eB), .second, .val (.long xB), .second, .unset, .unset, .unset, .unset] [(.ref b25)])) (fun t_ k_ => st26.trans k_) ?_
                  refine own_go (T26.setTop (mkF m 193 #[.val (.int p0), .val (.long p1), .second, .val (.long p2), .second, .val (.long p3), .second, .val (.int p4), .val (.long p5), .second, .val (.long r), .second, .val (.long x), .second, .val (.long ev), .second, .val (.int c1), .val (.int c2), .val (.int c3), .val (.int c4), .val (.int qB), .val (.long rB), .second, .val (.long eB), .second, .val (.long xB), .second, .val (.ref b25), .unset, .unset, .unset] [])) (fun t_ k_ => XS.astore X26.here hx rfl (hb hby at_191) rfl rfl (l' := #[.val (.int p0), .val (.long p1), .second, .val (.long p2), .second, .val (.long p3), .second, .val (.int p4), .val (.long p5), .second, .val (.long r), .second, .val (.long x), .second, .val (.long ev), .second, .val (.int c1), .val (.int c2), .val (.int c3), .val (.int c4), .val (.int qB), .val (.long rB), .second, .val (.long eB), .second, .val (.long xB), .second, .val (.ref b25), .unset, .unset, .unset]) rfl k_) ?_
                  obtain ⟨T27, h27, X27, e27, E27, A27, D27, U27, st27⟩ := newO X26 hx hZ hown (hw _ (List.mem_of_getElem? (i := 7) rfl)) (hw _ (List.mem_of_getElem? (i := 8) rfl)) (hw _ (List.mem_of_getElem? (i := 9) rfl)) rfl (g := (mkF m 193 #[.val (.int p0), .val (.long p1), .second, .val (.long p2), .second, .val (.long p3), .second, .val (.int p4), .val (.long p5), .second, .val (.long r), .second, .val (.long x), .second, .val (.long ev), .second, .val (.int c1), .val (.int c2), .val (.int c3), .val (.int c4), .val (.int qB), .val (.long rB), .second, .val (.long eB), .second, .val (.long xB), .second, .val (.ref b25), .unset, .unset, .unset] [])) rfl (hb hby at_193) (by decide) (by decide)
                  obtain ⟨b27, g27⟩ : ∃ z, z = T26.heap.size := ⟨_, rfl⟩
                  rw [← g27] at A27 D27 U27 st27
                  have ge_b27 : Z.heap.size ≤ b27 := Nat.le_trans O26.1 (Nat.le_of_eq g27.symm)
                  have sz_b27 : h0.size ≤ b27 := Nat.le_trans KK26.1 (Nat.le_of_eq g27.symm)
                  have K27 : Keep h0 h27 [] := KK26.ext E27
                  have O27 := own_ext O26 E27
                  have Fprocess_27 : Fld Z h27 b27 "com/example/eager_quorum/eagerquorum/model/CriticalSection" "process" "I" (.int (0 : Int32)) := D27 (Or.inr (hw _ (List.mem_of_getElem? (i := 17) rfl))) (ty := .int) (by decide)
                  have Frequested_27 : Fld Z h27 b27 "com/example/eager_quorum/eagerquorum/model/CriticalSection" "requested" "J" (.long (0 : Int64)) := D27 (Or.inr (hw _ (List.mem_of_getElem? (i := 19) rfl))) (ty := .long) (by decide)
                  have Fentered_27 : Fld Z h27 b27 "com/example/eager_quorum/eagerquorum/model/CriticalSection" "entered" "J" (.long (0 : Int64)) := D27 (Or.inr (hw _ (List.mem_of_getElem? (i := 21) rfl))) (ty := .long) (by decide)
                  have Fexited_27 : Fld Z h27 b27 "com/example/eager_quorum/eagerquorum/model/CriticalSection" "exited" "J" (.long (0 : Int64)) := D27 (Or.inr (hw _ (List.mem_of_getElem? (i := 23) rfl))) (ty := .long) (by decide)
                  refine own_go (T27.setTop (mkF m 196 #[.val (.int p0), .val (.long p1), .second, .val (.long p2), .second, .val (.long p3), .second, .val (.int p4), .val (.long p5), .second, .val (.long r), .second, .val (.long x), .second, .val (.long ev), .second, .val (.int c1), .val (.int c2), .val (.int c3), .val (.int c4), .val (.int qB), .val (.long rB), .second, .val (.long eB), .second, .val (.long xB), .second, .val (.ref b25), .unset, .unset, .unset] [(.ref b27)])) (fun t_ k_ => st27 _ k_) ?_
                  refine own_go (T27.setTop (mkF m 197 #[.val (.int p0), .val (.long p1), .second, .val (.long p2), .second, .val (.long p3), .second, .val (.int p4), .val (.long p5), .second, .val (.long r), .second, .val (.long x), .second, .val (.long ev), .second, .val (.int c1), .val (.int c2), .val (.int c3), .val (.int c4), .val (.int qB), .val (.long rB), .second, .val (.long eB), .second, .val (.long xB), .second, .val (.ref b25), .unset, .unset, .unset] [(.ref b27), (.ref b27)])) (fun t_ k_ => XS.dup X27.here hx rfl (hb hby at_196) rfl rfl k_) ?_
                  refine own_go (T27.setTop (mkF m 199 #[.val (.int p0), .val (.long p1), .second, .val (.long p2), .second, .val (.long p3), .second, .val (.int p4), .val (.long p5), .second, .val (.long r), .second, .val (.long x), .second, .val (.long ev), .second, .val (.int c1), .val (.int c2), .val (.int c3), .val (.int c4), .val (.int qB), .val (.long rB), .second, .val (.long eB), .second, .val (.long xB), .second, .val (.ref b25), .unset, .unset, .unset] [(.int qB), (.ref b27), (.ref b27)])) (fun t_ k_ => XS.iload X27.here hx rfl (hb hby at_197) rfl k_) ?_
                  refine own_go (T27.setTop (mkF m 201 #[.val (.int p0), .val (.long p1), .second, .val (.long p2), .second, .val (.long p3), .second, .val (.int p4), .val (.long p5), .second, .val (.long r), .second, .val (.long x), .second, .val (.long ev), .second, .val (.int c1), .val (.int c2), .val (.int c3), .val (.int c4), .val (.int qB), .val (.long rB), .second, .val (.long eB), .second, .val (.long xB), .second, .val (.ref b25), .unset, .unset, .unset] [(.long rB), (.int qB), (.ref b27), (.ref b27)])) (fun t_ k_ => XS.lload X27.here hx rfl (hb hby at_199) rfl k_) ?_
                  refine own_go (T27.setTop (mkF m 203 #[.val (.int p0), .val (.long p1), .second, .val (.long p2), .second, .val (.long p3), .second, .val (.int p4), .val (.long p5), .second, .val (.long r), .second, .val (.long x), .second, .val (.long ev), .second, .val (.int c1), .val (.int c2), .val (.int c3), .val (.int c4), .val (.int qB), .val (.long rB), .second, .val (.long eB), .second, .val (.long xB), .second, .val (.ref b25), .unset, .unset, .unset] [(.long eB), (.long rB), (.int qB), (.ref b27), (.ref b27)])) (fun t_ k_ => XS.lload X27.here hx rfl (hb hby at_201) rfl k_) ?_
                  refine own_go (T27.setTop (mkF m 205 #[.val (.int p0), .val (.long p1), .second, .val (.long p2), .second, .val (.long p3), .second, .val (.int p4), .val (.long p5), .second, .val (.long r), .second, .val (.long x), .second, .val (.long ev), .second, .val (.int c1), .val (.int c2), .val (.int c3), .val (.int c4), .val (.int qB), .val (.long rB), .second, .val (.long eB), .second, .val (.long xB), .second, .val (.ref b25), .unset, .unset, .unset] [(.long xB), (.long eB), (.long rB), (.int qB), (.ref b27), (.ref b27)])) (fun t_ k_ => XS.lload X27.here hx rfl (hb hby at_203) rfl k_) ?_
                  obtain ⟨_, _, ⟨T28, Lu28, ku28, nu28⟩, -, X28, ⟨Lc28, hQ28, lu28, yu28, zu28⟩, st28⟩ := X27.specialBack hx (y := (⟨"com/example/eager_quorum/eagerquorum/model/CriticalSection", "<init>", "(IJJJ)V"⟩ : MethodName)) rfl hown (mvT hZ (hw _ (List.mem_of_getElem? (i := 10) rfl))) (mvT hZ (hw _ (List.mem_of_getElem? (i := 11) rfl))) (mvT hZ (hw _ (List.mem_of_getElem? (i := 12) rfl))) (by decide) (backOf (W := 1) (rm_ci l Z a0 hw [] (b27) (qB) (rB) (eB) (xB) h27 O27 A27 Fprocess_27 Frequested_27 Fentered_27 Fexited_27 ge_b27 hb1 hb2) hZ (hw _ (List.mem_of_getElem? (i := 12) rfl)) (hw _ (List.mem_of_getElem? (i := 9) rfl)) (by decide) (by decide)) (g := (mkF m 205 #[.val (.int p0), .val (.long p1), .second, .val (.long p2), .second, .val (.long p3), .second, .val (.int p4), .val (.long p5), .second, .val (.long r), .second, .val (.long x), .second, .val (.long ev), .second, .val (.int c1), .val (.int c2), .val (.int c3), .val (.int c4), .val (.int qB), .val (.long rB), .second, .val (.long eB), .second, .val (.long xB), .second, .val (.ref b25), .unset, .unset, .unset] [(.long xB), (.long eB), (.long rB), (.int qB), (.ref b27), (.ref b27)])) rfl (by rw [hml]; rfl) (Steps.refl _) (a := b27) (argsL := [(.int qB), (.long rB), (.long eB), (.long xB)]) (rest := [(.ref b27)]) (lenOf own_pd3 rfl) rfl (by show 2 * 0 + _ ≤ _; exact Nat.le_of_eq rfl) (hb hby at_205) (fun _ _ => ⟨rfl, e27, (by decide : 2 + 0 ≤ _), (by decide : 8 + 0 ≤ _)⟩)
                  dsimp only [Pt.U, Pt.locs, Pt.cells, Pt.slots] at X28 lu28 yu28 zu28 st28 hQ28
                  subst lu28 yu28 zu28
                  obtain ⟨rfl, N28q, K28q, X28q, F28q0, F28q1, F28q2, F28q3⟩ := hQ28
                  have N28 := Fr.app N26 N28q
                  have O28 := own_extK O27 K28q (allS ge_b27 all0)
                  have KK28 : Keep h0 T28.heap [] := K27.trans K28q (allS (Or.inr sz_b27) all0)
                  refine own_go (T28.setTop (mkF m 208 #[.val (.int p0), .val (.long p1), .second, .val (.long p2), .second, .val (.long p3), .second, .val (.int p4), .val (.long p5), .second, .val (.long r), .second, .val (.long x), .second, .val (.long ev), .second, .val (.int c1), .val (.int c2), .val (.int c3), .val (.int c4), .val (.int qB), .val (.long rB), .second, .val (.long eB), .second, .val (.long xB), .second, .val (.ref b25), .unset, .unset, .unset] [(.ref b27)])) (fun t_ k_ => st28.trans k_) ?_
                  refine own_go (T28.setTop (mkF m 210 #[.val (.int p0), .val (.long p1), .second, .val (.long p2), .second, .val (.long p3), .second, .val (.int p4), .val (.long p5), .second, .val (.long r), .second, .val (.long x), .second, .val (.long ev), .second, .val (.int c1), .val (.int c2), .val (.int c3), .val (.int c4), .val (.int qB), .val (.long rB), .second, .val (.long eB), .second, .val (.long xB), .second, .val (.ref b25), .val (.ref b27), .unset, .unset] [])) (fun t_ k_ => XS.astore X28.here hx rfl (hb hby at_208) rfl rfl (l' := #[.val (.int p0), .val (.long p1), .second, .val (.long p2), .second, .val (.long p3), .second, .val (.int p4), .val (.long p5), .second, .val (.long r), .second, .val (.long x), .second, .val (.long ev), .second, .val (.int c1), .val (.int c2), .val (.int c3), .val (.int c4), .val (.int qB), .val (.long rB), .second, .val (.long eB), .second, .val (.long xB), .second, .val (.ref b25), .val (.ref b27), .unset, .unset]) rfl k_) ?_
                  have J29 : ∀ (T30 : State) (l30 : List Loc) (X30 : Stand p l e room_1 s m #[(.int p0), (.long p1), (.long p2), (.long p3), (.int p4), (.long p5)] below meth c T30 l30 2 8) (N30 : Fr Z.heap.size l30) (e30 : T30.heap = T28.heap) (sm : Int32) (h_sm : sm = own_same qB p0 rB r eB ev xB x), own_G p e below (fun o_ s₂ => ∃ v_ L_, o_ = .returned v_ ∧ Q_law Z p0 p1 p2 p3 p4 p5 a_cache cl_cache h0 v_ s₂.heap L_ ∧ FrameEnd s o_ s₂ L_ room_1.cells room_1.slots) (T30.setTop (mkF m 245 #[.val (.int p0), .val (.long p1), .second, .val (.long p2), .second, .val (.long p3), .second, .val (.int p4), .val (.long p5), .second, .val (.long r), .second, .val (.long x), .second, .val (.long ev), .second, .val (.int c1), .val (.int c2), .val (.int c3), .val (.int c4), .val (.int qB), .val (.long rB), .second, .val (.long eB), .second, .val (.long xB), .second, .val (.ref b25), .val (.ref b27), .unset, .unset] [(.int sm)])) := by
                    intro T30 l30 X30 N30 e30 sm h_sm
                    refine own_go (T30.setTop (mkF m 247 #[.val (.int p0), .val (.long p1), .second, .val (.long p2), .second, .val (.long p3), .second, .val (.int p4), .val (.long p5), .second, .val (.long r), .second, .val (.long x), .second, .val (.long ev), .second, .val (.int c1), .val (.int c2), .val (.int c3), .val (.int c4), .val (.int qB), .val (.long rB), .second, .val (.long eB), .second, .val (.long xB), .second, .val (.ref b25), .val (.ref b27), .val (.int sm), .unset] [])) (fun t_ k_ => XS.istore X30.here hx rfl (hb hby at_245) rfl (l' := #[.val (.int p0), .val (.long p1), .second, .val (.long p2), .second, .val (.long p3), .second, .val (.int p4), .val (.long p5), .second, .val (.long r), .second, .val (.long x), .second, .val (.long ev), .second, .val (.int c1), .val (.int c2), .val (.int c3), .val (.int c4), .val (.int qB), .val (.long rB), .second, .val (.long eB), .second, .val (.long xB), .second, .val (.ref b25), .val (.ref b27), .val (.int sm), .unset]) rfl k_) ?_
                    refine own_go (T30.setTop (mkF m 249 #[.val (.int p0), .val (.long p1), .second, .val (.long p2), .second, .val (.long p3), .second, .val (.int p4), .val (.long p5), .second, .val (.long r), .second, .val (.long x), .second, .val (.long ev), .second, .val (.int c1), .val (.int c2), .val (.int c3), .val (.int c4), .val (.int qB), .val (.long rB), .second, .val (.long eB), .second, .val (.long xB), .second, .val (.ref b25), .val (.ref b27), .val (.int sm), .unset] [(.long r)])) (fun t_ k_ => XS.lload X30.here hx rfl (hb hby at_247) rfl k_) ?_
                    obtain ⟨_, _, ⟨T31, Lu31, ku31, nu31⟩, -, X31, ⟨Lc31, hQ31, lu31, yu31, zu31⟩, st31⟩ := Jvm.LawKit.callS X30 hx (y := (⟨"java/lang/Long", "valueOf", "(J)Ljava/lang/Long;"⟩ : MethodName)) hown (mvT hZ (hw _ (List.mem_of_getElem? (i := 24) rfl))) (mvT hZ (hw _ (List.mem_of_getElem? (i := 25) rfl))) (mvT hZ (hw _ (List.mem_of_getElem? (i := 26) rfl))) (mvT hZ (hw _ (List.mem_of_getElem? (i := 27) rfl))) (by decide) (backOf (W := 0) (rm_lv l Z a0 hw [] (r) (a_cache) (cl_cache) T28.heap O28 w) hZ (hw _ (List.mem_of_getElem? (i := 27) rfl)) (hw _ (List.mem_of_getElem? (i := 26) rfl)) (by decide) (by decide)) (g := (mkF m 249 #[.val (.int p0), .val (.long p1), .second, .val (.long p2), .second, .val (.long p3), .second, .val (.int p4), .val (.long p5), .second, .val (.long r), .second, .val (.long x), .second, .val (.long ev), .second, .val (.int c1), .val (.int c2), .val (.int c3), .val (.int c4), .val (.int qB), .val (.long rB), .second, .val (.long eB), .second, .val (.long xB), .second, .val (.ref b25), .val (.ref b27), .val (.int sm), .unset] [(.long r)])) rfl (by rw [hml]; rfl) (argsL := [(.long r)]) (rest := []) (lenOf own_pd4 rfl) rfl (by show 2 * 0 + _ ≤ _; exact Nat.le_of_eq rfl) (hb hby at_249) (fun _ _ => ⟨rfl, e30, (by decide : 2 + 1 ≤ _), (by decide : 8 + 1 ≤ _)⟩)
                    dsimp only [Pt.U, Pt.locs, Pt.cells, Pt.slots] at X31 lu31 yu31 zu31 st31 hQ31
                    subst lu31 yu31 zu31
                    obtain ⟨o31, rfl, N31q, K31q, X31q⟩ := hQ31
                    have N31 := Fr.app N30 N31q
                    have O31 := own_extK O28 K31q all0
                    have KK31 : Keep h0 T31.heap [] := KK28.trans K31q all0
                    refine own_go (T31.setTop (mkF m 252 #[.val (.int p0), .val (.long p1), .second, .val (.long p2), .second, .val (.long p3), .second, .val (.int p4), .val (.long p5), .second, .val (.long r), .second, .val (.long x), .second, .val (.long ev), .second, .val (.int c1), .val (.int c2), .val (.int c3), .val (.int c4), .val (.int qB), .val (.long rB), .second, .val (.long eB), .second, .val (.long xB), .second, .val (.ref b25), .val (.ref b27), .val (.int sm), .unset] [(.ref o31)])) (fun t_ k_ => st31 _ k_) ?_
                    refine own_go (T31.setTop (mkF m 254 #[.val (.int p0), .val (.long p1), .second, .val (.long p2), .second, .val (.long p3), .second, .val (.int p4), .val (.long p5), .second, .val (.long r), .second, .val (.long x), .second, .val (.long ev), .second, .val (.int c1), .val (.int c2), .val (.int c3), .val (.int c4), .val (.int qB), .val (.long rB), .second, .val (.long eB), .second, .val (.long xB), .second, .val (.ref b25), .val (.ref b27), .val (.int sm), .val (.ref o31)] [])) (fun t_ k_ => XS.astore X31.here hx rfl (hb hby at_252) rfl rfl (l' := #[.val (.int p0), .val (.long p1), .second, .val (.long p2), .second, .val (.long p3), .second, .val (.int p4), .val (.long p5), .second, .val (.long r), .second, .val (.long x), .second, .val (.long ev), .second, .val (.int c1), .val (.int c2), .val (.int c3), .val (.int c4), .val (.int qB), .val (.long rB), .second, .val (.long eB), .second, .val (.long xB), .second, .val (.ref b25), .val (.ref b27), .val (.int sm), .val (.ref o31)]) rfl k_) ?_
                    refine own_go (T31.setTop (mkF m 256 #[.val (.int p0), .val (.long p1), .second, .val (.long p2), .second, .val (.long p3), .second, .val (.int p4), .val (.long p5), .second, .val (.long r), .second, .val (.long x), .second, .val (.long ev), .second, .val (.int c1), .val (.int c2), .val (.int c3), .val (.int c4), .val (.int qB), .val (.long rB), .second, .val (.long eB), .second, .val (.long xB), .second, .val (.ref b25), .val (.ref b27), .val (.int sm), .val (.ref o31)] [(.ref b25)])) (fun t_ k_ => XS.aload X31.here hx rfl (hb hby at_254) rfl rfl k_) ?_
                    refine own_go (T31.setTop (mkF m 258 #[.val (.int p0), .val (.long p1), .second, .val (.long p2), .second, .val (.long p3), .second, .val (.int p4), .val (.long p5), .second, .val (.long r), .second, .val (.long x), .second, .val (.long ev), .second, .val (.int c1), .val (.int c2), .val (.int c3), .val (.int c4), .val (.int qB), .val (.long rB), .second, .val (.long eB), .second, .val (.long xB), .second, .val (.ref b25), .val (.ref b27), .val (.int sm), .val (.ref o31)] [(.ref b27), (.ref b25)])) (fun t_ k_ => XS.aload X31.here hx rfl (hb hby at_256) rfl rfl k_) ?_
                    have Fz32 := (X28q.keep K31q)
                    have Nz33 : b25 ≠ b27 := (Nat.ne_of_lt (Nat.lt_of_lt_of_le X26q.lt (Nat.le_of_eq g27.symm)))
                    have Fz34 := (((F26q0.ext E27).keep K28q (ninS Nz33 nin0)).keep K31q nin0)
                    have Fz35 := (((F26q1.ext E27).keep K28q (ninS Nz33 nin0)).keep K31q nin0)
                    have Fz36 := (((F26q2.ext E27).keep K28q (ninS Nz33 nin0)).keep K31q nin0)
                    have Fz37 := (((F26q3.ext E27).keep K28q (ninS Nz33 nin0)).keep K31q nin0)
                    have Fz38 := (F28q0.keep K31q nin0)
                    have Fz39 := (F28q1.keep K31q nin0)
                    have Fz40 := (F28q2.keep K31q nin0)
                    have Fz41 := (F28q3.keep K31q nin0)
                    have Fz43 := (((X26q.ext E27).keep K28q).keep K31q)
                    obtain ⟨cq42, kq42, q42a, q42b, q42c⟩ := isOf hZ rfl Fz43
                    obtain ⟨_, _, ⟨T42, Lu42, ku42, nu42⟩, -, X42, ⟨Lc42, hQ42, lu42, yu42, zu42⟩, st42⟩ := X31.virtualBack hx (y := (⟨"com/example/eager_quorum/eagerquorum/model/CriticalSection", "equals", "(Ljava/lang/Object;)Z"⟩ : MethodName)) (z := (⟨"com/example/eager_quorum/eagerquorum/model/CriticalSection", "equals", "(Ljava/lang/Object;)Z"⟩ : MethodName)) hown (mvT hZ (hw _ (List.mem_of_getElem? (i := 44) rfl))) (mvT hZ (hw _ (List.mem_of_getElem? (i := 45) rfl))) (notFace_of_selects (args := #[]) (mvT hZ (hw _ (List.mem_of_getElem? (i := 47) rfl)))) (mvT hZ (hw _ (List.mem_of_getElem? (i := 47) rfl))) (mvT hZ (hw _ (List.mem_of_getElem? (i := 46) rfl))) (by decide) (backOf (W := 0) (rm_eS l Z a0 hw [] (b25) (b27) (p0) (r) (ev) (x) (qB) (rB) (eB) (xB) T31.heap O31 Fz32 Fz34 Fz35 Fz36 Fz37 Fz38 Fz39 Fz40 Fz41) hZ (hw _ (List.mem_of_getElem? (i := 48) rfl)) (hw _ (List.mem_of_getElem? (i := 9) rfl)) (by decide) (by decide)) q42a q42c (g := (mkF m 258 #[.val (.int p0), .val (.long p1), .second, .val (.long p2), .second, .val (.long p3), .second, .val (.int p4), .val (.long p5), .second, .val (.long r), .second, .val (.long x), .second, .val (.long ev), .second, .val (.int c1), .val (.int c2), .val (.int c3), .val (.int c4), .val (.int qB), .val (.long rB), .second, .val (.long eB), .second, .val (.long xB), .second, .val (.ref b25), .val (.ref b27), .val (.int sm), .val (.ref o31)] [(.ref b27), (.ref b25)])) rfl (by rw [hml]; rfl) (Steps.refl _) (argsL := [(.ref b27)]) (rest := []) (lenOf own_pd5 rfl) rfl (by show 2 * 0 + _ ≤ _; exact Nat.le_of_eq rfl) (hb hby at_258) (fun _ _ => ⟨rfl, rfl, (by decide : 3 + 0 ≤ _), (by decide : 9 + 0 ≤ _)⟩)
                    dsimp only [Pt.U, Pt.locs, Pt.cells, Pt.slots] at X42 lu42 yu42 zu42 st42 hQ42
                    subst lu42 yu42 zu42
                    obtain ⟨rfl, N42q, e42⟩ := hQ42
                    have N42 := Fr.app N31 N42q
                    refine own_go (T42.setTop (mkF m 261 #[.val (.int p0), .val (.long p1), .second, .val (.long p2), .second, .val (.long p3), .second, .val (.int p4), .val (.long p5), .second, .val (.long r), .second, .val (.long x), .second, .val (.long ev), .second, .val (.int c1), .val (.int c2), .val (.int c3), .val (.int c4), .val (.int qB), .val (.long rB), .second, .val (.long eB), .second, .val (.long xB), .second, .val (.ref b25), .val (.ref b27), .val (.int sm), .val (.ref o31)] [(.int (own_same p0 qB r rB ev eB x xB))])) (fun t_ k_ => st42.trans k_) ?_
                    refine own_go (T42.setTop (mkF m 263 #[.val (.int p0), .val (.long p1), .second, .val (.long p2), .second, .val (.long p3), .second, .val (.int p4), .val (.long p5), .second, .val (.long r), .second, .val (.long x), .second, .val (.long ev), .second, .val (.int c1), .val (.int c2), .val (.int c3), .val (.int c4), .val (.int qB), .val (.long rB), .second, .val (.long eB), .second, .val (.long xB), .second, .val (.ref b25), .val (.ref b27), .val (.int sm), .val (.ref o31)] [(.int sm), (.int (own_same p0 qB r rB ev eB x xB))])) (fun t_ k_ => XS.iload X42.here hx rfl (hb hby at_261) rfl k_) ?_
                    refine own_go (T42.setTop (mkF m 266 #[.val (.int p0), .val (.long p1), .second, .val (.long p2), .second, .val (.long p3), .second, .val (.int p4), .val (.long p5), .second, .val (.long r), .second, .val (.long x), .second, .val (.long ev), .second, .val (.int c1), .val (.int c2), .val (.int c3), .val (.int c4), .val (.int qB), .val (.long rB), .second, .val (.long eB), .second, .val (.long xB), .second, .val (.ref b25), .val (.ref b27), .val (.int sm), .val (.ref o31)] [])) (fun t_ k_ => XS.icmpNo X42.here hx rfl (hb hby at_263) rfl (teq ((own_flip _ _ _ _ _ _ _ _).trans h_sm.symm)).2 k_) ?_
                    refine own_go (T42.setTop (mkF m 268 #[.val (.int p0), .val (.long p1), .second, .val (.long p2), .second, .val (.long p3), .second, .val (.int p4), .val (.long p5), .second, .val (.long r), .second, .val (.long x), .second, .val (.long ev), .second, .val (.int c1), .val (.int c2), .val (.int c3), .val (.int c4), .val (.int qB), .val (.long rB), .second, .val (.long eB), .second, .val (.long xB), .second, .val (.ref b25), .val (.ref b27), .val (.int sm), .val (.ref o31)] [(.ref b27)])) (fun t_ k_ => XS.aload X42.here hx rfl (hb hby at_266) rfl rfl k_) ?_
                    refine own_go (T42.setTop (mkF m 270 #[.val (.int p0), .val (.long p1), .second, .val (.long p2), .second, .val (.long p3), .second, .val (.int p4), .val (.long p5), .second, .val (.long r), .second, .val (.long x), .second, .val (.long ev), .second, .val (.int c1), .val (.int c2), .val (.int c3), .val (.int c4), .val (.int qB), .val (.long rB), .second, .val (.long eB), .second, .val (.long xB), .second, .val (.ref b25), .val (.ref b27), .val (.int sm), .val (.ref o31)] [(.ref b25), (.ref b27)])) (fun t_ k_ => XS.aload X42.here hx rfl (hb hby at_268) rfl rfl k_) ?_
                    obtain ⟨cq44, kq44, q44a, q44b, q44c⟩ := isOf hZ e42 Fz32
                    obtain ⟨_, _, ⟨T44, Lu44, ku44, nu44⟩, -, X44, ⟨Lc44, hQ44, lu44, yu44, zu44⟩, st44⟩ := X42.virtualBack hx (y := (⟨"com/example/eager_quorum/eagerquorum/model/CriticalSection", "equals", "(Ljava/lang/Object;)Z"⟩ : MethodName)) (z := (⟨"com/example/eager_quorum/eagerquorum/model/CriticalSection", "equals", "(Ljava/lang/Object;)Z"⟩ : MethodName)) hown (mvT hZ (hw _ (List.mem_of_getElem? (i := 44) rfl))) (mvT hZ (hw _ (List.mem_of_getElem? (i := 45) rfl))) (notFace_of_selects (args := #[]) (mvT hZ (hw _ (List.mem_of_getElem? (i := 47) rfl)))) (mvT hZ (hw _ (List.mem_of_getElem? (i := 47) rfl))) (mvT hZ (hw _ (List.mem_of_getElem? (i := 46) rfl))) (by decide) (backOf (W := 0) (rm_eS l Z a0 hw [] (b27) (b25) (qB) (rB) (eB) (xB) (p0) (r) (ev) (x) T31.heap O31 Fz43 Fz38 Fz39 Fz40 Fz41 Fz34 Fz35 Fz36 Fz37) hZ (hw _ (List.mem_of_getElem? (i := 48) rfl)) (hw _ (List.mem_of_getElem? (i := 9) rfl)) (by decide) (by decide)) q44a q44c (g := (mkF m 270 #[.val (.int p0), .val (.long p1), .second, .val (.long p2), .second, .val (.long p3), .second, .val (.int p4), .val (.long p5), .second, .val (.long r), .second, .val (.long x), .second, .val (.long ev), .second, .val (.int c1), .val (.int c2), .val (.int c3), .val (.int c4), .val (.int qB), .val (.long rB), .second, .val (.long eB), .second, .val (.long xB), .second, .val (.ref b25), .val (.ref b27), .val (.int sm), .val (.ref o31)] [(.ref b25), (.ref b27)])) rfl (by rw [hml]; rfl) (Steps.refl _) (argsL := [(.ref b25)]) (rest := []) (lenOf own_pd5 rfl) rfl (by show 2 * 0 + _ ≤ _; exact Nat.le_of_eq rfl) (hb hby at_270) (fun _ _ => ⟨rfl, e42, (by decide : 3 + 0 ≤ _), (by decide : 9 + 0 ≤ _)⟩)
                    dsimp only [Pt.U, Pt.locs, Pt.cells, Pt.slots] at X44 lu44 yu44 zu44 st44 hQ44
                    subst lu44 yu44 zu44
                    obtain ⟨rfl, N44q, e44⟩ := hQ44
                    have N44 := Fr.app N42 N44q
                    refine own_go (T44.setTop (mkF m 273 #[.val (.int p0), .val (.long p1), .second, .val (.long p2), .second, .val (.long p3), .second, .val (.int p4), .val (.long p5), .second, .val (.long r), .second, .val (.long x), .second, .val (.long ev), .second, .val (.int c1), .val (.int c2), .val (.int c3), .val (.int c4), .val (.int qB), .val (.long rB), .second, .val (.long eB), .second, .val (.long xB), .second, .val (.ref b25), .val (.ref b27), .val (.int sm), .val (.ref o31)] [(.int (own_same qB p0 rB r eB ev xB x))])) (fun t_ k_ => st44.trans k_) ?_
                    refine own_go (T44.setTop (mkF m 275 #[.val (.int p0), .val (.long p1), .second, .val (.long p2), .second, .val (.long p3), .second, .val (.int p4), .val (.long p5), .second, .val (.long r), .second, .val (.long x), .second, .val (.long ev), .second, .val (.int c1), .val (.int c2), .val (.int c3), .val (.int c4), .val (.int qB), .val (.long rB), .second, .val (.long eB), .second, .val (.long xB), .second, .val (.ref b25), .val (.ref b27), .val (.int sm), .val (.ref o31)] [(.int sm), (.int (own_same qB p0 rB r eB ev xB x))])) (fun t_ k_ => XS.iload X44.here hx rfl (hb hby at_273) rfl k_) ?_
                    refine own_go (T44.setTop (mkF m 278 #[.val (.int p0), .val (.long p1), .second, .val (.long p2), .second, .val (.long p3), .second, .val (.int p4), .val (.long p5), .second, .val (.long r), .second, .val (.long x), .second, .val (.long ev), .second, .val (.int c1), .val (.int c2), .val (.int c3), .val (.int c4), .val (.int qB), .val (.long rB), .second, .val (.long eB), .second, .val (.long xB), .second, .val (.ref b25), .val (.ref b27), .val (.int sm), .val (.ref o31)] [])) (fun t_ k_ => XS.icmpNo X44.here hx rfl (hb hby at_275) rfl (teq h_sm.symm).2 k_) ?_
                    refine own_go (T44.setTop (mkF m 280 #[.val (.int p0), .val (.long p1), .second, .val (.long p2), .second, .val (.long p3), .second, .val (.int p4), .val (.long p5), .second, .val (.long r), .second, .val (.long x), .second, .val (.long ev), .second, .val (.int c1), .val (.int c2), .val (.int c3), .val (.int c4), .val (.int qB), .val (.long rB), .second, .val (.long eB), .second, .val (.long xB), .second, .val (.ref b25), .val (.ref b27), .val (.int sm), .val (.ref o31)] [(.ref b25)])) (fun t_ k_ => XS.aload X44.here hx rfl (hb hby at_278) rfl rfl k_) ?_
                    refine own_go (T44.setTop (mkF m 282 #[.val (.int p0), .val (.long p1), .second, .val (.long p2), .second, .val (.long p3), .second, .val (.int p4), .val (.long p5), .second, .val (.long r), .second, .val (.long x), .second, .val (.long ev), .second, .val (.int c1), .val (.int c2), .val (.int c3), .val (.int c4), .val (.int qB), .val (.long rB), .second, .val (.long eB), .second, .val (.long xB), .second, .val (.ref b25), .val (.ref b27), .val (.int sm), .val (.ref o31)] [(.ref b25), (.ref b25)])) (fun t_ k_ => XS.aload X44.here hx rfl (hb hby at_280) rfl rfl k_) ?_
                    obtain ⟨cq45, kq45, q45a, q45b, q45c⟩ := isOf hZ e44 Fz43
                    obtain ⟨_, _, ⟨T45, Lu45, ku45, nu45⟩, -, X45, ⟨Lc45, hQ45, lu45, yu45, zu45⟩, st45⟩ := X44.virtualBack hx (y := (⟨"com/example/eager_quorum/eagerquorum/model/CriticalSection", "equals", "(Ljava/lang/Object;)Z"⟩ : MethodName)) (z := (⟨"com/example/eager_quorum/eagerquorum/model/CriticalSection", "equals", "(Ljava/lang/Object;)Z"⟩ : MethodName)) hown (mvT hZ (hw _ (List.mem_of_getElem? (i := 44) rfl))) (mvT hZ (hw _ (List.mem_of_getElem? (i := 45) rfl))) (notFace_of_selects (args := #[]) (mvT hZ (hw _ (List.mem_of_getElem? (i := 47) rfl)))) (mvT hZ (hw _ (List.mem_of_getElem? (i := 47) rfl))) (mvT hZ (hw _ (List.mem_of_getElem? (i := 46) rfl))) (by decide) (backOf (W := 0) (rm_eS l Z a0 hw [] (b25) (b25) (p0) (r) (ev) (x) (p0) (r) (ev) (x) T31.heap O31 Fz43 Fz34 Fz35 Fz36 Fz37 Fz34 Fz35 Fz36 Fz37) hZ (hw _ (List.mem_of_getElem? (i := 48) rfl)) (hw _ (List.mem_of_getElem? (i := 9) rfl)) (by decide) (by decide)) q45a q45c (g := (mkF m 282 #[.val (.int p0), .val (.long p1), .second, .val (.long p2), .second, .val (.long p3), .second, .val (.int p4), .val (.long p5), .second, .val (.long r), .second, .val (.long x), .second, .val (.long ev), .second, .val (.int c1), .val (.int c2), .val (.int c3), .val (.int c4), .val (.int qB), .val (.long rB), .second, .val (.long eB), .second, .val (.long xB), .second, .val (.ref b25), .val (.ref b27), .val (.int sm), .val (.ref o31)] [(.ref b25), (.ref b25)])) rfl (by rw [hml]; rfl) (Steps.refl _) (argsL := [(.ref b25)]) (rest := []) (lenOf own_pd5 rfl) rfl (by show 2 * 0 + _ ≤ _; exact Nat.le_of_eq rfl) (hb hby at_282) (fun _ _ => ⟨rfl, e44, (by decide : 3 + 0 ≤ _), (by decide : 9 + 0 ≤ _)⟩)
                    dsimp only [Pt.U, Pt.locs, Pt.cells, Pt.slots] at X45 lu45 yu45 zu45 st45 hQ45
                    subst lu45 yu45 zu45
                    obtain ⟨rfl, N45q, e45⟩ := hQ45
                    have N45 := Fr.app N44 N45q
                    rw [own_self] at st45
                    refine own_go (T45.setTop (mkF m 285 #[.val (.int p0), .val (.long p1), .second, .val (.long p2), .second, .val (.long p3), .second, .val (.int p4), .val (.long p5), .second, .val (.long r), .second, .val (.long x), .second, .val (.long ev), .second, .val (.int c1), .val (.int c2), .val (.int c3), .val (.int c4), .val (.int qB), .val (.long rB), .second, .val (.long eB), .second, .val (.long xB), .second, .val (.ref b25), .val (.ref b27), .val (.int sm), .val (.ref o31)] [(.int (1 : Int32))])) (fun t_ k_ => st45.trans k_) ?_
                    refine own_go (T45.setTop (mkF m 288 #[.val (.int p0), .val (.long p1), .second, .val (.long p2), .second, .val (.long p3), .second, .val (.int p4), .val (.long p5), .second, .val (.long r), .second, .val (.long x), .second, .val (.long ev), .second, .val (.int c1), .val (.int c2), .val (.int c3), .val (.int c4), .val (.int qB), .val (.long rB), .second, .val (.long eB), .second, .val (.long xB), .second, .val (.ref b25), .val (.ref b27), .val (.int sm), .val (.ref o31)] [])) (fun t_ k_ => XS.ifNo X45.here hx rfl (hb hby at_285) rfl ((if0 _ _).trans (feq (by decide : ¬ ((1 : Int32) = (0 : Int32)))).1) k_) ?_
                    refine own_go (T45.setTop (mkF m 290 #[.val (.int p0), .val (.long p1), .second, .val (.long p2), .second, .val (.long p3), .second, .val (.int p4), .val (.long p5), .second, .val (.long r), .second, .val (.long x), .second, .val (.long ev), .second, .val (.int c1), .val (.int c2), .val (.int c3), .val (.int c4), .val (.int qB), .val (.long rB), .second, .val (.long eB), .second, .val (.long xB), .second, .val (.ref b25), .val (.ref b27), .val (.int sm), .val (.ref o31)] [(.ref b25)])) (fun t_ k_ => XS.aload X45.here hx rfl (hb hby at_288) rfl rfl k_) ?_
                    refine own_go (T45.setTop (mkF m 291 #[.val (.int p0), .val (.long p1), .second, .val (.long p2), .second, .val (.long p3), .second, .val (.int p4), .val (.long p5), .second, .val (.long r), .second, .val (.long x), .second, .val (.long ev), .second, .val (.int c1), .val (.int c2), .val (.int c3), .val (.int c4), .val (.int qB), .val (.long rB), .second, .val (.long eB), .second, .val (.long xB), .second, .val (.ref b25), .val (.ref b27), .val (.int sm), .val (.ref o31)] [.null, (.ref b25)])) (fun t_ k_ => XS.aconstNull X45.here hx rfl (hb hby at_290) k_) ?_
                    obtain ⟨cq46, kq46, q46a, q46b, q46c⟩ := isOf hZ e45 Fz43
                    obtain ⟨_, _, ⟨T46, Lu46, ku46, nu46⟩, -, X46, ⟨Lc46, hQ46, lu46, yu46, zu46⟩, st46⟩ := X45.virtualBack hx (y := (⟨"com/example/eager_quorum/eagerquorum/model/CriticalSection", "equals", "(Ljava/lang/Object;)Z"⟩ : MethodName)) (z := (⟨"com/example/eager_quorum/eagerquorum/model/CriticalSection", "equals", "(Ljava/lang/Object;)Z"⟩ : MethodName)) hown (mvT hZ (hw _ (List.mem_of_getElem? (i := 44) rfl))) (mvT hZ (hw _ (List.mem_of_getElem? (i := 45) rfl))) (notFace_of_selects (args := #[]) (mvT hZ (hw _ (List.mem_of_getElem? (i := 47) rfl)))) (mvT hZ (hw _ (List.mem_of_getElem? (i := 47) rfl))) (mvT hZ (hw _ (List.mem_of_getElem? (i := 46) rfl))) (by decide) (backOf (W := 0) (rm_eN l Z a0 hw [] (b25) T31.heap O31 ) hZ (hw _ (List.mem_of_getElem? (i := 48) rfl)) (hw _ (List.mem_of_getElem? (i := 9) rfl)) (by decide) (by decide)) q46a q46c (g := (mkF m 291 #[.val (.int p0), .val (.long p1), .second, .val (.long p2), .second, .val (.long p3), .second, .val (.int p4), .val (.long p5), .second, .val (.long r), .second, .val (.long x), .second, .val (.long ev), .second, .val (.int c1), .val (.int c2), .val (.int c3), .val (.int c4), .val (.int qB), .val (.long rB), .second, .val (.long eB), .second, .val (.long xB), .second, .val (.ref b25), .val (.ref b27), .val (.int sm), .val (.ref o31)] [.null, (.ref b25)])) rfl (by rw [hml]; rfl) (Steps.refl _) (argsL := [.null]) (rest := []) (lenOf own_pd5 rfl) rfl (by show 2 * 0 + _ ≤ _; exact Nat.le_of_eq rfl) (hb hby at_291) (fun _ _ => ⟨rfl, e45, (by decide : 3 + 0 ≤ _), (by decide : 9 + 0 ≤ _)⟩)
                    dsimp only [Pt.U, Pt.locs, Pt.cells, Pt.slots] at X46 lu46 yu46 zu46 st46 hQ46
                    subst lu46 yu46 zu46
                    obtain ⟨rfl, N46q, e46⟩ := hQ46
                    have N46 := Fr.app N45 N46q
                    refine own_go (T46.setTop (mkF m 294 #[.val (.int p0), .val (.long p1), .second, .val (.long p2), .second, .val (.long p3), .second, .val (.int p4), .val (.long p5), .second, .val (.long r), .second, .val (.long x), .second, .val (.long ev), .second, .val (.int c1), .val (.int c2), .val (.int c3), .val (.int c4), .val (.int qB), .val (.long rB), .second, .val (.long eB), .second, .val (.long xB), .second, .val (.ref b25), .val (.ref b27), .val (.int sm), .val (.ref o31)] [(.int (0 : Int32))])) (fun t_ k_ => st46.trans k_) ?_
                    refine own_go (T46.setTop (mkF m 297 #[.val (.int p0), .val (.long p1), .second, .val (.long p2), .second, .val (.long p3), .second, .val (.int p4), .val (.long p5), .second, .val (.long r), .second, .val (.long x), .second, .val (.long ev), .second, .val (.int c1), .val (.int c2), .val (.int c3), .val (.int c4), .val (.int qB), .val (.long rB), .second, .val (.long eB), .second, .val (.long xB), .second, .val (.ref b25), .val (.ref b27), .val (.int sm), .val (.ref o31)] [])) (fun t_ k_ => XS.ifNo X46.here hx rfl (hb hby at_294) rfl ((if0 _ _).trans (teq (by decide : (0 : Int32) = (0 : Int32))).2) k_) ?_
                    refine own_go (T46.setTop (mkF m 299 #[.val (.int p0), .val (.long p1), .second, .val (.long p2), .second, .val (.long p3), .second, .val (.int p4), .val (.long p5), .second, .val (.long r), .second, .val (.long x), .second, .val (.long ev), .second, .val (.int c1), .val (.int c2), .val (.int c3), .val (.int c4), .val (.int qB), .val (.long rB), .second, .val (.long eB), .second, .val (.long xB), .second, .val (.ref b25), .val (.ref b27), .val (.int sm), .val (.ref o31)] [(.ref b25)])) (fun t_ k_ => XS.aload X46.here hx rfl (hb hby at_297) rfl rfl k_) ?_
                    refine own_go (T46.setTop (mkF m 301 #[.val (.int p0), .val (.long p1), .second, .val (.long p2), .second, .val (.long p3), .second, .val (.int p4), .val (.long p5), .second, .val (.long r), .second, .val (.long x), .second, .val (.long ev), .second, .val (.int c1), .val (.int c2), .val (.int c3), .val (.int c4), .val (.int qB), .val (.long rB), .second, .val (.long eB), .second, .val (.long xB), .second, .val (.ref b25), .val (.ref b27), .val (.int sm), .val (.ref o31)] [(.ref o31), (.ref b25)])) (fun t_ k_ => XS.aload X46.here hx rfl (hb hby at_299) rfl rfl k_) ?_
                    obtain ⟨cq47, kq47, q47a, q47b, q47c⟩ := isOf hZ e46 Fz43
                    obtain ⟨_, _, ⟨T47, Lu47, ku47, nu47⟩, -, X47, ⟨Lc47, hQ47, lu47, yu47, zu47⟩, st47⟩ := X46.virtualBack hx (y := (⟨"com/example/eager_quorum/eagerquorum/model/CriticalSection", "equals", "(Ljava/lang/Object;)Z"⟩ : MethodName)) (z := (⟨"com/example/eager_quorum/eagerquorum/model/CriticalSection", "equals", "(Ljava/lang/Object;)Z"⟩ : MethodName)) hown (mvT hZ (hw _ (List.mem_of_getElem? (i := 44) rfl))) (mvT hZ (hw _ (List.mem_of_getElem? (i := 45) rfl))) (notFace_of_selects (args := #[]) (mvT hZ (hw _ (List.mem_of_getElem? (i := 47) rfl)))) (mvT hZ (hw _ (List.mem_of_getElem? (i := 47) rfl))) (mvT hZ (hw _ (List.mem_of_getElem? (i := 46) rfl))) (by decide) (backOf (W := 0) (rm_eL l Z a0 hw [] (b25) (o31) T31.heap O31 X31q) hZ (hw _ (List.mem_of_getElem? (i := 48) rfl)) (hw _ (List.mem_of_getElem? (i := 9) rfl)) (by decide) (by decide)) q47a q47c (g := (mkF m 301 #[.val (.int p0), .val (.long p1), .second, .val (.long p2), .second, .val (.long p3), .second, .val (.int p4), .val (.long p5), .second, .val (.long r), .second, .val (.long x), .second, .val (.long ev), .second, .val (.int c1), .val (.int c2), .val (.int c3), .val (.int c4), .val (.int qB), .val (.long rB), .second, .val (.long eB), .second, .val (.long xB), .second, .val (.ref b25), .val (.ref b27), .val (.int sm), .val (.ref o31)] [(.ref o31), (.ref b25)])) rfl (by rw [hml]; rfl) (Steps.refl _) (argsL := [(.ref o31)]) (rest := []) (lenOf own_pd5 rfl) rfl (by show 2 * 0 + _ ≤ _; exact Nat.le_of_eq rfl) (hb hby at_301) (fun _ _ => ⟨rfl, e46, (by decide : 3 + 0 ≤ _), (by decide : 9 + 0 ≤ _)⟩)
                    dsimp only [Pt.U, Pt.locs, Pt.cells, Pt.slots] at X47 lu47 yu47 zu47 st47 hQ47
                    subst lu47 yu47 zu47
                    obtain ⟨rfl, N47q, e47⟩ := hQ47
                    have N47 := Fr.app N46 N47q
                    refine own_go (T47.setTop (mkF m 304 #[.val (.int p0), .val (.long p1), .second, .val (.long p2), .second, .val (.long p3), .second, .val (.int p4), .val (.long p5), .second, .val (.long r), .second, .val (.long x), .second, .val (.long ev), .second, .val (.int c1), .val (.int c2), .val (.int c3), .val (.int c4), .val (.int qB), .val (.long rB), .second, .val (.long eB), .second, .val (.long xB), .second, .val (.ref b25), .val (.ref b27), .val (.int sm), .val (.ref o31)] [(.int (0 : Int32))])) (fun t_ k_ => st47.trans k_) ?_
                    refine own_go (T47.setTop (mkF m 307 #[.val (.int p0), .val (.long p1), .second, .val (.long p2), .second, .val (.long p3), .second, .val (.int p4), .val (.long p5), .second, .val (.long r), .second, .val (.long x), .second, .val (.long ev), .second, .val (.int c1), .val (.int c2), .val (.int c3), .val (.int c4), .val (.int qB), .val (.long rB), .second, .val (.long eB), .second, .val (.long xB), .second, .val (.ref b25), .val (.ref b27), .val (.int sm), .val (.ref o31)] [])) (fun t_ k_ => XS.ifNo X47.here hx rfl (hb hby at_304) rfl ((if0 _ _).trans (teq (by decide : (0 : Int32) = (0 : Int32))).2) k_) ?_
                    refine own_go (T47.setTop (mkF m 308 #[.val (.int p0), .val (.long p1), .second, .val (.long p2), .second, .val (.long p3), .second, .val (.int p4), .val (.long p5), .second, .val (.long r), .second, .val (.long x), .second, .val (.long ev), .second, .val (.int c1), .val (.int c2), .val (.int c3), .val (.int c4), .val (.int qB), .val (.long rB), .second, .val (.long eB), .second, .val (.long xB), .second, .val (.ref b25), .val (.ref b27), .val (.int sm), .val (.ref o31)] [(.int (1 : Int32))])) (fun t_ k_ => XS.iconst X47.here hx rfl (hb hby at_307) k_) ?_
                    refine own_go (T47.setTop (mkF m 312 #[.val (.int p0), .val (.long p1), .second, .val (.long p2), .second, .val (.long p3), .second, .val (.int p4), .val (.long p5), .second, .val (.long r), .second, .val (.long x), .second, .val (.long ev), .second, .val (.int c1), .val (.int c2), .val (.int c3), .val (.int c4), .val (.int qB), .val (.long rB), .second, .val (.long eB), .second, .val (.long xB), .second, .val (.ref b25), .val (.ref b27), .val (.int sm), .val (.ref o31)] [(.int (1 : Int32))])) (fun t_ k_ => XS.goto X47.here hx rfl (pc0 := 308) (pc' := 312) rfl (hb hby at_308) (by decide) (by decide) k_) ?_
                    obtain ⟨fs, hr, hrun, hended, hW, hsame⟩ := X47.leave (v := some (.int (nar .boolean (1 : Int32)))) (fun h => by rw [Bd.returns] at h; cases h)
                    refine ⟨_, _, retN X47 hx (t := .boolean) Bd.returns (by simp) (hb hby at_312) hr, hrun, hended, _, _, rfl, ?_, ⟨_, rfl⟩, hW, hsame.mono (by decide) (by decide)⟩
                    show Q_law Z p0 p1 p2 p3 p4 p5 a_cache cl_cache h0 _ T47.heap _
                    exact ⟨rfl, N47, trivial⟩
                  refine own_go (T28.setTop (mkF m 212 #[.val (.int p0), .val (.long p1), .second, .val (.long p2), .second, .val (.long p3), .second, .val (.int p4), .val (.long p5), .second, .val (.long r), .second, .val (.long x), .second, .val (.long ev), .second, .val (.int c1), .val (.int c2), .val (.int c3), .val (.int c4), .val (.int qB), .val (.long rB), .second, .val (.long eB), .second, .val (.long xB), .second, .val (.ref b25), .val (.ref b27), .unset, .unset] [(.int qB)])) (fun t_ k_ => XS.iload X28.here hx rfl (hb hby at_210) rfl k_) ?_
                  refine own_go (T28.setTop (mkF m 213 #[.val (.int p0), .val (.long p1), .second, .val (.long p2), .second, .val (.long p3), .second, .val (.int p4), .val (.long p5), .second, .val (.long r), .second, .val (.long x), .second, .val (.long ev), .second, .val (.int c1), .val (.int c2), .val (.int c3), .val (.int c4), .val (.int qB), .val (.long rB), .second, .val (.long eB), .second, .val (.long xB), .second, .val (.ref b25), .val (.ref b27), .unset, .unset] [(.int p0), (.int qB)])) (fun t_ k_ => XS.iloadN X28.here hx rfl (hb hby at_212) rfl k_) ?_
                  by_cases hc213_48 : qB = p0
                  ·
                    refine own_go (T28.setTop (mkF m 216 #[.val (.int p0), .val (.long p1), .second, .val (.long p2), .second, .val (.long p3), .second, .val (.int p4), .val (.long p5), .second, .val (.long r), .second, .val (.long x), .second, .val (.long ev), .second, .val (.int c1), .val (.int c2), .val (.int c3), .val (.int c4), .val (.int qB), .val (.long rB), .second, .val (.long eB), .second, .val (.long xB), .second, .val (.ref b25), .val (.ref b27), .unset, .unset] [])) (fun t_ k_ => XS.icmpNo X28.here hx rfl (hb hby at_213) rfl (teq hc213_48).2 k_) ?_
                    refine own_go (T28.setTop (mkF m 218 #[.val (.int p0), .val (.long p1), .second, .val (.long p2), .second, .val (.long p3), .second, .val (.int p4), .val (.long p5), .second, .val (.long r), .second, .val (.long x), .second, .val (.long ev), .second, .val (.int c1), .val (.int c2), .val (.int c3), .val (.int c4), .val (.int qB), .val (.long rB), .second, .val (.long eB), .second, .val (.long xB), .second, .val (.ref b25), .val (.ref b27), .unset, .unset] [(.long rB)])) (fun t_ k_ => XS.lload X28.here hx rfl (hb hby at_216) rfl k_) ?_
                    refine own_go (T28.setTop (mkF m 220 #[.val (.int p0), .val (.long p1), .second, .val (.long p2), .second, .val (.long p3), .second, .val (.int p4), .val (.long p5), .second, .val (.long r), .second, .val (.long x), .second, .val (.long ev), .second, .val (.int c1), .val (.int c2), .val (.int c3), .val (.int c4), .val (.int qB), .val (.long rB), .second, .val (.long eB), .second, .val (.long xB), .second, .val (.ref b25), .val (.ref b27), .unset, .unset] [(.long r), (.long rB)])) (fun t_ k_ => XS.lload X28.here hx rfl (hb hby at_218) rfl k_) ?_
                    refine own_go (T28.setTop (mkF m 221 #[.val (.int p0), .val (.long p1), .second, .val (.long p2), .second, .val (.long p3), .second, .val (.int p4), .val (.long p5), .second, .val (.long r), .second, .val (.long x), .second, .val (.long ev), .second, .val (.int c1), .val (.int c2), .val (.int c3), .val (.int c4), .val (.int qB), .val (.long rB), .second, .val (.long eB), .second, .val (.long xB), .second, .val (.ref b25), .val (.ref b27), .unset, .unset] [(.int (lcmpW rB r))])) (fun t_ k_ => XS.lcmp X28.here hx rfl (hb hby at_220) rfl k_) ?_
                    by_cases hc221_49 : rB = r
                    ·
                      refine own_go (T28.setTop (mkF m 224 #[.val (.int p0), .val (.long p1), .second, .val (.long p2), .second, .val (.long p3), .second, .val (.int p4), .val (.long p5), .second, .val (.long r), .second, .val (.long x), .second, .val (.long ev), .second, .val (.int c1), .val (.int c2), .val (.int c3), .val (.int c4), .val (.int qB), .val (.long rB), .second, .val (.long eB), .second, .val (.long xB), .second, .val (.ref b25), .val (.ref b27), .unset, .unset] [])) (fun t_ k_ => XS.ifNo X28.here hx rfl (hb hby at_221) rfl ((if0 _ _).trans (teq (own_eq.mpr hc221_49)).2) k_) ?_
                      refine own_go (T28.setTop (mkF m 226 #[.val (.int p0), .val (.long p1), .second, .val (.long p2), .second, .val (.long p3), .second, .val (.int p4), .val (.long p5), .second, .val (.long r), .second, .val (.long x), .second, .val (.long ev), .second, .val (.int c1), .val (.int c2), .val (.int c3), .val (.int c4), .val (.int qB), .val (.long rB), .second, .val (.long eB), .second, .val (.long xB), .second, .val (.ref b25), .val (.ref b27), .unset, .unset] [(.long eB)])) (fun t_ k_ => XS.lload X28.here hx rfl (hb hby at_224) rfl k_) ?_
                      refine own_go (T28.setTop (mkF m 228 #[.val (.int p0), .val (.long p1), .second, .val (.long p2), .second, .val (.long p3), .second, .val (.int p4), .val (.long p5), .second, .val (.long r), .second, .val (.long x), .second, .val (.long ev), .second, .val (.int c1), .val (.int c2), .val (.int c3), .val (.int c4), .val (.int qB), .val (.long rB), .second, .val (.long eB), .second, .val (.long xB), .second, .val (.ref b25), .val (.ref b27), .unset, .unset] [(.long ev), (.long eB)])) (fun t_ k_ => XS.lload X28.here hx rfl (hb hby at_226) rfl k_) ?_
                      refine own_go (T28.setTop (mkF m 229 #[.val (.int p0), .val (.long p1), .second, .val (.long p2), .second, .val (.long p3), .second, .val (.int p4), .val (.long p5), .second, .val (.long r), .second, .val (.long x), .second, .val (.long ev), .second, .val (.int c1), .val (.int c2), .val (.int c3), .val (.int c4), .val (.int qB), .val (.long rB), .second, .val (.long eB), .second, .val (.long xB), .second, .val (.ref b25), .val (.ref b27), .unset, .unset] [(.int (lcmpW eB ev))])) (fun t_ k_ => XS.lcmp X28.here hx rfl (hb hby at_228) rfl k_) ?_
                      by_cases hc229_50 : eB = ev
                      ·
                        refine own_go (T28.setTop (mkF m 232 #[.val (.int p0), .val (.long p1), .second, .val (.long p2), .second, .val (.long p3), .second, .val (.int p4), .val (.long p5), .second, .val (.long r), .second, .val (.long x), .second, .val (.long ev), .second, .val (.int c1), .val (.int c2), .val (.int c3), .val (.int c4), .val (.int qB), .val (.long rB), .second, .val (.long eB), .second, .val (.long xB), .second, .val (.ref b25), .val (.ref b27), .unset, .unset] [])) (fun t_ k_ => XS.ifNo X28.here hx rfl (hb hby at_229) rfl ((if0 _ _).trans (teq (own_eq.mpr hc229_50)).2) k_) ?_
                        refine own_go (T28.setTop (mkF m 234 #[.val (.int p0), .val (.long p1), .second, .val (.long p2), .second, .val (.long p3), .second, .val (.int p4), .val (.long p5), .second, .val (.long r), .second, .val (.long x), .second, .val (.long ev), .second, .val (.int c1), .val (.int c2), .val (.int c3), .val (.int c4), .val (.int qB), .val (.long rB), .second, .val (.long eB), .second, .val (.long xB), .second, .val (.ref b25), .val (.ref b27), .unset, .unset] [(.long xB)])) (fun t_ k_ => XS.lload X28.here hx rfl (hb hby at_232) rfl k_) ?_
                        refine own_go (T28.setTop (mkF m 236 #[.val (.int p0), .val (.long p1), .second, .val (.long p2), .second, .val (.long p3), .second, .val (.int p4), .val (.long p5), .second, .val (.long r), .second, .val (.long x), .second, .val (.long ev), .second, .val (.int c1), .val (.int c2), .val (.int c3), .val (.int c4), .val (.int qB), .val (.long rB), .second, .val (.long eB), .second, .val (.long xB), .second, .val (.ref b25), .val (.ref b27), .unset, .unset] [(.long x), (.long xB)])) (fun t_ k_ => XS.lload X28.here hx rfl (hb hby at_234) rfl k_) ?_
                        refine own_go (T28.setTop (mkF m 237 #[.val (.int p0), .val (.long p1), .second, .val (.long p2), .second, .val (.long p3), .second, .val (.int p4), .val (.long p5), .second, .val (.long r), .second, .val (.long x), .second, .val (.long ev), .second, .val (.int c1), .val (.int c2), .val (.int c3), .val (.int c4), .val (.int qB), .val (.long rB), .second, .val (.long eB), .second, .val (.long xB), .second, .val (.ref b25), .val (.ref b27), .unset, .unset] [(.int (lcmpW xB x))])) (fun t_ k_ => XS.lcmp X28.here hx rfl (hb hby at_236) rfl k_) ?_
                        by_cases hc237_51 : xB = x
                        ·
                          refine own_go (T28.setTop (mkF m 240 #[.val (.int p0), .val (.long p1), .second, .val (.long p2), .second, .val (.long p3), .second, .val (.int p4), .val (.long p5), .second, .val (.long r), .second, .val (.long x), .second, .val (.long ev), .second, .val (.int c1), .val (.int c2), .val (.int c3), .val (.int c4), .val (.int qB), .val (.long rB), .second, .val (.long eB), .second, .val (.long xB), .second, .val (.ref b25), .val (.ref b27), .unset, .unset] [])) (fun t_ k_ => XS.ifNo X28.here hx rfl (hb hby at_237) rfl ((if0 _ _).trans (teq (own_eq.mpr hc237_51)).2) k_) ?_
                          refine own_go (T28.setTop (mkF m 241 #[.val (.int p0), .val (.long p1), .second, .val (.long p2), .second, .val (.long p3), .second, .val (.int p4), .val (.long p5), .second, .val (.long r), .second, .val (.long x), .second, .val (.long ev), .second, .val (.int c1), .val (.int c2), .val (.int c3), .val (.int c4), .val (.int qB), .val (.long rB), .second, .val (.long eB), .second, .val (.long xB), .second, .val (.ref b25), .val (.ref b27), .unset, .unset] [(.int (1 : Int32))])) (fun t_ k_ => XS.iconst X28.here hx rfl (hb hby at_240) k_) ?_
                          refine own_go (T28.setTop (mkF m 245 #[.val (.int p0), .val (.long p1), .second, .val (.long p2), .second, .val (.long p3), .second, .val (.int p4), .val (.long p5), .second, .val (.long r), .second, .val (.long x), .second, .val (.long ev), .second, .val (.int c1), .val (.int c2), .val (.int c3), .val (.int c4), .val (.int qB), .val (.long rB), .second, .val (.long eB), .second, .val (.long xB), .second, .val (.ref b25), .val (.ref b27), .unset, .unset] [(.int (1 : Int32))])) (fun t_ k_ => XS.goto X28.here hx rfl (pc0 := 241) (pc' := 245) rfl (hb hby at_241) (by decide) (by decide) k_) ?_
                          exact J29 _ _ X28 N28 rfl ((1 : Int32)) (by simp [own_same, hc213_48, hc221_49, hc229_50, hc237_51])
                        ·
                          refine own_go (T28.setTop (mkF m 244 #[.val (.int p0), .val (.long p1), .second, .val (.long p2), .second, .val (.long p3), .second, .val (.int p4), .val (.long p5), .second, .val (.long r), .second, .val (.long x), .second, .val (.long ev), .second, .val (.int c1), .val (.int c2), .val (.int c3), .val (.int c4), .val (.int qB), .val (.long rB), .second, .val (.long eB), .second, .val (.long xB), .second, .val (.ref b25), .val (.ref b27), .unset, .unset] [])) (fun t_ k_ => XS.ifYes X28.here hx rfl (pc0 := 237) (pc' := 244) rfl (hb hby at_237) rfl ((if0 _ _).trans (feq (fun q => hc237_51 (own_eq.mp q))).2) (by decide) (by decide) k_) ?_
                          refine own_go (T28.setTop (mkF m 245 #[.val (.int p0), .val (.long p1), .second, .val (.long p2), .second, .val (.long p3), .second, .val (.int p4), .val (.long p5), .second, .val (.long r), .second, .val (.long x), .second, .val (.long ev), .second, .val (.int c1), .val (.int c2), .val (.int c3), .val (.int c4), .val (.int qB), .val (.long rB), .second, .val (.long eB), .second, .val (.long xB), .second, .val (.ref b25), .val (.ref b27), .unset, .unset] [(.int (0 : Int32))])) (fun t_ k_ => XS.iconst X28.here hx rfl (hb hby at_244) k_) ?_
                          exact J29 _ _ X28 N28 rfl ((0 : Int32)) (by simp [own_same, hc213_48, hc221_49, hc229_50, hc237_51])
                      ·
                        refine own_go (T28.setTop (mkF m 244 #[.val (.int p0), .val (.long p1), .second, .val (.long p2), .second, .val (.long p3), .second, .val (.int p4), .val (.long p5), .second, .val (.long r), .second, .val (.long x), .second, .val (.long ev), .second, .val (.int c1), .val (.int c2), .val (.int c3), .val (.int c4), .val (.int qB), .val (.long rB), .second, .val (.long eB), .second, .val (.long xB), .second, .val (.ref b25), .val (.ref b27), .unset, .unset] [])) (fun t_ k_ => XS.ifYes X28.here hx rfl (pc0 := 229) (pc' := 244) rfl (hb hby at_229) rfl ((if0 _ _).trans (feq (fun q => hc229_50 (own_eq.mp q))).2) (by decide) (by decide) k_) ?_
                        refine own_go (T28.setTop (mkF m 245 #[.val (.int p0), .val (.long p1), .second, .val (.long p2), .second, .val (.long p3), .second, .val (.int p4), .val (.long p5), .second, .val (.long r), .second, .val (.long x), .second, .val (.long ev), .second, .val (.int c1), .val (.int c2), .val (.int c3), .val (.int c4), .val (.int qB), .val (.long rB), .second, .val (.long eB), .second, .val (.long xB), .second, .val (.ref b25), .val (.ref b27), .unset, .unset] [(.int (0 : Int32))])) (fun t_ k_ => XS.iconst X28.here hx rfl (hb hby at_244) k_) ?_
                        exact J29 _ _ X28 N28 rfl ((0 : Int32)) (by simp [own_same, hc213_48, hc221_49, hc229_50])
                    ·
                      refine own_go (T28.setTop (mkF m 244 #[.val (.int p0), .val (.long p1), .second, .val (.long p2), .second, .val (.long p3), .second, .val (.int p4), .val (.long p5), .second, .val (.long r), .second, .val (.long x), .second, .val (.long ev), .second, .val (.int c1), .val (.int c2), .val (.int c3), .val (.int c4), .val (.int qB), .val (.long rB), .second, .val (.long eB), .second, .val (.long xB), .second, .val (.ref b25), .val (.ref b27), .unset, .unset] [])) (fun t_ k_ => XS.ifYes X28.here hx rfl (pc0 := 221) (pc' := 244) rfl (hb hby at_221) rfl ((if0 _ _).trans (feq (fun q => hc221_49 (own_eq.mp q))).2) (by decide) (by decide) k_) ?_
                      refine own_go (T28.setTop (mkF m 245 #[.val (.int p0), .val (.long p1), .second, .val (.long p2), .second, .val (.long p3), .second, .val (.int p4), .val (.long p5), .second, .val (.long r), .second, .val (.long x), .second, .val (.long ev), .second, .val (.int c1), .val (.int c2), .val (.int c3), .val (.int c4), .val (.int qB), .val (.long rB), .second, .val (.long eB), .second, .val (.long xB), .second, .val (.ref b25), .val (.ref b27), .unset, .unset] [(.int (0 : Int32))])) (fun t_ k_ => XS.iconst X28.here hx rfl (hb hby at_244) k_) ?_
                      exact J29 _ _ X28 N28 rfl ((0 : Int32)) (by simp [own_same, hc213_48, hc221_49])
                  ·
                    refine own_go (T28.setTop (mkF m 244 #[.val (.int p0), .val (.long p1), .second, .val (.long p2), .second, .val (.long p3), .second, .val (.int p4), .val (.long p5), .second, .val (.long r), .second, .val (.long x), .second, .val (.long ev), .second, .val (.int c1), .val (.int c2), .val (.int c3), .val (.int c4), .val (.int qB), .val (.long rB), .second, .val (.long eB), .second, .val (.long xB), .second, .val (.ref b25), .val (.ref b27), .unset, .unset] [])) (fun t_ k_ => XS.icmpYes X28.here hx rfl (pc0 := 213) (pc' := 244) rfl (hb hby at_213) rfl (feq hc213_48).2 (by decide) (by decide) k_) ?_
                    refine own_go (T28.setTop (mkF m 245 #[.val (.int p0), .val (.long p1), .second, .val (.long p2), .second, .val (.long p3), .second, .val (.int p4), .val (.long p5), .second, .val (.long r), .second, .val (.long x), .second, .val (.long ev), .second, .val (.int c1), .val (.int c2), .val (.int c3), .val (.int c4), .val (.int qB), .val (.long rB), .second, .val (.long eB), .second, .val (.long xB), .second, .val (.ref b25), .val (.ref b27), .unset, .unset] [(.int (0 : Int32))])) (fun t_ k_ => XS.iconst X28.here hx rfl (hb hby at_244) k_) ?_
                    exact J29 _ _ X28 N28 rfl ((0 : Int32)) (by simp [own_same, hc213_48])
                refine own_go (T22.setTop (mkF m 160 #[.val (.int p0), .val (.long p1), .second, .val (.long p2), .second, .val (.long p3), .second, .val (.int p4), .val (.long p5), .second, .val (.long r), .second, .val (.long x), .second, .val (.long ev), .second, .val (.int c1), .val (.int c2), .val (.int c3), .val (.int c4), .val (.int qB), .val (.long rB), .second, .val (.long eB), .second, .unset, .unset, .unset, .unset, .unset, .unset] [(.int c4)])) (fun t_ k_ => XS.iload X22.here hx rfl (hb hby at_158) rfl k_) ?_
                by_cases hc160_52 : c4 = (0 : Int32)
                ·
                  refine own_go (T22.setTop (mkF m 173 #[.val (.int p0), .val (.long p1), .second, .val (.long p2), .second, .val (.long p3), .second, .val (.int p4), .val (.long p5), .second, .val (.long r), .second, .val (.long x), .second, .val (.long ev), .second, .val (.int c1), .val (.int c2), .val (.int c3), .val (.int c4), .val (.int qB), .val (.long rB), .second, .val (.long eB), .second, .unset, .unset, .unset, .unset, .unset, .unset] [])) (fun t_ k_ => XS.ifYes X22.here hx rfl (pc0 := 160) (pc' := 173) rfl (hb hby at_160) rfl ((if0 _ _).trans (teq hc160_52).1) (by decide) (by decide) k_) ?_
                  refine own_go (T22.setTop (mkF m 175 #[.val (.int p0), .val (.long p1), .second, .val (.long p2), .second, .val (.long p3), .second, .val (.int p4), .val (.long p5), .second, .val (.long r), .second, .val (.long x), .second, .val (.long ev), .second, .val (.int c1), .val (.int c2), .val (.int c3), .val (.int c4), .val (.int qB), .val (.long rB), .second, .val (.long eB), .second, .unset, .unset, .unset, .unset, .unset, .unset] [(.long x)])) (fun t_ k_ => XS.lload X22.here hx rfl (hb hby at_173) rfl k_) ?_
                  exact J23 _ _ X22 N22 e22 (x) (Or.inl rfl)
                ·
                  refine own_go (T22.setTop (mkF m 163 #[.val (.int p0), .val (.long p1), .second, .val (.long p2), .second, .val (.long p3), .second, .val (.int p4), .val (.long p5), .second, .val (.long r), .second, .val (.long x), .second, .val (.long ev), .second, .val (.int c1), .val (.int c2), .val (.int c3), .val (.int c4), .val (.int qB), .val (.long rB), .second, .val (.long eB), .second, .unset, .unset, .unset, .unset, .unset, .unset] [])) (fun t_ k_ => XS.ifNo X22.here hx rfl (hb hby at_160) rfl ((if0 _ _).trans (feq hc160_52).1) k_) ?_
                  refine own_go (T22.setTop (mkF m 165 #[.val (.int p0), .val (.long p1), .second, .val (.long p2), .second, .val (.long p3), .second, .val (.int p4), .val (.long p5), .second, .val (.long r), .second, .val (.long x), .second, .val (.long ev), .second, .val (.int c1), .val (.int c2), .val (.int c3), .val (.int c4), .val (.int qB), .val (.long rB), .second, .val (.long eB), .second, .unset, .unset, .unset, .unset, .unset, .unset] [(.long p5)])) (fun t_ k_ => XS.lload X22.here hx rfl (hb hby at_163) rfl k_) ?_
                  refine own_go (T22.setTop (mkF m 167 #[.val (.int p0), .val (.long p1), .second, .val (.long p2), .second, .val (.long p3), .second, .val (.int p4), .val (.long p5), .second, .val (.long r), .second, .val (.long x), .second, .val (.long ev), .second, .val (.int c1), .val (.int c2), .val (.int c3), .val (.int c4), .val (.int qB), .val (.long rB), .second, .val (.long eB), .second, .unset, .unset, .unset, .unset, .unset, .unset] [(.long ev), (.long p5)])) (fun t_ k_ => XS.lload X22.here hx rfl (hb hby at_165) rfl k_) ?_
                  obtain ⟨_, _, ⟨T53, Lu53, ku53, nu53⟩, -, X53, ⟨Lc53, hQ53, lu53, yu53, zu53⟩, st53⟩ := Jvm.LawKit.callS X22 hx (y := (⟨"java/lang/Math", "max", "(JJ)J"⟩ : MethodName)) hown (mvT hZ (hw _ (List.mem_of_getElem? (i := 4) rfl))) (mvT hZ (hw _ (List.mem_of_getElem? (i := 5) rfl))) (mvT hZ (hw _ (List.mem_of_getElem? (i := 2) rfl))) (mvT hZ (hw _ (List.mem_of_getElem? (i := 6) rfl))) (by decide) (backOf (W := 0) (rm_mx l Z a0 hw [] (p5) (ev) h0 O ) hZ (hw _ (List.mem_of_getElem? (i := 6) rfl)) (hw _ (List.mem_of_getElem? (i := 2) rfl)) (by decide) (by decide)) (g := (mkF m 167 #[.val (.int p0), .val (.long p1), .second, .val (.long p2), .second, .val (.long p3), .second, .val (.int p4), .val (.long p5), .second, .val (.long r), .second, .val (.long x), .second, .val (.long ev), .second, .val (.int c1), .val (.int c2), .val (.int c3), .val (.int c4), .val (.int qB), .val (.long rB), .second, .val (.long eB), .second, .unset, .unset, .unset, .unset, .unset, .unset] [(.long ev), (.long p5)])) rfl (by rw [hml]; rfl) (argsL := [(.long p5), (.long ev)]) (rest := []) (lenOf own_pd2 rfl) rfl (by show 2 * 0 + _ ≤ _; exact Nat.le_of_eq rfl) (hb hby at_167) (fun _ _ => ⟨rfl, e22, (by decide : 0 + 0 ≤ _), (by decide : 0 + 0 ≤ _)⟩)
                  dsimp only [Pt.U, Pt.locs, Pt.cells, Pt.slots] at X53 lu53 yu53 zu53 st53 hQ53
                  subst lu53 yu53 zu53
                  obtain ⟨rfl, N53q, e53⟩ := hQ53
                  have N53 := Fr.app N22 N53q
                  refine own_go (T53.setTop (mkF m 170 #[.val (.int p0), .val (.long p1), .second, .val (.long p2), .second, .val (.long p3), .second, .val (.int p4), .val (.long p5), .second, .val (.long r), .second, .val (.long x), .second, .val (.long ev), .second, .val (.int c1), .val (.int c2), .val (.int c3), .val (.int c4), .val (.int qB), .val (.long rB), .second, .val (.long eB), .second, .unset, .unset, .unset, .unset, .unset, .unset] [(.long (own_max p5 ev))])) (fun t_ k_ => st53 _ k_) ?_
                  refine own_go (T53.setTop (mkF m 175 #[.val (.int p0), .val (.long p1), .second, .val (.long p2), .second, .val (.long p3), .second, .val (.int p4), .val (.long p5), .second, .val (.long r), .second, .val (.long x), .second, .val (.long ev), .second, .val (.int c1), .val (.int c2), .val (.int c3), .val (.int c4), .val (.int qB), .val (.long rB), .second, .val (.long eB), .second, .unset, .unset, .unset, .unset, .unset, .unset] [(.long (own_max p5 ev))])) (fun t_ k_ => XS.goto X53.here hx rfl (pc0 := 170) (pc' := 175) rfl (hb hby at_170) (by decide) (by decide) k_) ?_
                  exact J23 _ _ X53 N53 e53 ((own_max p5 ev)) (Or.inr rfl)
              refine own_go (T20.setTop (mkF m 136 #[.val (.int p0), .val (.long p1), .second, .val (.long p2), .second, .val (.long p3), .second, .val (.int p4), .val (.long p5), .second, .val (.long r), .second, .val (.long x), .second, .val (.long ev), .second, .val (.int c1), .val (.int c2), .val (.int c3), .val (.int c4), .val (.int qB), .val (.long rB), .second, .unset, .unset, .unset, .unset, .unset, .unset, .unset, .unset] [(.int c3)])) (fun t_ k_ => XS.iload X20.here hx rfl (hb hby at_134) rfl k_) ?_
              by_cases hc136_54 : c3 = (0 : Int32)
              ·
                refine own_go (T20.setTop (mkF m 154 #[.val (.int p0), .val (.long p1), .second, .val (.long p2), .second, .val (.long p3), .second, .val (.int p4), .val (.long p5), .second, .val (.long r), .second, .val (.long x), .second, .val (.long ev), .second, .val (.int c1), .val (.int c2), .val (.int c3), .val (.int c4), .val (.int qB), .val (.long rB), .second, .unset, .unset, .unset, .unset, .unset, .unset, .unset, .unset] [])) (fun t_ k_ => XS.ifYes X20.here hx rfl (pc0 := 136) (pc' := 154) rfl (hb hby at_136) rfl ((if0 _ _).trans (teq hc136_54).1) (by decide) (by decide) k_) ?_
                refine own_go (T20.setTop (mkF m 156 #[.val (.int p0), .val (.long p1), .second, .val (.long p2), .second, .val (.long p3), .second, .val (.int p4), .val (.long p5), .second, .val (.long r), .second, .val (.long x), .second, .val (.long ev), .second, .val (.int c1), .val (.int c2), .val (.int c3), .val (.int c4), .val (.int qB), .val (.long rB), .second, .unset, .unset, .unset, .unset, .unset, .unset, .unset, .unset] [(.long ev)])) (fun t_ k_ => XS.lload X20.here hx rfl (hb hby at_154) rfl k_) ?_
                exact J21 _ _ X20 N20 e20 (ev) (Or.inl rfl)
              ·
                refine own_go (T20.setTop (mkF m 139 #[.val (.int p0), .val (.long p1), .second, .val (.long p2), .second, .val (.long p3), .second, .val (.int p4), .val (.long p5), .second, .val (.long r), .second, .val (.long x), .second, .val (.long ev), .second, .val (.int c1), .val (.int c2), .val (.int c3), .val (.int c4), .val (.int qB), .val (.long rB), .second, .unset, .unset, .unset, .unset, .unset, .unset, .unset, .unset] [])) (fun t_ k_ => XS.ifNo X20.here hx rfl (hb hby at_136) rfl ((if0 _ _).trans (feq hc136_54).1) k_) ?_
                refine own_go (T20.setTop (mkF m 141 #[.val (.int p0), .val (.long p1), .second, .val (.long p2), .second, .val (.long p3), .second, .val (.int p4), .val (.long p5), .second, .val (.long r), .second, .val (.long x), .second, .val (.long ev), .second, .val (.int c1), .val (.int c2), .val (.int c3), .val (.int c4), .val (.int qB), .val (.long rB), .second, .unset, .unset, .unset, .unset, .unset, .unset, .unset, .unset] [(.long r)])) (fun t_ k_ => XS.lload X20.here hx rfl (hb hby at_139) rfl k_) ?_
                refine own_go (T20.setTop (mkF m 143 #[.val (.int p0), .val (.long p1), .second, .val (.long p2), .second, .val (.long p3), .second, .val (.int p4), .val (.long p5), .second, .val (.long r), .second, .val (.long x), .second, .val (.long ev), .second, .val (.int c1), .val (.int c2), .val (.int c3), .val (.int c4), .val (.int qB), .val (.long rB), .second, .unset, .unset, .unset, .unset, .unset, .unset, .unset, .unset] [(.long p5), (.long r)])) (fun t_ k_ => XS.lload X20.here hx rfl (hb hby at_141) rfl k_) ?_
                refine own_go (T20.setTop (mkF m 145 #[.val (.int p0), .val (.long p1), .second, .val (.long p2), .second, .val (.long p3), .second, .val (.int p4), .val (.long p5), .second, .val (.long r), .second, .val (.long x), .second, .val (.long ev), .second, .val (.int c1), .val (.int c2), .val (.int c3), .val (.int c4), .val (.int qB), .val (.long rB), .second, .unset, .unset, .unset, .unset, .unset, .unset, .unset, .unset] [(.long x), (.long p5), (.long r)])) (fun t_ k_ => XS.lload X20.here hx rfl (hb hby at_143) rfl k_) ?_
                obtain ⟨_, _, ⟨T55, Lu55, ku55, nu55⟩, -, X55, ⟨Lc55, hQ55, lu55, yu55, zu55⟩, st55⟩ := Jvm.LawKit.callS X20 hx (y := (⟨"java/lang/Math", "min", "(JJ)J"⟩ : MethodName)) hown (mvT hZ (hw _ (List.mem_of_getElem? (i := 0) rfl))) (mvT hZ (hw _ (List.mem_of_getElem? (i := 1) rfl))) (mvT hZ (hw _ (List.mem_of_getElem? (i := 2) rfl))) (mvT hZ (hw _ (List.mem_of_getElem? (i := 3) rfl))) (by decide) (backOf (W := 2) (rm_mn l Z a0 hw [] (p5) (x) h0 O ) hZ (hw _ (List.mem_of_getElem? (i := 3) rfl)) (hw _ (List.mem_of_getElem? (i := 2) rfl)) (by decide) (by decide)) (g := (mkF m 145 #[.val (.int p0), .val (.long p1), .second, .val (.long p2), .second, .val (.long p3), .second, .val (.int p4), .val (.long p5), .second, .val (.long r), .second, .val (.long x), .second, .val (.long ev), .second, .val (.int c1), .val (.int c2), .val (.int c3), .val (.int c4), .val (.int qB), .val (.long rB), .second, .unset, .unset, .unset, .unset, .unset, .unset, .unset, .unset] [(.long x), (.long p5), (.long r)])) rfl (by rw [hml]; rfl) (argsL := [(.long p5), (.long x)]) (rest := [(.long r)]) (lenOf own_pd2 rfl) rfl (by show 2 * 0 + _ ≤ _; exact Nat.le_of_eq rfl) (hb hby at_145) (fun _ _ => ⟨rfl, e20, (by decide : 0 + 0 ≤ _), (by decide : 0 + 0 ≤ _)⟩)
                dsimp only [Pt.U, Pt.locs, Pt.cells, Pt.slots] at X55 lu55 yu55 zu55 st55 hQ55
                subst lu55 yu55 zu55
                obtain ⟨rfl, N55q, e55⟩ := hQ55
                have N55 := Fr.app N20 N55q
                refine own_go (T55.setTop (mkF m 148 #[.val (.int p0), .val (.long p1), .second, .val (.long p2), .second, .val (.long p3), .second, .val (.int p4), .val (.long p5), .second, .val (.long r), .second, .val (.long x), .second, .val (.long ev), .second, .val (.int c1), .val (.int c2), .val (.int c3), .val (.int c4), .val (.int qB), .val (.long rB), .second, .unset, .unset, .unset, .unset, .unset, .unset, .unset, .unset] [(.long (own_min p5 x)), (.long r)])) (fun t_ k_ => st55 _ k_) ?_
                obtain ⟨_, _, ⟨T56, Lu56, ku56, nu56⟩, -, X56, ⟨Lc56, hQ56, lu56, yu56, zu56⟩, st56⟩ := Jvm.LawKit.callS X55 hx (y := (⟨"java/lang/Math", "max", "(JJ)J"⟩ : MethodName)) hown (mvT hZ (hw _ (List.mem_of_getElem? (i := 4) rfl))) (mvT hZ (hw _ (List.mem_of_getElem? (i := 5) rfl))) (mvT hZ (hw _ (List.mem_of_getElem? (i := 2) rfl))) (mvT hZ (hw _ (List.mem_of_getElem? (i := 6) rfl))) (by decide) (backOf (W := 0) (rm_mx l Z a0 hw [] (r) ((own_min p5 x)) h0 O ) hZ (hw _ (List.mem_of_getElem? (i := 6) rfl)) (hw _ (List.mem_of_getElem? (i := 2) rfl)) (by decide) (by decide)) (g := (mkF m 148 #[.val (.int p0), .val (.long p1), .second, .val (.long p2), .second, .val (.long p3), .second, .val (.int p4), .val (.long p5), .second, .val (.long r), .second, .val (.long x), .second, .val (.long ev), .second, .val (.int c1), .val (.int c2), .val (.int c3), .val (.int c4), .val (.int qB), .val (.long rB), .second, .unset, .unset, .unset, .unset, .unset, .unset, .unset, .unset] [(.long (own_min p5 x)), (.long r)])) rfl (by rw [hml]; rfl) (argsL := [(.long r), (.long (own_min p5 x))]) (rest := []) (lenOf own_pd2 rfl) rfl (by show 2 * 0 + _ ≤ _; exact Nat.le_of_eq rfl) (hb hby at_148) (fun _ _ => ⟨rfl, e55, (by decide : 0 + 0 ≤ _), (by decide : 0 + 0 ≤ _)⟩)
                dsimp only [Pt.U, Pt.locs, Pt.cells, Pt.slots] at X56 lu56 yu56 zu56 st56 hQ56
                subst lu56 yu56 zu56
                obtain ⟨rfl, N56q, e56⟩ := hQ56
                have N56 := Fr.app N55 N56q
                refine own_go (T56.setTop (mkF m 151 #[.val (.int p0), .val (.long p1), .second, .val (.long p2), .second, .val (.long p3), .second, .val (.int p4), .val (.long p5), .second, .val (.long r), .second, .val (.long x), .second, .val (.long ev), .second, .val (.int c1), .val (.int c2), .val (.int c3), .val (.int c4), .val (.int qB), .val (.long rB), .second, .unset, .unset, .unset, .unset, .unset, .unset, .unset, .unset] [(.long (own_max r (own_min p5 x)))])) (fun t_ k_ => st56 _ k_) ?_
                refine own_go (T56.setTop (mkF m 156 #[.val (.int p0), .val (.long p1), .second, .val (.long p2), .second, .val (.long p3), .second, .val (.int p4), .val (.long p5), .second, .val (.long r), .second, .val (.long x), .second, .val (.long ev), .second, .val (.int c1), .val (.int c2), .val (.int c3), .val (.int c4), .val (.int qB), .val (.long rB), .second, .unset, .unset, .unset, .unset, .unset, .unset, .unset, .unset] [(.long (own_max r (own_min p5 x)))])) (fun t_ k_ => XS.goto X56.here hx rfl (pc0 := 151) (pc' := 156) rfl (hb hby at_151) (by decide) (by decide) k_) ?_
                exact J21 _ _ X56 N56 e56 ((own_max r (own_min p5 x))) (Or.inr rfl)
            refine own_go (T18.setTop (mkF m 117 #[.val (.int p0), .val (.long p1), .second, .val (.long p2), .second, .val (.long p3), .second, .val (.int p4), .val (.long p5), .second, .val (.long r), .second, .val (.long x), .second, .val (.long ev), .second, .val (.int c1), .val (.int c2), .val (.int c3), .val (.int c4), .val (.int qB), .unset, .unset, .unset, .unset, .unset, .unset, .unset, .unset, .unset, .unset] [(.int c2)])) (fun t_ k_ => XS.iload X18.here hx rfl (hb hby at_115) rfl k_) ?_
            by_cases hc117_57 : c2 = (0 : Int32)
            ·
              refine own_go (T18.setTop (mkF m 130 #[.val (.int p0), .val (.long p1), .second, .val (.long p2), .second, .val (.long p3), .second, .val (.int p4), .val (.long p5), .second, .val (.long r), .second, .val (.long x), .second, .val (.long ev), .second, .val (.int c1), .val (.int c2), .val (.int c3), .val (.int c4), .val (.int qB), .unset, .unset, .unset, .unset, .unset, .unset, .unset, .unset, .unset, .unset] [])) (fun t_ k_ => XS.ifYes X18.here hx rfl (pc0 := 117) (pc' := 130) rfl (hb hby at_117) rfl ((if0 _ _).trans (teq hc117_57).1) (by decide) (by decide) k_) ?_
              refine own_go (T18.setTop (mkF m 132 #[.val (.int p0), .val (.long p1), .second, .val (.long p2), .second, .val (.long p3), .second, .val (.int p4), .val (.long p5), .second, .val (.long r), .second, .val (.long x), .second, .val (.long ev), .second, .val (.int c1), .val (.int c2), .val (.int c3), .val (.int c4), .val (.int qB), .unset, .unset, .unset, .unset, .unset, .unset, .unset, .unset, .unset, .unset] [(.long r)])) (fun t_ k_ => XS.lload X18.here hx rfl (hb hby at_130) rfl k_) ?_
              exact J19 _ _ X18 N18 e18 (r) (Or.inl rfl)
            ·
              refine own_go (T18.setTop (mkF m 120 #[.val (.int p0), .val (.long p1), .second, .val (.long p2), .second, .val (.long p3), .second, .val (.int p4), .val (.long p5), .second, .val (.long r), .second, .val (.long x), .second, .val (.long ev), .second, .val (.int c1), .val (.int c2), .val (.int c3), .val (.int c4), .val (.int qB), .unset, .unset, .unset, .unset, .unset, .unset, .unset, .unset, .unset, .unset] [])) (fun t_ k_ => XS.ifNo X18.here hx rfl (hb hby at_117) rfl ((if0 _ _).trans (feq hc117_57).1) k_) ?_
              refine own_go (T18.setTop (mkF m 122 #[.val (.int p0), .val (.long p1), .second, .val (.long p2), .second, .val (.long p3), .second, .val (.int p4), .val (.long p5), .second, .val (.long r), .second, .val (.long x), .second, .val (.long ev), .second, .val (.int c1), .val (.int c2), .val (.int c3), .val (.int c4), .val (.int qB), .unset, .unset, .unset, .unset, .unset, .unset, .unset, .unset, .unset, .unset] [(.long p5)])) (fun t_ k_ => XS.lload X18.here hx rfl (hb hby at_120) rfl k_) ?_
              refine own_go (T18.setTop (mkF m 124 #[.val (.int p0), .val (.long p1), .second, .val (.long p2), .second, .val (.long p3), .second, .val (.int p4), .val (.long p5), .second, .val (.long r), .second, .val (.long x), .second, .val (.long ev), .second, .val (.int c1), .val (.int c2), .val (.int c3), .val (.int c4), .val (.int qB), .unset, .unset, .unset, .unset, .unset, .unset, .unset, .unset, .unset, .unset] [(.long ev), (.long p5)])) (fun t_ k_ => XS.lload X18.here hx rfl (hb hby at_122) rfl k_) ?_
              obtain ⟨_, _, ⟨T58, Lu58, ku58, nu58⟩, -, X58, ⟨Lc58, hQ58, lu58, yu58, zu58⟩, st58⟩ := Jvm.LawKit.callS X18 hx (y := (⟨"java/lang/Math", "min", "(JJ)J"⟩ : MethodName)) hown (mvT hZ (hw _ (List.mem_of_getElem? (i := 0) rfl))) (mvT hZ (hw _ (List.mem_of_getElem? (i := 1) rfl))) (mvT hZ (hw _ (List.mem_of_getElem? (i := 2) rfl))) (mvT hZ (hw _ (List.mem_of_getElem? (i := 3) rfl))) (by decide) (backOf (W := 0) (rm_mn l Z a0 hw [] (p5) (ev) h0 O ) hZ (hw _ (List.mem_of_getElem? (i := 3) rfl)) (hw _ (List.mem_of_getElem? (i := 2) rfl)) (by decide) (by decide)) (g := (mkF m 124 #[.val (.int p0), .val (.long p1), .second, .val (.long p2), .second, .val (.long p3), .second, .val (.int p4), .val (.long p5), .second, .val (.long r), .second, .val (.long x), .second, .val (.long ev), .second, .val (.int c1), .val (.int c2), .val (.int c3), .val (.int c4), .val (.int qB), .unset, .unset, .unset, .unset, .unset, .unset, .unset, .unset, .unset, .unset] [(.long ev), (.long p5)])) rfl (by rw [hml]; rfl) (argsL := [(.long p5), (.long ev)]) (rest := []) (lenOf own_pd2 rfl) rfl (by show 2 * 0 + _ ≤ _; exact Nat.le_of_eq rfl) (hb hby at_124) (fun _ _ => ⟨rfl, e18, (by decide : 0 + 0 ≤ _), (by decide : 0 + 0 ≤ _)⟩)
              dsimp only [Pt.U, Pt.locs, Pt.cells, Pt.slots] at X58 lu58 yu58 zu58 st58 hQ58
              subst lu58 yu58 zu58
              obtain ⟨rfl, N58q, e58⟩ := hQ58
              have N58 := Fr.app N18 N58q
              refine own_go (T58.setTop (mkF m 127 #[.val (.int p0), .val (.long p1), .second, .val (.long p2), .second, .val (.long p3), .second, .val (.int p4), .val (.long p5), .second, .val (.long r), .second, .val (.long x), .second, .val (.long ev), .second, .val (.int c1), .val (.int c2), .val (.int c3), .val (.int c4), .val (.int qB), .unset, .unset, .unset, .unset, .unset, .unset, .unset, .unset, .unset, .unset] [(.long (own_min p5 ev))])) (fun t_ k_ => st58 _ k_) ?_
              refine own_go (T58.setTop (mkF m 132 #[.val (.int p0), .val (.long p1), .second, .val (.long p2), .second, .val (.long p3), .second, .val (.int p4), .val (.long p5), .second, .val (.long r), .second, .val (.long x), .second, .val (.long ev), .second, .val (.int c1), .val (.int c2), .val (.int c3), .val (.int c4), .val (.int qB), .unset, .unset, .unset, .unset, .unset, .unset, .unset, .unset, .unset, .unset] [(.long (own_min p5 ev))])) (fun t_ k_ => XS.goto X58.here hx rfl (pc0 := 127) (pc' := 132) rfl (hb hby at_127) (by decide) (by decide) k_) ?_
              exact J19 _ _ X58 N58 e58 ((own_min p5 ev)) (Or.inr rfl)
          refine own_go (T16.setTop (mkF m 103 #[.val (.int p0), .val (.long p1), .second, .val (.long p2), .second, .val (.long p3), .second, .val (.int p4), .val (.long p5), .second, .val (.long r), .second, .val (.long x), .second, .val (.long ev), .second, .val (.int c1), .val (.int c2), .val (.int c3), .val (.int c4), .unset, .unset, .unset, .unset, .unset, .unset, .unset, .unset, .unset, .unset, .unset] [(.int c1)])) (fun t_ k_ => XS.iload X16.here hx rfl (hb hby at_101) rfl k_) ?_
          by_cases hc103_59 : c1 = (0 : Int32)
          ·
            refine own_go (T16.setTop (mkF m 112 #[.val (.int p0), .val (.long p1), .second, .val (.long p2), .second, .val (.long p3), .second, .val (.int p4), .val (.long p5), .second, .val (.long r), .second, .val (.long x), .second, .val (.long ev), .second, .val (.int c1), .val (.int c2), .val (.int c3), .val (.int c4), .unset, .unset, .unset, .unset, .unset, .unset, .unset, .unset, .unset, .unset, .unset] [])) (fun t_ k_ => XS.ifYes X16.here hx rfl (pc0 := 103) (pc' := 112) rfl (hb hby at_103) rfl ((if0 _ _).trans (teq hc103_59).1) (by decide) (by decide) k_) ?_
            refine own_go (T16.setTop (mkF m 113 #[.val (.int p0), .val (.long p1), .second, .val (.long p2), .second, .val (.long p3), .second, .val (.int p4), .val (.long p5), .second, .val (.long r), .second, .val (.long x), .second, .val (.long ev), .second, .val (.int c1), .val (.int c2), .val (.int c3), .val (.int c4), .unset, .unset, .unset, .unset, .unset, .unset, .unset, .unset, .unset, .unset, .unset] [(.int p0)])) (fun t_ k_ => XS.iloadN X16.here hx rfl (hb hby at_112) rfl k_) ?_
            exact J17 _ _ X16 N16 e16 (p0) 
          ·
            refine own_go (T16.setTop (mkF m 106 #[.val (.int p0), .val (.long p1), .second, .val (.long p2), .second, .val (.long p3), .second, .val (.int p4), .val (.long p5), .second, .val (.long r), .second, .val (.long x), .second, .val (.long ev), .second, .val (.int c1), .val (.int c2), .val (.int c3), .val (.int c4), .unset, .unset, .unset, .unset, .unset, .unset, .unset, .unset, .unset, .unset, .unset] [])) (fun t_ k_ => XS.ifNo X16.here hx rfl (hb hby at_103) rfl ((if0 _ _).trans (feq hc103_59).1) k_) ?_
            refine own_go (T16.setTop (mkF m 108 #[.val (.int p0), .val (.long p1), .second, .val (.long p2), .second, .val (.long p3), .second, .val (.int p4), .val (.long p5), .second, .val (.long r), .second, .val (.long x), .second, .val (.long ev), .second, .val (.int c1), .val (.int c2), .val (.int c3), .val (.int c4), .unset, .unset, .unset, .unset, .unset, .unset, .unset, .unset, .unset, .unset, .unset] [(.long p5)])) (fun t_ k_ => XS.lload X16.here hx rfl (hb hby at_106) rfl k_) ?_
            refine own_go (T16.setTop (mkF m 109 #[.val (.int p0), .val (.long p1), .second, .val (.long p2), .second, .val (.long p3), .second, .val (.int p4), .val (.long p5), .second, .val (.long r), .second, .val (.long x), .second, .val (.long ev), .second, .val (.int c1), .val (.int c2), .val (.int c3), .val (.int c4), .unset, .unset, .unset, .unset, .unset, .unset, .unset, .unset, .unset, .unset, .unset] [(.int (p5.toInt32))])) (fun t_ k_ => XS.l2i X16.here hx rfl (hb hby at_108) rfl k_) ?_
            refine own_go (T16.setTop (mkF m 113 #[.val (.int p0), .val (.long p1), .second, .val (.long p2), .second, .val (.long p3), .second, .val (.int p4), .val (.long p5), .second, .val (.long r), .second, .val (.long x), .second, .val (.long ev), .second, .val (.int c1), .val (.int c2), .val (.int c3), .val (.int c4), .unset, .unset, .unset, .unset, .unset, .unset, .unset, .unset, .unset, .unset, .unset] [(.int (p5.toInt32))])) (fun t_ k_ => XS.goto X16.here hx rfl (pc0 := 109) (pc' := 113) rfl (hb hby at_109) (by decide) (by decide) k_) ?_
            exact J17 _ _ X16 N16 e16 ((p5.toInt32)) 
        refine own_go (T14.setTop (mkF m 88 #[.val (.int p0), .val (.long p1), .second, .val (.long p2), .second, .val (.long p3), .second, .val (.int p4), .val (.long p5), .second, .val (.long r), .second, .val (.long x), .second, .val (.long ev), .second, .val (.int c1), .val (.int c2), .val (.int c3), .unset, .unset, .unset, .unset, .unset, .unset, .unset, .unset, .unset, .unset, .unset, .unset] [(.int p4)])) (fun t_ k_ => XS.iload X14.here hx rfl (hb hby at_86) rfl k_) ?_
        refine own_go (T14.setTop (mkF m 90 #[.val (.int p0), .val (.long p1), .second, .val (.long p2), .second, .val (.long p3), .second, .val (.int p4), .val (.long p5), .second, .val (.long r), .second, .val (.long x), .second, .val (.long ev), .second, .val (.int c1), .val (.int c2), .val (.int c3), .unset, .unset, .unset, .unset, .unset, .unset, .unset, .unset, .unset, .unset, .unset, .unset] [(.int (8 : Int32)), (.int p4)])) (fun t_ k_ => XS.bipush X14.here hx rfl (hb hby at_88) k_) ?_
        refine own_go (T14.setTop (mkF m 91 #[.val (.int p0), .val (.long p1), .second, .val (.long p2), .second, .val (.long p3), .second, .val (.int p4), .val (.long p5), .second, .val (.long r), .second, .val (.long x), .second, .val (.long ev), .second, .val (.int c1), .val (.int c2), .val (.int c3), .unset, .unset, .unset, .unset, .unset, .unset, .unset, .unset, .unset, .unset, .unset, .unset] [(.int (p4 &&& (8 : Int32)))])) (fun t_ k_ => XS.iand X14.here hx rfl (hb hby at_90) rfl k_) ?_
        by_cases hc91_60 : (p4 &&& (8 : Int32)) = (0 : Int32)
        ·
          refine own_go (T14.setTop (mkF m 98 #[.val (.int p0), .val (.long p1), .second, .val (.long p2), .second, .val (.long p3), .second, .val (.int p4), .val (.long p5), .second, .val (.long r), .second, .val (.long x), .second, .val (.long ev), .second, .val (.int c1), .val (.int c2), .val (.int c3), .unset, .unset, .unset, .unset, .unset, .unset, .unset, .unset, .unset, .unset, .unset, .unset] [])) (fun t_ k_ => XS.ifYes X14.here hx rfl (pc0 := 91) (pc' := 98) rfl (hb hby at_91) rfl ((if0 _ _).trans (teq hc91_60).1) (by decide) (by decide) k_) ?_
          refine own_go (T14.setTop (mkF m 99 #[.val (.int p0), .val (.long p1), .second, .val (.long p2), .second, .val (.long p3), .second, .val (.int p4), .val (.long p5), .second, .val (.long r), .second, .val (.long x), .second, .val (.long ev), .second, .val (.int c1), .val (.int c2), .val (.int c3), .unset, .unset, .unset, .unset, .unset, .unset, .unset, .unset, .unset, .unset, .unset, .unset] [(.int (0 : Int32))])) (fun t_ k_ => XS.iconst X14.here hx rfl (hb hby at_98) k_) ?_
          exact J15 _ _ X14 N14 e14 ((0 : Int32)) 
        ·
          refine own_go (T14.setTop (mkF m 94 #[.val (.int p0), .val (.long p1), .second, .val (.long p2), .second, .val (.long p3), .second, .val (.int p4), .val (.long p5), .second, .val (.long r), .second, .val (.long x), .second, .val (.long ev), .second, .val (.int c1), .val (.int c2), .val (.int c3), .unset, .unset, .unset, .unset, .unset, .unset, .unset, .unset, .unset, .unset, .unset, .unset] [])) (fun t_ k_ => XS.ifNo X14.here hx rfl (hb hby at_91) rfl ((if0 _ _).trans (feq hc91_60).1) k_) ?_
          refine own_go (T14.setTop (mkF m 95 #[.val (.int p0), .val (.long p1), .second, .val (.long p2), .second, .val (.long p3), .second, .val (.int p4), .val (.long p5), .second, .val (.long r), .second, .val (.long x), .second, .val (.long ev), .second, .val (.int c1), .val (.int c2), .val (.int c3), .unset, .unset, .unset, .unset, .unset, .unset, .unset, .unset, .unset, .unset, .unset, .unset] [(.int (1 : Int32))])) (fun t_ k_ => XS.iconst X14.here hx rfl (hb hby at_94) k_) ?_
          refine own_go (T14.setTop (mkF m 99 #[.val (.int p0), .val (.long p1), .second, .val (.long p2), .second, .val (.long p3), .second, .val (.int p4), .val (.long p5), .second, .val (.long r), .second, .val (.long x), .second, .val (.long ev), .second, .val (.int c1), .val (.int c2), .val (.int c3), .unset, .unset, .unset, .unset, .unset, .unset, .unset, .unset, .unset, .unset, .unset, .unset] [(.int (1 : Int32))])) (fun t_ k_ => XS.goto X14.here hx rfl (pc0 := 95) (pc' := 99) rfl (hb hby at_95) (by decide) (by decide) k_) ?_
          exact J15 _ _ X14 N14 e14 ((1 : Int32)) 
      refine own_go (T12.setTop (mkF m 74 #[.val (.int p0), .val (.long p1), .second, .val (.long p2), .second, .val (.long p3), .second, .val (.int p4), .val (.long p5), .second, .val (.long r), .second, .val (.long x), .second, .val (.long ev), .second, .val (.int c1), .val (.int c2), .unset, .unset, .unset, .unset, .unset, .unset, .unset, .unset, .unset, .unset, .unset, .unset, .unset] [(.int p4)])) (fun t_ k_ => XS.iload X12.here hx rfl (hb hby at_72) rfl k_) ?_
      refine own_go (T12.setTop (mkF m 75 #[.val (.int p0), .val (.long p1), .second, .val (.long p2), .second, .val (.long p3), .second, .val (.int p4), .val (.long p5), .second, .val (.long r), .second, .val (.long x), .second, .val (.long ev), .second, .val (.int c1), .val (.int c2), .unset, .unset, .unset, .unset, .unset, .unset, .unset, .unset, .unset, .unset, .unset, .unset, .unset] [(.int (4 : Int32)), (.int p4)])) (fun t_ k_ => XS.iconst X12.here hx rfl (hb hby at_74) k_) ?_
      refine own_go (T12.setTop (mkF m 76 #[.val (.int p0), .val (.long p1), .second, .val (.long p2), .second, .val (.long p3), .second, .val (.int p4), .val (.long p5), .second, .val (.long r), .second, .val (.long x), .second, .val (.long ev), .second, .val (.int c1), .val (.int c2), .unset, .unset, .unset, .unset, .unset, .unset, .unset, .unset, .unset, .unset, .unset, .unset, .unset] [(.int (p4 &&& (4 : Int32)))])) (fun t_ k_ => XS.iand X12.here hx rfl (hb hby at_75) rfl k_) ?_
      by_cases hc76_61 : (p4 &&& (4 : Int32)) = (0 : Int32)
      ·
        refine own_go (T12.setTop (mkF m 83 #[.val (.int p0), .val (.long p1), .second, .val (.long p2), .second, .val (.long p3), .second, .val (.int p4), .val (.long p5), .second, .val (.long r), .second, .val (.long x), .second, .val (.long ev), .second, .val (.int c1), .val (.int c2), .unset, .unset, .unset, .unset, .unset, .unset, .unset, .unset, .unset, .unset, .unset, .unset, .unset] [])) (fun t_ k_ => XS.ifYes X12.here hx rfl (pc0 := 76) (pc' := 83) rfl (hb hby at_76) rfl ((if0 _ _).trans (teq hc76_61).1) (by decide) (by decide) k_) ?_
        refine own_go (T12.setTop (mkF m 84 #[.val (.int p0), .val (.long p1), .second, .val (.long p2), .second, .val (.long p3), .second, .val (.int p4), .val (.long p5), .second, .val (.long r), .second, .val (.long x), .second, .val (.long ev), .second, .val (.int c1), .val (.int c2), .unset, .unset, .unset, .unset, .unset, .unset, .unset, .unset, .unset, .unset, .unset, .unset, .unset] [(.int (0 : Int32))])) (fun t_ k_ => XS.iconst X12.here hx rfl (hb hby at_83) k_) ?_
        exact J13 _ _ X12 N12 e12 ((0 : Int32)) 
      ·
        refine own_go (T12.setTop (mkF m 79 #[.val (.int p0), .val (.long p1), .second, .val (.long p2), .second, .val (.long p3), .second, .val (.int p4), .val (.long p5), .second, .val (.long r), .second, .val (.long x), .second, .val (.long ev), .second, .val (.int c1), .val (.int c2), .unset, .unset, .unset, .unset, .unset, .unset, .unset, .unset, .unset, .unset, .unset, .unset, .unset] [])) (fun t_ k_ => XS.ifNo X12.here hx rfl (hb hby at_76) rfl ((if0 _ _).trans (feq hc76_61).1) k_) ?_
        refine own_go (T12.setTop (mkF m 80 #[.val (.int p0), .val (.long p1), .second, .val (.long p2), .second, .val (.long p3), .second, .val (.int p4), .val (.long p5), .second, .val (.long r), .second, .val (.long x), .second, .val (.long ev), .second, .val (.int c1), .val (.int c2), .unset, .unset, .unset, .unset, .unset, .unset, .unset, .unset, .unset, .unset, .unset, .unset, .unset] [(.int (1 : Int32))])) (fun t_ k_ => XS.iconst X12.here hx rfl (hb hby at_79) k_) ?_
        refine own_go (T12.setTop (mkF m 84 #[.val (.int p0), .val (.long p1), .second, .val (.long p2), .second, .val (.long p3), .second, .val (.int p4), .val (.long p5), .second, .val (.long r), .second, .val (.long x), .second, .val (.long ev), .second, .val (.int c1), .val (.int c2), .unset, .unset, .unset, .unset, .unset, .unset, .unset, .unset, .unset, .unset, .unset, .unset, .unset] [(.int (1 : Int32))])) (fun t_ k_ => XS.goto X12.here hx rfl (pc0 := 80) (pc' := 84) rfl (hb hby at_80) (by decide) (by decide) k_) ?_
        exact J13 _ _ X12 N12 e12 ((1 : Int32)) 
    refine own_go (T10.setTop (mkF m 60 #[.val (.int p0), .val (.long p1), .second, .val (.long p2), .second, .val (.long p3), .second, .val (.int p4), .val (.long p5), .second, .val (.long r), .second, .val (.long x), .second, .val (.long ev), .second, .val (.int c1), .unset, .unset, .unset, .unset, .unset, .unset, .unset, .unset, .unset, .unset, .unset, .unset, .unset, .unset] [(.int p4)])) (fun t_ k_ => XS.iload X10.here hx rfl (hb hby at_58) rfl k_) ?_
    refine own_go (T10.setTop (mkF m 61 #[.val (.int p0), .val (.long p1), .second, .val (.long p2), .second, .val (.long p3), .second, .val (.int p4), .val (.long p5), .second, .val (.long r), .second, .val (.long x), .second, .val (.long ev), .second, .val (.int c1), .unset, .unset, .unset, .unset, .unset, .unset, .unset, .unset, .unset, .unset, .unset, .unset, .unset, .unset] [(.int (2 : Int32)), (.int p4)])) (fun t_ k_ => XS.iconst X10.here hx rfl (hb hby at_60) k_) ?_
    refine own_go (T10.setTop (mkF m 62 #[.val (.int p0), .val (.long p1), .second, .val (.long p2), .second, .val (.long p3), .second, .val (.int p4), .val (.long p5), .second, .val (.long r), .second, .val (.long x), .second, .val (.long ev), .second, .val (.int c1), .unset, .unset, .unset, .unset, .unset, .unset, .unset, .unset, .unset, .unset, .unset, .unset, .unset, .unset] [(.int (p4 &&& (2 : Int32)))])) (fun t_ k_ => XS.iand X10.here hx rfl (hb hby at_61) rfl k_) ?_
    by_cases hc62_62 : (p4 &&& (2 : Int32)) = (0 : Int32)
    ·
      refine own_go (T10.setTop (mkF m 69 #[.val (.int p0), .val (.long p1), .second, .val (.long p2), .second, .val (.long p3), .second, .val (.int p4), .val (.long p5), .second, .val (.long r), .second, .val (.long x), .second, .val (.long ev), .second, .val (.int c1), .unset, .unset, .unset, .unset, .unset, .unset, .unset, .unset, .unset, .unset, .unset, .unset, .unset, .unset] [])) (fun t_ k_ => XS.ifYes X10.here hx rfl (pc0 := 62) (pc' := 69) rfl (hb hby at_62) rfl ((if0 _ _).trans (teq hc62_62).1) (by decide) (by decide) k_) ?_
      refine own_go (T10.setTop (mkF m 70 #[.val (.int p0), .val (.long p1), .second, .val (.long p2), .second, .val (.long p3), .second, .val (.int p4), .val (.long p5), .second, .val (.long r), .second, .val (.long x), .second, .val (.long ev), .second, .val (.int c1), .unset, .unset, .unset, .unset, .unset, .unset, .unset, .unset, .unset, .unset, .unset, .unset, .unset, .unset] [(.int (0 : Int32))])) (fun t_ k_ => XS.iconst X10.here hx rfl (hb hby at_69) k_) ?_
      exact J11 _ _ X10 N10 e10 ((0 : Int32)) 
    ·
      refine own_go (T10.setTop (mkF m 65 #[.val (.int p0), .val (.long p1), .second, .val (.long p2), .second, .val (.long p3), .second, .val (.int p4), .val (.long p5), .second, .val (.long r), .second, .val (.long x), .second, .val (.long ev), .second, .val (.int c1), .unset, .unset, .unset, .unset, .unset, .unset, .unset, .unset, .unset, .unset, .unset, .unset, .unset, .unset] [])) (fun t_ k_ => XS.ifNo X10.here hx rfl (hb hby at_62) rfl ((if0 _ _).trans (feq hc62_62).1) k_) ?_
      refine own_go (T10.setTop (mkF m 66 #[.val (.int p0), .val (.long p1), .second, .val (.long p2), .second, .val (.long p3), .second, .val (.int p4), .val (.long p5), .second, .val (.long r), .second, .val (.long x), .second, .val (.long ev), .second, .val (.int c1), .unset, .unset, .unset, .unset, .unset, .unset, .unset, .unset, .unset, .unset, .unset, .unset, .unset, .unset] [(.int (1 : Int32))])) (fun t_ k_ => XS.iconst X10.here hx rfl (hb hby at_65) k_) ?_
      refine own_go (T10.setTop (mkF m 70 #[.val (.int p0), .val (.long p1), .second, .val (.long p2), .second, .val (.long p3), .second, .val (.int p4), .val (.long p5), .second, .val (.long r), .second, .val (.long x), .second, .val (.long ev), .second, .val (.int c1), .unset, .unset, .unset, .unset, .unset, .unset, .unset, .unset, .unset, .unset, .unset, .unset, .unset, .unset] [(.int (1 : Int32))])) (fun t_ k_ => XS.goto X10.here hx rfl (pc0 := 66) (pc' := 70) rfl (hb hby at_66) (by decide) (by decide) k_) ?_
      exact J11 _ _ X10 N10 e10 ((1 : Int32)) 
  refine own_go (T8.setTop (mkF m 46 #[.val (.int p0), .val (.long p1), .second, .val (.long p2), .second, .val (.long p3), .second, .val (.int p4), .val (.long p5), .second, .val (.long r), .second, .val (.long x), .second, .val (.long ev), .second, .unset, .unset, .unset, .unset, .unset, .unset, .unset, .unset, .unset, .unset, .unset, .unset, .unset, .unset, .unset] [(.int p4)])) (fun t_ k_ => XS.iload X8.here hx rfl (hb hby at_44) rfl k_) ?_
  refine own_go (T8.setTop (mkF m 47 #[.val (.int p0), .val (.long p1), .second, .val (.long p2), .second, .val (.long p3), .second, .val (.int p4), .val (.long p5), .second, .val (.long r), .second, .val (.long x), .second, .val (.long ev), .second, .unset, .unset, .unset, .unset, .unset, .unset, .unset, .unset, .unset, .unset, .unset, .unset, .unset, .unset, .unset] [(.int (1 : Int32)), (.int p4)])) (fun t_ k_ => XS.iconst X8.here hx rfl (hb hby at_46) k_) ?_
  refine own_go (T8.setTop (mkF m 48 #[.val (.int p0), .val (.long p1), .second, .val (.long p2), .second, .val (.long p3), .second, .val (.int p4), .val (.long p5), .second, .val (.long r), .second, .val (.long x), .second, .val (.long ev), .second, .unset, .unset, .unset, .unset, .unset, .unset, .unset, .unset, .unset, .unset, .unset, .unset, .unset, .unset, .unset] [(.int (p4 &&& (1 : Int32)))])) (fun t_ k_ => XS.iand X8.here hx rfl (hb hby at_47) rfl k_) ?_
  by_cases hc48_63 : (p4 &&& (1 : Int32)) = (0 : Int32)
  ·
    refine own_go (T8.setTop (mkF m 55 #[.val (.int p0), .val (.long p1), .second, .val (.long p2), .second, .val (.long p3), .second, .val (.int p4), .val (.long p5), .second, .val (.long r), .second, .val (.long x), .second, .val (.long ev), .second, .unset, .unset, .unset, .unset, .unset, .unset, .unset, .unset, .unset, .unset, .unset, .unset, .unset, .unset, .unset] [])) (fun t_ k_ => XS.ifYes X8.here hx rfl (pc0 := 48) (pc' := 55) rfl (hb hby at_48) rfl ((if0 _ _).trans (teq hc48_63).1) (by decide) (by decide) k_) ?_
    refine own_go (T8.setTop (mkF m 56 #[.val (.int p0), .val (.long p1), .second, .val (.long p2), .second, .val (.long p3), .second, .val (.int p4), .val (.long p5), .second, .val (.long r), .second, .val (.long x), .second, .val (.long ev), .second, .unset, .unset, .unset, .unset, .unset, .unset, .unset, .unset, .unset, .unset, .unset, .unset, .unset, .unset, .unset] [(.int (0 : Int32))])) (fun t_ k_ => XS.iconst X8.here hx rfl (hb hby at_55) k_) ?_
    exact J9 _ _ X8 N8 e8 ((0 : Int32)) 
  ·
    refine own_go (T8.setTop (mkF m 51 #[.val (.int p0), .val (.long p1), .second, .val (.long p2), .second, .val (.long p3), .second, .val (.int p4), .val (.long p5), .second, .val (.long r), .second, .val (.long x), .second, .val (.long ev), .second, .unset, .unset, .unset, .unset, .unset, .unset, .unset, .unset, .unset, .unset, .unset, .unset, .unset, .unset, .unset] [])) (fun t_ k_ => XS.ifNo X8.here hx rfl (hb hby at_48) rfl ((if0 _ _).trans (feq hc48_63).1) k_) ?_
    refine own_go (T8.setTop (mkF m 52 #[.val (.int p0), .val (.long p1), .second, .val (.long p2), .second, .val (.long p3), .second, .val (.int p4), .val (.long p5), .second, .val (.long r), .second, .val (.long x), .second, .val (.long ev), .second, .unset, .unset, .unset, .unset, .unset, .unset, .unset, .unset, .unset, .unset, .unset, .unset, .unset, .unset, .unset] [(.int (1 : Int32))])) (fun t_ k_ => XS.iconst X8.here hx rfl (hb hby at_51) k_) ?_
    refine own_go (T8.setTop (mkF m 56 #[.val (.int p0), .val (.long p1), .second, .val (.long p2), .second, .val (.long p3), .second, .val (.int p4), .val (.long p5), .second, .val (.long r), .second, .val (.long x), .second, .val (.long ev), .second, .unset, .unset, .unset, .unset, .unset, .unset, .unset, .unset, .unset, .unset, .unset, .unset, .unset, .unset, .unset] [(.int (1 : Int32))])) (fun t_ k_ => XS.goto X8.here hx rfl (pc0 := 52) (pc' := 56) rfl (hb hby at_52) (by decide) (by decide) k_) ?_
    exact J9 _ _ X8 N8 e8 ((1 : Int32)) 
set_option maxRecDepth 65536 in
set_option maxHeartbeats 40000000 in
theorem comes_1 {Post : Tables → Env → Array Value → State → Outcome → State → Prop} (hpost : ∀ tb e args s v u, (limb_1_1.after args s (.returned v) u = true ∧ limb_1_2.after args s (.returned v) u = true ∧ True) → FrameEnd s (.returned v) u (Jvm.fieldLocs frame_1_writes args s ++ Jvm.arrayLocs frame_1_arrays args s ++ Jvm.staticLocs frame_1_statics s) 16 128 → Post tb e args s (.returned v) u) :
    ArmFor flags0 classFile x code maxLocals ret World_1 tables_1 room_1 Calls_1 rest_1 Pre_1 Post := by
  intro l hfl _ _ p e ha hc hk s m args below hf hA hF happ hP
  obtain ⟨hcalls, hrest, hpre⟩ := hP
  obtain ⟨-, -, -, hnamed, -, -, -, hat⟩ := (Spec.applies_iff hf).mp happ
  obtain ⟨hg, hn⟩ := and_e (Cond.before_iff.mp (show (Jvm.Cond.and given_1 narrow_1).before args s = true from hpre))
  obtain ⟨g1, g2⟩ := and_e hg
  obtain ⟨g3, g4⟩ := and_e g2
  obtain ⟨g5, g6⟩ := and_e g4
  obtain ⟨g7, g8⟩ := and_e g6
  obtain ⟨g9, g10⟩ := and_e g8
  obtain ⟨g11, g12⟩ := and_e g10
  obtain ⟨w0, w1, w2, w3, w4, w5, rfl⟩ : ∃ w0 w1 w2 w3 w4 w5 : Value, args = #[w0, w1, w2, w3, w4, w5] := by
    have hs : args.size = 6 := by simpa [Cond.value, given_1] using g1
    obtain ⟨L⟩ := args
    match L, hs with
    | [w0, w1, w2, w3, w4, w5], _ => exact ⟨w0, w1, w2, w3, w4, w5, rfl⟩
  have hw := fun d (hd : d ∈ tables_1) => atoms_spec (ws := Jvm.Cond.code x code maxLocals ret :: tables_1) hat d (List.mem_cons_of_mem _ hd)
  have hfit : Fit s := fun {y c} hc i hi => by
    obtain ⟨ha, rfl⟩ := Array.getElem?_eq_some_iff.mp hc
    have q := List.all_eq_true.mp ((Array.all_eq_true_iff_forall_mem.mp hF) _ (Array.getElem_mem ha)) i (List.mem_range.mpr hi)
    simpa [Array.getElem?_eq_getElem hi] using q
  obtain ⟨hsets, hown0⟩ := atoms_of _ (rest_1_c_eq ▸ (show rest_1_c.before _ s = true from hrest))
  have hr0 := Cond.before_iff.mp hown0
  obtain ⟨i0, ei0⟩ := is_v g3
  obtain rfl : w0 = (.int i0) := Option.some.inj ei0
  obtain ⟨i1, ei1⟩ := isL_v g5
  obtain rfl : w1 = (.long i1) := Option.some.inj ei1
  obtain ⟨i2, ei2⟩ := isL_v g7
  obtain rfl : w2 = (.long i2) := Option.some.inj ei2
  obtain ⟨i3, ei3⟩ := isL_v g9
  obtain rfl : w3 = (.long i3) := Option.some.inj ei3
  obtain ⟨i4, ei4⟩ := is_v g11
  obtain rfl : w4 = (.int i4) := Option.some.inj ei4
  obtain ⟨i5, ei5⟩ := isL_v g12
  obtain rfl : w5 = (.long i5) := Option.some.inj ei5
  obtain ⟨a_cache, ev_cache⟩ := arr_v (Cond.before_iff.mp (hsets _ (List.mem_of_getElem? (i := 2) rfl)))
  have S_cache : Sta s s.heap "java/lang/Long$LongCache" "cache" "[Ljava/lang/Long;" (.ref a_cache) := Sta.start ev_cache (Or.inl (hsets _ (List.mem_of_getElem? (i := 1) rfl)))
  obtain ⟨cl_cache, A_cache⟩ := Arr.start ev_cache (Cond.before_iff.mp (hsets _ (List.mem_of_getElem? (i := 2) rfl)))
  have L_cache := own_cache ev_cache A_cache (Cond.before_iff.mp (hsets _ (List.mem_of_getElem? (i := 4) rfl))) (Cond.before_iff.mp (hsets _ (List.mem_of_getElem? (i := 5) rfl)))
  obtain ⟨n, o, h1, h2, h3, _, L, rfl, ⟨rfl, N, -⟩, hq⟩ := rm_law l s _ hw tables_1 i0 i1 i2 i3 i4 i5 a_cache cl_cache s.heap ⟨Nat.le_refl _, fun _ _ q => q⟩ ⟨S_cache, A_cache, L_cache⟩  p e ha hc hk s m _ below hf ((Spec.applies_iff_loose hf).mp happ).1 ⟨rfl, State.Warmed39.refl s, rfl⟩ trivial
  refine ⟨n, _, h1, h2, h3, hpost _ _ _ _ _ _ ⟨Cond.after_iff.mpr rfl, Cond.after_iff.mpr (eq_i res_at (Term.int_eval (1)) rfl), trivial⟩ ⟨hq.1, hq.2.1, (hq.2.2.sift fun y hy => Or.inr (N y hy)).mono (by decide) (by decide)⟩⟩
theorem main_1_1 : Claimed_1_1 := comes_1 fun _ _ _ _ _ _ h hF => ⟨h.1, hF⟩
theorem main_1_2 : Claimed_1_2 := comes_1 fun _ _ _ _ _ _ h hF => ⟨h.2.1, hF⟩
end Jvm.Pilot.@@N@@
namespace Jvm.Pilot.@@N@@
open Jvm Jvm.ClassFile Sem Op Lib Jvm.Free Jvm.Stand Jvm.Pilot.@@N@@.Jvm.D
/-! MADE BY PROGRAM (witnessworld.py) out of the Statement's table words and the real class files: 17 classes; the members and pool entries that the words name. The judged class is class 1, her method 1. -/
namespace start1
open Jvm.ClassFile
def u (s : String) : CpInfo := .utf8 (stringToUtf16 s)
/-- a pool by its gaps: so many unusable entries, then the entry; so many at the end -/
def gap : Nat → List CpInfo → List CpInfo
  | 0, r => r
  | n + 1, r => .unusable :: gap n r
def poolList (es : List (Nat × CpInfo)) (last : Nat) : List CpInfo := es.foldr (fun e r => gap e.1 (e.2 :: r)) (gap last [])
def pool (es : List (Nat × CpInfo)) (last : Nat) : Array CpInfo := ⟨poolList es last⟩
def fileOf (pool : Array CpInfo) (this : Nat) (attrs : Array Attribute := #[]) (ms : Array MethodInfo := #[]) (fl : Nat := 33) (sup : Nat := 0) (ifs : Array Nat := #[]) (fds : Array FieldInfo := #[]) : ClassFile where
  minorVersion := 0
  majorVersion := 65
  constantPool := pool
  accessFlags := fl
  thisClass := this
  superClass := sup
  interfaces := ifs
  fields := fds
  methods := ms
  attributes := attrs
def plain (name : String) (sup : Option ClassId) : Class where
  name := name
  kind := .ordinary
  loader := none
  accessFlags := 33
  super := sup
  interfaces := #[]
  cf := none
  fields := #[]
  methods := #[]
  instanceTypes := #[]
  staticTypes := #[]
  resolved := #[]
  callSites := []
  init := .initialized
  statics := none
  mirror := none

def pool0 : Array CpInfo := pool [(5, u "<init>"), (0, u "()V"), (1, .class_ 10), (1, u "java/lang/Object")] 113

def k0c0 : Code := { maxStack := 0, maxLocals := 1, code := object_method_1_code, exceptionTable := #[], attributes := #[] }
def k0m0 : Method := { name := "<init>", desc := "()V", sig := { parameters := [], returnType := none }, accessFlags := 1, code := some k0c0 }
/-- java/lang/Object -/
def k0 : Class := { plain "java/lang/Object" none with
  accessFlags := 33
  interfaces := #[]
  cf := some (fileOf pool0 8 #[] #[{ accessFlags := 1, nameIndex := 5, descriptorIndex := 6, attributes := #[] }] 33 0 #[] #[])
  fields := #[]
  methods := #[k0m0]
  instanceTypes := #[]
  staticTypes := #[]
  resolved := Array.replicate 124 none
  statics := none }

def pool1 : Array CpInfo := pool [(2, .class_ 4), (1, u "java/lang/Object"), (0, u "<init>"), (0, u "()V"), (0, .methodref 8 9), (0, .class_ 10), (0, .nameAndType 11 12), (0, u "java/lang/Math"), (0, u "min"), (0, u "(JJ)J"), (0, .methodref 8 14), (0, .nameAndType 15 12), (0, u "max"), (0, .class_ 17), (0, u "com/example/eager_quorum/eagerquorum/model/CriticalSection"), (0, .methodref 16 19), (0, .nameAndType 5 20), (0, u "(IJJJ)V"), (0, .methodref 22 23), (0, .class_ 24), (0, .nameAndType 25 26), (0, u "java/lang/Long"), (0, u "valueOf"), (0, u "(J)Ljava/lang/Long;"), (0, .methodref 16 28), (0, .nameAndType 29 30), (0, u "equals"), (0, u "(Ljava/lang/Object;)Z"), (0, .class_ 32), (0, u "com/example/eager_quorum/eagerquorum/model/CriticalSectionEqualsPinLaw"), (2, u "law"), (0, u "(IJJJIJ)Z")] 3

def k1m0 : Method := { name := "<init>", desc := "()V", sig := { parameters := [], returnType := none }, accessFlags := 1, code := none }
def k1c1 : Code := { maxStack := 9, maxLocals := 31, code := code, exceptionTable := #[], attributes := #[] }
def k1m1 : Method := { name := "law", desc := "(IJJJIJ)Z", sig := { parameters := [.int, .long, .long, .long, .int, .long], returnType := some .boolean }, accessFlags := 9, code := some k1c1 }
/-- com/example/eager_quorum/eagerquorum/model/CriticalSectionEqualsPinLaw -/
def k1 : Class := { plain "com/example/eager_quorum/eagerquorum/model/CriticalSectionEqualsPinLaw" (some 0) with
  accessFlags := 49
  interfaces := #[]
  cf := some (fileOf pool1 31 #[] #[{ accessFlags := 1, nameIndex := 5, descriptorIndex := 6, attributes := #[] }, { accessFlags := 9, nameIndex := 35, descriptorIndex := 36, attributes := #[] }] 49 2 #[] #[])
  fields := #[]
  methods := #[k1m0, k1m1]
  instanceTypes := #[]
  staticTypes := #[]
  resolved := Array.replicate 40 none
  statics := none }

def pool2 : Array CpInfo := pool [(1, .class_ 2), (0, u "java/lang/Math"), (1, .class_ 6), (1, u "java/lang/Object"), (0, u "<init>"), (0, u "()V"), (89, .class_ 100), (1, u "java/lang/Math$RandomNumberGeneratorHolder"), (20, u "(JJ)J"), (50, u "negativeZeroFloatBits"), (0, u "J"), (2, u "negativeZeroDoubleBits"), (21, u "max"), (2, u "min"), (43, u "$assertionsDisabled"), (0, u "Z"), (91, u "twoToTheDoubleScaleDown"), (0, u "D"), (4, u "twoToTheDoubleScaleUp"), (9, u "E"), (3, u "PI"), (2, u "TAU"), (2, u "DEGREES_TO_RADIANS"), (0, u "RADIANS_TO_DEGREES")] 94

def k2m0 : Method := { name := "<init>", desc := "()V", sig := { parameters := [], returnType := none }, accessFlags := 2, code := none }
def k2c1 : Code := { maxStack := 4, maxLocals := 4, code := jdk_29_method_66_code, exceptionTable := #[], attributes := #[] }
def k2m1 : Method := { name := "max", desc := "(JJ)J", sig := { parameters := [.long, .long], returnType := some .long }, accessFlags := 9, code := some k2c1 }
def k2c2 : Code := { maxStack := 4, maxLocals := 4, code := jdk_29_method_70_code, exceptionTable := #[], attributes := #[] }
def k2m2 : Method := { name := "min", desc := "(JJ)J", sig := { parameters := [.long, .long], returnType := some .long }, accessFlags := 9, code := some k2c2 }
/-- java/lang/Math -/
def k2 : Class := { plain "java/lang/Math" (some 0) with
  accessFlags := 49
  interfaces := #[]
  cf := some (fileOf pool2 1 #[.nestMembers #[98]] #[{ accessFlags := 2, nameIndex := 7, descriptorIndex := 8, attributes := #[] }, { accessFlags := 9, nameIndex := 198, descriptorIndex := 121, attributes := #[] }, { accessFlags := 9, nameIndex := 201, descriptorIndex := 121, attributes := #[] }] 49 4 #[] #[{ accessFlags := 25, nameIndex := 354, descriptorIndex := 339, attributes := #[] }, { accessFlags := 25, nameIndex := 358, descriptorIndex := 339, attributes := #[] }, { accessFlags := 25, nameIndex := 361, descriptorIndex := 339, attributes := #[] }, { accessFlags := 26, nameIndex := 364, descriptorIndex := 339, attributes := #[] }, { accessFlags := 26, nameIndex := 365, descriptorIndex := 339, attributes := #[] }, { accessFlags := 26, nameIndex := 172, descriptorIndex := 173, attributes := #[] }, { accessFlags := 26, nameIndex := 176, descriptorIndex := 173, attributes := #[] }, { accessFlags := 8, nameIndex := 344, descriptorIndex := 339, attributes := #[] }, { accessFlags := 8, nameIndex := 338, descriptorIndex := 339, attributes := #[] }, { accessFlags := 4120, nameIndex := 245, descriptorIndex := 246, attributes := #[] }])
  fields := #[{ name := "E", type := .double, accessFlags := 25, slot := 0, constantValue := 0 }, { name := "PI", type := .double, accessFlags := 25, slot := 1, constantValue := 0 }, { name := "TAU", type := .double, accessFlags := 25, slot := 2, constantValue := 0 }, { name := "DEGREES_TO_RADIANS", type := .double, accessFlags := 26, slot := 3, constantValue := 0 }, { name := "RADIANS_TO_DEGREES", type := .double, accessFlags := 26, slot := 4, constantValue := 0 }, { name := "negativeZeroFloatBits", type := .long, accessFlags := 26, slot := 5, constantValue := 0 }, { name := "negativeZeroDoubleBits", type := .long, accessFlags := 26, slot := 6, constantValue := 0 }, { name := "twoToTheDoubleScaleUp", type := .double, accessFlags := 8, slot := 7, constantValue := 0 }, { name := "twoToTheDoubleScaleDown", type := .double, accessFlags := 8, slot := 8, constantValue := 0 }, { name := "$assertionsDisabled", type := .boolean, accessFlags := 4120, slot := 9, constantValue := 0 }]
  methods := #[k2m0, k2m1, k2m2]
  instanceTypes := #[]
  staticTypes := #[.double, .double, .double, .double, .double, .long, .long, .double, .double, .boolean]
  resolved := Array.replicate 460 none
  statics := none }

def pool3 : Array CpInfo := pool [(1, .methodref 2 3), (0, .class_ 4), (0, .nameAndType 5 6), (0, u "java/lang/Object"), (0, u "<init>"), (0, u "()V"), (9, .fieldref 17 18), (0, .class_ 19), (0, .nameAndType 20 21), (0, u "com/example/eager_quorum/eagerquorum/model/CriticalSection"), (0, u "process"), (0, u "I"), (0, .fieldref 17 23), (0, .nameAndType 24 25), (0, u "requested"), (0, u "J"), (0, .fieldref 17 27), (0, .nameAndType 28 25), (0, u "entered"), (0, .fieldref 17 30), (0, .nameAndType 31 25), (0, u "exited"), (20, u "(IJJJ)V"), (5, u "equals"), (0, u "(Ljava/lang/Object;)Z")] 22

def k3c0 : Code := { maxStack := 8, maxLocals := 8, code := prog_24_method_1_code, exceptionTable := #[], attributes := #[] }
def k3m0 : Method := { name := "<init>", desc := "(IJJJ)V", sig := { parameters := [.int, .long, .long, .long], returnType := none }, accessFlags := 1, code := some k3c0 }
def k3c1 : Code := { maxStack := 4, maxLocals := 3, code := prog_24_method_6_code, exceptionTable := #[], attributes := #[] }
def k3m1 : Method := { name := "equals", desc := "(Ljava/lang/Object;)Z", sig := { parameters := [(.object "java/lang/Object")], returnType := some .boolean }, accessFlags := 1, code := some k3c1 }
/-- com/example/eager_quorum/eagerquorum/model/CriticalSection -/
def k3 : Class := { plain "com/example/eager_quorum/eagerquorum/model/CriticalSection" (some 0) with
  accessFlags := 49
  interfaces := #[]
  cf := some (fileOf pool3 17 #[] #[{ accessFlags := 1, nameIndex := 5, descriptorIndex := 52, attributes := #[] }, { accessFlags := 1, nameIndex := 58, descriptorIndex := 59, attributes := #[] }] 49 2 #[] #[{ accessFlags := 18, nameIndex := 20, descriptorIndex := 21, attributes := #[] }, { accessFlags := 18, nameIndex := 24, descriptorIndex := 25, attributes := #[] }, { accessFlags := 18, nameIndex := 28, descriptorIndex := 25, attributes := #[] }, { accessFlags := 18, nameIndex := 31, descriptorIndex := 25, attributes := #[] }])
  fields := #[{ name := "process", type := .int, accessFlags := 18, slot := 0, constantValue := 0 }, { name := "requested", type := .long, accessFlags := 18, slot := 1, constantValue := 0 }, { name := "entered", type := .long, accessFlags := 18, slot := 2, constantValue := 0 }, { name := "exited", type := .long, accessFlags := 18, slot := 3, constantValue := 0 }]
  methods := #[k3m0, k3m1]
  instanceTypes := #[.int, .long, .long, .long]
  staticTypes := #[]
  resolved := Array.replicate 82 none
  statics := none }

def pool4 : Array CpInfo := pool [(1, .class_ 2), (0, u "java/io/Serializable"), (0, .class_ 4), (0, u "java/lang/Object")] 2

/-- java/io/Serializable -/
def k4 : Class := { plain "java/io/Serializable" (some 0) with
  accessFlags := 1537
  interfaces := #[]
  cf := some (fileOf pool4 1 #[] #[] 1537 3 #[] #[])
  fields := #[]
  methods := #[]
  instanceTypes := #[]
  staticTypes := #[]
  resolved := Array.replicate 7 none
  statics := none }

def pool5 : Array CpInfo := pool [(1, .methodref 2 3), (0, .class_ 4), (0, .nameAndType 5 6), (0, u "java/lang/Object"), (0, u "<init>"), (0, u "()V"), (1, .class_ 10), (1, u "java/lang/Number"), (2, .class_ 14), (0, u "java/io/Serializable"), (0, u "serialVersionUID"), (0, u "J")] 20

def k5c0 : Code := { maxStack := 1, maxLocals := 1, code := jdk_18_method_1_code, exceptionTable := #[], attributes := #[] }
def k5m0 : Method := { name := "<init>", desc := "()V", sig := { parameters := [], returnType := none }, accessFlags := 1, code := some k5c0 }
/-- java/lang/Number -/
def k5 : Class := { plain "java/lang/Number" (some 0) with
  accessFlags := 1057
  interfaces := #[4]
  cf := some (fileOf pool5 8 #[] #[{ accessFlags := 1, nameIndex := 5, descriptorIndex := 6, attributes := #[] }] 1057 2 #[13] #[{ accessFlags := 26, nameIndex := 15, descriptorIndex := 16, attributes := #[] }])
  fields := #[{ name := "serialVersionUID", type := .long, accessFlags := 26, slot := 0, constantValue := 0 }]
  methods := #[k5m0]
  instanceTypes := #[]
  staticTypes := #[.long]
  resolved := Array.replicate 37 none
  statics := none }

def pool6 : Array CpInfo := pool [(1, .class_ 2), (0, u "java/lang/Comparable"), (0, .class_ 4), (0, u "java/lang/Object")] 7

/-- java/lang/Comparable -/
def k6 : Class := { plain "java/lang/Comparable" (some 0) with
  accessFlags := 1537
  interfaces := #[]
  cf := some (fileOf pool6 1 #[] #[] 1537 3 #[] #[])
  fields := #[]
  methods := #[]
  instanceTypes := #[]
  staticTypes := #[]
  resolved := Array.replicate 12 none
  statics := none }

def pool7 : Array CpInfo := pool [(1, .class_ 2), (0, u "java/lang/constant/Constable"), (0, .class_ 4), (0, u "java/lang/Object")] 6

/-- java/lang/constant/Constable -/
def k7 : Class := { plain "java/lang/constant/Constable" (some 0) with
  accessFlags := 1537
  interfaces := #[]
  cf := some (fileOf pool7 1 #[] #[] 1537 3 #[] #[])
  fields := #[]
  methods := #[]
  instanceTypes := #[]
  staticTypes := #[]
  resolved := Array.replicate 11 none
  statics := none }

def pool8 : Array CpInfo := pool [(1, .class_ 2), (0, u "java/lang/constant/ConstantDesc"), (0, .class_ 4), (0, u "java/lang/Object")] 32

/-- java/lang/constant/ConstantDesc -/
def k8 : Class := { plain "java/lang/constant/ConstantDesc" (some 0) with
  accessFlags := 1537
  interfaces := #[]
  cf := some (fileOf pool8 1 #[] #[] 1537 3 #[] #[])
  fields := #[]
  methods := #[]
  instanceTypes := #[]
  staticTypes := #[]
  resolved := Array.replicate 37 none
  statics := none }

def pool9 : Array CpInfo := pool [(1, .class_ 2), (0, u "java/lang/Long"), (55, .nameAndType 59 60), (0, u "<init>"), (0, u "()V"), (24, u "valueOf"), (143, u "(J)Ljava/lang/Long;"), (0, .long 18446744073709551488), (1, .long 127), (1, .fieldref 235 236), (0, .class_ 237), (0, .nameAndType 238 239), (0, u "java/lang/Long$LongCache"), (0, u "cache"), (0, u "[Ljava/lang/Long;"), (0, .methodref 1 241), (0, .nameAndType 59 242), (0, u "(J)V"), (27, .methodref 271 58), (0, .class_ 272), (0, u "java/lang/Number"), (0, .fieldref 1 274), (0, .nameAndType 275 276), (0, u "value"), (0, u "J"), (84, u "TYPE"), (0, u "Ljava/lang/Class;"), (0, .class_ 364), (0, u "java/lang/Comparable"), (0, .class_ 366), (0, u "java/lang/constant/Constable"), (0, .class_ 368), (0, u "java/lang/constant/ConstantDesc"), (0, u "MIN_VALUE"), (1, u "MAX_VALUE"), (4, u "SIZE"), (0, u "I"), (1, u "BYTES"), (1, u "serialVersionUID")] 142

def k9c0 : Code := { maxStack := 4, maxLocals := 3, code := jdk_35_method_24_code, exceptionTable := #[], attributes := #[] }
def k9m0 : Method := { name := "valueOf", desc := "(J)Ljava/lang/Long;", sig := { parameters := [.long], returnType := some (.object "java/lang/Long") }, accessFlags := 9, code := some k9c0 }
def k9c1 : Code := { maxStack := 3, maxLocals := 3, code := jdk_35_method_26_code, exceptionTable := #[], attributes := #[] }
def k9m1 : Method := { name := "<init>", desc := "(J)V", sig := { parameters := [.long], returnType := none }, accessFlags := 1, code := some k9c1 }
/-- java/lang/Long -/
def k9 : Class := { plain "java/lang/Long" (some 5) with
  accessFlags := 49
  interfaces := #[6, 7, 8]
  cf := some (fileOf pool9 1 #[.nestMembers #[235]] #[{ accessFlags := 9, nameIndex := 85, descriptorIndex := 229, attributes := #[] }, { accessFlags := 1, nameIndex := 59, descriptorIndex := 242, attributes := #[] }] 49 271 #[363, 365, 367] #[{ accessFlags := 25, nameIndex := 369, descriptorIndex := 276, attributes := #[] }, { accessFlags := 25, nameIndex := 371, descriptorIndex := 276, attributes := #[] }, { accessFlags := 25, nameIndex := 361, descriptorIndex := 362, attributes := #[] }, { accessFlags := 18, nameIndex := 275, descriptorIndex := 276, attributes := #[] }, { accessFlags := 25, nameIndex := 376, descriptorIndex := 377, attributes := #[] }, { accessFlags := 25, nameIndex := 379, descriptorIndex := 377, attributes := #[] }, { accessFlags := 26, nameIndex := 381, descriptorIndex := 276, attributes := #[] }])
  fields := #[{ name := "MIN_VALUE", type := .long, accessFlags := 25, slot := 0, constantValue := 0 }, { name := "MAX_VALUE", type := .long, accessFlags := 25, slot := 1, constantValue := 0 }, { name := "TYPE", type := (.object "java/lang/Class"), accessFlags := 25, slot := 2, constantValue := 0 }, { name := "value", type := .long, accessFlags := 18, slot := 0, constantValue := 0 }, { name := "SIZE", type := .int, accessFlags := 25, slot := 3, constantValue := 0 }, { name := "BYTES", type := .int, accessFlags := 25, slot := 4, constantValue := 0 }, { name := "serialVersionUID", type := .long, accessFlags := 26, slot := 5, constantValue := 0 }]
  methods := #[k9m0, k9m1]
  instanceTypes := #[.long]
  staticTypes := #[.long, .long, (.object "java/lang/Class"), .int, .int, .long]
  resolved := Array.replicate 524 none
  statics := none }

def pool10 : Array CpInfo := pool [(2, .class_ 4), (1, u "java/lang/Object"), (0, u "<init>"), (0, u "()V"), (0, .class_ 8), (0, u "java/lang/Long"), (7, .class_ 18), (1, u "java/lang/Long$LongCache"), (0, u "$assertionsDisabled"), (0, u "Z"), (8, u "archivedCache"), (0, u "[Ljava/lang/Long;"), (7, u "cache")] 24

def k10m0 : Method := { name := "<init>", desc := "()V", sig := { parameters := [], returnType := none }, accessFlags := 2, code := none }
/-- java/lang/Long$LongCache -/
def k10 : Class := { plain "java/lang/Long$LongCache" (some 0) with
  accessFlags := 48
  interfaces := #[]
  cf := some (fileOf pool10 16 #[.nestHost 7] #[{ accessFlags := 2, nameIndex := 5, descriptorIndex := 6, attributes := #[] }] 48 2 #[] #[{ accessFlags := 24, nameIndex := 38, descriptorIndex := 30, attributes := #[] }, { accessFlags := 8, nameIndex := 29, descriptorIndex := 30, attributes := #[] }, { accessFlags := 4120, nameIndex := 19, descriptorIndex := 20, attributes := #[] }])
  fields := #[{ name := "cache", type := (.array (.object "java/lang/Long")), accessFlags := 24, slot := 0, constantValue := 0 }, { name := "archivedCache", type := (.array (.object "java/lang/Long")), accessFlags := 8, slot := 1, constantValue := 0 }, { name := "$assertionsDisabled", type := .boolean, accessFlags := 4120, slot := 2, constantValue := 0 }]
  methods := #[k10m0]
  instanceTypes := #[]
  staticTypes := #[(.array (.object "java/lang/Long")), (.array (.object "java/lang/Long")), .boolean]
  resolved := Array.replicate 63 none
  statics := some 0 }

def pool11 : Array CpInfo := pool [(1, u "java/lang/Cloneable"), (0, .class_ 1), (0, u "java/lang/Object"), (0, .class_ 3)] 3

/-- java/lang/Cloneable -/
def k11 : Class := { plain "java/lang/Cloneable" (some 0) with
  accessFlags := 1537
  interfaces := #[]
  cf := some (fileOf pool11 2 #[] #[] 1537 4 #[] #[])
  fields := #[]
  methods := #[]
  instanceTypes := #[]
  staticTypes := #[]
  resolved := Array.replicate 8 none
  statics := none }

/-- the primitive byte -/
def k12 : Class := { plain "byte" none with kind := .primitive 'B', accessFlags := 0x411 }
/-- [B -/
def k13 : Class := { plain "[B" (some 0) with kind := .array 12 .byte, interfaces := #[11, 4], accessFlags := 1041 }

/-- the primitive int -/
def k14 : Class := { plain "int" none with kind := .primitive 'I', accessFlags := 0x411 }
/-- [I -/
def k15 : Class := { plain "[I" (some 0) with kind := .array 14 .int, interfaces := #[11, 4], accessFlags := 1041 }

/-- [Ljava/lang/Long; -/
def k16 : Class := { plain "[Ljava/lang/Long;" (some 0) with kind := .array 9 (.object "java/lang/Long"), interfaces := #[11, 4], accessFlags := 1041 }

def heap : Heap := #[{ cls := 10, slots := #[.ref 1, .null, .int 0], vm := .statics 10 },
  { cls := 16, slots := #[.ref 2, .ref 3, .ref 4, .ref 5, .ref 6, .ref 7, .ref 8, .ref 9, .ref 10, .ref 11, .ref 12, .ref 13, .ref 14, .ref 15, .ref 16, .ref 17, .ref 18, .ref 19, .ref 20, .ref 21, .ref 22, .ref 23, .ref 24, .ref 25, .ref 26, .ref 27, .ref 28, .ref 29, .ref 30, .ref 31, .ref 32, .ref 33, .ref 34, .ref 35, .ref 36, .ref 37, .ref 38, .ref 39, .ref 40, .ref 41, .ref 42, .ref 43, .ref 44, .ref 45, .ref 46, .ref 47, .ref 48, .ref 49, .ref 50, .ref 51, .ref 52, .ref 53, .ref 54, .ref 55, .ref 56, .ref 57, .ref 58, .ref 59, .ref 60, .ref 61, .ref 62, .ref 63, .ref 64, .ref 65, .ref 66, .ref 67, .ref 68, .ref 69, .ref 70, .ref 71, .ref 72, .ref 73, .ref 74, .ref 75, .ref 76, .ref 77, .ref 78, .ref 79, .ref 80, .ref 81, .ref 82, .ref 83, .ref 84, .ref 85, .ref 86, .ref 87, .ref 88, .ref 89, .ref 90, .ref 91, .ref 92, .ref 93, .ref 94, .ref 95, .ref 96, .ref 97, .ref 98, .ref 99, .ref 100, .ref 101, .ref 102, .ref 103, .ref 104, .ref 105, .ref 106, .ref 107, .ref 108, .ref 109, .ref 110, .ref 111, .ref 112, .ref 113, .ref 114, .ref 115, .ref 116, .ref 117, .ref 118, .ref 119, .ref 120, .ref 121, .ref 122, .ref 123, .ref 124, .ref 125, .ref 126, .ref 127, .ref 128, .ref 129, .ref 130, .ref 131, .ref 132, .ref 133, .ref 134, .ref 135, .ref 136, .ref 137, .ref 138, .ref 139, .ref 140, .ref 141, .ref 142, .ref 143, .ref 144, .ref 145, .ref 146, .ref 147, .ref 148, .ref 149, .ref 150, .ref 151, .ref 152, .ref 153, .ref 154, .ref 155, .ref 156, .ref 157, .ref 158, .ref 159, .ref 160, .ref 161, .ref 162, .ref 163, .ref 164, .ref 165, .ref 166, .ref 167, .ref 168, .ref 169, .ref 170, .ref 171, .ref 172, .ref 173, .ref 174, .ref 175, .ref 176, .ref 177, .ref 178, .ref 179, .ref 180, .ref 181, .ref 182, .ref 183, .ref 184, .ref 185, .ref 186, .ref 187, .ref 188, .ref 189, .ref 190, .ref 191, .ref 192, .ref 193, .ref 194, .ref 195, .ref 196, .ref 197, .ref 198, .ref 199, .ref 200, .ref 201, .ref 202, .ref 203, .ref 204, .ref 205, .ref 206, .ref 207, .ref 208, .ref 209, .ref 210, .ref 211, .ref 212, .ref 213, .ref 214, .ref 215, .ref 216, .ref 217, .ref 218, .ref 219, .ref 220, .ref 221, .ref 222, .ref 223, .ref 224, .ref 225, .ref 226, .ref 227, .ref 228, .ref 229, .ref 230, .ref 231, .ref 232, .ref 233, .ref 234, .ref 235, .ref 236, .ref 237, .ref 238, .ref 239, .ref 240, .ref 241, .ref 242, .ref 243, .ref 244, .ref 245, .ref 246, .ref 247, .ref 248, .ref 249, .ref 250, .ref 251, .ref 252, .ref 253, .ref 254, .ref 255, .ref 256, .ref 257], vm := .none },
  { cls := 9, slots := #[.long (-128)], vm := .none },
  { cls := 9, slots := #[.long (-127)], vm := .none },
  { cls := 9, slots := #[.long (-126)], vm := .none },
  { cls := 9, slots := #[.long (-125)], vm := .none },
  { cls := 9, slots := #[.long (-124)], vm := .none },
  { cls := 9, slots := #[.long (-123)], vm := .none },
  { cls := 9, slots := #[.long (-122)], vm := .none },
  { cls := 9, slots := #[.long (-121)], vm := .none },
  { cls := 9, slots := #[.long (-120)], vm := .none },
  { cls := 9, slots := #[.long (-119)], vm := .none },
  { cls := 9, slots := #[.long (-118)], vm := .none },
  { cls := 9, slots := #[.long (-117)], vm := .none },
  { cls := 9, slots := #[.long (-116)], vm := .none },
  { cls := 9, slots := #[.long (-115)], vm := .none },
  { cls := 9, slots := #[.long (-114)], vm := .none },
  { cls := 9, slots := #[.long (-113)], vm := .none },
  { cls := 9, slots := #[.long (-112)], vm := .none },
  { cls := 9, slots := #[.long (-111)], vm := .none },
  { cls := 9, slots := #[.long (-110)], vm := .none },
  { cls := 9, slots := #[.long (-109)], vm := .none },
  { cls := 9, slots := #[.long (-108)], vm := .none },
  { cls := 9, slots := #[.long (-107)], vm := .none },
  { cls := 9, slots := #[.long (-106)], vm := .none },
  { cls := 9, slots := #[.long (-105)], vm := .none },
  { cls := 9, slots := #[.long (-104)], vm := .none },
  { cls := 9, slots := #[.long (-103)], vm := .none },
  { cls := 9, slots := #[.long (-102)], vm := .none },
  { cls := 9, slots := #[.long (-101)], vm := .none },
  { cls := 9, slots := #[.long (-100)], vm := .none },
  { cls := 9, slots := #[.long (-99)], vm := .none },
  { cls := 9, slots := #[.long (-98)], vm := .none },
  { cls := 9, slots := #[.long (-97)], vm := .none },
  { cls := 9, slots := #[.long (-96)], vm := .none },
  { cls := 9, slots := #[.long (-95)], vm := .none },
  { cls := 9, slots := #[.long (-94)], vm := .none },
  { cls := 9, slots := #[.long (-93)], vm := .none },
  { cls := 9, slots := #[.long (-92)], vm := .none },
  { cls := 9, slots := #[.long (-91)], vm := .none },
  { cls := 9, slots := #[.long (-90)], vm := .none },
  { cls := 9, slots := #[.long (-89)], vm := .none },
  { cls := 9, slots := #[.long (-88)], vm := .none },
  { cls := 9, slots := #[.long (-87)], vm := .none },
  { cls := 9, slots := #[.long (-86)], vm := .none },
  { cls := 9, slots := #[.long (-85)], vm := .none },
  { cls := 9, slots := #[.long (-84)], vm := .none },
  { cls := 9, slots := #[.long (-83)], vm := .none },
  { cls := 9, slots := #[.long (-82)], vm := .none },
  { cls := 9, slots := #[.long (-81)], vm := .none },
  { cls := 9, slots := #[.long (-80)], vm := .none },
  { cls := 9, slots := #[.long (-79)], vm := .none },
  { cls := 9, slots := #[.long (-78)], vm := .none },
  { cls := 9, slots := #[.long (-77)], vm := .none },
  { cls := 9, slots := #[.long (-76)], vm := .none },
  { cls := 9, slots := #[.long (-75)], vm := .none },
  { cls := 9, slots := #[.long (-74)], vm := .none },
  { cls := 9, slots := #[.long (-73)], vm := .none },
  { cls := 9, slots := #[.long (-72)], vm := .none },
  { cls := 9, slots := #[.long (-71)], vm := .none },
  { cls := 9, slots := #[.long (-70)], vm := .none },
  { cls := 9, slots := #[.long (-69)], vm := .none },
  { cls := 9, slots := #[.long (-68)], vm := .none },
  { cls := 9, slots := #[.long (-67)], vm := .none },
  { cls := 9, slots := #[.long (-66)], vm := .none },
  { cls := 9, slots := #[.long (-65)], vm := .none },
  { cls := 9, slots := #[.long (-64)], vm := .none },
  { cls := 9, slots := #[.long (-63)], vm := .none },
  { cls := 9, slots := #[.long (-62)], vm := .none },
  { cls := 9, slots := #[.long (-61)], vm := .none },
  { cls := 9, slots := #[.long (-60)], vm := .none },
  { cls := 9, slots := #[.long (-59)], vm := .none },
  { cls := 9, slots := #[.long (-58)], vm := .none },
  { cls := 9, slots := #[.long (-57)], vm := .none },
  { cls := 9, slots := #[.long (-56)], vm := .none },
  { cls := 9, slots := #[.long (-55)], vm := .none },
  { cls := 9, slots := #[.long (-54)], vm := .none },
  { cls := 9, slots := #[.long (-53)], vm := .none },
  { cls := 9, slots := #[.long (-52)], vm := .none },
  { cls := 9, slots := #[.long (-51)], vm := .none },
  { cls := 9, slots := #[.long (-50)], vm := .none },
  { cls := 9, slots := #[.long (-49)], vm := .none },
  { cls := 9, slots := #[.long (-48)], vm := .none },
  { cls := 9, slots := #[.long (-47)], vm := .none },
  { cls := 9, slots := #[.long (-46)], vm := .none },
  { cls := 9, slots := #[.long (-45)], vm := .none },
  { cls := 9, slots := #[.long (-44)], vm := .none },
  { cls := 9, slots := #[.long (-43)], vm := .none },
  { cls := 9, slots := #[.long (-42)], vm := .none },
  { cls := 9, slots := #[.long (-41)], vm := .none },
  { cls := 9, slots := #[.long (-40)], vm := .none },
  { cls := 9, slots := #[.long (-39)], vm := .none },
  { cls := 9, slots := #[.long (-38)], vm := .none },
  { cls := 9, slots := #[.long (-37)], vm := .none },
  { cls := 9, slots := #[.long (-36)], vm := .none },
  { cls := 9, slots := #[.long (-35)], vm := .none },
  { cls := 9, slots := #[.long (-34)], vm := .none },
  { cls := 9, slots := #[.long (-33)], vm := .none },
  { cls := 9, slots := #[.long (-32)], vm := .none },
  { cls := 9, slots := #[.long (-31)], vm := .none },
  { cls := 9, slots := #[.long (-30)], vm := .none },
  { cls := 9, slots := #[.long (-29)], vm := .none },
  { cls := 9, slots := #[.long (-28)], vm := .none },
  { cls := 9, slots := #[.long (-27)], vm := .none },
  { cls := 9, slots := #[.long (-26)], vm := .none },
  { cls := 9, slots := #[.long (-25)], vm := .none },
  { cls := 9, slots := #[.long (-24)], vm := .none },
  { cls := 9, slots := #[.long (-23)], vm := .none },
  { cls := 9, slots := #[.long (-22)], vm := .none },
  { cls := 9, slots := #[.long (-21)], vm := .none },
  { cls := 9, slots := #[.long (-20)], vm := .none },
  { cls := 9, slots := #[.long (-19)], vm := .none },
  { cls := 9, slots := #[.long (-18)], vm := .none },
  { cls := 9, slots := #[.long (-17)], vm := .none },
  { cls := 9, slots := #[.long (-16)], vm := .none },
  { cls := 9, slots := #[.long (-15)], vm := .none },
  { cls := 9, slots := #[.long (-14)], vm := .none },
  { cls := 9, slots := #[.long (-13)], vm := .none },
  { cls := 9, slots := #[.long (-12)], vm := .none },
  { cls := 9, slots := #[.long (-11)], vm := .none },
  { cls := 9, slots := #[.long (-10)], vm := .none },
  { cls := 9, slots := #[.long (-9)], vm := .none },
  { cls := 9, slots := #[.long (-8)], vm := .none },
  { cls := 9, slots := #[.long (-7)], vm := .none },
  { cls := 9, slots := #[.long (-6)], vm := .none },
  { cls := 9, slots := #[.long (-5)], vm := .none },
  { cls := 9, slots := #[.long (-4)], vm := .none },
  { cls := 9, slots := #[.long (-3)], vm := .none },
  { cls := 9, slots := #[.long (-2)], vm := .none },
  { cls := 9, slots := #[.long (-1)], vm := .none },
  { cls := 9, slots := #[.long 0], vm := .none },
  { cls := 9, slots := #[.long 1], vm := .none },
  { cls := 9, slots := #[.long 2], vm := .none },
  { cls := 9, slots := #[.long 3], vm := .none },
  { cls := 9, slots := #[.long 4], vm := .none },
  { cls := 9, slots := #[.long 5], vm := .none },
  { cls := 9, slots := #[.long 6], vm := .none },
  { cls := 9, slots := #[.long 7], vm := .none },
  { cls := 9, slots := #[.long 8], vm := .none },
  { cls := 9, slots := #[.long 9], vm := .none },
  { cls := 9, slots := #[.long 10], vm := .none },
  { cls := 9, slots := #[.long 11], vm := .none },
  { cls := 9, slots := #[.long 12], vm := .none },
  { cls := 9, slots := #[.long 13], vm := .none },
  { cls := 9, slots := #[.long 14], vm := .none },
  { cls := 9, slots := #[.long 15], vm := .none },
  { cls := 9, slots := #[.long 16], vm := .none },
  { cls := 9, slots := #[.long 17], vm := .none },
  { cls := 9, slots := #[.long 18], vm := .none },
  { cls := 9, slots := #[.long 19], vm := .none },
  { cls := 9, slots := #[.long 20], vm := .none },
  { cls := 9, slots := #[.long 21], vm := .none },
  { cls := 9, slots := #[.long 22], vm := .none },
  { cls := 9, slots := #[.long 23], vm := .none },
  { cls := 9, slots := #[.long 24], vm := .none },
  { cls := 9, slots := #[.long 25], vm := .none },
  { cls := 9, slots := #[.long 26], vm := .none },
  { cls := 9, slots := #[.long 27], vm := .none },
  { cls := 9, slots := #[.long 28], vm := .none },
  { cls := 9, slots := #[.long 29], vm := .none },
  { cls := 9, slots := #[.long 30], vm := .none },
  { cls := 9, slots := #[.long 31], vm := .none },
  { cls := 9, slots := #[.long 32], vm := .none },
  { cls := 9, slots := #[.long 33], vm := .none },
  { cls := 9, slots := #[.long 34], vm := .none },
  { cls := 9, slots := #[.long 35], vm := .none },
  { cls := 9, slots := #[.long 36], vm := .none },
  { cls := 9, slots := #[.long 37], vm := .none },
  { cls := 9, slots := #[.long 38], vm := .none },
  { cls := 9, slots := #[.long 39], vm := .none },
  { cls := 9, slots := #[.long 40], vm := .none },
  { cls := 9, slots := #[.long 41], vm := .none },
  { cls := 9, slots := #[.long 42], vm := .none },
  { cls := 9, slots := #[.long 43], vm := .none },
  { cls := 9, slots := #[.long 44], vm := .none },
  { cls := 9, slots := #[.long 45], vm := .none },
  { cls := 9, slots := #[.long 46], vm := .none },
  { cls := 9, slots := #[.long 47], vm := .none },
  { cls := 9, slots := #[.long 48], vm := .none },
  { cls := 9, slots := #[.long 49], vm := .none },
  { cls := 9, slots := #[.long 50], vm := .none },
  { cls := 9, slots := #[.long 51], vm := .none },
  { cls := 9, slots := #[.long 52], vm := .none },
  { cls := 9, slots := #[.long 53], vm := .none },
  { cls := 9, slots := #[.long 54], vm := .none },
  { cls := 9, slots := #[.long 55], vm := .none },
  { cls := 9, slots := #[.long 56], vm := .none },
  { cls := 9, slots := #[.long 57], vm := .none },
  { cls := 9, slots := #[.long 58], vm := .none },
  { cls := 9, slots := #[.long 59], vm := .none },
  { cls := 9, slots := #[.long 60], vm := .none },
  { cls := 9, slots := #[.long 61], vm := .none },
  { cls := 9, slots := #[.long 62], vm := .none },
  { cls := 9, slots := #[.long 63], vm := .none },
  { cls := 9, slots := #[.long 64], vm := .none },
  { cls := 9, slots := #[.long 65], vm := .none },
  { cls := 9, slots := #[.long 66], vm := .none },
  { cls := 9, slots := #[.long 67], vm := .none },
  { cls := 9, slots := #[.long 68], vm := .none },
  { cls := 9, slots := #[.long 69], vm := .none },
  { cls := 9, slots := #[.long 70], vm := .none },
  { cls := 9, slots := #[.long 71], vm := .none },
  { cls := 9, slots := #[.long 72], vm := .none },
  { cls := 9, slots := #[.long 73], vm := .none },
  { cls := 9, slots := #[.long 74], vm := .none },
  { cls := 9, slots := #[.long 75], vm := .none },
  { cls := 9, slots := #[.long 76], vm := .none },
  { cls := 9, slots := #[.long 77], vm := .none },
  { cls := 9, slots := #[.long 78], vm := .none },
  { cls := 9, slots := #[.long 79], vm := .none },
  { cls := 9, slots := #[.long 80], vm := .none },
  { cls := 9, slots := #[.long 81], vm := .none },
  { cls := 9, slots := #[.long 82], vm := .none },
  { cls := 9, slots := #[.long 83], vm := .none },
  { cls := 9, slots := #[.long 84], vm := .none },
  { cls := 9, slots := #[.long 85], vm := .none },
  { cls := 9, slots := #[.long 86], vm := .none },
  { cls := 9, slots := #[.long 87], vm := .none },
  { cls := 9, slots := #[.long 88], vm := .none },
  { cls := 9, slots := #[.long 89], vm := .none },
  { cls := 9, slots := #[.long 90], vm := .none },
  { cls := 9, slots := #[.long 91], vm := .none },
  { cls := 9, slots := #[.long 92], vm := .none },
  { cls := 9, slots := #[.long 93], vm := .none },
  { cls := 9, slots := #[.long 94], vm := .none },
  { cls := 9, slots := #[.long 95], vm := .none },
  { cls := 9, slots := #[.long 96], vm := .none },
  { cls := 9, slots := #[.long 97], vm := .none },
  { cls := 9, slots := #[.long 98], vm := .none },
  { cls := 9, slots := #[.long 99], vm := .none },
  { cls := 9, slots := #[.long 100], vm := .none },
  { cls := 9, slots := #[.long 101], vm := .none },
  { cls := 9, slots := #[.long 102], vm := .none },
  { cls := 9, slots := #[.long 103], vm := .none },
  { cls := 9, slots := #[.long 104], vm := .none },
  { cls := 9, slots := #[.long 105], vm := .none },
  { cls := 9, slots := #[.long 106], vm := .none },
  { cls := 9, slots := #[.long 107], vm := .none },
  { cls := 9, slots := #[.long 108], vm := .none },
  { cls := 9, slots := #[.long 109], vm := .none },
  { cls := 9, slots := #[.long 110], vm := .none },
  { cls := 9, slots := #[.long 111], vm := .none },
  { cls := 9, slots := #[.long 112], vm := .none },
  { cls := 9, slots := #[.long 113], vm := .none },
  { cls := 9, slots := #[.long 114], vm := .none },
  { cls := 9, slots := #[.long 115], vm := .none },
  { cls := 9, slots := #[.long 116], vm := .none },
  { cls := 9, slots := #[.long 117], vm := .none },
  { cls := 9, slots := #[.long 118], vm := .none },
  { cls := 9, slots := #[.long 119], vm := .none },
  { cls := 9, slots := #[.long 120], vm := .none },
  { cls := 9, slots := #[.long 121], vm := .none },
  { cls := 9, slots := #[.long 122], vm := .none },
  { cls := 9, slots := #[.long 123], vm := .none },
  { cls := 9, slots := #[.long 124], vm := .none },
  { cls := 9, slots := #[.long 125], vm := .none },
  { cls := 9, slots := #[.long 126], vm := .none },
  { cls := 9, slots := #[.long 127], vm := .none }]
def classes : Array Class := #[k0, k1, k2, k3, k4, k5, k6, k7, k8, k9, k10, k11, k12, k13, k14, k15, k16]
def interned : List (Array UInt16 × Addr) := []
def slotsUsed : Nat := 515
def theMethod : MethodId := ⟨1, 1⟩
def args0 : Array Value := #[.int 1, .long 1, .long 2, .long 3, .int 0, .long 9]
def aboutOver (below : List Frame) : State where
  vm := { classes := classes, interned := interned.toArray }
  heap := heap
  slotsUsed := slotsUsed
  threads := #[{ frames := .invoking theMethod args0 :: below }]
def below0 : List Frame := [.native { method := ⟨0, 0⟩, args := #[] }]
def about1 : State := aboutOver below0
def p0 : Program := .bare "" "" ""
def e0 : Env := launch0.env 0 0 0
theorem w_frames : about1.frames = Frame.invoking theMethod args0 :: below0 := rfl
set_option maxRecDepth 65536 in
theorem w_args : argsFit about1.vm theMethod args0 = true := by decide +kernel
set_option maxRecDepth 65536 in
theorem w_heap : heapFits about1 = true := by decide +kernel
set_option maxRecDepth 65536 in
theorem w_runnable : about1.curStatus? = some .runnable := by decide +kernel
set_option maxRecDepth 65536 in
theorem w_alone : about1.alone = true := by decide +kernel
set_option maxRecDepth 65536 in
theorem w_named : about1.methodNamed? x = some theMethod := by decide +kernel
set_option maxRecDepth 65536 in
theorem w_hears : about1.hears theMethod below0 = true := by decide +kernel
set_option maxRecDepth 65536 in
theorem w_ripe : about1.ripe theMethod args0 below0 = true := by decide +kernel
theorem w_running : about1.status = .running := rfl
set_option maxRecDepth 65536 in
theorem w_room : about1.hasRoom e0.platform room_1 = true :=
  launch0.hasRoom_least _ room_1 (by decide +kernel) (by decide +kernel) (by decide +kernel) (by decide +kernel) (by decide +kernel) (by decide +kernel)
theorem allAtoms_all (ts : List Jvm.Cond) (a : Array Jvm.Value) (st : Jvm.State) : (allAtoms ts).before a st = ts.all (fun c => c.before a st) := by
  induction ts with
  | nil => rfl
  | cons c t ih =>
    show (Jvm.Cond.and c (allAtoms t)).before a st = _
    rw [Jvm.Cond.before_and, ih, List.all_cons]
def words1 : List Jvm.Cond := Jvm.Cond.code x code maxLocals ret :: tables_1
/-- a 'code' word, met by the world's own term for the bytes: nothing is compared byte by byte -/
theorem code_word {y : MethodName} {bytes : ByteArray} {mx : Nat} {rt : Option FieldType} {a : Array Value} {s : State} {m : MethodId} {meth : Method} {c : Code} (h1 : s.methodNamed? y = some m) (h2 : s.vm.method? m = some meth) (h3 : meth.code = some c) (h4 : c.code = bytes)
    (h5 : (c.maxLocals == mx && c.exceptionTable.isEmpty && decide (c.maxStack ≤ mostOperands) && decide (meth.sig.returnType = rt) && !meth.locks && decide (parseMethodDescriptor y.desc = some meth.sig)) = true) : (Jvm.Cond.code y bytes mx rt).before a s = true := by
  simp only [Bool.and_eq_true, beq_iff_eq, Bool.not_eq_true', decide_eq_true_eq] at h5
  obtain ⟨⟨⟨⟨⟨g1, g2⟩, g3⟩, g4⟩, g5⟩, g6⟩ := h5
  simp [Cond.before, Cond.holds, Cond.value, h1, h2, h3, h4, g1, g2, g3, g4, g5, g6]
def isCode : Jvm.Cond → Bool
  | .code _ _ _ _ => true
  | _ => false
theorem all_split {L : List Jvm.Cond} {P : Jvm.Cond → Bool} (h1 : L.all (fun c => isCode c || P c) = true) (h2 : ∀ c ∈ L.filter isCode, P c = true) : L.all P = true := by
  refine List.all_eq_true.mpr fun c hc => ?_
  have h := List.all_eq_true.mp h1 c hc
  rcases Bool.eq_false_or_eq_true (isCode c) with hi | hi
  · exact h2 c (List.mem_filter.mpr ⟨hc, hi⟩)
  · simpa [hi] using h
set_option maxRecDepth 65536 in
theorem w_c0 : (Jvm.Cond.code x code maxLocals ret).before args0 about1 = true := code_word (m := ⟨1, 1⟩) (meth := k1m1) (c := k1c1) (by decide +kernel) rfl rfl rfl (by decide +kernel)
set_option maxRecDepth 65536 in
theorem w_c1 : (Jvm.Cond.code ({ cls := "java/lang/Math", name := "min", desc := "(JJ)J" } : Jvm.MethodName) jdk_29_method_70_code (4 : Nat) (Option.some Jvm.ClassFile.FieldType.long)).before args0 about1 = true := code_word (m := ⟨2, 2⟩) (meth := k2m2) (c := k2c2) (by decide +kernel) rfl rfl rfl (by decide +kernel)
set_option maxRecDepth 65536 in
theorem w_c2 : (Jvm.Cond.code ({ cls := "java/lang/Math", name := "max", desc := "(JJ)J" } : Jvm.MethodName) jdk_29_method_66_code (4 : Nat) (Option.some Jvm.ClassFile.FieldType.long)).before args0 about1 = true := code_word (m := ⟨2, 1⟩) (meth := k2m1) (c := k2c1) (by decide +kernel) rfl rfl rfl (by decide +kernel)
set_option maxRecDepth 65536 in
theorem w_c3 : (Jvm.Cond.code ({ cls := "com/example/eager_quorum/eagerquorum/model/CriticalSection", name := "<init>", desc := "(IJJJ)V" } : Jvm.MethodName) prog_24_method_1_code (8 : Nat) (Option.none : Option Jvm.ClassFile.FieldType)).before args0 about1 = true := code_word (m := ⟨3, 0⟩) (meth := k3m0) (c := k3c0) (by decide +kernel) rfl rfl rfl (by decide +kernel)
set_option maxRecDepth 65536 in
theorem w_c4 : (Jvm.Cond.code ({ cls := "java/lang/Object", name := "<init>", desc := "()V" } : Jvm.MethodName) object_method_1_code (1 : Nat) (Option.none : Option Jvm.ClassFile.FieldType)).before args0 about1 = true := code_word (m := ⟨0, 0⟩) (meth := k0m0) (c := k0c0) (by decide +kernel) rfl rfl rfl (by decide +kernel)
set_option maxRecDepth 65536 in
theorem w_c5 : (Jvm.Cond.code ({ cls := "java/lang/Long", name := "valueOf", desc := "(J)Ljava/lang/Long;" } : Jvm.MethodName) jdk_35_method_24_code (3 : Nat) (Option.some (Jvm.ClassFile.FieldType.object "java/lang/Long"))).before args0 about1 = true := code_word (m := ⟨9, 0⟩) (meth := k9m0) (c := k9c0) (by decide +kernel) rfl rfl rfl (by decide +kernel)
set_option maxRecDepth 65536 in
theorem w_c6 : (Jvm.Cond.code ({ cls := "java/lang/Long", name := "<init>", desc := "(J)V" } : Jvm.MethodName) jdk_35_method_26_code (3 : Nat) (Option.none : Option Jvm.ClassFile.FieldType)).before args0 about1 = true := code_word (m := ⟨9, 1⟩) (meth := k9m1) (c := k9c1) (by decide +kernel) rfl rfl rfl (by decide +kernel)
set_option maxRecDepth 65536 in
theorem w_c7 : (Jvm.Cond.code ({ cls := "java/lang/Number", name := "<init>", desc := "()V" } : Jvm.MethodName) jdk_18_method_1_code (1 : Nat) (Option.none : Option Jvm.ClassFile.FieldType)).before args0 about1 = true := code_word (m := ⟨5, 0⟩) (meth := k5m0) (c := k5c0) (by decide +kernel) rfl rfl rfl (by decide +kernel)
set_option maxRecDepth 65536 in
theorem w_c8 : (Jvm.Cond.code ({ cls := "com/example/eager_quorum/eagerquorum/model/CriticalSection", name := "equals", desc := "(Ljava/lang/Object;)Z" } : Jvm.MethodName) prog_24_method_6_code (3 : Nat) (Option.some Jvm.ClassFile.FieldType.boolean)).before args0 about1 = true := code_word (m := ⟨3, 1⟩) (meth := k3m1) (c := k3c1) (by decide +kernel) rfl rfl rfl (by decide +kernel)
def codes1 : List Jvm.Cond := [Jvm.Cond.code x code maxLocals ret, Jvm.Cond.code ({ cls := "java/lang/Math", name := "min", desc := "(JJ)J" } : Jvm.MethodName) jdk_29_method_70_code (4 : Nat) (Option.some Jvm.ClassFile.FieldType.long), Jvm.Cond.code ({ cls := "java/lang/Math", name := "max", desc := "(JJ)J" } : Jvm.MethodName) jdk_29_method_66_code (4 : Nat) (Option.some Jvm.ClassFile.FieldType.long), Jvm.Cond.code ({ cls := "com/example/eager_quorum/eagerquorum/model/CriticalSection", name := "<init>", desc := "(IJJJ)V" } : Jvm.MethodName) prog_24_method_1_code (8 : Nat) (Option.none : Option Jvm.ClassFile.FieldType), Jvm.Cond.code ({ cls := "java/lang/Object", name := "<init>", desc := "()V" } : Jvm.MethodName) object_method_1_code (1 : Nat) (Option.none : Option Jvm.ClassFile.FieldType), Jvm.Cond.code ({ cls := "java/lang/Long", name := "valueOf", desc := "(J)Ljava/lang/Long;" } : Jvm.MethodName) jdk_35_method_24_code (3 : Nat) (Option.some (Jvm.ClassFile.FieldType.object "java/lang/Long")), Jvm.Cond.code ({ cls := "java/lang/Long", name := "<init>", desc := "(J)V" } : Jvm.MethodName) jdk_35_method_26_code (3 : Nat) (Option.none : Option Jvm.ClassFile.FieldType), Jvm.Cond.code ({ cls := "java/lang/Number", name := "<init>", desc := "()V" } : Jvm.MethodName) jdk_18_method_1_code (1 : Nat) (Option.none : Option Jvm.ClassFile.FieldType), Jvm.Cond.code ({ cls := "com/example/eager_quorum/eagerquorum/model/CriticalSection", name := "equals", desc := "(Ljava/lang/Object;)Z" } : Jvm.MethodName) prog_24_method_6_code (3 : Nat) (Option.some Jvm.ClassFile.FieldType.boolean)]
set_option maxRecDepth 65536 in
theorem codes_eq : words1.filter isCode = codes1 := rfl
theorem w_codes : ∀ c ∈ words1.filter isCode, c.before args0 about1 = true := by
  rw [codes_eq]
  intro c hc
  simp only [codes1, List.mem_cons, List.not_mem_nil, or_false] at hc
  rcases hc with rfl | rfl | rfl | rfl | rfl | rfl | rfl | rfl | rfl
  · exact w_c0
  · exact w_c1
  · exact w_c2
  · exact w_c3
  · exact w_c4
  · exact w_c5
  · exact w_c6
  · exact w_c7
  · exact w_c8
set_option maxRecDepth 65536 in
theorem w_t1 : (words1.take 24).all (fun c => isCode c || c.before args0 about1) = true := by decide +kernel
set_option maxRecDepth 65536 in
theorem w_t2 : ((words1.drop 24).take 24).all (fun c => isCode c || c.before args0 about1) = true := by decide +kernel
set_option maxRecDepth 65536 in
theorem w_t3 : ((words1.drop 24).drop 24).all (fun c => isCode c || c.before args0 about1) = true := by decide +kernel
theorem w_tables : (allAtoms (Jvm.Cond.code x code maxLocals ret :: tables_1)).before args0 about1 = true := by
  rw [allAtoms_all]
  show words1.all (fun c => c.before args0 about1) = true
  refine all_split ?_ w_codes
  rw [← List.take_append_drop 24 words1, List.all_append, w_t1, ← List.take_append_drop 24 (words1.drop 24), List.all_append, w_t2, w_t3]
  rfl
set_option maxRecDepth 65536 in
theorem w_rest : rest_1_c.before args0 about1 = true := by decide +kernel
set_option maxRecDepth 65536 in
theorem w_case : (Jvm.Cond.and given_1 narrow_1).before args0 about1 = true := by decide +kernel
theorem w_applies : (headSpec (Jvm.Cond.code x code maxLocals ret :: tables_1) room_1).applies x e0.platform about1 = true :=
  (Spec.applies_iff w_frames).mpr ⟨w_running, w_runnable, w_alone, w_named, w_hears, w_ripe, w_room, w_tables⟩
theorem atStart : AtStart classFile x code maxLocals ret World_1 tables_1 room_1 Calls_1 rest_1 Pre_1 launch0 p0 e0 about1 theMethod args0 below0 :=
  ⟨lists_1, trivial, launch0.admits_env _ _ _, launch0.least_env, fairChoices_fair.cas, fairChoices_fair.clock, w_frames, w_args, w_heap, w_applies, trivial, w_rest, w_case⟩
end start1
theorem witness_1 : WitnessClaimed_1 := ⟨start1.p0, start1.e0, start1.about1, start1.theMethod, start1.args0, start1.below0, start1.atStart⟩
end Jvm.Pilot.@@N@@
