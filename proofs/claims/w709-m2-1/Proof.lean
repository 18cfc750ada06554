import JvmDerived
import JvmDerived.Pilot.@@N@@Statement
import JvmDerived.Pilot.@@N@@Code
set_option linter.unusedVariables false
set_option linter.unusedSimpArgs false
namespace Jvm.RoadKit
open Sem ClassFile Op Lib Jvm.Stand Jvm.Free Jvm.LawKit
section New
variable {p : Program} {l : Launch} {e : Env} {R : Room} {s : State} {m : MethodId} {args : Array Value} {below : List Frame} {meth : Method} {c : Code} {T : State} {locs : List Loc} {cells slots : Nat}
theorem retI (X : Stand p l e R s m args below meth c T locs cells slots) (hx : p.tables.exec = Jvm.exec) {pc : Nat} {Ls : Array Slot} {z : Int32} {rest : List Value} (hret : meth.sig.returnType = some .int) (hd : decode c.code pc = .ok (.ireturn, 1)) {fs : List Frame}
    (hl : ∀ (f : JFrame) (acts : List Action), f.method = m → f.locked = none → f.entered = [] → (doReturn e (T.setTop f) acts (some (.int z))).1 = T.setFrames fs) : Steps p.tables e below (T.setTop (mkF m pc Ls (.int z :: rest))) (T.setFrames fs) := by
  have hm' : T.vm.method? m = some meth := X.method'
  have hn : narrow .int (.int z) = .int z := rfl
  show Steps p.tables e below (T.setTop { method := m, pc := pc, locals := Ls, stack := _ :: rest, locked := none }) _
  jvm_step X.here [X.here.top, hx, hd, hm', hret, hn]
  first | (intro acts; rw [hl _ acts rfl rfl rfl]) | rw [hl _ _ rfl rfl rfl]
  exact Steps.refl _
end New
end Jvm.RoadKit
@@BLOCK:NumsL.lean.txt@@
namespace Jvm.Pilot.@@N@@
open Jvm Jvm.ClassFile Sem Op Lib Jvm.Free Jvm.Stand Jvm.LawKit Jvm.RoadKit Bundle Jvm.Pilot.@@N@@.Jvm.D
/-- a run from here that ends well -/
def own_G (p : Program) (e : Env) (below : List Frame) (P : Outcome → State → Prop) (S : State) : Prop := ∃ s₂ o, Steps p.tables e below S s₂ ∧ s₂.status = .running ∧ Ended s₂ below o ∧ P o s₂
theorem own_go {p : Program} {e : Env} {below : List Frame} {P : Outcome → State → Prop} {S : State} (S' : State) (k : ∀ t, Steps p.tables e below S' t → Steps p.tables e below S t) (h : own_G p e below P S') : own_G p e below P S := by
  obtain ⟨s₂, o, h1, h2⟩ := h
  exact ⟨s₂, o, k _ h1, h2⟩
theorem own_one {x : Slot} (h : One x) : (match x with | .second => False | .val old => old.category = 1 | .unset => True) := by
  rcases h with rfl | ⟨w, rfl, hw⟩
  · trivial
  · exact hw
theorem own_selp {s : State} {args : Array Value} {D : String} {y z : MethodName} (h : (Cond.selects D z z).before args s = true) (hc : z.cls = y.cls) (hpriv : s.PrivateAt y) (hinst : (Cond.instanceMethod y).before args s = true) (hy : y.cls ≠ "java/lang/invoke/MethodHandle" ∧ y.cls ≠ "java/lang/invoke/VarHandle") : (Cond.selects y.cls y y).before args s = true := by
  obtain ⟨c, r, m, q1, q2, q3, q4, mk, hk, hi⟩ := Cond.selects_spec h
  exact selects_self_of_private (hc ▸ findClass_of_methodNamed q3) hk hi hpriv hinst hy
theorem own_sameM {s : State} {args : Array Value} {D : String} {y z : MethodName} (hinst : (Cond.instanceMethod y).before args s = true) (hsel : (Cond.selects D z z).before args s = true) (hc : z.cls = y.cls) (hy : y.cls ≠ "java/lang/invoke/MethodHandle" ∧ y.cls ≠ "java/lang/invoke/VarHandle") : (Cond.sameMethod y.cls y.cls y.name y.desc).before args s = true := by
  obtain ⟨mk, methM, hnamed, hmethM, -, -⟩ := Cond.instanceMethod_spec hinst
  obtain ⟨c, r, m, q1, q2, q3, q4, k, hk, hi⟩ := Cond.selects_spec hsel
  have hfound := State.methodFound?_of_named hnamed hy
  have hcn := findClass_of_methodNamed hnamed
  have e : m.cls = mk.cls := Option.some.inj ((findClass_of_methodNamed q3).symm.trans (hc ▸ hcn))
  rw [e] at hk
  obtain ⟨yc, yn, yd⟩ := y
  simp_all [Cond.before, Cond.holds, Cond.value]
theorem own_nf {s : State} {args : Array Value} {D : String} {y z : MethodName} (hsel : (Cond.selects D z z).before args s = true) (hc : z.cls = y.cls) : NotFace s y := fun r0 h0 => by
  obtain ⟨c, r, m, q1, q2, q3, q4, k, hk, hi⟩ := Cond.selects_spec hsel
  have e : m.cls = r0.cls := Option.some.inj ((findClass_of_methodNamed q3).symm.trans (hc ▸ findClass_of_methodNamed h0))
  exact ⟨k, e ▸ hk, hi⟩
theorem own_lt {x y : Int64} : lcmpW x y < 0 ↔ x < y := by rw [lcW]; exact lc_lt x y
theorem own_gt {x y : Int64} : (0 : Int32) < lcmpW x y ↔ y < x := by rw [lcW]; exact lc_gt x y
theorem own_eq {x y : Int64} : lcmpW x y = 0 ↔ x = y := by rw [lcW]; exact lc_eq x y
theorem own_extK {Z : State} {h h' : Heap} {ws : List Addr} (O : Ext Z.heap h) (K : Keep h h' ws) (q : ∀ x ∈ ws, Z.heap.size ≤ x) : Ext Z.heap h' :=
  (Old.keep (n0 := Z.heap.size) ⟨rfl, O⟩ K q).2
theorem own_ext {h h1 h2 : Heap} (E : Ext h h1) (F : Ext h1 h2) : Ext h h2 := ⟨Nat.le_trans E.1 F.1, fun a c q => F.2 a c (E.2 a c q)⟩
theorem own_extW {Z : State} {h h' : Heap} {a : Addr} {sl : Nat} {v : Value} (O : Ext Z.heap h) (W : Wr h h' a sl v) (q : Z.heap.size ≤ a) : Ext Z.heap h' := own_extK O (Keep.of_wr W) (allS q all0)
theorem own_fldI {s : State} {args : Array Value} {t : Term} {C n d : String} {k : Int32} {a : Addr} (h : (Cond.eq (Term.field t C n d) (Term.int k)).value args s none s [] = some true) (ev : t.eval args s none [] s = some (.ref a)) : Fld s s.heap a C n d (.int k) := by
  obtain ⟨x, y, h1, h2, h3, -⟩ := cmp_v (Or.inl h)
  have h4 : s.fieldOf? a C n d = some x := (fld_at ev).symm.trans h1
  have h5 : y = .int k := (Option.some.inj (h2.symm.trans (Term.int_eval k)))
  subst h5
  cases x with
  | int z =>
    simp only [Cond.value, h1, h2] at h
    have e : z = k := by simpa using h
    subst e
    exact Fld.start h4
  | _ => simp [Kin, Value.isRef] at h3
theorem own_fldV {s : State} {args : Array Value} {t u : Term} {C n d : String} {b : Addr} {a : Addr} (h : (Cond.eq (Term.field t C n d) u).value args s none s [] = some true) (ev : t.eval args s none [] s = some (.ref a)) (eu : u.eval args s none [] s = some (.ref b)) : Fld s s.heap a C n d (.ref b) := by
  obtain ⟨x, y, h1, h2, h3, -⟩ := cmp_v (Or.inl h)
  have h4 : s.fieldOf? a C n d = some x := (fld_at ev).symm.trans h1
  have h5 : y = .ref b := (Option.some.inj (h2.symm.trans eu))
  subst h5
  cases x with
  | ref z =>
    simp only [Cond.value, h1, h2] at h
    have e : z = b := by simpa using h
    subst e
    exact Fld.start h4
  | null => simp [Cond.value, h1, h2] at h
  | _ => simp [Kin, Value.isRef] at h3
theorem own_elemI {s : State} {args : Array Value} {t : Term} {j k : Int32} {a : Addr} {cl : Cell} (h : (Cond.eq (Term.elem t (Term.int j)) (Term.int k)).value args s none s [] = some true) (ev : t.eval args s none [] s = some (.ref a)) (hc : s.heap[a]? = some cl) : ¬ (j < 0 ∨ cl.slots.size ≤ j.toNatClampNeg) ∧ cl.slots[j.toNatClampNeg]? = some (.int k) := by
  obtain ⟨x, y, h1, h2, h3, -⟩ := cmp_v (Or.inl h)
  have h4 := elem_in h1 ev (Term.int_eval j) hc
  have h5 : y = .int k := (Option.some.inj (h2.symm.trans (Term.int_eval k)))
  subst h5
  cases x with
  | int z =>
    simp only [Cond.value, h1, h2] at h
    have e : z = k := by simpa using h
    subst e
    exact h4
  | _ => simp [Kin, Value.isRef] at h3
theorem own_elemV {s : State} {args : Array Value} {t u : Term} {j : Int32} {a b : Addr} {cl : Cell} (h : (Cond.eq (Term.elem t (Term.int j)) u).value args s none s [] = some true) (ev : t.eval args s none [] s = some (.ref a)) (eu : u.eval args s none [] s = some (.ref b)) (hc : s.heap[a]? = some cl) : ¬ (j < 0 ∨ cl.slots.size ≤ j.toNatClampNeg) ∧ cl.slots[j.toNatClampNeg]? = some (.ref b) := by
  obtain ⟨x, y, h1, h2, h3, -⟩ := cmp_v (Or.inl h)
  have h4 := elem_in h1 ev (Term.int_eval j) hc
  have h5 : y = .ref b := (Option.some.inj (h2.symm.trans eu))
  subst h5
  cases x with
  | ref z =>
    simp only [Cond.value, h1, h2] at h
    have e : z = b := by simpa using h
    subst e
    exact h4
  | null => simp [Cond.value, h1, h2] at h
  | _ => simp [Kin, Value.isRef] at h3
theorem own_fldN {s : State} {args : Array Value} {t : Term} {C n d : String} {a : Addr} (h : (Cond.eq (Term.field t C n d) Term.null).value args s none s [] = some true) (ev : t.eval args s none [] s = some (.ref a)) : Fld s s.heap a C n d .null :=
  Fld.start ((fld_at ev).symm.trans (null_v h))
def own_W (Z : State) (a__VALUES : Addr) (a_OUT : Addr) (a_INP : Addr) (a_TAKE_COMPLETE : Addr) (a_OUT_text : Addr) (a_INP_text : Addr) (a_TAKE_COMPLETE_text : Addr) (a_OUT_text_value : Addr) (a_INP_text_value : Addr) (a_TAKE_COMPLETE_text_value : Addr) (k__VALUES : ClassId) (k_OUT_text_value : ClassId) (k_INP_text_value : ClassId) (k_TAKE_COMPLETE_text_value : ClassId) (cs0 : Int32) : Prop := (Sta Z Z.heap "com/example/tuplebag/tuplebag/bench/Workload" "$VALUES" "[Lcom/example/tuplebag/tuplebag/bench/Workload;" (.ref a__VALUES)) ∧ (Exa Z Z.heap a__VALUES "[Lcom/example/tuplebag/tuplebag/bench/Workload;") ∧ (Sta Z Z.heap "com/example/tuplebag/tuplebag/bench/Workload" "OUT" "Lcom/example/tuplebag/tuplebag/bench/Workload;" (.ref a_OUT)) ∧ (Exa Z Z.heap a_OUT "com/example/tuplebag/tuplebag/bench/Workload") ∧ (Sta Z Z.heap "com/example/tuplebag/tuplebag/bench/Workload" "INP" "Lcom/example/tuplebag/tuplebag/bench/Workload;" (.ref a_INP)) ∧ (Exa Z Z.heap a_INP "com/example/tuplebag/tuplebag/bench/Workload") ∧ (Sta Z Z.heap "com/example/tuplebag/tuplebag/bench/Workload" "TAKE_COMPLETE" "Lcom/example/tuplebag/tuplebag/bench/Workload;" (.ref a_TAKE_COMPLETE)) ∧ (Exa Z Z.heap a_TAKE_COMPLETE "com/example/tuplebag/tuplebag/bench/Workload") ∧ (Fld Z Z.heap a_OUT "com/example/tuplebag/tuplebag/bench/Workload" "text" "Ljava/lang/String;" (.ref a_OUT_text)) ∧ (Exa Z Z.heap a_OUT_text "java/lang/String") ∧ (Fld Z Z.heap a_INP "com/example/tuplebag/tuplebag/bench/Workload" "text" "Ljava/lang/String;" (.ref a_INP_text)) ∧ (Exa Z Z.heap a_INP_text "java/lang/String") ∧ (Fld Z Z.heap a_TAKE_COMPLETE "com/example/tuplebag/tuplebag/bench/Workload" "text" "Ljava/lang/String;" (.ref a_TAKE_COMPLETE_text)) ∧ (Exa Z Z.heap a_TAKE_COMPLETE_text "java/lang/String") ∧ (Fld Z Z.heap a_OUT_text "java/lang/String" "value" "[B" (.ref a_OUT_text_value)) ∧ (Exa Z Z.heap a_OUT_text_value "[B") ∧ (Fld Z Z.heap a_INP_text "java/lang/String" "value" "[B" (.ref a_INP_text_value)) ∧ (Exa Z Z.heap a_INP_text_value "[B") ∧ (Fld Z Z.heap a_TAKE_COMPLETE_text "java/lang/String" "value" "[B" (.ref a_TAKE_COMPLETE_text_value)) ∧ (Exa Z Z.heap a_TAKE_COMPLETE_text_value "[B") ∧ (Fld Z Z.heap a_OUT_text "java/lang/String" "coder" "B" (.int (0 : Int32))) ∧ (Fld Z Z.heap a_INP_text "java/lang/String" "coder" "B" (.int (0 : Int32))) ∧ (Fld Z Z.heap a_TAKE_COMPLETE_text "java/lang/String" "coder" "B" (.int (0 : Int32))) ∧ (Arv Z Z.heap a__VALUES k__VALUES (.object "com/example/tuplebag/tuplebag/bench/Workload") 3 [(.ref a_OUT), (.ref a_INP), (.ref a_TAKE_COMPLETE)] .null) ∧ (Arv Z Z.heap a_OUT_text_value k_OUT_text_value .byte 3 [(.int (111 : Int32)), (.int (117 : Int32)), (.int (116 : Int32))] (.int (0 : Int32))) ∧ (Arv Z Z.heap a_INP_text_value k_INP_text_value .byte 3 [(.int (105 : Int32)), (.int (110 : Int32)), (.int (112 : Int32))] (.int (0 : Int32))) ∧ (Arv Z Z.heap a_TAKE_COMPLETE_text_value k_TAKE_COMPLETE_text_value .byte 13 [(.int (116 : Int32)), (.int (97 : Int32)), (.int (107 : Int32)), (.int (101 : Int32)), (.int (45 : Int32)), (.int (99 : Int32)), (.int (111 : Int32)), (.int (109 : Int32)), (.int (112 : Int32)), (.int (108 : Int32)), (.int (101 : Int32)), (.int (116 : Int32)), (.int (101 : Int32))] (.int (0 : Int32))) ∧ (Sta Z Z.heap "java/lang/String" "COMPACT_STRINGS" "Z" (.int cs0)) ∧ (¬ cs0 = (0 : Int32))
theorem own_case {i : Int32} {k : Int} (c : Int32) (h : i.toInt = k) (hc : c.toInt = k) : i = c := Int32.toInt_inj.mp (h.trans hc.symm)
theorem own_mask (x : Int32) : 0 ≤ (x &&& 2147483647).toInt := by
  have e := Jvm.Kit.i32_mask x 2147483647 (k := 31) (by decide) (by decide)
  omega
theorem own_mod (x n : Int32) (hn : 0 < n.toInt) : 0 ≤ ((x &&& 2147483647) % n).toInt ∧ ((x &&& 2147483647) % n).toInt < n.toInt := by
  rw [Jvm.Kit.i32_rem_nonneg (own_mask x)]
  exact ⟨Int.emod_nonneg _ (by omega), Int.emod_lt_of_pos _ hn⟩
theorem own_and3 (x : Int32) : (x &&& 3) = 0 ∨ (x &&& 3) = 1 ∨ (x &&& 3) = 2 ∨ (x &&& 3) = 3 := by
  have e := Jvm.Kit.i32_mask x 3 (k := 2) (by decide) (by decide)
  rcases (by omega : (x &&& 3).toInt = 0 ∨ (x &&& 3).toInt = 1 ∨ (x &&& 3).toInt = 2 ∨ (x &&& 3).toInt = 3) with q | q | q | q
  · exact Or.inl (own_case 0 q (by decide))
  · exact Or.inr (Or.inl (own_case 1 q (by decide)))
  · exact Or.inr (Or.inr (Or.inl (own_case 2 q (by decide))))
  · exact Or.inr (Or.inr (Or.inr (own_case 3 q (by decide))))
theorem own_i2c (x : Int32) : nar .char ((x &&& (255 : Int32)).toUInt32.toUInt16.toUInt32.toInt32) = x &&& 255 := by
  rw [i2c_mask]
  exact i2c_mask x
theorem own_byte (x : Int32) : ¬ (x &&& 255) < 0 ∧ ¬ (255 : Int32) < (x &&& 255) := by
  have e := Jvm.Kit.i32_mask x 255 (k := 8) (by decide) (by decide)
  have e0 : (0 : Int32).toInt = 0 := by decide
  have e1 : (255 : Int32).toInt = 255 := by decide
  constructor <;> (intro q; rw [Int32.lt_iff_toInt_lt] at q; omega)
theorem own_c255 (x : Int32) : ¬ nar .char ((x &&& (255 : Int32)).toUInt32.toUInt16.toUInt32.toInt32) < 0 ∧ ¬ (255 : Int32) < nar .char ((x &&& (255 : Int32)).toUInt32.toUInt16.toUInt32.toInt32) := by
  rw [own_i2c]
  exact own_byte x
theorem own_all0 {P : Int32 → Prop} : ∀ c ∈ ([] : List Int32), P c := fun _ q => nomatch q
theorem own_allS {P : Int32 → Prop} {y : Int32} {L : List Int32} (q : P y) (r : ∀ c ∈ L, P c) : ∀ c ∈ y :: L, P c := fun c z => (List.mem_cons.mp z).elim (fun u => u ▸ q) (r c)
theorem own_snew {Z : State} {EL : List (String × Nat)} {vm : Vm} {h : Heap} {x : Addr} (R : CHv Z EL vm h) (hx : h.size ≤ x) : Safe Z EL vm h x := Safe.new hx
theorem own_sA : ∀ d ∈ Bundle.stringAtoms, d ∈ tables_1 := by decide +kernel
theorem own_EW {Z : State} {a0 : Array Value} (hw : ∀ d ∈ tables_1, d.before a0 Z = true) : EW Z a0 consts_1 := (EW.cons (hw _ (List.mem_of_getElem? (i := 102) rfl)) (by decide) (EW.cons (hw _ (List.mem_of_getElem? (i := 98) rfl)) (by decide) (EW.cons (hw _ (List.mem_of_getElem? (i := 168) rfl)) (by decide) EW.nil)))
def own_max (x y : Int32) : Int32 := if x < y then y else x
def own_min (x y : Int32) : Int32 := if y < x then y else x
theorem own_sh0 (n : Int32) : n >>> ((0 : Int32) &&& 31) = n := by
  apply Int32.toInt_inj.mp
  rw [Jvm.Kit.i32_shr n _ (k := 0) (by decide)]
  simp
theorem own_up (cs : List Int32) (h : ∀ c ∈ cs, ¬ c < 0 ∧ ¬ (255 : Int32) < c) : ∀ c ∈ cs, ¬ c < 0 ∧ ¬ (65535 : Int32) < c := fun c hc => ⟨(h c hc).1, fun q => (h c hc).2 (by
  rw [Int32.lt_iff_toInt_lt] at q ⊢
  have e1 : (65535 : Int32).toInt = 65535 := by decide
  have e2 : (255 : Int32).toInt = 255 := by decide
  omega)⟩
theorem own_ef_mx (m : MethodId) (x : Int32) (y : Int32) : entryFrame m #[(.int x), (.int y)] 2 = mkF m 0 #[.val (.int x), .val (.int y)] [] := by first | (simp [entryFrame, mkF, argsToLocals, Value.category]; done) | rfl
theorem own_d_jdk_29_method_65_0 : decode jdk_29_method_65_code 0 = .ok (.iload_n 0, 1) := by decide +kernel
theorem own_d_jdk_29_method_65_1 : decode jdk_29_method_65_code 1 = .ok (.iload_n 1, 1) := by decide +kernel
theorem own_d_jdk_29_method_65_2 : decode jdk_29_method_65_code 2 = .ok (.if_icmp .lt 7, 3) := by decide +kernel
theorem own_d_jdk_29_method_65_9 : decode jdk_29_method_65_code 9 = .ok (.iload_n 1, 1) := by decide +kernel
theorem own_d_jdk_29_method_65_10 : decode jdk_29_method_65_code 10 = .ok (.ireturn, 1) := by decide +kernel
theorem own_d_jdk_29_method_65_5 : decode jdk_29_method_65_code 5 = .ok (.iload_n 0, 1) := by decide +kernel
theorem own_d_jdk_29_method_65_6 : decode jdk_29_method_65_code 6 = .ok (.goto 4, 3) := by decide +kernel
def Q_mx (Z : State) (x : Int32) (y : Int32) (h0 : Heap) (v_ : Option Value) (h : Heap) (L_ : List Loc) : Prop := v_ = some (.int (own_max x y)) ∧ Fr Z.heap.size L_ ∧ (h = h0)
set_option maxRecDepth 65536 in
set_option maxHeartbeats 40000000 in
theorem rm_mx (l : Launch) (Z : State) (a0 : Array Value) (hw : ∀ d ∈ tables_1, d.before a0 Z = true) (ws : List Jvm.Cond) (x : Int32) (y : Int32) (h0 : Heap) (O : Ext Z.heap h0) :
    MetFree l (⟨"java/lang/Math", "max", "(II)I"⟩ : MethodName) (head1 (Jvm.Cond.code (⟨"java/lang/Math", "max", "(II)I"⟩ : MethodName) jdk_29_method_65_code 2 (some .int) :: ws) ({ frames := 0, cells := 0, slots := 0, locals := 0 } : Room)) (fun a_ U_ => a_ = #[(.int x), (.int y)] ∧ Z.Warmed39 U_.vm ∧ U_.heap = h0) (fun _ _ _ _ _ => True) (fun _ U_ o_ U2_ => ∃ v_ L_, o_ = .returned v_ ∧ Q_mx Z x y h0 v_ U2_.heap L_ ∧ FrameEnd U_ o_ U2_ L_ ({ frames := 0, cells := 0, slots := 0, locals := 0 } : Room).cells ({ frames := 0, cells := 0, slots := 0, locals := 0 } : Room).slots) := by
  refine MetFree.of_bodySF (Jvm.Free.JP.mathPlain rfl (by decide +kernel)) hisR ?_
  intro p e s m args below meth c s₁ Bd hml0 hP hK
  obtain ⟨rfl, hZ, hh⟩ := hP
  have hx := Bd.exec
  have hby := Bd.bytes
  have hml : c.maxLocals = 2 := hml0
  have hown : s.vm.findClass "java/lang/Math" = some m.cls := findClass_of_methodNamed Bd.named
  have hnm := (name_of_methodNamed Bd.named Bd.method).1
  have X0 : Stand p l e ({ frames := 0, cells := 0, slots := 0, locals := 0 } : Room) s m #[(.int x), (.int y)] below meth c s₁ [] 0 0 := Stand.of_body Bd
  have e0 : s₁.heap = h0 := by rw [← hh, Bd.state]; rfl
  have N0 := Fr.nil Z.heap.size
  show own_G p e below (fun o_ s₂ => ∃ v_ L_, o_ = .returned v_ ∧ Q_mx Z x y h0 v_ s₂.heap L_ ∧ FrameEnd s o_ s₂ L_ ({ frames := 0, cells := 0, slots := 0, locals := 0 } : Room).cells ({ frames := 0, cells := 0, slots := 0, locals := 0 } : Room).slots) (s₁.setTop (entryFrame m #[(.int x), (.int y)] 2))
  refine own_go (s₁.setTop (mkF m 0 #[.val (.int x), .val (.int y)] [])) (fun t_ k_ => castTop (own_ef_mx m x y) k_) ?_
  refine own_go (s₁.setTop (mkF m 1 #[.val (.int x), .val (.int y)] [(.int x)])) (fun t_ k_ => XS.iloadN X0.here hx rfl (hb hby own_d_jdk_29_method_65_0) rfl k_) ?_
  refine own_go (s₁.setTop (mkF m 2 #[.val (.int x), .val (.int y)] [(.int y), (.int x)])) (fun t_ k_ => XS.iloadN X0.here hx rfl (hb hby own_d_jdk_29_method_65_1) rfl k_) ?_
  by_cases hc2_1 : x < y
  ·
    refine own_go (s₁.setTop (mkF m 9 #[.val (.int x), .val (.int y)] [])) (fun t_ k_ => XS.icmpYes X0.here hx rfl (pc0 := 2) (pc' := 9) rfl (hb hby own_d_jdk_29_method_65_2) rfl (tlt hc2_1).1 (by decide) (by decide) k_) ?_
    refine own_go (s₁.setTop (mkF m 10 #[.val (.int x), .val (.int y)] [(.int y)])) (fun t_ k_ => XS.iloadN X0.here hx rfl (hb hby own_d_jdk_29_method_65_9) rfl k_) ?_
    obtain ⟨fs, hr, hrun, hended, hW, hsame⟩ := X0.leave (v := some (.int y)) (fun h => by rw [Bd.returns] at h; cases h)
    refine ⟨_, _, retI X0 hx Bd.returns (hb hby own_d_jdk_29_method_65_10) hr, hrun, hended, _, _, rfl, ?_, ⟨_, rfl⟩, hW, hsame.mono (by decide) (by decide)⟩
    show Q_mx Z x y h0 _ s₁.heap _
    exact ⟨by simp [own_max, hc2_1], N0, e0⟩
  ·
    refine own_go (s₁.setTop (mkF m 5 #[.val (.int x), .val (.int y)] [])) (fun t_ k_ => XS.icmpNo X0.here hx rfl (hb hby own_d_jdk_29_method_65_2) rfl (flt hc2_1).1 k_) ?_
    refine own_go (s₁.setTop (mkF m 6 #[.val (.int x), .val (.int y)] [(.int x)])) (fun t_ k_ => XS.iloadN X0.here hx rfl (hb hby own_d_jdk_29_method_65_5) rfl k_) ?_
    refine own_go (s₁.setTop (mkF m 10 #[.val (.int x), .val (.int y)] [(.int x)])) (fun t_ k_ => XS.goto X0.here hx rfl (pc0 := 6) (pc' := 10) rfl (hb hby own_d_jdk_29_method_65_6) (by decide) (by decide) k_) ?_
    obtain ⟨fs, hr, hrun, hended, hW, hsame⟩ := X0.leave (v := some (.int x)) (fun h => by rw [Bd.returns] at h; cases h)
    refine ⟨_, _, retI X0 hx Bd.returns (hb hby own_d_jdk_29_method_65_10) hr, hrun, hended, _, _, rfl, ?_, ⟨_, rfl⟩, hW, hsame.mono (by decide) (by decide)⟩
    show Q_mx Z x y h0 _ s₁.heap _
    exact ⟨by simp [own_max, hc2_1], N0, e0⟩
theorem own_ef_mi (m : MethodId) (x : Int32) (y : Int32) : entryFrame m #[(.int x), (.int y)] 2 = mkF m 0 #[.val (.int x), .val (.int y)] [] := by first | (simp [entryFrame, mkF, argsToLocals, Value.category]; done) | rfl
theorem own_d_jdk_29_method_69_0 : decode jdk_29_method_69_code 0 = .ok (.iload_n 0, 1) := by decide +kernel
theorem own_d_jdk_29_method_69_1 : decode jdk_29_method_69_code 1 = .ok (.iload_n 1, 1) := by decide +kernel
theorem own_d_jdk_29_method_69_2 : decode jdk_29_method_69_code 2 = .ok (.if_icmp .gt 7, 3) := by decide +kernel
theorem own_d_jdk_29_method_69_9 : decode jdk_29_method_69_code 9 = .ok (.iload_n 1, 1) := by decide +kernel
theorem own_d_jdk_29_method_69_10 : decode jdk_29_method_69_code 10 = .ok (.ireturn, 1) := by decide +kernel
theorem own_d_jdk_29_method_69_5 : decode jdk_29_method_69_code 5 = .ok (.iload_n 0, 1) := by decide +kernel
theorem own_d_jdk_29_method_69_6 : decode jdk_29_method_69_code 6 = .ok (.goto 4, 3) := by decide +kernel
def Q_mi (Z : State) (x : Int32) (y : Int32) (h0 : Heap) (v_ : Option Value) (h : Heap) (L_ : List Loc) : Prop := v_ = some (.int (own_min x y)) ∧ Fr Z.heap.size L_ ∧ (h = h0)
set_option maxRecDepth 65536 in
set_option maxHeartbeats 40000000 in
theorem rm_mi (l : Launch) (Z : State) (a0 : Array Value) (hw : ∀ d ∈ tables_1, d.before a0 Z = true) (ws : List Jvm.Cond) (x : Int32) (y : Int32) (h0 : Heap) (O : Ext Z.heap h0) :
    MetFree l (⟨"java/lang/Math", "min", "(II)I"⟩ : MethodName) (head1 (Jvm.Cond.code (⟨"java/lang/Math", "min", "(II)I"⟩ : MethodName) jdk_29_method_69_code 2 (some .int) :: ws) ({ frames := 0, cells := 0, slots := 0, locals := 0 } : Room)) (fun a_ U_ => a_ = #[(.int x), (.int y)] ∧ Z.Warmed39 U_.vm ∧ U_.heap = h0) (fun _ _ _ _ _ => True) (fun _ U_ o_ U2_ => ∃ v_ L_, o_ = .returned v_ ∧ Q_mi Z x y h0 v_ U2_.heap L_ ∧ FrameEnd U_ o_ U2_ L_ ({ frames := 0, cells := 0, slots := 0, locals := 0 } : Room).cells ({ frames := 0, cells := 0, slots := 0, locals := 0 } : Room).slots) := by
  refine MetFree.of_bodySF (Jvm.Free.JP.mathPlain rfl (by decide +kernel)) hisR ?_
  intro p e s m args below meth c s₁ Bd hml0 hP hK
  obtain ⟨rfl, hZ, hh⟩ := hP
  have hx := Bd.exec
  have hby := Bd.bytes
  have hml : c.maxLocals = 2 := hml0
  have hown : s.vm.findClass "java/lang/Math" = some m.cls := findClass_of_methodNamed Bd.named
  have hnm := (name_of_methodNamed Bd.named Bd.method).1
  have X0 : Stand p l e ({ frames := 0, cells := 0, slots := 0, locals := 0 } : Room) s m #[(.int x), (.int y)] below meth c s₁ [] 0 0 := Stand.of_body Bd
  have e0 : s₁.heap = h0 := by rw [← hh, Bd.state]; rfl
  have N0 := Fr.nil Z.heap.size
  show own_G p e below (fun o_ s₂ => ∃ v_ L_, o_ = .returned v_ ∧ Q_mi Z x y h0 v_ s₂.heap L_ ∧ FrameEnd s o_ s₂ L_ ({ frames := 0, cells := 0, slots := 0, locals := 0 } : Room).cells ({ frames := 0, cells := 0, slots := 0, locals := 0 } : Room).slots) (s₁.setTop (entryFrame m #[(.int x), (.int y)] 2))
  refine own_go (s₁.setTop (mkF m 0 #[.val (.int x), .val (.int y)] [])) (fun t_ k_ => castTop (own_ef_mi m x y) k_) ?_
  refine own_go (s₁.setTop (mkF m 1 #[.val (.int x), .val (.int y)] [(.int x)])) (fun t_ k_ => XS.iloadN X0.here hx rfl (hb hby own_d_jdk_29_method_69_0) rfl k_) ?_
  refine own_go (s₁.setTop (mkF m 2 #[.val (.int x), .val (.int y)] [(.int y), (.int x)])) (fun t_ k_ => XS.iloadN X0.here hx rfl (hb hby own_d_jdk_29_method_69_1) rfl k_) ?_
  by_cases hc2_1 : y < x
  ·
    refine own_go (s₁.setTop (mkF m 9 #[.val (.int x), .val (.int y)] [])) (fun t_ k_ => XS.icmpYes X0.here hx rfl (pc0 := 2) (pc' := 9) rfl (hb hby own_d_jdk_29_method_69_2) rfl (tlt hc2_1).2.2.1 (by decide) (by decide) k_) ?_
    refine own_go (s₁.setTop (mkF m 10 #[.val (.int x), .val (.int y)] [(.int y)])) (fun t_ k_ => XS.iloadN X0.here hx rfl (hb hby own_d_jdk_29_method_69_9) rfl k_) ?_
    obtain ⟨fs, hr, hrun, hended, hW, hsame⟩ := X0.leave (v := some (.int y)) (fun h => by rw [Bd.returns] at h; cases h)
    refine ⟨_, _, retI X0 hx Bd.returns (hb hby own_d_jdk_29_method_69_10) hr, hrun, hended, _, _, rfl, ?_, ⟨_, rfl⟩, hW, hsame.mono (by decide) (by decide)⟩
    show Q_mi Z x y h0 _ s₁.heap _
    exact ⟨by simp [own_min, hc2_1], N0, e0⟩
  ·
    refine own_go (s₁.setTop (mkF m 5 #[.val (.int x), .val (.int y)] [])) (fun t_ k_ => XS.icmpNo X0.here hx rfl (hb hby own_d_jdk_29_method_69_2) rfl (flt hc2_1).2.2.1 k_) ?_
    refine own_go (s₁.setTop (mkF m 6 #[.val (.int x), .val (.int y)] [(.int x)])) (fun t_ k_ => XS.iloadN X0.here hx rfl (hb hby own_d_jdk_29_method_69_5) rfl k_) ?_
    refine own_go (s₁.setTop (mkF m 10 #[.val (.int x), .val (.int y)] [(.int x)])) (fun t_ k_ => XS.goto X0.here hx rfl (pc0 := 6) (pc' := 10) rfl (hb hby own_d_jdk_29_method_69_6) (by decide) (by decide) k_) ?_
    obtain ⟨fs, hr, hrun, hended, hW, hsame⟩ := X0.leave (v := some (.int x)) (fun h => by rw [Bd.returns] at h; cases h)
    refine ⟨_, _, retI X0 hx Bd.returns (hb hby own_d_jdk_29_method_69_10) hr, hrun, hended, _, _, rfl, ?_, ⟨_, rfl⟩, hW, hsame.mono (by decide) (by decide)⟩
    show Q_mi Z x y h0 _ s₁.heap _
    exact ⟨by simp [own_min, hc2_1], N0, e0⟩
theorem own_pn0 : plainName "java/lang/String" = true := by first | (simp [plainName, overriddenIn]; done) | decide +kernel
theorem own_ef_cdr (m : MethodId) (o : Addr) : entryFrame m #[(.ref o)] 1 = mkF m 0 #[.val (.ref o)] [] := by first | (simp [entryFrame, mkF, argsToLocals, Value.category]; done) | rfl
theorem own_d_jdk_42_method_152_0 : decode jdk_42_method_152_code 0 = .ok (.getstatic 38, 3) := by decide +kernel
theorem own_d_jdk_42_method_152_3 : decode jdk_42_method_152_code 3 = .ok (.ifCond .eq 10, 3) := by decide +kernel
theorem own_d_jdk_42_method_152_6 : decode jdk_42_method_152_code 6 = .ok (.aload_n 0, 1) := by decide +kernel
theorem own_d_jdk_42_method_152_7 : decode jdk_42_method_152_code 7 = .ok (.getfield 15, 3) := by decide +kernel
theorem own_d_jdk_42_method_152_10 : decode jdk_42_method_152_code 10 = .ok (.goto 4, 3) := by decide +kernel
theorem own_d_jdk_42_method_152_14 : decode jdk_42_method_152_code 14 = .ok (.ireturn, 1) := by decide +kernel
def Q_cdr (Z : State) (o : Addr) (a__VALUES : Addr) (a_OUT : Addr) (a_INP : Addr) (a_TAKE_COMPLETE : Addr) (a_OUT_text : Addr) (a_INP_text : Addr) (a_TAKE_COMPLETE_text : Addr) (a_OUT_text_value : Addr) (a_INP_text_value : Addr) (a_TAKE_COMPLETE_text_value : Addr) (k__VALUES : ClassId) (k_OUT_text_value : ClassId) (k_INP_text_value : ClassId) (k_TAKE_COMPLETE_text_value : ClassId) (cs0 : Int32) (h0 : Heap) (v_ : Option Value) (h : Heap) (L_ : List Loc) : Prop := v_ = some (.int 0) ∧ Fr Z.heap.size L_ ∧ (h = h0)
set_option maxRecDepth 65536 in
set_option maxHeartbeats 40000000 in
theorem rm_cdr (l : Launch) (Z : State) (a0 : Array Value) (hw : ∀ d ∈ tables_1, d.before a0 Z = true) (ws : List Jvm.Cond) (o : Addr) (a__VALUES : Addr) (a_OUT : Addr) (a_INP : Addr) (a_TAKE_COMPLETE : Addr) (a_OUT_text : Addr) (a_INP_text : Addr) (a_TAKE_COMPLETE_text : Addr) (a_OUT_text_value : Addr) (a_INP_text_value : Addr) (a_TAKE_COMPLETE_text_value : Addr) (k__VALUES : ClassId) (k_OUT_text_value : ClassId) (k_INP_text_value : ClassId) (k_TAKE_COMPLETE_text_value : ClassId) (cs0 : Int32) (h0 : Heap) (O : Ext Z.heap h0) (w : own_W Z a__VALUES a_OUT a_INP a_TAKE_COMPLETE a_OUT_text a_INP_text a_TAKE_COMPLETE_text a_OUT_text_value a_INP_text_value a_TAKE_COMPLETE_text_value k__VALUES k_OUT_text_value k_INP_text_value k_TAKE_COMPLETE_text_value cs0) (G : Fld Z h0 o "java/lang/String" "coder" "B" (.int 0)) :
    MetFree l (⟨"java/lang/String", "coder", "()B"⟩ : MethodName) (head1 (Jvm.Cond.code (⟨"java/lang/String", "coder", "()B"⟩ : MethodName) jdk_42_method_152_code 1 (some .byte) :: ws) ({ frames := 0, cells := 0, slots := 0, locals := 0 } : Room)) (fun a_ U_ => a_ = #[(.ref o)] ∧ Z.Warmed39 U_.vm ∧ U_.heap = h0) (fun _ _ _ _ _ => True) (fun _ U_ o_ U2_ => ∃ v_ L_, o_ = .returned v_ ∧ Q_cdr Z o a__VALUES a_OUT a_INP a_TAKE_COMPLETE a_OUT_text a_INP_text a_TAKE_COMPLETE_text a_OUT_text_value a_INP_text_value a_TAKE_COMPLETE_text_value k__VALUES k_OUT_text_value k_INP_text_value k_TAKE_COMPLETE_text_value cs0 h0 v_ U2_.heap L_ ∧ FrameEnd U_ o_ U2_ L_ ({ frames := 0, cells := 0, slots := 0, locals := 0 } : Room).cells ({ frames := 0, cells := 0, slots := 0, locals := 0 } : Room).slots) := by
  refine MetFree.of_bodySF (plainFor_of_name own_pn0) hisR ?_
  intro p e s m args below meth c s₁ Bd hml0 hP hK
  obtain ⟨rfl, hZ, hh⟩ := hP
  have hx := Bd.exec
  have hby := Bd.bytes
  have hml : c.maxLocals = 1 := hml0
  have hown : s.vm.findClass "java/lang/String" = some m.cls := findClass_of_methodNamed Bd.named
  have hnm := (name_of_methodNamed Bd.named Bd.method).1
  have X0 : Stand p l e ({ frames := 0, cells := 0, slots := 0, locals := 0 } : Room) s m #[(.ref o)] below meth c s₁ [] 0 0 := Stand.of_body Bd
  have e0 : s₁.heap = h0 := by rw [← hh, Bd.state]; rfl
  have N0 := Fr.nil Z.heap.size
  show own_G p e below (fun o_ s₂ => ∃ v_ L_, o_ = .returned v_ ∧ Q_cdr Z o a__VALUES a_OUT a_INP a_TAKE_COMPLETE a_OUT_text a_INP_text a_TAKE_COMPLETE_text a_OUT_text_value a_INP_text_value a_TAKE_COMPLETE_text_value k__VALUES k_OUT_text_value k_INP_text_value k_TAKE_COMPLETE_text_value cs0 h0 v_ s₂.heap L_ ∧ FrameEnd s o_ s₂ L_ ({ frames := 0, cells := 0, slots := 0, locals := 0 } : Room).cells ({ frames := 0, cells := 0, slots := 0, locals := 0 } : Room).slots) (s₁.setTop (entryFrame m #[(.ref o)] 1))
  refine own_go (s₁.setTop (mkF m 0 #[.val (.ref o)] [])) (fun t_ k_ => castTop (own_ef_cdr m o) k_) ?_
  have w' := w
  obtain ⟨S__VALUES, X__VALUES, S_OUT, X_OUT, S_INP, X_INP, S_TAKE_COMPLETE, X_TAKE_COMPLETE, F_OUT_text, X_OUT_text, F_INP_text, X_INP_text, F_TAKE_COMPLETE_text, X_TAKE_COMPLETE_text, F_OUT_text_value, X_OUT_text_value, F_INP_text_value, X_INP_text_value, F_TAKE_COMPLETE_text_value, X_TAKE_COMPLETE_text_value, F_OUT_text_coder, F_INP_text_coder, F_TAKE_COMPLETE_text_coder, V__VALUES, V_OUT_text_value, V_INP_text_value, V_TAKE_COMPLETE_text_value, S_CS, n_CS⟩ := w'
  obtain ⟨T1, X1, e1, st1⟩ := getS2 X0 hx hZ hown (host := "") (Or.inl (hw _ (List.mem_of_getElem? (i := 68) rfl))) Via.refl e0 (S_CS.ext O) (g := (mkF m 0 #[.val (.ref o)] [])) rfl (hb hby own_d_jdk_42_method_152_0)
  refine own_go (T1.setTop (mkF m 3 #[.val (.ref o)] [(.int cs0)])) (fun t_ k_ => st1 _ k_) ?_
  refine own_go (T1.setTop (mkF m 6 #[.val (.ref o)] [])) (fun t_ k_ => XS.ifNo X1.here hx rfl (hb hby own_d_jdk_42_method_152_3) rfl ((if0 _ _).trans (feq n_CS).1) k_) ?_
  refine own_go (T1.setTop (mkF m 7 #[.val (.ref o)] [(.ref o)])) (fun t_ k_ => XS.aloadN X1.here hx rfl (hb hby own_d_jdk_42_method_152_6) rfl rfl k_) ?_
  obtain ⟨T2, X2, e2, st2⟩ := getF X1 hx hZ hown (host := "") (Or.inl (hw _ (List.mem_of_getElem? (i := 69) rfl))) Via.refl e1 G (g := (mkF m 7 #[.val (.ref o)] [(.ref o)])) rfl rfl (hb hby own_d_jdk_42_method_152_7)
  refine own_go (T2.setTop (mkF m 10 #[.val (.ref o)] [(.int (0 : Int32))])) (fun t_ k_ => st2 _ k_) ?_
  refine own_go (T2.setTop (mkF m 14 #[.val (.ref o)] [(.int (0 : Int32))])) (fun t_ k_ => XS.goto X2.here hx rfl (pc0 := 10) (pc' := 14) rfl (hb hby own_d_jdk_42_method_152_10) (by decide) (by decide) k_) ?_
  obtain ⟨fs, hr, hrun, hended, hW, hsame⟩ := X2.leave (v := some (.int (nar .byte (0 : Int32)))) (fun h => by rw [Bd.returns] at h; cases h)
  refine ⟨_, _, retN X2 hx (t := .byte) Bd.returns (by simp) (hb hby own_d_jdk_42_method_152_14) hr, hrun, hended, _, _, rfl, ?_, ⟨_, rfl⟩, hW, hsame.mono (by decide) (by decide)⟩
  show Q_cdr Z o a__VALUES a_OUT a_INP a_TAKE_COMPLETE a_OUT_text a_INP_text a_TAKE_COMPLETE_text a_OUT_text_value a_INP_text_value a_TAKE_COMPLETE_text_value k__VALUES k_OUT_text_value k_INP_text_value k_TAKE_COMPLETE_text_value cs0 h0 _ T2.heap _
  exact ⟨rfl, N0, e2⟩
theorem own_pn1 : plainName "java/lang/AbstractStringBuilder" = true := by first | (simp [plainName, overriddenIn]; done) | decide +kernel
theorem own_ef_ai (m : MethodId) (a : Addr) : entryFrame m #[(.ref a), (.int (16 : Int32))] 2 = mkF m 0 #[.val (.ref a), .val (.int (16 : Int32))] [] := by first | (simp [entryFrame, mkF, argsToLocals, Value.category]; done) | rfl
theorem own_d_jdk_68_method_2_0 : decode jdk_68_method_2_code 0 = .ok (.aload_n 0, 1) := by decide +kernel
theorem own_d_jdk_68_method_2_1 : decode jdk_68_method_2_code 1 = .ok (.invokespecial 3, 3) := by decide +kernel
theorem own_d_jdk_68_method_2_4 : decode jdk_68_method_2_code 4 = .ok (.getstatic 18, 3) := by decide +kernel
theorem own_d_jdk_68_method_2_7 : decode jdk_68_method_2_code 7 = .ok (.ifCond .eq 18, 3) := by decide +kernel
theorem own_d_jdk_68_method_2_10 : decode jdk_68_method_2_code 10 = .ok (.aload_n 0, 1) := by decide +kernel
theorem own_d_jdk_68_method_2_11 : decode jdk_68_method_2_code 11 = .ok (.iload_n 1, 1) := by decide +kernel
theorem own_d_jdk_68_method_2_12 : decode jdk_68_method_2_code 12 = .ok (.newarray .byte, 2) := by decide +kernel
theorem own_d_jdk_68_method_2_14 : decode jdk_68_method_2_code 14 = .ok (.putfield 15, 3) := by decide +kernel
theorem own_d_jdk_68_method_2_17 : decode jdk_68_method_2_code 17 = .ok (.aload_n 0, 1) := by decide +kernel
theorem own_d_jdk_68_method_2_18 : decode jdk_68_method_2_code 18 = .ok (.iconst 0, 1) := by decide +kernel
theorem own_d_jdk_68_method_2_19 : decode jdk_68_method_2_code 19 = .ok (.putfield 22, 3) := by decide +kernel
theorem own_d_jdk_68_method_2_22 : decode jdk_68_method_2_code 22 = .ok (.goto 16, 3) := by decide +kernel
theorem own_d_jdk_68_method_2_38 : decode jdk_68_method_2_code 38 = .ok (.return_, 1) := by decide +kernel
def Q_ai (Z : State) (a : Addr) (a__VALUES : Addr) (a_OUT : Addr) (a_INP : Addr) (a_TAKE_COMPLETE : Addr) (a_OUT_text : Addr) (a_INP_text : Addr) (a_TAKE_COMPLETE_text : Addr) (a_OUT_text_value : Addr) (a_INP_text_value : Addr) (a_TAKE_COMPLETE_text_value : Addr) (k__VALUES : ClassId) (k_OUT_text_value : ClassId) (k_INP_text_value : ClassId) (k_TAKE_COMPLETE_text_value : ClassId) (cs0 : Int32) (h0 : Heap) (v_ : Option Value) (h : Heap) (L_ : List Loc) : Prop := ∃ (b : Addr), ∃ (kv : ClassId), v_ = none ∧ Fr Z.heap.size L_ ∧ (Keep h0 h [a] ∧ Z.heap.size ≤ b ∧ h0.size ≤ b ∧ Exa Z h a "java/lang/StringBuilder" ∧ Fld Z h a "java/lang/AbstractStringBuilder" "value" "[B" (.ref b) ∧ Fld Z h a "java/lang/AbstractStringBuilder" "coder" "B" (.int 0) ∧ Fld Z h a "java/lang/AbstractStringBuilder" "count" "I" (.int 0) ∧ Arv Z h b kv .byte 16 [] (.int 0))
set_option maxRecDepth 65536 in
set_option maxHeartbeats 40000000 in
theorem rm_ai (l : Launch) (Z : State) (a0 : Array Value) (hw : ∀ d ∈ tables_1, d.before a0 Z = true) (ws : List Jvm.Cond) (a : Addr) (a__VALUES : Addr) (a_OUT : Addr) (a_INP : Addr) (a_TAKE_COMPLETE : Addr) (a_OUT_text : Addr) (a_INP_text : Addr) (a_TAKE_COMPLETE_text : Addr) (a_OUT_text_value : Addr) (a_INP_text_value : Addr) (a_TAKE_COMPLETE_text_value : Addr) (k__VALUES : ClassId) (k_OUT_text_value : ClassId) (k_INP_text_value : ClassId) (k_TAKE_COMPLETE_text_value : ClassId) (cs0 : Int32) (h0 : Heap) (O : Ext Z.heap h0) (w : own_W Z a__VALUES a_OUT a_INP a_TAKE_COMPLETE a_OUT_text a_INP_text a_TAKE_COMPLETE_text a_OUT_text_value a_INP_text_value a_TAKE_COMPLETE_text_value k__VALUES k_OUT_text_value k_INP_text_value k_TAKE_COMPLETE_text_value cs0) (Xa : Exa Z h0 a "java/lang/StringBuilder") (Va : Fld Z h0 a "java/lang/AbstractStringBuilder" "value" "[B" .null) (Ca : Fld Z h0 a "java/lang/AbstractStringBuilder" "coder" "B" (.int 0)) (Na : Fld Z h0 a "java/lang/AbstractStringBuilder" "count" "I" (.int 0)) (ga : Z.heap.size ≤ a) :
    MetFree l (⟨"java/lang/AbstractStringBuilder", "<init>", "(I)V"⟩ : MethodName) (head1 (Jvm.Cond.code (⟨"java/lang/AbstractStringBuilder", "<init>", "(I)V"⟩ : MethodName) jdk_68_method_2_code 2 none :: ws) ({ frames := 1, cells := 1, slots := 16, locals := 12 } : Room)) (fun a_ U_ => a_ = #[(.ref a), (.int (16 : Int32))] ∧ Z.Warmed39 U_.vm ∧ U_.heap = h0) (fun _ _ _ _ _ => True) (fun _ U_ o_ U2_ => ∃ v_ L_, o_ = .returned v_ ∧ Q_ai Z a a__VALUES a_OUT a_INP a_TAKE_COMPLETE a_OUT_text a_INP_text a_TAKE_COMPLETE_text a_OUT_text_value a_INP_text_value a_TAKE_COMPLETE_text_value k__VALUES k_OUT_text_value k_INP_text_value k_TAKE_COMPLETE_text_value cs0 h0 v_ U2_.heap L_ ∧ FrameEnd U_ o_ U2_ L_ ({ frames := 1, cells := 1, slots := 16, locals := 12 } : Room).cells ({ frames := 1, cells := 1, slots := 16, locals := 12 } : Room).slots) := by
  refine MetFree.of_bodySF (plainFor_of_name own_pn1) hisR ?_
  intro p e s m args below meth c s₁ Bd hml0 hP hK
  obtain ⟨rfl, hZ, hh⟩ := hP
  have hx := Bd.exec
  have hby := Bd.bytes
  have hml : c.maxLocals = 2 := hml0
  have hown : s.vm.findClass "java/lang/AbstractStringBuilder" = some m.cls := findClass_of_methodNamed Bd.named
  have hnm := (name_of_methodNamed Bd.named Bd.method).1
  have X0 : Stand p l e ({ frames := 1, cells := 1, slots := 16, locals := 12 } : Room) s m #[(.ref a), (.int (16 : Int32))] below meth c s₁ [] 0 0 := Stand.of_body Bd
  have e0 : s₁.heap = h0 := by rw [← hh, Bd.state]; rfl
  have N0 := Fr.nil Z.heap.size
  show own_G p e below (fun o_ s₂ => ∃ v_ L_, o_ = .returned v_ ∧ Q_ai Z a a__VALUES a_OUT a_INP a_TAKE_COMPLETE a_OUT_text a_INP_text a_TAKE_COMPLETE_text a_OUT_text_value a_INP_text_value a_TAKE_COMPLETE_text_value k__VALUES k_OUT_text_value k_INP_text_value k_TAKE_COMPLETE_text_value cs0 h0 v_ s₂.heap L_ ∧ FrameEnd s o_ s₂ L_ ({ frames := 1, cells := 1, slots := 16, locals := 12 } : Room).cells ({ frames := 1, cells := 1, slots := 16, locals := 12 } : Room).slots) (s₁.setTop (entryFrame m #[(.ref a), (.int (16 : Int32))] 2))
  refine own_go (s₁.setTop (mkF m 0 #[.val (.ref a), .val (.int (16 : Int32))] [])) (fun t_ k_ => castTop (own_ef_ai m a) k_) ?_
  have w' := w
  obtain ⟨S__VALUES, X__VALUES, S_OUT, X_OUT, S_INP, X_INP, S_TAKE_COMPLETE, X_TAKE_COMPLETE, F_OUT_text, X_OUT_text, F_INP_text, X_INP_text, F_TAKE_COMPLETE_text, X_TAKE_COMPLETE_text, F_OUT_text_value, X_OUT_text_value, F_INP_text_value, X_INP_text_value, F_TAKE_COMPLETE_text_value, X_TAKE_COMPLETE_text_value, F_OUT_text_coder, F_INP_text_coder, F_TAKE_COMPLETE_text_coder, V__VALUES, V_OUT_text_value, V_INP_text_value, V_TAKE_COMPLETE_text_value, S_CS, n_CS⟩ := w'
  refine own_go (s₁.setTop (mkF m 1 #[.val (.ref a), .val (.int (16 : Int32))] [(.ref a)])) (fun t_ k_ => XS.aloadN X0.here hx rfl (hb hby own_d_jdk_68_method_2_0) rfl rfl k_) ?_
  obtain ⟨T1, X1, e1, st1⟩ := initO X0 hx hZ hown (hw _ (List.mem_of_getElem? (i := 16) rfl)) (hw _ (List.mem_of_getElem? (i := 17) rfl)) (hw _ (List.mem_of_getElem? (i := 18) rfl)) e0 (g := (mkF m 1 #[.val (.ref a), .val (.int (16 : Int32))] [(.ref a)])) rfl (by rw [hml]; rfl) rfl (hb hby own_d_jdk_68_method_2_1) (by decide) (W := 0) (by show 2 * 0 + _ ≤ _; exact Nat.le_of_eq rfl) (by decide)
  refine own_go (T1.setTop (mkF m 4 #[.val (.ref a), .val (.int (16 : Int32))] [])) (fun t_ k_ => st1 _ k_) ?_
  obtain ⟨T2, X2, e2, st2⟩ := getS2 X1 hx hZ hown (host := "") (Or.inl (hw _ (List.mem_of_getElem? (i := 19) rfl))) Via.refl e1 (S_CS.ext O) (g := (mkF m 4 #[.val (.ref a), .val (.int (16 : Int32))] [])) rfl (hb hby own_d_jdk_68_method_2_4)
  refine own_go (T2.setTop (mkF m 7 #[.val (.ref a), .val (.int (16 : Int32))] [(.int cs0)])) (fun t_ k_ => st2 _ k_) ?_
  refine own_go (T2.setTop (mkF m 10 #[.val (.ref a), .val (.int (16 : Int32))] [])) (fun t_ k_ => XS.ifNo X2.here hx rfl (hb hby own_d_jdk_68_method_2_7) rfl ((if0 _ _).trans (feq n_CS).1) k_) ?_
  refine own_go (T2.setTop (mkF m 11 #[.val (.ref a), .val (.int (16 : Int32))] [(.ref a)])) (fun t_ k_ => XS.aloadN X2.here hx rfl (hb hby own_d_jdk_68_method_2_10) rfl rfl k_) ?_
  refine own_go (T2.setTop (mkF m 12 #[.val (.ref a), .val (.int (16 : Int32))] [(.int (16 : Int32)), (.ref a)])) (fun t_ k_ => XS.iloadN X2.here hx rfl (hb hby own_d_jdk_68_method_2_11) rfl k_) ?_
  obtain ⟨T3, h3, k3, X3, e3, E3, A3, st3⟩ := newP X2 hx hZ (hw _ (List.mem_of_getElem? (i := 21) rfl)) e2 (g := (mkF m 12 #[.val (.ref a), .val (.int (16 : Int32))] [(.int (16 : Int32)), (.ref a)])) rfl (hb hby own_d_jdk_68_method_2_12) rfl (by decide) (cap := 16) (by decide) (by decide) (by decide) (by decide)
  obtain ⟨b3, g3⟩ : ∃ z, z = h0.size := ⟨_, rfl⟩
  rw [← g3] at A3 st3
  have ge_b3 : Z.heap.size ≤ b3 := Nat.le_trans O.1 (Nat.le_of_eq g3.symm)
  have sz_b3 : h0.size ≤ b3 := Nat.le_trans (Keep.refl h0 [a]).1 (Nat.le_of_eq g3.symm)
  have K3 : Keep h0 h3 [a] := (Keep.refl h0 [a]).ext E3
  have O3 := own_ext O E3
  have V3 : Arv Z h3 b3 k3 .byte (16 : Int32) [(.int (0 : Int32)), (.int (0 : Int32)), (.int (0 : Int32)), (.int (0 : Int32)), (.int (0 : Int32)), (.int (0 : Int32)), (.int (0 : Int32)), (.int (0 : Int32)), (.int (0 : Int32)), (.int (0 : Int32)), (.int (0 : Int32)), (.int (0 : Int32)), (.int (0 : Int32)), (.int (0 : Int32)), (.int (0 : Int32)), (.int (0 : Int32))] (.int (0 : Int32)) := (Arv.new A3 (by decide)).pad (pad_rep [] (.int (0 : Int32)) 16)
  refine own_go (T3.setTop (mkF m 14 #[.val (.ref a), .val (.int (16 : Int32))] [(.ref b3), (.ref a)])) (fun t_ k_ => st3 _ k_) ?_
  have Fz4 := (Xa.ext E3)
  have Fz5 := (Va.ext E3)
  obtain ⟨T6, h6, X6, e6, W6, st6⟩ := putF X3 hx hZ hown (host := "") (Or.inl (hw _ (List.mem_of_getElem? (i := 22) rfl))) Via.refl e3 Fz5 Fz4 (Or.inl (hw _ (List.mem_of_getElem? (i := 23) rfl))) (hw _ (List.mem_of_getElem? (i := 5) rfl)) (ty := (.array .byte)) (by decide) rfl rfl (g := (mkF m 14 #[.val (.ref a), .val (.int (16 : Int32))] [(.ref b3), (.ref a)])) rfl rfl (hb hby own_d_jdk_68_method_2_14)
  have Fw6 := Fz5.same W6
  have K6 : Keep h0 h6 [a] := K3.wr W6 (Or.inl (List.mem_of_getElem? (i := 0) rfl))
  have N6 := Fr.snoc X6 N0 ga
  have O6 := own_extW O3 W6 ga
  refine own_go (T6.setTop (mkF m 17 #[.val (.ref a), .val (.int (16 : Int32))] [])) (fun t_ k_ => st6 _ k_) ?_
  refine own_go (T6.setTop (mkF m 18 #[.val (.ref a), .val (.int (16 : Int32))] [(.ref a)])) (fun t_ k_ => XS.aloadN X6.here hx rfl (hb hby own_d_jdk_68_method_2_17) rfl rfl k_) ?_
  refine own_go (T6.setTop (mkF m 19 #[.val (.ref a), .val (.int (16 : Int32))] [(.int (0 : Int32)), (.ref a)])) (fun t_ k_ => XS.iconst X6.here hx rfl (hb hby own_d_jdk_68_method_2_18) k_) ?_
  have Fz7 := (Fz4.wr W6)
  have Fz8 := ((Ca.ext E3).other W6 (Or.inr (slot_ne (a0 := a0) (Or.inl (hw _ (List.mem_of_getElem? (i := 25) rfl))) (Or.inl (hw _ (List.mem_of_getElem? (i := 23) rfl))) (by decide) (t := .byte) (t' := (.array .byte)) (by decide) (by decide))))
  obtain ⟨T9, h9, X9, e9, W9, st9⟩ := putFN X6 hx hZ hown (hw _ (List.mem_of_getElem? (i := 24) rfl)) Via.refl e6 Fz8 Fz7 (Or.inl (hw _ (List.mem_of_getElem? (i := 25) rfl))) (hw _ (List.mem_of_getElem? (i := 5) rfl)) (ty := .byte) (v' := (.int (0 : Int32))) (by decide) rfl (by decide) (g := (mkF m 19 #[.val (.ref a), .val (.int (16 : Int32))] [(.int (0 : Int32)), (.ref a)])) rfl rfl (hb hby own_d_jdk_68_method_2_19)
  have Fw9 := Fz8.same W9
  have K9 : Keep h0 h9 [a] := K6.wr W9 (Or.inl (List.mem_of_getElem? (i := 0) rfl))
  have N9 := Fr.snoc X9 N6 ga
  have O9 := own_extW O6 W9 ga
  refine own_go (T9.setTop (mkF m 22 #[.val (.ref a), .val (.int (16 : Int32))] [])) (fun t_ k_ => st9 _ k_) ?_
  refine own_go (T9.setTop (mkF m 38 #[.val (.ref a), .val (.int (16 : Int32))] [])) (fun t_ k_ => XS.goto X9.here hx rfl (pc0 := 22) (pc' := 38) rfl (hb hby own_d_jdk_68_method_2_22) (by decide) (by decide) k_) ?_
  obtain ⟨fs, hr, hrun, hended, hW, hsame⟩ := X9.leave (v := none) (fun _ => rfl)
  refine ⟨_, _, X9.returnOut hx Bd.returns (hb hby own_d_jdk_68_method_2_38) hr, hrun, hended, _, _, rfl, ?_, ⟨_, rfl⟩, hW, hsame.mono (by decide) (by decide)⟩
  show Q_ai Z a a__VALUES a_OUT a_INP a_TAKE_COMPLETE a_OUT_text a_INP_text a_TAKE_COMPLETE_text a_OUT_text_value a_INP_text_value a_TAKE_COMPLETE_text_value k__VALUES k_OUT_text_value k_INP_text_value k_TAKE_COMPLETE_text_value cs0 h0 _ T9.heap _
  have Nz10 : a ≠ b3 := (Nat.ne_of_lt (Nat.lt_of_lt_of_le Xa.lt (Nat.le_of_eq g3.symm)))
  have Fz11 := ((V3.other W6 (Ne.symm Nz10)).other W9 (Ne.symm Nz10))
  have Fz12 := (Fz7.wr W9)
  have Fz13 := (Fw6.other W9 (Or.inr (slot_ne (a0 := a0) (Or.inl (hw _ (List.mem_of_getElem? (i := 23) rfl))) (Or.inl (hw _ (List.mem_of_getElem? (i := 25) rfl))) (by decide) (t := (.array .byte)) (t' := .byte) (by decide) (by decide))))
  have Fz14 := (((Na.ext E3).other W6 (Or.inr (slot_ne (a0 := a0) (Or.inl (hw _ (List.mem_of_getElem? (i := 72) rfl))) (Or.inl (hw _ (List.mem_of_getElem? (i := 23) rfl))) (by decide) (t := .int) (t' := (.array .byte)) (by decide) (by decide)))).other W9 (Or.inr (slot_ne (a0 := a0) (Or.inl (hw _ (List.mem_of_getElem? (i := 72) rfl))) (Or.inl (hw _ (List.mem_of_getElem? (i := 25) rfl))) (by decide) (t := .int) (t' := .byte) (by decide) (by decide))))
  rw [show T9.heap = h9 from e9]
  exact ⟨_, _, rfl, N9, K9, ge_b3, sz_b3, Fz12, Fz13, Fw9, Fz14, (Fz11).pad (fun i => (pad_rep [] (.int (0 : Int32)) 16 i).symm)⟩
theorem own_pn2 : plainName "java/lang/StringBuilder" = true := by first | (simp [plainName, overriddenIn]; done) | decide +kernel
theorem own_ef_si (m : MethodId) (a : Addr) : entryFrame m #[(.ref a)] 1 = mkF m 0 #[.val (.ref a)] [] := by first | (simp [entryFrame, mkF, argsToLocals, Value.category]; done) | rfl
theorem own_d_jdk_67_method_1_0 : decode jdk_67_method_1_code 0 = .ok (.aload_n 0, 1) := by decide +kernel
theorem own_d_jdk_67_method_1_1 : decode jdk_67_method_1_code 1 = .ok (.bipush 16, 2) := by decide +kernel
theorem own_d_jdk_67_method_1_3 : decode jdk_67_method_1_code 3 = .ok (.invokespecial 1, 3) := by decide +kernel
theorem own_pd0 : parseMethodDescriptor "(I)V" = some ⟨[.int], none⟩ := by decide +kernel
theorem own_d_jdk_67_method_1_6 : decode jdk_67_method_1_code 6 = .ok (.return_, 1) := by decide +kernel
def Q_si (Z : State) (a : Addr) (a__VALUES : Addr) (a_OUT : Addr) (a_INP : Addr) (a_TAKE_COMPLETE : Addr) (a_OUT_text : Addr) (a_INP_text : Addr) (a_TAKE_COMPLETE_text : Addr) (a_OUT_text_value : Addr) (a_INP_text_value : Addr) (a_TAKE_COMPLETE_text_value : Addr) (k__VALUES : ClassId) (k_OUT_text_value : ClassId) (k_INP_text_value : ClassId) (k_TAKE_COMPLETE_text_value : ClassId) (cs0 : Int32) (h0 : Heap) (v_ : Option Value) (h : Heap) (L_ : List Loc) : Prop := ∃ (b : Addr), ∃ (kv : ClassId), v_ = none ∧ Fr Z.heap.size L_ ∧ (Keep h0 h [a] ∧ Z.heap.size ≤ b ∧ h0.size ≤ b ∧ Exa Z h a "java/lang/StringBuilder" ∧ Fld Z h a "java/lang/AbstractStringBuilder" "value" "[B" (.ref b) ∧ Fld Z h a "java/lang/AbstractStringBuilder" "coder" "B" (.int 0) ∧ Fld Z h a "java/lang/AbstractStringBuilder" "count" "I" (.int 0) ∧ Arv Z h b kv .byte 16 [] (.int 0))
set_option maxRecDepth 65536 in
set_option maxHeartbeats 40000000 in
theorem rm_si (l : Launch) (Z : State) (a0 : Array Value) (hw : ∀ d ∈ tables_1, d.before a0 Z = true) (ws : List Jvm.Cond) (a : Addr) (a__VALUES : Addr) (a_OUT : Addr) (a_INP : Addr) (a_TAKE_COMPLETE : Addr) (a_OUT_text : Addr) (a_INP_text : Addr) (a_TAKE_COMPLETE_text : Addr) (a_OUT_text_value : Addr) (a_INP_text_value : Addr) (a_TAKE_COMPLETE_text_value : Addr) (k__VALUES : ClassId) (k_OUT_text_value : ClassId) (k_INP_text_value : ClassId) (k_TAKE_COMPLETE_text_value : ClassId) (cs0 : Int32) (h0 : Heap) (O : Ext Z.heap h0) (w : own_W Z a__VALUES a_OUT a_INP a_TAKE_COMPLETE a_OUT_text a_INP_text a_TAKE_COMPLETE_text a_OUT_text_value a_INP_text_value a_TAKE_COMPLETE_text_value k__VALUES k_OUT_text_value k_INP_text_value k_TAKE_COMPLETE_text_value cs0) (Xa : Exa Z h0 a "java/lang/StringBuilder") (Va : Fld Z h0 a "java/lang/AbstractStringBuilder" "value" "[B" .null) (Ca : Fld Z h0 a "java/lang/AbstractStringBuilder" "coder" "B" (.int 0)) (Na : Fld Z h0 a "java/lang/AbstractStringBuilder" "count" "I" (.int 0)) (ga : Z.heap.size ≤ a) :
    MetFree l (⟨"java/lang/StringBuilder", "<init>", "()V"⟩ : MethodName) (head1 (Jvm.Cond.code (⟨"java/lang/StringBuilder", "<init>", "()V"⟩ : MethodName) jdk_67_method_1_code 1 none :: ws) ({ frames := 2, cells := 1, slots := 16, locals := 25 } : Room)) (fun a_ U_ => a_ = #[(.ref a)] ∧ Z.Warmed39 U_.vm ∧ U_.heap = h0) (fun _ _ _ _ _ => True) (fun _ U_ o_ U2_ => ∃ v_ L_, o_ = .returned v_ ∧ Q_si Z a a__VALUES a_OUT a_INP a_TAKE_COMPLETE a_OUT_text a_INP_text a_TAKE_COMPLETE_text a_OUT_text_value a_INP_text_value a_TAKE_COMPLETE_text_value k__VALUES k_OUT_text_value k_INP_text_value k_TAKE_COMPLETE_text_value cs0 h0 v_ U2_.heap L_ ∧ FrameEnd U_ o_ U2_ L_ ({ frames := 2, cells := 1, slots := 16, locals := 25 } : Room).cells ({ frames := 2, cells := 1, slots := 16, locals := 25 } : Room).slots) := by
  refine MetFree.of_bodySF (plainFor_of_name own_pn2) hisR ?_
  intro p e s m args below meth c s₁ Bd hml0 hP hK
  obtain ⟨rfl, hZ, hh⟩ := hP
  have hx := Bd.exec
  have hby := Bd.bytes
  have hml : c.maxLocals = 1 := hml0
  have hown : s.vm.findClass "java/lang/StringBuilder" = some m.cls := findClass_of_methodNamed Bd.named
  have hnm := (name_of_methodNamed Bd.named Bd.method).1
  have X0 : Stand p l e ({ frames := 2, cells := 1, slots := 16, locals := 25 } : Room) s m #[(.ref a)] below meth c s₁ [] 0 0 := Stand.of_body Bd
  have e0 : s₁.heap = h0 := by rw [← hh, Bd.state]; rfl
  have N0 := Fr.nil Z.heap.size
  show own_G p e below (fun o_ s₂ => ∃ v_ L_, o_ = .returned v_ ∧ Q_si Z a a__VALUES a_OUT a_INP a_TAKE_COMPLETE a_OUT_text a_INP_text a_TAKE_COMPLETE_text a_OUT_text_value a_INP_text_value a_TAKE_COMPLETE_text_value k__VALUES k_OUT_text_value k_INP_text_value k_TAKE_COMPLETE_text_value cs0 h0 v_ s₂.heap L_ ∧ FrameEnd s o_ s₂ L_ ({ frames := 2, cells := 1, slots := 16, locals := 25 } : Room).cells ({ frames := 2, cells := 1, slots := 16, locals := 25 } : Room).slots) (s₁.setTop (entryFrame m #[(.ref a)] 1))
  refine own_go (s₁.setTop (mkF m 0 #[.val (.ref a)] [])) (fun t_ k_ => castTop (own_ef_si m a) k_) ?_
  have w' := w
  obtain ⟨S__VALUES, X__VALUES, S_OUT, X_OUT, S_INP, X_INP, S_TAKE_COMPLETE, X_TAKE_COMPLETE, F_OUT_text, X_OUT_text, F_INP_text, X_INP_text, F_TAKE_COMPLETE_text, X_TAKE_COMPLETE_text, F_OUT_text_value, X_OUT_text_value, F_INP_text_value, X_INP_text_value, F_TAKE_COMPLETE_text_value, X_TAKE_COMPLETE_text_value, F_OUT_text_coder, F_INP_text_coder, F_TAKE_COMPLETE_text_coder, V__VALUES, V_OUT_text_value, V_INP_text_value, V_TAKE_COMPLETE_text_value, S_CS, n_CS⟩ := w'
  refine own_go (s₁.setTop (mkF m 1 #[.val (.ref a)] [(.ref a)])) (fun t_ k_ => XS.aloadN X0.here hx rfl (hb hby own_d_jdk_67_method_1_0) rfl rfl k_) ?_
  refine own_go (s₁.setTop (mkF m 3 #[.val (.ref a)] [(.int (16 : Int32)), (.ref a)])) (fun t_ k_ => XS.bipush X0.here hx rfl (hb hby own_d_jdk_67_method_1_1) k_) ?_
  obtain ⟨_, _, ⟨T1, Lu1, ku1, nu1⟩, -, X1, ⟨Lc1, hQ1, lu1, yu1, zu1⟩, st1⟩ := X0.specialBack hx (y := (⟨"java/lang/AbstractStringBuilder", "<init>", "(I)V"⟩ : MethodName)) rfl hown (mvT hZ (hw _ (List.mem_of_getElem? (i := 10) rfl))) (mvT hZ (hw _ (List.mem_of_getElem? (i := 11) rfl))) (mvT hZ (hw _ (List.mem_of_getElem? (i := 15) rfl))) (by decide) (backOf (W := 0) (rm_ai l Z a0 hw [] (a) (a__VALUES) (a_OUT) (a_INP) (a_TAKE_COMPLETE) (a_OUT_text) (a_INP_text) (a_TAKE_COMPLETE_text) (a_OUT_text_value) (a_INP_text_value) (a_TAKE_COMPLETE_text_value) (k__VALUES) (k_OUT_text_value) (k_INP_text_value) (k_TAKE_COMPLETE_text_value) (cs0) h0 O w Xa Va Ca Na ga) hZ (hw _ (List.mem_of_getElem? (i := 15) rfl)) (hw _ (List.mem_of_getElem? (i := 14) rfl)) (by decide) (by decide)) (g := (mkF m 3 #[.val (.ref a)] [(.int (16 : Int32)), (.ref a)])) rfl (by rw [hml]; rfl) (Steps.refl _) (a := a) (argsL := [(.int (16 : Int32))]) (rest := []) (lenOf own_pd0 rfl) rfl (by show 2 * 0 + _ ≤ _; exact Nat.le_of_eq rfl) (hb hby own_d_jdk_67_method_1_3) (fun _ _ => ⟨rfl, e0, (by decide : 0 + 1 ≤ _), (by decide : 0 + 16 ≤ _)⟩)
  dsimp only [Pt.U, Pt.locs, Pt.cells, Pt.slots] at X1 lu1 yu1 zu1 st1 hQ1
  subst lu1 yu1 zu1
  obtain ⟨b1, kv1, rfl, N1q, K1q, u1_1, u2_1, X1q, F1q, G1q, H1q, A1q⟩ := hQ1
  have N1 := Fr.app N0 N1q
  have O1 := own_extK O K1q (allS ga all0)
  have KK1 : Keep h0 T1.heap [a] := (Keep.refl h0 [a]).trans K1q (allS (Or.inl (List.mem_of_getElem? (i := 0) rfl)) all0)
  refine own_go (T1.setTop (mkF m 6 #[.val (.ref a)] [])) (fun t_ k_ => st1.trans k_) ?_
  obtain ⟨fs, hr, hrun, hended, hW, hsame⟩ := X1.leave (v := none) (fun _ => rfl)
  refine ⟨_, _, X1.returnOut hx Bd.returns (hb hby own_d_jdk_67_method_1_6) hr, hrun, hended, _, _, rfl, ?_, ⟨_, rfl⟩, hW, hsame.mono (by decide) (by decide)⟩
  show Q_si Z a a__VALUES a_OUT a_INP a_TAKE_COMPLETE a_OUT_text a_INP_text a_TAKE_COMPLETE_text a_OUT_text_value a_INP_text_value a_TAKE_COMPLETE_text_value k__VALUES k_OUT_text_value k_INP_text_value k_TAKE_COMPLETE_text_value cs0 h0 _ T1.heap _
  exact ⟨_, _, rfl, N1, KK1, u1_1, u2_1, X1q, F1q, G1q, H1q, A1q⟩
theorem own_pn3 : plainName "com/example/tuplebag/tuplebag/bench/Workload" = true := by first | (simp [plainName, overriddenIn]; done) | decide +kernel
theorem own_ef_va (m : MethodId)  : entryFrame m #[] 0 = mkF m 0 #[] [] := by first | (simp [entryFrame, mkF, argsToLocals, Value.category]; done) | rfl
theorem own_d_prog_9_method_1_0 : decode prog_9_method_1_code 0 = .ok (.getstatic 13, 3) := by decide +kernel
theorem own_d_prog_9_method_1_3 : decode prog_9_method_1_code 3 = .ok (.invokevirtual 17, 3) := by decide +kernel
theorem own_d_prog_9_method_1_6 : decode prog_9_method_1_code 6 = .ok (.checkcast 18, 3) := by decide +kernel
theorem own_d_prog_9_method_1_9 : decode prog_9_method_1_code 9 = .ok (.areturn, 1) := by decide +kernel
def Q_va (Z : State) (a__VALUES : Addr) (a_OUT : Addr) (a_INP : Addr) (a_TAKE_COMPLETE : Addr) (a_OUT_text : Addr) (a_INP_text : Addr) (a_TAKE_COMPLETE_text : Addr) (a_OUT_text_value : Addr) (a_INP_text_value : Addr) (a_TAKE_COMPLETE_text_value : Addr) (k__VALUES : ClassId) (k_OUT_text_value : ClassId) (k_INP_text_value : ClassId) (k_TAKE_COMPLETE_text_value : ClassId) (cs0 : Int32) (h0 : Heap) (v_ : Option Value) (h : Heap) (L_ : List Loc) : Prop := ∃ (r : Addr), v_ = some (.ref r) ∧ Fr Z.heap.size L_ ∧ (Keep h0 h [] ∧ h0.size ≤ r ∧ Arv Z h r k__VALUES (.object "com/example/tuplebag/tuplebag/bench/Workload") 3 [(.ref a_OUT), (.ref a_INP), (.ref a_TAKE_COMPLETE)] .null)
set_option maxRecDepth 65536 in
set_option maxHeartbeats 40000000 in
theorem rm_va (l : Launch) (Z : State) (a0 : Array Value) (hw : ∀ d ∈ tables_1, d.before a0 Z = true) (ws : List Jvm.Cond) (a__VALUES : Addr) (a_OUT : Addr) (a_INP : Addr) (a_TAKE_COMPLETE : Addr) (a_OUT_text : Addr) (a_INP_text : Addr) (a_TAKE_COMPLETE_text : Addr) (a_OUT_text_value : Addr) (a_INP_text_value : Addr) (a_TAKE_COMPLETE_text_value : Addr) (k__VALUES : ClassId) (k_OUT_text_value : ClassId) (k_INP_text_value : ClassId) (k_TAKE_COMPLETE_text_value : ClassId) (cs0 : Int32) (h0 : Heap) (O : Ext Z.heap h0) (w : own_W Z a__VALUES a_OUT a_INP a_TAKE_COMPLETE a_OUT_text a_INP_text a_TAKE_COMPLETE_text a_OUT_text_value a_INP_text_value a_TAKE_COMPLETE_text_value k__VALUES k_OUT_text_value k_INP_text_value k_TAKE_COMPLETE_text_value cs0) :
    MetFree l (⟨"com/example/tuplebag/tuplebag/bench/Workload", "values", "()[Lcom/example/tuplebag/tuplebag/bench/Workload;"⟩ : MethodName) (head1 (Jvm.Cond.code (⟨"com/example/tuplebag/tuplebag/bench/Workload", "values", "()[Lcom/example/tuplebag/tuplebag/bench/Workload;"⟩ : MethodName) prog_9_method_1_code 0 (some (.array (.object "com/example/tuplebag/tuplebag/bench/Workload"))) :: ws) ({ frames := 1, cells := 1, slots := 3, locals := 14 } : Room)) (fun a_ U_ => a_ = #[] ∧ Z.Warmed39 U_.vm ∧ U_.heap = h0) (fun _ _ _ _ _ => True) (fun _ U_ o_ U2_ => ∃ v_ L_, o_ = .returned v_ ∧ Q_va Z a__VALUES a_OUT a_INP a_TAKE_COMPLETE a_OUT_text a_INP_text a_TAKE_COMPLETE_text a_OUT_text_value a_INP_text_value a_TAKE_COMPLETE_text_value k__VALUES k_OUT_text_value k_INP_text_value k_TAKE_COMPLETE_text_value cs0 h0 v_ U2_.heap L_ ∧ FrameEnd U_ o_ U2_ L_ ({ frames := 1, cells := 1, slots := 3, locals := 14 } : Room).cells ({ frames := 1, cells := 1, slots := 3, locals := 14 } : Room).slots) := by
  refine MetFree.of_bodySF (plainFor_of_name own_pn3) hisR ?_
  intro p e s m args below meth c s₁ Bd hml0 hP hK
  obtain ⟨rfl, hZ, hh⟩ := hP
  have hx := Bd.exec
  have hby := Bd.bytes
  have hml : c.maxLocals = 0 := hml0
  have hown : s.vm.findClass "com/example/tuplebag/tuplebag/bench/Workload" = some m.cls := findClass_of_methodNamed Bd.named
  have hnm := (name_of_methodNamed Bd.named Bd.method).1
  have X0 : Stand p l e ({ frames := 1, cells := 1, slots := 3, locals := 14 } : Room) s m #[] below meth c s₁ [] 0 0 := Stand.of_body Bd
  have e0 : s₁.heap = h0 := by rw [← hh, Bd.state]; rfl
  have N0 := Fr.nil Z.heap.size
  show own_G p e below (fun o_ s₂ => ∃ v_ L_, o_ = .returned v_ ∧ Q_va Z a__VALUES a_OUT a_INP a_TAKE_COMPLETE a_OUT_text a_INP_text a_TAKE_COMPLETE_text a_OUT_text_value a_INP_text_value a_TAKE_COMPLETE_text_value k__VALUES k_OUT_text_value k_INP_text_value k_TAKE_COMPLETE_text_value cs0 h0 v_ s₂.heap L_ ∧ FrameEnd s o_ s₂ L_ ({ frames := 1, cells := 1, slots := 3, locals := 14 } : Room).cells ({ frames := 1, cells := 1, slots := 3, locals := 14 } : Room).slots) (s₁.setTop (entryFrame m #[] 0))
  refine own_go (s₁.setTop (mkF m 0 #[] [])) (fun t_ k_ => castTop (own_ef_va m ) k_) ?_
  have w' := w
  obtain ⟨S__VALUES, X__VALUES, S_OUT, X_OUT, S_INP, X_INP, S_TAKE_COMPLETE, X_TAKE_COMPLETE, F_OUT_text, X_OUT_text, F_INP_text, X_INP_text, F_TAKE_COMPLETE_text, X_TAKE_COMPLETE_text, F_OUT_text_value, X_OUT_text_value, F_INP_text_value, X_INP_text_value, F_TAKE_COMPLETE_text_value, X_TAKE_COMPLETE_text_value, F_OUT_text_coder, F_INP_text_coder, F_TAKE_COMPLETE_text_coder, V__VALUES, V_OUT_text_value, V_INP_text_value, V_TAKE_COMPLETE_text_value, S_CS, n_CS⟩ := w'
  obtain ⟨T1, X1, e1, st1⟩ := getS2 X0 hx hZ hown (host := "") (Or.inl (hw _ (List.mem_of_getElem? (i := 29) rfl))) Via.refl e0 (S__VALUES.ext O) (g := (mkF m 0 #[] [])) rfl (hb hby own_d_prog_9_method_1_0)
  refine own_go (T1.setTop (mkF m 3 #[] [(.ref a__VALUES)])) (fun t_ k_ => st1 _ k_) ?_
  obtain ⟨T2, h2, X2, e2, E2, A2, Xa2, st2⟩ := cloneH X1 hx hZ hown (hw _ (List.mem_of_getElem? (i := 31) rfl)) (hw _ (List.mem_of_getElem? (i := 32) rfl)) (hw _ (List.mem_of_getElem? (i := 36) rfl)) (hw _ (List.mem_of_getElem? (i := 34) rfl)) (hw _ (List.mem_of_getElem? (i := 35) rfl)) (hw _ (List.mem_of_getElem? (i := 37) rfl)) e1 (Arv.arh (V__VALUES.ext O)) (X__VALUES.ext O) (g := (mkF m 3 #[] [(.ref a__VALUES)])) rfl (by rw [hml]; rfl) rfl (hb hby own_d_prog_9_method_1_3) (by decide) (W := 0) (cap := 3) (by show 2 * 0 + _ ≤ _; exact Nat.le_of_eq rfl) (by decide) (by decide) (by decide) (by decide)
  obtain ⟨b2, g2⟩ : ∃ z, z = h0.size := ⟨_, rfl⟩
  rw [← g2] at A2 Xa2 st2
  have ge_b2 : Z.heap.size ≤ b2 := Nat.le_trans O.1 (Nat.le_of_eq g2.symm)
  have sz_b2 : h0.size ≤ b2 := Nat.le_trans (Keep.refl h0 []).1 (Nat.le_of_eq g2.symm)
  have K2 : Keep h0 h2 [] := (Keep.refl h0 []).ext E2
  have O2 := own_ext O E2
  have V2 : Arv Z h2 b2 k__VALUES (.object "com/example/tuplebag/tuplebag/bench/Workload") (3 : Int32) [(.ref a_OUT), (.ref a_INP), (.ref a_TAKE_COMPLETE)] .null := A2
  refine own_go (T2.setTop (mkF m 6 #[] [(.ref b2)])) (fun t_ k_ => st2 _ k_) ?_
  obtain ⟨T3, X3, e3, st3⟩ := castY X2 hx hZ hown (hw _ (List.mem_of_getElem? (i := 42) rfl)) e2 (Ins.self Xa2) (g := (mkF m 6 #[] [(.ref b2)])) rfl rfl (hb hby own_d_prog_9_method_1_6)
  refine own_go (T3.setTop (mkF m 9 #[] [(.ref b2)])) (fun t_ k_ => st3 _ k_) ?_
  obtain ⟨fs, hr, hrun, hended, hW, hsame⟩ := X3.leave (v := some (.ref b2)) (fun h => by rw [Bd.returns] at h; cases h)
  refine ⟨_, _, Jvm.RoadKit.retOut X3 hx Bd.returns rfl (Or.inr (Or.inr (Or.inr (Or.inr ⟨rfl, rfl, rfl⟩)))) (hb hby own_d_prog_9_method_1_9) hr, hrun, hended, _, _, rfl, ?_, ⟨_, rfl⟩, hW, hsame.mono (by decide) (by decide)⟩
  show Q_va Z a__VALUES a_OUT a_INP a_TAKE_COMPLETE a_OUT_text a_INP_text a_TAKE_COMPLETE_text a_OUT_text_value a_INP_text_value a_TAKE_COMPLETE_text_value k__VALUES k_OUT_text_value k_INP_text_value k_TAKE_COMPLETE_text_value cs0 h0 _ T3.heap _
  rw [show T3.heap = h2 from e3]
  exact ⟨_, rfl, N0, K2, sz_b2, V2⟩
theorem own_pn4 : plainName "jdk/internal/util/ArraysSupport" = true := by first | (simp [plainName, overriddenIn]; done) | decide +kernel
theorem own_ef_nl (m : MethodId)  : entryFrame m #[(.int (16 : Int32)), (.int (9 : Int32)), (.int (18 : Int32))] 4 = mkF m 0 #[.val (.int (16 : Int32)), .val (.int (9 : Int32)), .val (.int (18 : Int32)), .unset] [] := by first | (simp [entryFrame, mkF, argsToLocals, Value.category]; done) | rfl
theorem own_d_jdk_48_method_27_0 : decode jdk_48_method_27_code 0 = .ok (.iload_n 0, 1) := by decide +kernel
theorem own_d_jdk_48_method_27_1 : decode jdk_48_method_27_code 1 = .ok (.iload_n 1, 1) := by decide +kernel
theorem own_d_jdk_48_method_27_2 : decode jdk_48_method_27_code 2 = .ok (.iload_n 2, 1) := by decide +kernel
theorem own_d_jdk_48_method_27_3 : decode jdk_48_method_27_code 3 = .ok (.invokestatic 194, 3) := by decide +kernel
theorem own_pd1 : parseMethodDescriptor "(II)I" = some ⟨[.int, .int], some .int⟩ := by decide +kernel
theorem own_d_jdk_48_method_27_6 : decode jdk_48_method_27_code 6 = .ok (.iadd, 1) := by decide +kernel
theorem own_d_jdk_48_method_27_7 : decode jdk_48_method_27_code 7 = .ok (.istore_n 3, 1) := by decide +kernel
theorem own_d_jdk_48_method_27_8 : decode jdk_48_method_27_code 8 = .ok (.iconst 0, 1) := by decide +kernel
theorem own_d_jdk_48_method_27_9 : decode jdk_48_method_27_code 9 = .ok (.iload_n 3, 1) := by decide +kernel
theorem own_d_jdk_48_method_27_10 : decode jdk_48_method_27_code 10 = .ok (.if_icmp .ge 11, 3) := by decide +kernel
theorem own_d_jdk_48_method_27_13 : decode jdk_48_method_27_code 13 = .ok (.iload_n 3, 1) := by decide +kernel
theorem own_d_jdk_48_method_27_14 : decode jdk_48_method_27_code 14 = .ok (.ldc 200, 2) := by decide +kernel
theorem own_d_jdk_48_method_27_16 : decode jdk_48_method_27_code 16 = .ok (.if_icmp .gt 5, 3) := by decide +kernel
theorem own_d_jdk_48_method_27_19 : decode jdk_48_method_27_code 19 = .ok (.iload_n 3, 1) := by decide +kernel
theorem own_d_jdk_48_method_27_20 : decode jdk_48_method_27_code 20 = .ok (.ireturn, 1) := by decide +kernel
def Q_nl (Z : State)  (h0 : Heap) (v_ : Option Value) (h : Heap) (L_ : List Loc) : Prop := v_ = some (.int 34) ∧ Fr Z.heap.size L_ ∧ (h = h0)
set_option maxRecDepth 65536 in
set_option maxHeartbeats 40000000 in
theorem rm_nl (l : Launch) (Z : State) (a0 : Array Value) (hw : ∀ d ∈ tables_1, d.before a0 Z = true) (ws : List Jvm.Cond)  (h0 : Heap) (O : Ext Z.heap h0) :
    MetFree l (⟨"jdk/internal/util/ArraysSupport", "newLength", "(III)I"⟩ : MethodName) (head1 (Jvm.Cond.code (⟨"jdk/internal/util/ArraysSupport", "newLength", "(III)I"⟩ : MethodName) jdk_48_method_27_code 4 (some .int) :: ws) ({ frames := 1, cells := 0, slots := 0, locals := 14 } : Room)) (fun a_ U_ => a_ = #[(.int (16 : Int32)), (.int (9 : Int32)), (.int (18 : Int32))] ∧ Z.Warmed39 U_.vm ∧ U_.heap = h0) (fun _ _ _ _ _ => True) (fun _ U_ o_ U2_ => ∃ v_ L_, o_ = .returned v_ ∧ Q_nl Z  h0 v_ U2_.heap L_ ∧ FrameEnd U_ o_ U2_ L_ ({ frames := 1, cells := 0, slots := 0, locals := 14 } : Room).cells ({ frames := 1, cells := 0, slots := 0, locals := 14 } : Room).slots) := by
  refine MetFree.of_bodySF (plainFor_of_name own_pn4) hisR ?_
  intro p e s m args below meth c s₁ Bd hml0 hP hK
  obtain ⟨rfl, hZ, hh⟩ := hP
  have hx := Bd.exec
  have hby := Bd.bytes
  have hml : c.maxLocals = 4 := hml0
  have hown : s.vm.findClass "jdk/internal/util/ArraysSupport" = some m.cls := findClass_of_methodNamed Bd.named
  have hnm := (name_of_methodNamed Bd.named Bd.method).1
  have X0 : Stand p l e ({ frames := 1, cells := 0, slots := 0, locals := 14 } : Room) s m #[(.int (16 : Int32)), (.int (9 : Int32)), (.int (18 : Int32))] below meth c s₁ [] 0 0 := Stand.of_body Bd
  have e0 : s₁.heap = h0 := by rw [← hh, Bd.state]; rfl
  have N0 := Fr.nil Z.heap.size
  show own_G p e below (fun o_ s₂ => ∃ v_ L_, o_ = .returned v_ ∧ Q_nl Z  h0 v_ s₂.heap L_ ∧ FrameEnd s o_ s₂ L_ ({ frames := 1, cells := 0, slots := 0, locals := 14 } : Room).cells ({ frames := 1, cells := 0, slots := 0, locals := 14 } : Room).slots) (s₁.setTop (entryFrame m #[(.int (16 : Int32)), (.int (9 : Int32)), (.int (18 : Int32))] 4))
  refine own_go (s₁.setTop (mkF m 0 #[.val (.int (16 : Int32)), .val (.int (9 : Int32)), .val (.int (18 : Int32)), .unset] [])) (fun t_ k_ => castTop (own_ef_nl m ) k_) ?_
  refine own_go (s₁.setTop (mkF m 1 #[.val (.int (16 : Int32)), .val (.int (9 : Int32)), .val (.int (18 : Int32)), .unset] [(.int (16 : Int32))])) (fun t_ k_ => XS.iloadN X0.here hx rfl (hb hby own_d_jdk_48_method_27_0) rfl k_) ?_
  refine own_go (s₁.setTop (mkF m 2 #[.val (.int (16 : Int32)), .val (.int (9 : Int32)), .val (.int (18 : Int32)), .unset] [(.int (9 : Int32)), (.int (16 : Int32))])) (fun t_ k_ => XS.iloadN X0.here hx rfl (hb hby own_d_jdk_48_method_27_1) rfl k_) ?_
  refine own_go (s₁.setTop (mkF m 3 #[.val (.int (16 : Int32)), .val (.int (9 : Int32)), .val (.int (18 : Int32)), .unset] [(.int (18 : Int32)), (.int (9 : Int32)), (.int (16 : Int32))])) (fun t_ k_ => XS.iloadN X0.here hx rfl (hb hby own_d_jdk_48_method_27_2) rfl k_) ?_
  obtain ⟨_, _, ⟨T1, Lu1, ku1, nu1⟩, -, X1, ⟨Lc1, hQ1, lu1, yu1, zu1⟩, st1⟩ := Jvm.LawKit.callS X0 hx (y := (⟨"java/lang/Math", "max", "(II)I"⟩ : MethodName)) hown (mvT hZ (hw _ (List.mem_of_getElem? (i := 112) rfl))) (mvT hZ (hw _ (List.mem_of_getElem? (i := 113) rfl))) (mvT hZ (hw _ (List.mem_of_getElem? (i := 114) rfl))) (mvT hZ (hw _ (List.mem_of_getElem? (i := 115) rfl))) (by decide) (backOf (W := 1) (rm_mx l Z a0 hw [] ((9 : Int32)) ((18 : Int32)) h0 O ) hZ (hw _ (List.mem_of_getElem? (i := 115) rfl)) (hw _ (List.mem_of_getElem? (i := 114) rfl)) (by decide) (by decide)) (g := (mkF m 3 #[.val (.int (16 : Int32)), .val (.int (9 : Int32)), .val (.int (18 : Int32)), .unset] [(.int (18 : Int32)), (.int (9 : Int32)), (.int (16 : Int32))])) rfl (by rw [hml]; rfl) (argsL := [(.int (9 : Int32)), (.int (18 : Int32))]) (rest := [(.int (16 : Int32))]) (lenOf own_pd1 rfl) rfl (by show 2 * 0 + _ ≤ _; exact Nat.le_of_eq rfl) (hb hby own_d_jdk_48_method_27_3) (fun _ _ => ⟨rfl, e0, (by decide : 0 + 0 ≤ _), (by decide : 0 + 0 ≤ _)⟩)
  dsimp only [Pt.U, Pt.locs, Pt.cells, Pt.slots] at X1 lu1 yu1 zu1 st1 hQ1
  subst lu1 yu1 zu1
  obtain ⟨rfl, N1q, e1⟩ := hQ1
  have N1 := Fr.app N0 N1q
  rw [show own_max (9 : Int32) (18 : Int32) = (18 : Int32) from by decide] at st1
  refine own_go (T1.setTop (mkF m 6 #[.val (.int (16 : Int32)), .val (.int (9 : Int32)), .val (.int (18 : Int32)), .unset] [(.int (18 : Int32)), (.int (16 : Int32))])) (fun t_ k_ => st1 _ k_) ?_
  refine own_go (T1.setTop (mkF m 7 #[.val (.int (16 : Int32)), .val (.int (9 : Int32)), .val (.int (18 : Int32)), .unset] [(.int ((16 : Int32) + (18 : Int32)))])) (fun t_ k_ => XS.iadd X1.here hx rfl (hb hby own_d_jdk_48_method_27_6) rfl k_) ?_
  rw [show ((16 : Int32) + (18 : Int32)) = (34 : Int32) from by decide]
  refine own_go (T1.setTop (mkF m 8 #[.val (.int (16 : Int32)), .val (.int (9 : Int32)), .val (.int (18 : Int32)), .val (.int (34 : Int32))] [])) (fun t_ k_ => XS.istoreN X1.here hx rfl (hb hby own_d_jdk_48_method_27_7) rfl (l' := #[.val (.int (16 : Int32)), .val (.int (9 : Int32)), .val (.int (18 : Int32)), .val (.int (34 : Int32))]) rfl k_) ?_
  refine own_go (T1.setTop (mkF m 9 #[.val (.int (16 : Int32)), .val (.int (9 : Int32)), .val (.int (18 : Int32)), .val (.int (34 : Int32))] [(.int (0 : Int32))])) (fun t_ k_ => XS.iconst X1.here hx rfl (hb hby own_d_jdk_48_method_27_8) k_) ?_
  refine own_go (T1.setTop (mkF m 10 #[.val (.int (16 : Int32)), .val (.int (9 : Int32)), .val (.int (18 : Int32)), .val (.int (34 : Int32))] [(.int (34 : Int32)), (.int (0 : Int32))])) (fun t_ k_ => XS.iloadN X1.here hx rfl (hb hby own_d_jdk_48_method_27_9) rfl k_) ?_
  refine own_go (T1.setTop (mkF m 13 #[.val (.int (16 : Int32)), .val (.int (9 : Int32)), .val (.int (18 : Int32)), .val (.int (34 : Int32))] [])) (fun t_ k_ => XS.icmpNo X1.here hx rfl (hb hby own_d_jdk_48_method_27_10) rfl (tlt (by decide : (0 : Int32) < (34 : Int32))).2.1 k_) ?_
  refine own_go (T1.setTop (mkF m 14 #[.val (.int (16 : Int32)), .val (.int (9 : Int32)), .val (.int (18 : Int32)), .val (.int (34 : Int32))] [(.int (34 : Int32))])) (fun t_ k_ => XS.iloadN X1.here hx rfl (hb hby own_d_jdk_48_method_27_13) rfl k_) ?_
  refine own_go (T1.setTop (mkF m 16 #[.val (.int (16 : Int32)), .val (.int (9 : Int32)), .val (.int (18 : Int32)), .val (.int (34 : Int32))] [(.int (2147483639 : Int32)), (.int (34 : Int32))])) (fun t_ k_ => X1.ldcInt hx hown (mvT hZ (hw _ (List.mem_of_getElem? (i := 116) rfl))) (g := (mkF m 14 #[.val (.int (16 : Int32)), .val (.int (9 : Int32)), .val (.int (18 : Int32)), .val (.int (34 : Int32))] [(.int (34 : Int32))])) rfl (hb hby own_d_jdk_48_method_27_14) _ k_) ?_
  refine own_go (T1.setTop (mkF m 19 #[.val (.int (16 : Int32)), .val (.int (9 : Int32)), .val (.int (18 : Int32)), .val (.int (34 : Int32))] [])) (fun t_ k_ => XS.icmpNo X1.here hx rfl (hb hby own_d_jdk_48_method_27_16) rfl (flt (by decide : ¬ ((2147483639 : Int32) < (34 : Int32)))).2.2.1 k_) ?_
  refine own_go (T1.setTop (mkF m 20 #[.val (.int (16 : Int32)), .val (.int (9 : Int32)), .val (.int (18 : Int32)), .val (.int (34 : Int32))] [(.int (34 : Int32))])) (fun t_ k_ => XS.iloadN X1.here hx rfl (hb hby own_d_jdk_48_method_27_19) rfl k_) ?_
  obtain ⟨fs, hr, hrun, hended, hW, hsame⟩ := X1.leave (v := some (.int (34 : Int32))) (fun h => by rw [Bd.returns] at h; cases h)
  refine ⟨_, _, retI X1 hx Bd.returns (hb hby own_d_jdk_48_method_27_20) hr, hrun, hended, _, _, rfl, ?_, ⟨_, rfl⟩, hW, hsame.mono (by decide) (by decide)⟩
  show Q_nl Z  h0 _ T1.heap _
  exact ⟨rfl, N1, e1⟩
theorem own_ef_nc (m : MethodId) (a : Addr) : entryFrame m #[(.ref a), (.int (25 : Int32))] 6 = mkF m 0 #[.val (.ref a), .val (.int (25 : Int32)), .unset, .unset, .unset, .unset] [] := by first | (simp [entryFrame, mkF, argsToLocals, Value.category]; done) | rfl
theorem own_d_jdk_68_method_10_0 : decode jdk_68_method_10_code 0 = .ok (.aload_n 0, 1) := by decide +kernel
theorem own_d_jdk_68_method_10_1 : decode jdk_68_method_10_code 1 = .ok (.getfield 15, 3) := by decide +kernel
theorem own_d_jdk_68_method_10_4 : decode jdk_68_method_10_code 4 = .ok (.arraylength, 1) := by decide +kernel
theorem own_d_jdk_68_method_10_5 : decode jdk_68_method_10_code 5 = .ok (.istore_n 2, 1) := by decide +kernel
theorem own_d_jdk_68_method_10_6 : decode jdk_68_method_10_code 6 = .ok (.iload_n 1, 1) := by decide +kernel
theorem own_d_jdk_68_method_10_7 : decode jdk_68_method_10_code 7 = .ok (.aload_n 0, 1) := by decide +kernel
theorem own_d_jdk_68_method_10_8 : decode jdk_68_method_10_code 8 = .ok (.getfield 22, 3) := by decide +kernel
theorem own_d_jdk_68_method_10_11 : decode jdk_68_method_10_code 11 = .ok (.ishl, 1) := by decide +kernel
theorem own_d_jdk_68_method_10_12 : decode jdk_68_method_10_code 12 = .ok (.istore_n 3, 1) := by decide +kernel
theorem own_d_jdk_68_method_10_13 : decode jdk_68_method_10_code 13 = .ok (.iload_n 3, 1) := by decide +kernel
theorem own_d_jdk_68_method_10_14 : decode jdk_68_method_10_code 14 = .ok (.iload_n 2, 1) := by decide +kernel
theorem own_d_jdk_68_method_10_15 : decode jdk_68_method_10_code 15 = .ok (.isub, 1) := by decide +kernel
theorem own_d_jdk_68_method_10_16 : decode jdk_68_method_10_code 16 = .ok (.istore 4, 2) := by decide +kernel
theorem own_d_jdk_68_method_10_18 : decode jdk_68_method_10_code 18 = .ok (.iload_n 2, 1) := by decide +kernel
theorem own_d_jdk_68_method_10_19 : decode jdk_68_method_10_code 19 = .ok (.iload 4, 2) := by decide +kernel
theorem own_d_jdk_68_method_10_21 : decode jdk_68_method_10_code 21 = .ok (.iload_n 2, 1) := by decide +kernel
theorem own_d_jdk_68_method_10_22 : decode jdk_68_method_10_code 22 = .ok (.iconst 2, 1) := by decide +kernel
theorem own_d_jdk_68_method_10_23 : decode jdk_68_method_10_code 23 = .ok (.aload_n 0, 1) := by decide +kernel
theorem own_d_jdk_68_method_10_24 : decode jdk_68_method_10_code 24 = .ok (.getfield 22, 3) := by decide +kernel
theorem own_d_jdk_68_method_10_27 : decode jdk_68_method_10_code 27 = .ok (.ishl, 1) := by decide +kernel
theorem own_d_jdk_68_method_10_28 : decode jdk_68_method_10_code 28 = .ok (.iadd, 1) := by decide +kernel
theorem own_d_jdk_68_method_10_29 : decode jdk_68_method_10_code 29 = .ok (.invokestatic 114, 3) := by decide +kernel
theorem own_pd2 : parseMethodDescriptor "(III)I" = some ⟨[.int, .int, .int], some .int⟩ := by decide +kernel
theorem own_d_jdk_68_method_10_32 : decode jdk_68_method_10_code 32 = .ok (.istore 5, 2) := by decide +kernel
theorem own_d_jdk_68_method_10_34 : decode jdk_68_method_10_code 34 = .ok (.iload 5, 2) := by decide +kernel
theorem own_d_jdk_68_method_10_36 : decode jdk_68_method_10_code 36 = .ok (.ldc 39, 2) := by decide +kernel
theorem own_d_jdk_68_method_10_38 : decode jdk_68_method_10_code 38 = .ok (.if_icmp .ne 13, 3) := by decide +kernel
theorem own_d_jdk_68_method_10_51 : decode jdk_68_method_10_code 51 = .ok (.iload 5, 2) := by decide +kernel
theorem own_d_jdk_68_method_10_53 : decode jdk_68_method_10_code 53 = .ok (.aload_n 0, 1) := by decide +kernel
theorem own_d_jdk_68_method_10_54 : decode jdk_68_method_10_code 54 = .ok (.getfield 22, 3) := by decide +kernel
theorem own_d_jdk_68_method_10_57 : decode jdk_68_method_10_code 57 = .ok (.ishr, 1) := by decide +kernel
theorem own_d_jdk_68_method_10_58 : decode jdk_68_method_10_code 58 = .ok (.ireturn, 1) := by decide +kernel
def Q_nc (Z : State) (a : Addr) (b : Addr) (kv : ClassId) (h0 : Heap) (v_ : Option Value) (h : Heap) (L_ : List Loc) : Prop := v_ = some (.int 34) ∧ Fr Z.heap.size L_ ∧ (h = h0)
set_option maxRecDepth 65536 in
set_option maxHeartbeats 40000000 in
theorem rm_nc (l : Launch) (Z : State) (a0 : Array Value) (hw : ∀ d ∈ tables_1, d.before a0 Z = true) (ws : List Jvm.Cond) (a : Addr) (b : Addr) (kv : ClassId) (h0 : Heap) (O : Ext Z.heap h0) (Xa : Exa Z h0 a "java/lang/StringBuilder") (Va : Fld Z h0 a "java/lang/AbstractStringBuilder" "value" "[B" (.ref b)) (Ca : Fld Z h0 a "java/lang/AbstractStringBuilder" "coder" "B" (.int 0)) (Na : Fld Z h0 a "java/lang/AbstractStringBuilder" "count" "I" (.int 12)) (Ab : Arv Z h0 b kv .byte 16 [(.int (111 : Int32)), (.int (117 : Int32)), (.int (116 : Int32)), (.int (44 : Int32)), (.int (32 : Int32)), (.int (105 : Int32)), (.int (110 : Int32)), (.int (112 : Int32)), (.int (32 : Int32)), (.int (111 : Int32)), (.int (114 : Int32)), (.int (32 : Int32))] (.int 0)) (ga : Z.heap.size ≤ a) (gb : Z.heap.size ≤ b) :
    MetFree l (⟨"java/lang/AbstractStringBuilder", "newCapacity", "(I)I"⟩ : MethodName) (head1 (Jvm.Cond.code (⟨"java/lang/AbstractStringBuilder", "newCapacity", "(I)I"⟩ : MethodName) jdk_68_method_10_code 6 (some .int) :: ws) ({ frames := 2, cells := 0, slots := 0, locals := 29 } : Room)) (fun a_ U_ => a_ = #[(.ref a), (.int (25 : Int32))] ∧ Z.Warmed39 U_.vm ∧ U_.heap = h0) (fun _ _ _ _ _ => True) (fun _ U_ o_ U2_ => ∃ v_ L_, o_ = .returned v_ ∧ Q_nc Z a b kv h0 v_ U2_.heap L_ ∧ FrameEnd U_ o_ U2_ L_ ({ frames := 2, cells := 0, slots := 0, locals := 29 } : Room).cells ({ frames := 2, cells := 0, slots := 0, locals := 29 } : Room).slots) := by
  refine MetFree.of_bodySF (plainFor_of_name own_pn1) hisR ?_
  intro p e s m args below meth c s₁ Bd hml0 hP hK
  obtain ⟨rfl, hZ, hh⟩ := hP
  have hx := Bd.exec
  have hby := Bd.bytes
  have hml : c.maxLocals = 6 := hml0
  have hown : s.vm.findClass "java/lang/AbstractStringBuilder" = some m.cls := findClass_of_methodNamed Bd.named
  have hnm := (name_of_methodNamed Bd.named Bd.method).1
  have X0 : Stand p l e ({ frames := 2, cells := 0, slots := 0, locals := 29 } : Room) s m #[(.ref a), (.int (25 : Int32))] below meth c s₁ [] 0 0 := Stand.of_body Bd
  have e0 : s₁.heap = h0 := by rw [← hh, Bd.state]; rfl
  have N0 := Fr.nil Z.heap.size
  show own_G p e below (fun o_ s₂ => ∃ v_ L_, o_ = .returned v_ ∧ Q_nc Z a b kv h0 v_ s₂.heap L_ ∧ FrameEnd s o_ s₂ L_ ({ frames := 2, cells := 0, slots := 0, locals := 29 } : Room).cells ({ frames := 2, cells := 0, slots := 0, locals := 29 } : Room).slots) (s₁.setTop (entryFrame m #[(.ref a), (.int (25 : Int32))] 6))
  refine own_go (s₁.setTop (mkF m 0 #[.val (.ref a), .val (.int (25 : Int32)), .unset, .unset, .unset, .unset] [])) (fun t_ k_ => castTop (own_ef_nc m a) k_) ?_
  refine own_go (s₁.setTop (mkF m 1 #[.val (.ref a), .val (.int (25 : Int32)), .unset, .unset, .unset, .unset] [(.ref a)])) (fun t_ k_ => XS.aloadN X0.here hx rfl (hb hby own_d_jdk_68_method_10_0) rfl rfl k_) ?_
  obtain ⟨T1, X1, e1, st1⟩ := getF X0 hx hZ hown (host := "") (Or.inl (hw _ (List.mem_of_getElem? (i := 22) rfl))) Via.refl e0 Va (g := (mkF m 1 #[.val (.ref a), .val (.int (25 : Int32)), .unset, .unset, .unset, .unset] [(.ref a)])) rfl rfl (hb hby own_d_jdk_68_method_10_1)
  refine own_go (T1.setTop (mkF m 4 #[.val (.ref a), .val (.int (25 : Int32)), .unset, .unset, .unset, .unset] [(.ref b)])) (fun t_ k_ => st1 _ k_) ?_
  obtain ⟨cl2, Ar2, q2, Sz2, Nz2, Hz2, Gz2⟩ := id (Ab)
  refine own_go (T1.setTop (mkF m 5 #[.val (.ref a), .val (.int (25 : Int32)), .unset, .unset, .unset, .unset] [(.int (16 : Int32))])) (fun t_ k_ => X1.arraylength hx (by rw [e1]; exact Ar2.1) (State.isArrayOf_alike hZ.alike Ar2.2.1) (g := (mkF m 4 #[.val (.ref a), .val (.int (25 : Int32)), .unset, .unset, .unset, .unset] [(.ref b)])) rfl rfl (hb hby own_d_jdk_68_method_10_4) _ (by rw [len_of Sz2 Nz2]; exact k_)) ?_
  refine own_go (T1.setTop (mkF m 6 #[.val (.ref a), .val (.int (25 : Int32)), .val (.int (16 : Int32)), .unset, .unset, .unset] [])) (fun t_ k_ => XS.istoreN X1.here hx rfl (hb hby own_d_jdk_68_method_10_5) rfl (l' := #[.val (.ref a), .val (.int (25 : Int32)), .val (.int (16 : Int32)), .unset, .unset, .unset]) rfl k_) ?_
  refine own_go (T1.setTop (mkF m 7 #[.val (.ref a), .val (.int (25 : Int32)), .val (.int (16 : Int32)), .unset, .unset, .unset] [(.int (25 : Int32))])) (fun t_ k_ => XS.iloadN X1.here hx rfl (hb hby own_d_jdk_68_method_10_6) rfl k_) ?_
  refine own_go (T1.setTop (mkF m 8 #[.val (.ref a), .val (.int (25 : Int32)), .val (.int (16 : Int32)), .unset, .unset, .unset] [(.ref a), (.int (25 : Int32))])) (fun t_ k_ => XS.aloadN X1.here hx rfl (hb hby own_d_jdk_68_method_10_7) rfl rfl k_) ?_
  obtain ⟨T3, X3, e3, st3⟩ := getF X1 hx hZ hown (host := "") (Or.inl (hw _ (List.mem_of_getElem? (i := 24) rfl))) Via.refl e1 Ca (g := (mkF m 8 #[.val (.ref a), .val (.int (25 : Int32)), .val (.int (16 : Int32)), .unset, .unset, .unset] [(.ref a), (.int (25 : Int32))])) rfl rfl (hb hby own_d_jdk_68_method_10_8)
  refine own_go (T3.setTop (mkF m 11 #[.val (.ref a), .val (.int (25 : Int32)), .val (.int (16 : Int32)), .unset, .unset, .unset] [(.int (0 : Int32)), (.int (25 : Int32))])) (fun t_ k_ => st3 _ k_) ?_
  refine own_go (T3.setTop (mkF m 12 #[.val (.ref a), .val (.int (25 : Int32)), .val (.int (16 : Int32)), .unset, .unset, .unset] [(.int ((25 : Int32) <<< ((0 : Int32) &&& 31)))])) (fun t_ k_ => XS.ishl X3.here hx rfl (hb hby own_d_jdk_68_method_10_11) rfl k_) ?_
  rw [show ((25 : Int32) <<< ((0 : Int32) &&& 31)) = (25 : Int32) from by decide]
  refine own_go (T3.setTop (mkF m 13 #[.val (.ref a), .val (.int (25 : Int32)), .val (.int (16 : Int32)), .val (.int (25 : Int32)), .unset, .unset] [])) (fun t_ k_ => XS.istoreN X3.here hx rfl (hb hby own_d_jdk_68_method_10_12) rfl (l' := #[.val (.ref a), .val (.int (25 : Int32)), .val (.int (16 : Int32)), .val (.int (25 : Int32)), .unset, .unset]) rfl k_) ?_
  refine own_go (T3.setTop (mkF m 14 #[.val (.ref a), .val (.int (25 : Int32)), .val (.int (16 : Int32)), .val (.int (25 : Int32)), .unset, .unset] [(.int (25 : Int32))])) (fun t_ k_ => XS.iloadN X3.here hx rfl (hb hby own_d_jdk_68_method_10_13) rfl k_) ?_
  refine own_go (T3.setTop (mkF m 15 #[.val (.ref a), .val (.int (25 : Int32)), .val (.int (16 : Int32)), .val (.int (25 : Int32)), .unset, .unset] [(.int (16 : Int32)), (.int (25 : Int32))])) (fun t_ k_ => XS.iloadN X3.here hx rfl (hb hby own_d_jdk_68_method_10_14) rfl k_) ?_
  refine own_go (T3.setTop (mkF m 16 #[.val (.ref a), .val (.int (25 : Int32)), .val (.int (16 : Int32)), .val (.int (25 : Int32)), .unset, .unset] [(.int ((25 : Int32) - (16 : Int32)))])) (fun t_ k_ => XS.isub X3.here hx rfl (hb hby own_d_jdk_68_method_10_15) rfl k_) ?_
  rw [show ((25 : Int32) - (16 : Int32)) = (9 : Int32) from by decide]
  refine own_go (T3.setTop (mkF m 18 #[.val (.ref a), .val (.int (25 : Int32)), .val (.int (16 : Int32)), .val (.int (25 : Int32)), .val (.int (9 : Int32)), .unset] [])) (fun t_ k_ => XS.istore X3.here hx rfl (hb hby own_d_jdk_68_method_10_16) rfl (l' := #[.val (.ref a), .val (.int (25 : Int32)), .val (.int (16 : Int32)), .val (.int (25 : Int32)), .val (.int (9 : Int32)), .unset]) rfl k_) ?_
  refine own_go (T3.setTop (mkF m 19 #[.val (.ref a), .val (.int (25 : Int32)), .val (.int (16 : Int32)), .val (.int (25 : Int32)), .val (.int (9 : Int32)), .unset] [(.int (16 : Int32))])) (fun t_ k_ => XS.iloadN X3.here hx rfl (hb hby own_d_jdk_68_method_10_18) rfl k_) ?_
  refine own_go (T3.setTop (mkF m 21 #[.val (.ref a), .val (.int (25 : Int32)), .val (.int (16 : Int32)), .val (.int (25 : Int32)), .val (.int (9 : Int32)), .unset] [(.int (9 : Int32)), (.int (16 : Int32))])) (fun t_ k_ => XS.iload X3.here hx rfl (hb hby own_d_jdk_68_method_10_19) rfl k_) ?_
  refine own_go (T3.setTop (mkF m 22 #[.val (.ref a), .val (.int (25 : Int32)), .val (.int (16 : Int32)), .val (.int (25 : Int32)), .val (.int (9 : Int32)), .unset] [(.int (16 : Int32)), (.int (9 : Int32)), (.int (16 : Int32))])) (fun t_ k_ => XS.iloadN X3.here hx rfl (hb hby own_d_jdk_68_method_10_21) rfl k_) ?_
  refine own_go (T3.setTop (mkF m 23 #[.val (.ref a), .val (.int (25 : Int32)), .val (.int (16 : Int32)), .val (.int (25 : Int32)), .val (.int (9 : Int32)), .unset] [(.int (2 : Int32)), (.int (16 : Int32)), (.int (9 : Int32)), (.int (16 : Int32))])) (fun t_ k_ => XS.iconst X3.here hx rfl (hb hby own_d_jdk_68_method_10_22) k_) ?_
  refine own_go (T3.setTop (mkF m 24 #[.val (.ref a), .val (.int (25 : Int32)), .val (.int (16 : Int32)), .val (.int (25 : Int32)), .val (.int (9 : Int32)), .unset] [(.ref a), (.int (2 : Int32)), (.int (16 : Int32)), (.int (9 : Int32)), (.int (16 : Int32))])) (fun t_ k_ => XS.aloadN X3.here hx rfl (hb hby own_d_jdk_68_method_10_23) rfl rfl k_) ?_
  obtain ⟨T4, X4, e4, st4⟩ := getF X3 hx hZ hown (host := "") (Or.inl (hw _ (List.mem_of_getElem? (i := 24) rfl))) Via.refl e3 Ca (g := (mkF m 24 #[.val (.ref a), .val (.int (25 : Int32)), .val (.int (16 : Int32)), .val (.int (25 : Int32)), .val (.int (9 : Int32)), .unset] [(.ref a), (.int (2 : Int32)), (.int (16 : Int32)), (.int (9 : Int32)), (.int (16 : Int32))])) rfl rfl (hb hby own_d_jdk_68_method_10_24)
  refine own_go (T4.setTop (mkF m 27 #[.val (.ref a), .val (.int (25 : Int32)), .val (.int (16 : Int32)), .val (.int (25 : Int32)), .val (.int (9 : Int32)), .unset] [(.int (0 : Int32)), (.int (2 : Int32)), (.int (16 : Int32)), (.int (9 : Int32)), (.int (16 : Int32))])) (fun t_ k_ => st4 _ k_) ?_
  refine own_go (T4.setTop (mkF m 28 #[.val (.ref a), .val (.int (25 : Int32)), .val (.int (16 : Int32)), .val (.int (25 : Int32)), .val (.int (9 : Int32)), .unset] [(.int ((2 : Int32) <<< ((0 : Int32) &&& 31))), (.int (16 : Int32)), (.int (9 : Int32)), (.int (16 : Int32))])) (fun t_ k_ => XS.ishl X4.here hx rfl (hb hby own_d_jdk_68_method_10_27) rfl k_) ?_
  rw [show ((2 : Int32) <<< ((0 : Int32) &&& 31)) = (2 : Int32) from by decide]
  refine own_go (T4.setTop (mkF m 29 #[.val (.ref a), .val (.int (25 : Int32)), .val (.int (16 : Int32)), .val (.int (25 : Int32)), .val (.int (9 : Int32)), .unset] [(.int ((16 : Int32) + (2 : Int32))), (.int (9 : Int32)), (.int (16 : Int32))])) (fun t_ k_ => XS.iadd X4.here hx rfl (hb hby own_d_jdk_68_method_10_28) rfl k_) ?_
  rw [show ((16 : Int32) + (2 : Int32)) = (18 : Int32) from by decide]
  obtain ⟨_, _, ⟨T5, Lu5, ku5, nu5⟩, -, X5, ⟨Lc5, hQ5, lu5, yu5, zu5⟩, st5⟩ := Jvm.LawKit.callS X4 hx (y := (⟨"jdk/internal/util/ArraysSupport", "newLength", "(III)I"⟩ : MethodName)) hown (mvT hZ (hw _ (List.mem_of_getElem? (i := 108) rfl))) (mvT hZ (hw _ (List.mem_of_getElem? (i := 109) rfl))) (mvT hZ (hw _ (List.mem_of_getElem? (i := 110) rfl))) (mvT hZ (hw _ (List.mem_of_getElem? (i := 111) rfl))) (by decide) (backOf (W := 0) (rm_nl l Z a0 hw []  h0 O ) hZ (hw _ (List.mem_of_getElem? (i := 111) rfl)) (hw _ (List.mem_of_getElem? (i := 110) rfl)) (by decide) (by decide)) (g := (mkF m 29 #[.val (.ref a), .val (.int (25 : Int32)), .val (.int (16 : Int32)), .val (.int (25 : Int32)), .val (.int (9 : Int32)), .unset] [(.int (18 : Int32)), (.int (9 : Int32)), (.int (16 : Int32))])) rfl (by rw [hml]; rfl) (argsL := [(.int (16 : Int32)), (.int (9 : Int32)), (.int (18 : Int32))]) (rest := []) (lenOf own_pd2 rfl) rfl (by show 2 * 0 + _ ≤ _; exact Nat.le_of_eq rfl) (hb hby own_d_jdk_68_method_10_29) (fun _ _ => ⟨rfl, e4, (by decide : 0 + 0 ≤ _), (by decide : 0 + 0 ≤ _)⟩)
  dsimp only [Pt.U, Pt.locs, Pt.cells, Pt.slots] at X5 lu5 yu5 zu5 st5 hQ5
  subst lu5 yu5 zu5
  obtain ⟨rfl, N5q, e5⟩ := hQ5
  have N5 := Fr.app N0 N5q
  refine own_go (T5.setTop (mkF m 32 #[.val (.ref a), .val (.int (25 : Int32)), .val (.int (16 : Int32)), .val (.int (25 : Int32)), .val (.int (9 : Int32)), .unset] [(.int (34 : Int32))])) (fun t_ k_ => st5 _ k_) ?_
  refine own_go (T5.setTop (mkF m 34 #[.val (.ref a), .val (.int (25 : Int32)), .val (.int (16 : Int32)), .val (.int (25 : Int32)), .val (.int (9 : Int32)), .val (.int (34 : Int32))] [])) (fun t_ k_ => XS.istore X5.here hx rfl (hb hby own_d_jdk_68_method_10_32) rfl (l' := #[.val (.ref a), .val (.int (25 : Int32)), .val (.int (16 : Int32)), .val (.int (25 : Int32)), .val (.int (9 : Int32)), .val (.int (34 : Int32))]) rfl k_) ?_
  refine own_go (T5.setTop (mkF m 36 #[.val (.ref a), .val (.int (25 : Int32)), .val (.int (16 : Int32)), .val (.int (25 : Int32)), .val (.int (9 : Int32)), .val (.int (34 : Int32))] [(.int (34 : Int32))])) (fun t_ k_ => XS.iload X5.here hx rfl (hb hby own_d_jdk_68_method_10_34) rfl k_) ?_
  refine own_go (T5.setTop (mkF m 38 #[.val (.ref a), .val (.int (25 : Int32)), .val (.int (16 : Int32)), .val (.int (25 : Int32)), .val (.int (9 : Int32)), .val (.int (34 : Int32))] [(.int (2147483647 : Int32)), (.int (34 : Int32))])) (fun t_ k_ => X5.ldcInt hx hown (mvT hZ (hw _ (List.mem_of_getElem? (i := 117) rfl))) (g := (mkF m 36 #[.val (.ref a), .val (.int (25 : Int32)), .val (.int (16 : Int32)), .val (.int (25 : Int32)), .val (.int (9 : Int32)), .val (.int (34 : Int32))] [(.int (34 : Int32))])) rfl (hb hby own_d_jdk_68_method_10_36) _ k_) ?_
  refine own_go (T5.setTop (mkF m 51 #[.val (.ref a), .val (.int (25 : Int32)), .val (.int (16 : Int32)), .val (.int (25 : Int32)), .val (.int (9 : Int32)), .val (.int (34 : Int32))] [])) (fun t_ k_ => XS.icmpYes X5.here hx rfl (pc0 := 38) (pc' := 51) rfl (hb hby own_d_jdk_68_method_10_38) rfl (feq (by decide : ¬ ((34 : Int32) = (2147483647 : Int32)))).2 (by decide) (by decide) k_) ?_
  refine own_go (T5.setTop (mkF m 53 #[.val (.ref a), .val (.int (25 : Int32)), .val (.int (16 : Int32)), .val (.int (25 : Int32)), .val (.int (9 : Int32)), .val (.int (34 : Int32))] [(.int (34 : Int32))])) (fun t_ k_ => XS.iload X5.here hx rfl (hb hby own_d_jdk_68_method_10_51) rfl k_) ?_
  refine own_go (T5.setTop (mkF m 54 #[.val (.ref a), .val (.int (25 : Int32)), .val (.int (16 : Int32)), .val (.int (25 : Int32)), .val (.int (9 : Int32)), .val (.int (34 : Int32))] [(.ref a), (.int (34 : Int32))])) (fun t_ k_ => XS.aloadN X5.here hx rfl (hb hby own_d_jdk_68_method_10_53) rfl rfl k_) ?_
  obtain ⟨T6, X6, e6, st6⟩ := getF X5 hx hZ hown (host := "") (Or.inl (hw _ (List.mem_of_getElem? (i := 24) rfl))) Via.refl e5 Ca (g := (mkF m 54 #[.val (.ref a), .val (.int (25 : Int32)), .val (.int (16 : Int32)), .val (.int (25 : Int32)), .val (.int (9 : Int32)), .val (.int (34 : Int32))] [(.ref a), (.int (34 : Int32))])) rfl rfl (hb hby own_d_jdk_68_method_10_54)
  refine own_go (T6.setTop (mkF m 57 #[.val (.ref a), .val (.int (25 : Int32)), .val (.int (16 : Int32)), .val (.int (25 : Int32)), .val (.int (9 : Int32)), .val (.int (34 : Int32))] [(.int (0 : Int32)), (.int (34 : Int32))])) (fun t_ k_ => st6 _ k_) ?_
  refine own_go (T6.setTop (mkF m 58 #[.val (.ref a), .val (.int (25 : Int32)), .val (.int (16 : Int32)), .val (.int (25 : Int32)), .val (.int (9 : Int32)), .val (.int (34 : Int32))] [(.int ((34 : Int32) >>> ((0 : Int32) &&& 31)))])) (fun t_ k_ => XS.ishr X6.here hx rfl (hb hby own_d_jdk_68_method_10_57) rfl k_) ?_
  rw [show ((34 : Int32) >>> ((0 : Int32) &&& 31)) = (34 : Int32) from by decide]
  obtain ⟨fs, hr, hrun, hended, hW, hsame⟩ := X6.leave (v := some (.int (34 : Int32))) (fun h => by rw [Bd.returns] at h; cases h)
  refine ⟨_, _, retI X6 hx Bd.returns (hb hby own_d_jdk_68_method_10_58) hr, hrun, hended, _, _, rfl, ?_, ⟨_, rfl⟩, hW, hsame.mono (by decide) (by decide)⟩
  show Q_nc Z a b kv h0 _ T6.heap _
  exact ⟨rfl, N5, e6⟩
theorem own_pn5 : plainName "java/util/Arrays" = true := by first | (simp [plainName, overriddenIn]; done) | decide +kernel
theorem own_ef_cp (m : MethodId) (b : Addr) : entryFrame m #[(.ref b), (.int (34 : Int32))] 3 = mkF m 0 #[.val (.ref b), .val (.int (34 : Int32)), .unset] [] := by first | (simp [entryFrame, mkF, argsToLocals, Value.category]; done) | rfl
theorem own_d_jdk_65_method_121_0 : decode jdk_65_method_121_code 0 = .ok (.iload_n 1, 1) := by decide +kernel
theorem own_d_jdk_65_method_121_1 : decode jdk_65_method_121_code 1 = .ok (.aload_n 0, 1) := by decide +kernel
theorem own_d_jdk_65_method_121_2 : decode jdk_65_method_121_code 2 = .ok (.arraylength, 1) := by decide +kernel
theorem own_d_jdk_65_method_121_3 : decode jdk_65_method_121_code 3 = .ok (.if_icmp .ne 11, 3) := by decide +kernel
theorem own_d_jdk_65_method_121_14 : decode jdk_65_method_121_code 14 = .ok (.iload_n 1, 1) := by decide +kernel
theorem own_d_jdk_65_method_121_15 : decode jdk_65_method_121_code 15 = .ok (.newarray .byte, 2) := by decide +kernel
theorem own_d_jdk_65_method_121_17 : decode jdk_65_method_121_code 17 = .ok (.astore_n 2, 1) := by decide +kernel
theorem own_d_jdk_65_method_121_18 : decode jdk_65_method_121_code 18 = .ok (.aload_n 0, 1) := by decide +kernel
theorem own_d_jdk_65_method_121_19 : decode jdk_65_method_121_code 19 = .ok (.iconst 0, 1) := by decide +kernel
theorem own_d_jdk_65_method_121_20 : decode jdk_65_method_121_code 20 = .ok (.aload_n 2, 1) := by decide +kernel
theorem own_d_jdk_65_method_121_21 : decode jdk_65_method_121_code 21 = .ok (.iconst 0, 1) := by decide +kernel
theorem own_d_jdk_65_method_121_22 : decode jdk_65_method_121_code 22 = .ok (.aload_n 0, 1) := by decide +kernel
theorem own_d_jdk_65_method_121_23 : decode jdk_65_method_121_code 23 = .ok (.arraylength, 1) := by decide +kernel
theorem own_d_jdk_65_method_121_24 : decode jdk_65_method_121_code 24 = .ok (.iload_n 1, 1) := by decide +kernel
theorem own_d_jdk_65_method_121_25 : decode jdk_65_method_121_code 25 = .ok (.invokestatic 304, 3) := by decide +kernel
theorem own_d_jdk_65_method_121_28 : decode jdk_65_method_121_code 28 = .ok (.invokestatic 150, 3) := by decide +kernel
theorem own_d_jdk_65_method_121_31 : decode jdk_65_method_121_code 31 = .ok (.aload_n 2, 1) := by decide +kernel
theorem own_d_jdk_65_method_121_32 : decode jdk_65_method_121_code 32 = .ok (.areturn, 1) := by decide +kernel
def Q_cp (Z : State) (b : Addr) (kv : ClassId) (h0 : Heap) (v_ : Option Value) (h : Heap) (L_ : List Loc) : Prop := ∃ (r : Addr), ∃ (kr : ClassId), v_ = some (.ref r) ∧ Fr Z.heap.size L_ ∧ (Keep h0 h [] ∧ Z.heap.size ≤ r ∧ h0.size ≤ r ∧ Arv Z h r kr .byte 34 [(.int (111 : Int32)), (.int (117 : Int32)), (.int (116 : Int32)), (.int (44 : Int32)), (.int (32 : Int32)), (.int (105 : Int32)), (.int (110 : Int32)), (.int (112 : Int32)), (.int (32 : Int32)), (.int (111 : Int32)), (.int (114 : Int32)), (.int (32 : Int32)), (.int (0 : Int32)), (.int (0 : Int32)), (.int (0 : Int32)), (.int (0 : Int32)), (.int (0 : Int32)), (.int (0 : Int32)), (.int (0 : Int32)), (.int (0 : Int32)), (.int (0 : Int32)), (.int (0 : Int32)), (.int (0 : Int32)), (.int (0 : Int32)), (.int (0 : Int32)), (.int (0 : Int32)), (.int (0 : Int32)), (.int (0 : Int32)), (.int (0 : Int32)), (.int (0 : Int32)), (.int (0 : Int32)), (.int (0 : Int32)), (.int (0 : Int32)), (.int (0 : Int32))] (.int 0))
set_option maxRecDepth 65536 in
set_option maxHeartbeats 40000000 in
theorem rm_cp (l : Launch) (Z : State) (a0 : Array Value) (hw : ∀ d ∈ tables_1, d.before a0 Z = true) (ws : List Jvm.Cond) (b : Addr) (kv : ClassId) (h0 : Heap) (O : Ext Z.heap h0) (Ab : Arv Z h0 b kv .byte 16 [(.int (111 : Int32)), (.int (117 : Int32)), (.int (116 : Int32)), (.int (44 : Int32)), (.int (32 : Int32)), (.int (105 : Int32)), (.int (110 : Int32)), (.int (112 : Int32)), (.int (32 : Int32)), (.int (111 : Int32)), (.int (114 : Int32)), (.int (32 : Int32))] (.int 0)) :
    MetFree l (⟨"java/util/Arrays", "copyOf", "([BI)[B"⟩ : MethodName) (head1 (Jvm.Cond.code (⟨"java/util/Arrays", "copyOf", "([BI)[B"⟩ : MethodName) jdk_65_method_121_code 3 (some (.array .byte)) :: ws) ({ frames := 1, cells := 1, slots := 34, locals := 40 } : Room)) (fun a_ U_ => a_ = #[(.ref b), (.int (34 : Int32))] ∧ Z.Warmed39 U_.vm ∧ U_.heap = h0) (fun _ _ _ _ _ => True) (fun _ U_ o_ U2_ => ∃ v_ L_, o_ = .returned v_ ∧ Q_cp Z b kv h0 v_ U2_.heap L_ ∧ FrameEnd U_ o_ U2_ L_ ({ frames := 1, cells := 1, slots := 34, locals := 40 } : Room).cells ({ frames := 1, cells := 1, slots := 34, locals := 40 } : Room).slots) := by
  refine MetFree.of_bodySF (plainFor_of_name own_pn5) hisR ?_
  intro p e s m args below meth c s₁ Bd hml0 hP hK
  obtain ⟨rfl, hZ, hh⟩ := hP
  have hx := Bd.exec
  have hby := Bd.bytes
  have hml : c.maxLocals = 3 := hml0
  have hown : s.vm.findClass "java/util/Arrays" = some m.cls := findClass_of_methodNamed Bd.named
  have hnm := (name_of_methodNamed Bd.named Bd.method).1
  have X0 : Stand p l e ({ frames := 1, cells := 1, slots := 34, locals := 40 } : Room) s m #[(.ref b), (.int (34 : Int32))] below meth c s₁ [] 0 0 := Stand.of_body Bd
  have e0 : s₁.heap = h0 := by rw [← hh, Bd.state]; rfl
  have N0 := Fr.nil Z.heap.size
  show own_G p e below (fun o_ s₂ => ∃ v_ L_, o_ = .returned v_ ∧ Q_cp Z b kv h0 v_ s₂.heap L_ ∧ FrameEnd s o_ s₂ L_ ({ frames := 1, cells := 1, slots := 34, locals := 40 } : Room).cells ({ frames := 1, cells := 1, slots := 34, locals := 40 } : Room).slots) (s₁.setTop (entryFrame m #[(.ref b), (.int (34 : Int32))] 3))
  refine own_go (s₁.setTop (mkF m 0 #[.val (.ref b), .val (.int (34 : Int32)), .unset] [])) (fun t_ k_ => castTop (own_ef_cp m b) k_) ?_
  refine own_go (s₁.setTop (mkF m 1 #[.val (.ref b), .val (.int (34 : Int32)), .unset] [(.int (34 : Int32))])) (fun t_ k_ => XS.iloadN X0.here hx rfl (hb hby own_d_jdk_65_method_121_0) rfl k_) ?_
  refine own_go (s₁.setTop (mkF m 2 #[.val (.ref b), .val (.int (34 : Int32)), .unset] [(.ref b), (.int (34 : Int32))])) (fun t_ k_ => XS.aloadN X0.here hx rfl (hb hby own_d_jdk_65_method_121_1) rfl rfl k_) ?_
  obtain ⟨cl1, Ar1, q1, Sz1, Nz1, Hz1, Gz1⟩ := id (Ab)
  refine own_go (s₁.setTop (mkF m 3 #[.val (.ref b), .val (.int (34 : Int32)), .unset] [(.int (16 : Int32)), (.int (34 : Int32))])) (fun t_ k_ => X0.arraylength hx (by rw [e0]; exact Ar1.1) (State.isArrayOf_alike hZ.alike Ar1.2.1) (g := (mkF m 2 #[.val (.ref b), .val (.int (34 : Int32)), .unset] [(.ref b), (.int (34 : Int32))])) rfl rfl (hb hby own_d_jdk_65_method_121_2) _ (by rw [len_of Sz1 Nz1]; exact k_)) ?_
  refine own_go (s₁.setTop (mkF m 14 #[.val (.ref b), .val (.int (34 : Int32)), .unset] [])) (fun t_ k_ => XS.icmpYes X0.here hx rfl (pc0 := 3) (pc' := 14) rfl (hb hby own_d_jdk_65_method_121_3) rfl (feq (by decide : ¬ ((34 : Int32) = (16 : Int32)))).2 (by decide) (by decide) k_) ?_
  refine own_go (s₁.setTop (mkF m 15 #[.val (.ref b), .val (.int (34 : Int32)), .unset] [(.int (34 : Int32))])) (fun t_ k_ => XS.iloadN X0.here hx rfl (hb hby own_d_jdk_65_method_121_14) rfl k_) ?_
  obtain ⟨T2, h2, k2, X2, e2, E2, A2, st2⟩ := newP X0 hx hZ (hw _ (List.mem_of_getElem? (i := 21) rfl)) e0 (g := (mkF m 15 #[.val (.ref b), .val (.int (34 : Int32)), .unset] [(.int (34 : Int32))])) rfl (hb hby own_d_jdk_65_method_121_15) rfl (by decide) (cap := 34) (by decide) (by decide) (by decide) (by decide)
  obtain ⟨b2, g2⟩ : ∃ z, z = h0.size := ⟨_, rfl⟩
  rw [← g2] at A2 st2
  have ge_b2 : Z.heap.size ≤ b2 := Nat.le_trans O.1 (Nat.le_of_eq g2.symm)
  have sz_b2 : h0.size ≤ b2 := Nat.le_trans (Keep.refl h0 []).1 (Nat.le_of_eq g2.symm)
  have K2 : Keep h0 h2 [] := (Keep.refl h0 []).ext E2
  have O2 := own_ext O E2
  have V2 : Arv Z h2 b2 k2 .byte (34 : Int32) [(.int (0 : Int32)), (.int (0 : Int32)), (.int (0 : Int32)), (.int (0 : Int32)), (.int (0 : Int32)), (.int (0 : Int32)), (.int (0 : Int32)), (.int (0 : Int32)), (.int (0 : Int32)), (.int (0 : Int32)), (.int (0 : Int32)), (.int (0 : Int32)), (.int (0 : Int32)), (.int (0 : Int32)), (.int (0 : Int32)), (.int (0 : Int32)), (.int (0 : Int32)), (.int (0 : Int32)), (.int (0 : Int32)), (.int (0 : Int32)), (.int (0 : Int32)), (.int (0 : Int32)), (.int (0 : Int32)), (.int (0 : Int32)), (.int (0 : Int32)), (.int (0 : Int32)), (.int (0 : Int32)), (.int (0 : Int32)), (.int (0 : Int32)), (.int (0 : Int32)), (.int (0 : Int32)), (.int (0 : Int32)), (.int (0 : Int32)), (.int (0 : Int32))] (.int (0 : Int32)) := (Arv.new A2 (by decide)).pad (pad_rep [] (.int (0 : Int32)) 34)
  refine own_go (T2.setTop (mkF m 17 #[.val (.ref b), .val (.int (34 : Int32)), .unset] [(.ref b2)])) (fun t_ k_ => st2 _ k_) ?_
  refine own_go (T2.setTop (mkF m 18 #[.val (.ref b), .val (.int (34 : Int32)), .val (.ref b2)] [])) (fun t_ k_ => XS.astoreN X2.here hx rfl (hb hby own_d_jdk_65_method_121_17) rfl rfl (l' := #[.val (.ref b), .val (.int (34 : Int32)), .val (.ref b2)]) rfl k_) ?_
  refine own_go (T2.setTop (mkF m 19 #[.val (.ref b), .val (.int (34 : Int32)), .val (.ref b2)] [(.ref b)])) (fun t_ k_ => XS.aloadN X2.here hx rfl (hb hby own_d_jdk_65_method_121_18) rfl rfl k_) ?_
  refine own_go (T2.setTop (mkF m 20 #[.val (.ref b), .val (.int (34 : Int32)), .val (.ref b2)] [(.int (0 : Int32)), (.ref b)])) (fun t_ k_ => XS.iconst X2.here hx rfl (hb hby own_d_jdk_65_method_121_19) k_) ?_
  refine own_go (T2.setTop (mkF m 21 #[.val (.ref b), .val (.int (34 : Int32)), .val (.ref b2)] [(.ref b2), (.int (0 : Int32)), (.ref b)])) (fun t_ k_ => XS.aloadN X2.here hx rfl (hb hby own_d_jdk_65_method_121_20) rfl rfl k_) ?_
  refine own_go (T2.setTop (mkF m 22 #[.val (.ref b), .val (.int (34 : Int32)), .val (.ref b2)] [(.int (0 : Int32)), (.ref b2), (.int (0 : Int32)), (.ref b)])) (fun t_ k_ => XS.iconst X2.here hx rfl (hb hby own_d_jdk_65_method_121_21) k_) ?_
  refine own_go (T2.setTop (mkF m 23 #[.val (.ref b), .val (.int (34 : Int32)), .val (.ref b2)] [(.ref b), (.int (0 : Int32)), (.ref b2), (.int (0 : Int32)), (.ref b)])) (fun t_ k_ => XS.aloadN X2.here hx rfl (hb hby own_d_jdk_65_method_121_22) rfl rfl k_) ?_
  have Fz4 := (Ab.ext E2)
  obtain ⟨cl3, Ar3, q3, Sz3, Nz3, Hz3, Gz3⟩ := id (Fz4)
  refine own_go (T2.setTop (mkF m 24 #[.val (.ref b), .val (.int (34 : Int32)), .val (.ref b2)] [(.int (16 : Int32)), (.int (0 : Int32)), (.ref b2), (.int (0 : Int32)), (.ref b)])) (fun t_ k_ => X2.arraylength hx (by rw [e2]; exact Ar3.1) (State.isArrayOf_alike hZ.alike Ar3.2.1) (g := (mkF m 23 #[.val (.ref b), .val (.int (34 : Int32)), .val (.ref b2)] [(.ref b), (.int (0 : Int32)), (.ref b2), (.int (0 : Int32)), (.ref b)])) rfl rfl (hb hby own_d_jdk_65_method_121_23) _ (by rw [len_of Sz3 Nz3]; exact k_)) ?_
  refine own_go (T2.setTop (mkF m 25 #[.val (.ref b), .val (.int (34 : Int32)), .val (.ref b2)] [(.int (34 : Int32)), (.int (16 : Int32)), (.int (0 : Int32)), (.ref b2), (.int (0 : Int32)), (.ref b)])) (fun t_ k_ => XS.iloadN X2.here hx rfl (hb hby own_d_jdk_65_method_121_24) rfl k_) ?_
  obtain ⟨_, _, ⟨T5, Lu5, ku5, nu5⟩, -, X5, ⟨Lc5, hQ5, lu5, yu5, zu5⟩, st5⟩ := Jvm.LawKit.callS X2 hx (y := (⟨"java/lang/Math", "min", "(II)I"⟩ : MethodName)) hown (mvT hZ (hw _ (List.mem_of_getElem? (i := 122) rfl))) (mvT hZ (hw _ (List.mem_of_getElem? (i := 123) rfl))) (mvT hZ (hw _ (List.mem_of_getElem? (i := 114) rfl))) (mvT hZ (hw _ (List.mem_of_getElem? (i := 124) rfl))) (by decide) (backOf (W := 4) (rm_mi l Z a0 hw [] ((16 : Int32)) ((34 : Int32)) h2 O2 ) hZ (hw _ (List.mem_of_getElem? (i := 124) rfl)) (hw _ (List.mem_of_getElem? (i := 114) rfl)) (by decide) (by decide)) (g := (mkF m 25 #[.val (.ref b), .val (.int (34 : Int32)), .val (.ref b2)] [(.int (34 : Int32)), (.int (16 : Int32)), (.int (0 : Int32)), (.ref b2), (.int (0 : Int32)), (.ref b)])) rfl (by rw [hml]; rfl) (argsL := [(.int (16 : Int32)), (.int (34 : Int32))]) (rest := [(.int (0 : Int32)), (.ref b2), (.int (0 : Int32)), (.ref b)]) (lenOf own_pd1 rfl) rfl (by show 2 * 0 + _ ≤ _; exact Nat.le_of_eq rfl) (hb hby own_d_jdk_65_method_121_25) (fun _ _ => ⟨rfl, e2, (by decide : 1 + 0 ≤ _), (by decide : 34 + 0 ≤ _)⟩)
  dsimp only [Pt.U, Pt.locs, Pt.cells, Pt.slots] at X5 lu5 yu5 zu5 st5 hQ5
  subst lu5 yu5 zu5
  obtain ⟨rfl, N5q, e5⟩ := hQ5
  have N5 := Fr.app N0 N5q
  rw [show own_min (16 : Int32) (34 : Int32) = (16 : Int32) from by decide] at st5
  refine own_go (T5.setTop (mkF m 28 #[.val (.ref b), .val (.int (34 : Int32)), .val (.ref b2)] [(.int (16 : Int32)), (.int (0 : Int32)), (.ref b2), (.int (0 : Int32)), (.ref b)])) (fun t_ k_ => st5 _ k_) ?_
  obtain ⟨T6, h6, L6, X6, e6, N6, Kc6, A6, st6⟩ := cpA X5 hx hZ hown (hw _ (List.mem_of_getElem? (i := 125) rfl)) (hw _ (List.mem_of_getElem? (i := 97) rfl)) (hw _ (List.mem_of_getElem? (i := 95) rfl)) (hw _ (List.mem_of_getElem? (i := 96) rfl)) e5 (us := [(.int (111 : Int32)), (.int (117 : Int32)), (.int (116 : Int32)), (.int (44 : Int32)), (.int (32 : Int32)), (.int (105 : Int32)), (.int (110 : Int32)), (.int (112 : Int32)), (.int (32 : Int32)), (.int (111 : Int32)), (.int (114 : Int32)), (.int (32 : Int32)), (.int (0 : Int32)), (.int (0 : Int32)), (.int (0 : Int32)), (.int (0 : Int32))]) Fz4 V2 (Or.inl ⟨rfl, rfl⟩) (by decide) (by decide) (by decide) (by decide) (by decide) rfl (Nat.le_of_ble_eq_true rfl) N5 ge_b2 (g := (mkF m 28 #[.val (.ref b), .val (.int (34 : Int32)), .val (.ref b2)] [(.int (16 : Int32)), (.int (0 : Int32)), (.ref b2), (.int (0 : Int32)), (.ref b)])) rfl (by rw [hml]; rfl) rfl (hb hby own_d_jdk_65_method_121_28) (by decide) (W := 0) (by show 2 * 0 + _ ≤ _; exact Nat.le_of_eq rfl) (by decide)
  have V6 : Arv Z h6 b2 k2 .byte (34 : Int32) [(.int (111 : Int32)), (.int (117 : Int32)), (.int (116 : Int32)), (.int (44 : Int32)), (.int (32 : Int32)), (.int (105 : Int32)), (.int (110 : Int32)), (.int (112 : Int32)), (.int (32 : Int32)), (.int (111 : Int32)), (.int (114 : Int32)), (.int (32 : Int32)), (.int (0 : Int32)), (.int (0 : Int32)), (.int (0 : Int32)), (.int (0 : Int32)), (.int (0 : Int32)), (.int (0 : Int32)), (.int (0 : Int32)), (.int (0 : Int32)), (.int (0 : Int32)), (.int (0 : Int32)), (.int (0 : Int32)), (.int (0 : Int32)), (.int (0 : Int32)), (.int (0 : Int32)), (.int (0 : Int32)), (.int (0 : Int32)), (.int (0 : Int32)), (.int (0 : Int32)), (.int (0 : Int32)), (.int (0 : Int32)), (.int (0 : Int32)), (.int (0 : Int32))] (.int (0 : Int32)) := A6
  have O6 := own_extK O2 Kc6 (allS ge_b2 all0)
  have KK6 : Keep h0 h6 [] := K2.trans Kc6 (allS (Or.inr sz_b2) all0)
  refine own_go (T6.setTop (mkF m 31 #[.val (.ref b), .val (.int (34 : Int32)), .val (.ref b2)] [])) (fun t_ k_ => st6 _ k_) ?_
  refine own_go (T6.setTop (mkF m 32 #[.val (.ref b), .val (.int (34 : Int32)), .val (.ref b2)] [(.ref b2)])) (fun t_ k_ => XS.aloadN X6.here hx rfl (hb hby own_d_jdk_65_method_121_31) rfl rfl k_) ?_
  obtain ⟨fs, hr, hrun, hended, hW, hsame⟩ := X6.leave (v := some (.ref b2)) (fun h => by rw [Bd.returns] at h; cases h)
  refine ⟨_, _, Jvm.RoadKit.retOut X6 hx Bd.returns rfl (Or.inr (Or.inr (Or.inr (Or.inr ⟨rfl, rfl, rfl⟩)))) (hb hby own_d_jdk_65_method_121_32) hr, hrun, hended, _, _, rfl, ?_, ⟨_, rfl⟩, hW, hsame.mono (by decide) (by decide)⟩
  show Q_cp Z b kv h0 _ T6.heap _
  rw [show T6.heap = h6 from e6]
  exact ⟨_, _, rfl, N6, KK6, ge_b2, sz_b2, V6⟩
theorem own_ef_en0 (m : MethodId) (a : Addr) : entryFrame m #[(.ref a), (.int (3 : Int32))] 3 = mkF m 0 #[.val (.ref a), .val (.int (3 : Int32)), .unset] [] := by first | (simp [entryFrame, mkF, argsToLocals, Value.category]; done) | rfl
theorem own_d_jdk_68_method_9_0 : decode jdk_68_method_9_code 0 = .ok (.aload_n 0, 1) := by decide +kernel
theorem own_d_jdk_68_method_9_1 : decode jdk_68_method_9_code 1 = .ok (.getfield 15, 3) := by decide +kernel
theorem own_d_jdk_68_method_9_4 : decode jdk_68_method_9_code 4 = .ok (.arraylength, 1) := by decide +kernel
theorem own_d_jdk_68_method_9_5 : decode jdk_68_method_9_code 5 = .ok (.aload_n 0, 1) := by decide +kernel
theorem own_d_jdk_68_method_9_6 : decode jdk_68_method_9_code 6 = .ok (.getfield 22, 3) := by decide +kernel
theorem own_d_jdk_68_method_9_9 : decode jdk_68_method_9_code 9 = .ok (.ishr, 1) := by decide +kernel
theorem own_d_jdk_68_method_9_10 : decode jdk_68_method_9_code 10 = .ok (.istore_n 2, 1) := by decide +kernel
theorem own_d_jdk_68_method_9_11 : decode jdk_68_method_9_code 11 = .ok (.iload_n 1, 1) := by decide +kernel
theorem own_d_jdk_68_method_9_12 : decode jdk_68_method_9_code 12 = .ok (.iload_n 2, 1) := by decide +kernel
theorem own_d_jdk_68_method_9_13 : decode jdk_68_method_9_code 13 = .ok (.isub, 1) := by decide +kernel
theorem own_d_jdk_68_method_9_14 : decode jdk_68_method_9_code 14 = .ok (.ifCond .le 24, 3) := by decide +kernel
theorem own_d_jdk_68_method_9_38 : decode jdk_68_method_9_code 38 = .ok (.return_, 1) := by decide +kernel
def Q_en0 (Z : State) (a : Addr) (b : Addr) (kv : ClassId) (h0 : Heap) (v_ : Option Value) (h : Heap) (L_ : List Loc) : Prop := v_ = none ∧ Fr Z.heap.size L_ ∧ (h = h0)
set_option maxRecDepth 65536 in
set_option maxHeartbeats 40000000 in
theorem rm_en0 (l : Launch) (Z : State) (a0 : Array Value) (hw : ∀ d ∈ tables_1, d.before a0 Z = true) (ws : List Jvm.Cond) (a : Addr) (b : Addr) (kv : ClassId) (h0 : Heap) (O : Ext Z.heap h0) (Xa : Exa Z h0 a "java/lang/StringBuilder") (Va : Fld Z h0 a "java/lang/AbstractStringBuilder" "value" "[B" (.ref b)) (Ca : Fld Z h0 a "java/lang/AbstractStringBuilder" "coder" "B" (.int 0)) (Na : Fld Z h0 a "java/lang/AbstractStringBuilder" "count" "I" (.int 0)) (Ab : Arv Z h0 b kv .byte 16 [] (.int 0)) (ga : Z.heap.size ≤ a) (gb : Z.heap.size ≤ b) :
    MetFree l (⟨"java/lang/AbstractStringBuilder", "ensureCapacityInternal", "(I)V"⟩ : MethodName) (head1 (Jvm.Cond.code (⟨"java/lang/AbstractStringBuilder", "ensureCapacityInternal", "(I)V"⟩ : MethodName) jdk_68_method_9_code 3 none :: ws) ({ frames := 0, cells := 0, slots := 0, locals := 0 } : Room)) (fun a_ U_ => a_ = #[(.ref a), (.int (3 : Int32))] ∧ Z.Warmed39 U_.vm ∧ U_.heap = h0) (fun _ _ _ _ _ => True) (fun _ U_ o_ U2_ => ∃ v_ L_, o_ = .returned v_ ∧ Q_en0 Z a b kv h0 v_ U2_.heap L_ ∧ FrameEnd U_ o_ U2_ L_ ({ frames := 0, cells := 0, slots := 0, locals := 0 } : Room).cells ({ frames := 0, cells := 0, slots := 0, locals := 0 } : Room).slots) := by
  refine MetFree.of_bodySF (plainFor_of_name own_pn1) hisR ?_
  intro p e s m args below meth c s₁ Bd hml0 hP hK
  obtain ⟨rfl, hZ, hh⟩ := hP
  have hx := Bd.exec
  have hby := Bd.bytes
  have hml : c.maxLocals = 3 := hml0
  have hown : s.vm.findClass "java/lang/AbstractStringBuilder" = some m.cls := findClass_of_methodNamed Bd.named
  have hnm := (name_of_methodNamed Bd.named Bd.method).1
  have X0 : Stand p l e ({ frames := 0, cells := 0, slots := 0, locals := 0 } : Room) s m #[(.ref a), (.int (3 : Int32))] below meth c s₁ [] 0 0 := Stand.of_body Bd
  have e0 : s₁.heap = h0 := by rw [← hh, Bd.state]; rfl
  have N0 := Fr.nil Z.heap.size
  show own_G p e below (fun o_ s₂ => ∃ v_ L_, o_ = .returned v_ ∧ Q_en0 Z a b kv h0 v_ s₂.heap L_ ∧ FrameEnd s o_ s₂ L_ ({ frames := 0, cells := 0, slots := 0, locals := 0 } : Room).cells ({ frames := 0, cells := 0, slots := 0, locals := 0 } : Room).slots) (s₁.setTop (entryFrame m #[(.ref a), (.int (3 : Int32))] 3))
  refine own_go (s₁.setTop (mkF m 0 #[.val (.ref a), .val (.int (3 : Int32)), .unset] [])) (fun t_ k_ => castTop (own_ef_en0 m a) k_) ?_
  refine own_go (s₁.setTop (mkF m 1 #[.val (.ref a), .val (.int (3 : Int32)), .unset] [(.ref a)])) (fun t_ k_ => XS.aloadN X0.here hx rfl (hb hby own_d_jdk_68_method_9_0) rfl rfl k_) ?_
  obtain ⟨T1, X1, e1, st1⟩ := getF X0 hx hZ hown (host := "") (Or.inl (hw _ (List.mem_of_getElem? (i := 22) rfl))) Via.refl e0 Va (g := (mkF m 1 #[.val (.ref a), .val (.int (3 : Int32)), .unset] [(.ref a)])) rfl rfl (hb hby own_d_jdk_68_method_9_1)
  refine own_go (T1.setTop (mkF m 4 #[.val (.ref a), .val (.int (3 : Int32)), .unset] [(.ref b)])) (fun t_ k_ => st1 _ k_) ?_
  obtain ⟨cl2, Ar2, q2, Sz2, Nz2, Hz2, Gz2⟩ := id (Ab)
  refine own_go (T1.setTop (mkF m 5 #[.val (.ref a), .val (.int (3 : Int32)), .unset] [(.int (16 : Int32))])) (fun t_ k_ => X1.arraylength hx (by rw [e1]; exact Ar2.1) (State.isArrayOf_alike hZ.alike Ar2.2.1) (g := (mkF m 4 #[.val (.ref a), .val (.int (3 : Int32)), .unset] [(.ref b)])) rfl rfl (hb hby own_d_jdk_68_method_9_4) _ (by rw [len_of Sz2 Nz2]; exact k_)) ?_
  refine own_go (T1.setTop (mkF m 6 #[.val (.ref a), .val (.int (3 : Int32)), .unset] [(.ref a), (.int (16 : Int32))])) (fun t_ k_ => XS.aloadN X1.here hx rfl (hb hby own_d_jdk_68_method_9_5) rfl rfl k_) ?_
  obtain ⟨T3, X3, e3, st3⟩ := getF X1 hx hZ hown (host := "") (Or.inl (hw _ (List.mem_of_getElem? (i := 24) rfl))) Via.refl e1 Ca (g := (mkF m 6 #[.val (.ref a), .val (.int (3 : Int32)), .unset] [(.ref a), (.int (16 : Int32))])) rfl rfl (hb hby own_d_jdk_68_method_9_6)
  refine own_go (T3.setTop (mkF m 9 #[.val (.ref a), .val (.int (3 : Int32)), .unset] [(.int (0 : Int32)), (.int (16 : Int32))])) (fun t_ k_ => st3 _ k_) ?_
  refine own_go (T3.setTop (mkF m 10 #[.val (.ref a), .val (.int (3 : Int32)), .unset] [(.int ((16 : Int32) >>> ((0 : Int32) &&& 31)))])) (fun t_ k_ => XS.ishr X3.here hx rfl (hb hby own_d_jdk_68_method_9_9) rfl k_) ?_
  rw [show ((16 : Int32) >>> ((0 : Int32) &&& 31)) = (16 : Int32) from by decide]
  refine own_go (T3.setTop (mkF m 11 #[.val (.ref a), .val (.int (3 : Int32)), .val (.int (16 : Int32))] [])) (fun t_ k_ => XS.istoreN X3.here hx rfl (hb hby own_d_jdk_68_method_9_10) rfl (l' := #[.val (.ref a), .val (.int (3 : Int32)), .val (.int (16 : Int32))]) rfl k_) ?_
  refine own_go (T3.setTop (mkF m 12 #[.val (.ref a), .val (.int (3 : Int32)), .val (.int (16 : Int32))] [(.int (3 : Int32))])) (fun t_ k_ => XS.iloadN X3.here hx rfl (hb hby own_d_jdk_68_method_9_11) rfl k_) ?_
  refine own_go (T3.setTop (mkF m 13 #[.val (.ref a), .val (.int (3 : Int32)), .val (.int (16 : Int32))] [(.int (16 : Int32)), (.int (3 : Int32))])) (fun t_ k_ => XS.iloadN X3.here hx rfl (hb hby own_d_jdk_68_method_9_12) rfl k_) ?_
  refine own_go (T3.setTop (mkF m 14 #[.val (.ref a), .val (.int (3 : Int32)), .val (.int (16 : Int32))] [(.int ((3 : Int32) - (16 : Int32)))])) (fun t_ k_ => XS.isub X3.here hx rfl (hb hby own_d_jdk_68_method_9_13) rfl k_) ?_
  rw [show ((3 : Int32) - (16 : Int32)) = (-13 : Int32) from by decide]
  refine own_go (T3.setTop (mkF m 38 #[.val (.ref a), .val (.int (3 : Int32)), .val (.int (16 : Int32))] [])) (fun t_ k_ => XS.ifYes X3.here hx rfl (pc0 := 14) (pc' := 38) rfl (hb hby own_d_jdk_68_method_9_14) rfl ((if0 _ _).trans (flt (by decide : ¬ ((0 : Int32) < (-13 : Int32)))).2.2.2) (by decide) (by decide) k_) ?_
  obtain ⟨fs, hr, hrun, hended, hW, hsame⟩ := X3.leave (v := none) (fun _ => rfl)
  refine ⟨_, _, X3.returnOut hx Bd.returns (hb hby own_d_jdk_68_method_9_38) hr, hrun, hended, _, _, rfl, ?_, ⟨_, rfl⟩, hW, hsame.mono (by decide) (by decide)⟩
  show Q_en0 Z a b kv h0 _ T3.heap _
  exact ⟨rfl, N0, e3⟩
theorem own_ef_gb0 (m : MethodId) (o : Addr) (b : Addr) : entryFrame m #[(.ref o), (.ref b), (.int (0 : Int32)), (.int (0 : Int32))] 4 = mkF m 0 #[.val (.ref o), .val (.ref b), .val (.int (0 : Int32)), .val (.int (0 : Int32))] [] := by first | (simp [entryFrame, mkF, argsToLocals, Value.category]; done) | rfl
theorem own_d_jdk_42_method_147_0 : decode jdk_42_method_147_code 0 = .ok (.aload_n 0, 1) := by decide +kernel
theorem own_d_jdk_42_method_147_1 : decode jdk_42_method_147_code 1 = .ok (.invokevirtual 335, 3) := by decide +kernel
theorem own_pd3 : parseMethodDescriptor "()B" = some ⟨[], some .byte⟩ := by decide +kernel
theorem own_d_jdk_42_method_147_4 : decode jdk_42_method_147_code 4 = .ok (.iload_n 3, 1) := by decide +kernel
theorem own_d_jdk_42_method_147_5 : decode jdk_42_method_147_code 5 = .ok (.if_icmp .ne 23, 3) := by decide +kernel
theorem own_d_jdk_42_method_147_8 : decode jdk_42_method_147_code 8 = .ok (.aload_n 0, 1) := by decide +kernel
theorem own_d_jdk_42_method_147_9 : decode jdk_42_method_147_code 9 = .ok (.getfield 9, 3) := by decide +kernel
theorem own_d_jdk_42_method_147_12 : decode jdk_42_method_147_code 12 = .ok (.iconst 0, 1) := by decide +kernel
theorem own_d_jdk_42_method_147_13 : decode jdk_42_method_147_code 13 = .ok (.aload_n 1, 1) := by decide +kernel
theorem own_d_jdk_42_method_147_14 : decode jdk_42_method_147_code 14 = .ok (.iload_n 2, 1) := by decide +kernel
theorem own_d_jdk_42_method_147_15 : decode jdk_42_method_147_code 15 = .ok (.iload_n 3, 1) := by decide +kernel
theorem own_d_jdk_42_method_147_16 : decode jdk_42_method_147_code 16 = .ok (.ishl, 1) := by decide +kernel
theorem own_d_jdk_42_method_147_17 : decode jdk_42_method_147_code 17 = .ok (.aload_n 0, 1) := by decide +kernel
theorem own_d_jdk_42_method_147_18 : decode jdk_42_method_147_code 18 = .ok (.getfield 9, 3) := by decide +kernel
theorem own_d_jdk_42_method_147_21 : decode jdk_42_method_147_code 21 = .ok (.arraylength, 1) := by decide +kernel
theorem own_d_jdk_42_method_147_22 : decode jdk_42_method_147_code 22 = .ok (.invokestatic 212, 3) := by decide +kernel
theorem own_d_jdk_42_method_147_25 : decode jdk_42_method_147_code 25 = .ok (.goto 18, 3) := by decide +kernel
theorem own_d_jdk_42_method_147_43 : decode jdk_42_method_147_code 43 = .ok (.return_, 1) := by decide +kernel
def Q_gb0 (Z : State) (o : Addr) (t1 : Addr) (kb : ClassId) (b : Addr) (kv : ClassId) (a__VALUES : Addr) (a_OUT : Addr) (a_INP : Addr) (a_TAKE_COMPLETE : Addr) (a_OUT_text : Addr) (a_INP_text : Addr) (a_TAKE_COMPLETE_text : Addr) (a_OUT_text_value : Addr) (a_INP_text_value : Addr) (a_TAKE_COMPLETE_text_value : Addr) (k__VALUES : ClassId) (k_OUT_text_value : ClassId) (k_INP_text_value : ClassId) (k_TAKE_COMPLETE_text_value : ClassId) (cs0 : Int32) (h0 : Heap) (v_ : Option Value) (h : Heap) (L_ : List Loc) : Prop := v_ = none ∧ Fr Z.heap.size L_ ∧ (Keep h0 h [b] ∧ Arv Z h b kv .byte 16 [(.int (111 : Int32)), (.int (117 : Int32)), (.int (116 : Int32))] (.int 0))
set_option maxRecDepth 65536 in
set_option maxHeartbeats 40000000 in
theorem rm_gb0 (l : Launch) (Z : State) (a0 : Array Value) (hw : ∀ d ∈ tables_1, d.before a0 Z = true) (ws : List Jvm.Cond) (o : Addr) (t1 : Addr) (kb : ClassId) (b : Addr) (kv : ClassId) (a__VALUES : Addr) (a_OUT : Addr) (a_INP : Addr) (a_TAKE_COMPLETE : Addr) (a_OUT_text : Addr) (a_INP_text : Addr) (a_TAKE_COMPLETE_text : Addr) (a_OUT_text_value : Addr) (a_INP_text_value : Addr) (a_TAKE_COMPLETE_text_value : Addr) (k__VALUES : ClassId) (k_OUT_text_value : ClassId) (k_INP_text_value : ClassId) (k_TAKE_COMPLETE_text_value : ClassId) (cs0 : Int32) (h0 : Heap) (O : Ext Z.heap h0) (w : own_W Z a__VALUES a_OUT a_INP a_TAKE_COMPLETE a_OUT_text a_INP_text a_TAKE_COMPLETE_text a_OUT_text_value a_INP_text_value a_TAKE_COMPLETE_text_value k__VALUES k_OUT_text_value k_INP_text_value k_TAKE_COMPLETE_text_value cs0) (Xo : Exa Z h0 o "java/lang/String") (Vo : Fld Z h0 o "java/lang/String" "value" "[B" (.ref t1)) (Co : Fld Z h0 o "java/lang/String" "coder" "B" (.int 0)) (Ao : Arv Z h0 t1 kb .byte 3 [(.int (111 : Int32)), (.int (117 : Int32)), (.int (116 : Int32))] (.int 0)) (Ab : Arv Z h0 b kv .byte 16 [] (.int 0)) (gb : Z.heap.size ≤ b) :
    MetFree l (⟨"java/lang/String", "getBytes", "([BIB)V"⟩ : MethodName) (head1 (Jvm.Cond.code (⟨"java/lang/String", "getBytes", "([BIB)V"⟩ : MethodName) jdk_42_method_147_code 4 none :: ws) ({ frames := 1, cells := 0, slots := 0, locals := 40 } : Room)) (fun a_ U_ => a_ = #[(.ref o), (.ref b), (.int (0 : Int32)), (.int (0 : Int32))] ∧ Z.Warmed39 U_.vm ∧ U_.heap = h0) (fun _ _ _ _ _ => True) (fun _ U_ o_ U2_ => ∃ v_ L_, o_ = .returned v_ ∧ Q_gb0 Z o t1 kb b kv a__VALUES a_OUT a_INP a_TAKE_COMPLETE a_OUT_text a_INP_text a_TAKE_COMPLETE_text a_OUT_text_value a_INP_text_value a_TAKE_COMPLETE_text_value k__VALUES k_OUT_text_value k_INP_text_value k_TAKE_COMPLETE_text_value cs0 h0 v_ U2_.heap L_ ∧ FrameEnd U_ o_ U2_ L_ ({ frames := 1, cells := 0, slots := 0, locals := 40 } : Room).cells ({ frames := 1, cells := 0, slots := 0, locals := 40 } : Room).slots) := by
  refine MetFree.of_bodySF (plainFor_of_name own_pn0) hisR ?_
  intro p e s m args below meth c s₁ Bd hml0 hP hK
  obtain ⟨rfl, hZ, hh⟩ := hP
  have hx := Bd.exec
  have hby := Bd.bytes
  have hml : c.maxLocals = 4 := hml0
  have hown : s.vm.findClass "java/lang/String" = some m.cls := findClass_of_methodNamed Bd.named
  have hnm := (name_of_methodNamed Bd.named Bd.method).1
  have X0 : Stand p l e ({ frames := 1, cells := 0, slots := 0, locals := 40 } : Room) s m #[(.ref o), (.ref b), (.int (0 : Int32)), (.int (0 : Int32))] below meth c s₁ [] 0 0 := Stand.of_body Bd
  have e0 : s₁.heap = h0 := by rw [← hh, Bd.state]; rfl
  have N0 := Fr.nil Z.heap.size
  show own_G p e below (fun o_ s₂ => ∃ v_ L_, o_ = .returned v_ ∧ Q_gb0 Z o t1 kb b kv a__VALUES a_OUT a_INP a_TAKE_COMPLETE a_OUT_text a_INP_text a_TAKE_COMPLETE_text a_OUT_text_value a_INP_text_value a_TAKE_COMPLETE_text_value k__VALUES k_OUT_text_value k_INP_text_value k_TAKE_COMPLETE_text_value cs0 h0 v_ s₂.heap L_ ∧ FrameEnd s o_ s₂ L_ ({ frames := 1, cells := 0, slots := 0, locals := 40 } : Room).cells ({ frames := 1, cells := 0, slots := 0, locals := 40 } : Room).slots) (s₁.setTop (entryFrame m #[(.ref o), (.ref b), (.int (0 : Int32)), (.int (0 : Int32))] 4))
  refine own_go (s₁.setTop (mkF m 0 #[.val (.ref o), .val (.ref b), .val (.int (0 : Int32)), .val (.int (0 : Int32))] [])) (fun t_ k_ => castTop (own_ef_gb0 m o b) k_) ?_
  have w' := w
  obtain ⟨S__VALUES, X__VALUES, S_OUT, X_OUT, S_INP, X_INP, S_TAKE_COMPLETE, X_TAKE_COMPLETE, F_OUT_text, X_OUT_text, F_INP_text, X_INP_text, F_TAKE_COMPLETE_text, X_TAKE_COMPLETE_text, F_OUT_text_value, X_OUT_text_value, F_INP_text_value, X_INP_text_value, F_TAKE_COMPLETE_text_value, X_TAKE_COMPLETE_text_value, F_OUT_text_coder, F_INP_text_coder, F_TAKE_COMPLETE_text_coder, V__VALUES, V_OUT_text_value, V_INP_text_value, V_TAKE_COMPLETE_text_value, S_CS, n_CS⟩ := w'
  refine own_go (s₁.setTop (mkF m 1 #[.val (.ref o), .val (.ref b), .val (.int (0 : Int32)), .val (.int (0 : Int32))] [(.ref o)])) (fun t_ k_ => XS.aloadN X0.here hx rfl (hb hby own_d_jdk_42_method_147_0) rfl rfl k_) ?_
  obtain ⟨cq1, kq1, q1a, q1b, q1c⟩ := isOf hZ e0 Xo
  obtain ⟨_, _, ⟨T1, Lu1, ku1, nu1⟩, -, X1, ⟨Lc1, hQ1, lu1, yu1, zu1⟩, st1⟩ := X0.virtualBack hx (y := (⟨"java/lang/String", "coder", "()B"⟩ : MethodName)) (z := (⟨"java/lang/String", "coder", "()B"⟩ : MethodName)) hown (mvT hZ (hw _ (List.mem_of_getElem? (i := 63) rfl))) (mvT hZ (hw _ (List.mem_of_getElem? (i := 64) rfl))) (notFace_of_selects (args := #[]) (mvT hZ (hw _ (List.mem_of_getElem? (i := 66) rfl)))) (mvT hZ (hw _ (List.mem_of_getElem? (i := 66) rfl))) (mvT hZ (hw _ (List.mem_of_getElem? (i := 65) rfl))) (by decide) (backOf (W := 0) (rm_cdr l Z a0 hw [] (o) (a__VALUES) (a_OUT) (a_INP) (a_TAKE_COMPLETE) (a_OUT_text) (a_INP_text) (a_TAKE_COMPLETE_text) (a_OUT_text_value) (a_INP_text_value) (a_TAKE_COMPLETE_text_value) (k__VALUES) (k_OUT_text_value) (k_INP_text_value) (k_TAKE_COMPLETE_text_value) (cs0) h0 O w Co) hZ (hw _ (List.mem_of_getElem? (i := 67) rfl)) (hw _ (List.mem_of_getElem? (i := 20) rfl)) (by decide) (by decide)) q1a q1c (g := (mkF m 1 #[.val (.ref o), .val (.ref b), .val (.int (0 : Int32)), .val (.int (0 : Int32))] [(.ref o)])) rfl (by rw [hml]; rfl) (Steps.refl _) (argsL := []) (rest := []) (lenOf own_pd3 rfl) rfl (by show 2 * 0 + _ ≤ _; exact Nat.le_of_eq rfl) (hb hby own_d_jdk_42_method_147_1) (fun _ _ => ⟨rfl, e0, (by decide : 0 + 0 ≤ _), (by decide : 0 + 0 ≤ _)⟩)
  dsimp only [Pt.U, Pt.locs, Pt.cells, Pt.slots] at X1 lu1 yu1 zu1 st1 hQ1
  subst lu1 yu1 zu1
  obtain ⟨rfl, N1q, e1⟩ := hQ1
  have N1 := Fr.app N0 N1q
  refine own_go (T1.setTop (mkF m 4 #[.val (.ref o), .val (.ref b), .val (.int (0 : Int32)), .val (.int (0 : Int32))] [(.int (0 : Int32))])) (fun t_ k_ => st1.trans k_) ?_
  refine own_go (T1.setTop (mkF m 5 #[.val (.ref o), .val (.ref b), .val (.int (0 : Int32)), .val (.int (0 : Int32))] [(.int (0 : Int32)), (.int (0 : Int32))])) (fun t_ k_ => XS.iloadN X1.here hx rfl (hb hby own_d_jdk_42_method_147_4) rfl k_) ?_
  refine own_go (T1.setTop (mkF m 8 #[.val (.ref o), .val (.ref b), .val (.int (0 : Int32)), .val (.int (0 : Int32))] [])) (fun t_ k_ => XS.icmpNo X1.here hx rfl (hb hby own_d_jdk_42_method_147_5) rfl (teq (by decide : (0 : Int32) = (0 : Int32))).2 k_) ?_
  refine own_go (T1.setTop (mkF m 9 #[.val (.ref o), .val (.ref b), .val (.int (0 : Int32)), .val (.int (0 : Int32))] [(.ref o)])) (fun t_ k_ => XS.aloadN X1.here hx rfl (hb hby own_d_jdk_42_method_147_8) rfl rfl k_) ?_
  obtain ⟨T2, X2, e2, st2⟩ := getF X1 hx hZ hown (host := "") (Or.inl (hw _ (List.mem_of_getElem? (i := 61) rfl))) Via.refl e1 Vo (g := (mkF m 9 #[.val (.ref o), .val (.ref b), .val (.int (0 : Int32)), .val (.int (0 : Int32))] [(.ref o)])) rfl rfl (hb hby own_d_jdk_42_method_147_9)
  refine own_go (T2.setTop (mkF m 12 #[.val (.ref o), .val (.ref b), .val (.int (0 : Int32)), .val (.int (0 : Int32))] [(.ref t1)])) (fun t_ k_ => st2 _ k_) ?_
  refine own_go (T2.setTop (mkF m 13 #[.val (.ref o), .val (.ref b), .val (.int (0 : Int32)), .val (.int (0 : Int32))] [(.int (0 : Int32)), (.ref t1)])) (fun t_ k_ => XS.iconst X2.here hx rfl (hb hby own_d_jdk_42_method_147_12) k_) ?_
  refine own_go (T2.setTop (mkF m 14 #[.val (.ref o), .val (.ref b), .val (.int (0 : Int32)), .val (.int (0 : Int32))] [(.ref b), (.int (0 : Int32)), (.ref t1)])) (fun t_ k_ => XS.aloadN X2.here hx rfl (hb hby own_d_jdk_42_method_147_13) rfl rfl k_) ?_
  refine own_go (T2.setTop (mkF m 15 #[.val (.ref o), .val (.ref b), .val (.int (0 : Int32)), .val (.int (0 : Int32))] [(.int (0 : Int32)), (.ref b), (.int (0 : Int32)), (.ref t1)])) (fun t_ k_ => XS.iloadN X2.here hx rfl (hb hby own_d_jdk_42_method_147_14) rfl k_) ?_
  refine own_go (T2.setTop (mkF m 16 #[.val (.ref o), .val (.ref b), .val (.int (0 : Int32)), .val (.int (0 : Int32))] [(.int (0 : Int32)), (.int (0 : Int32)), (.ref b), (.int (0 : Int32)), (.ref t1)])) (fun t_ k_ => XS.iloadN X2.here hx rfl (hb hby own_d_jdk_42_method_147_15) rfl k_) ?_
  refine own_go (T2.setTop (mkF m 17 #[.val (.ref o), .val (.ref b), .val (.int (0 : Int32)), .val (.int (0 : Int32))] [(.int ((0 : Int32) <<< ((0 : Int32) &&& 31))), (.ref b), (.int (0 : Int32)), (.ref t1)])) (fun t_ k_ => XS.ishl X2.here hx rfl (hb hby own_d_jdk_42_method_147_16) rfl k_) ?_
  rw [show ((0 : Int32) <<< ((0 : Int32) &&& 31)) = (0 : Int32) from by decide]
  refine own_go (T2.setTop (mkF m 18 #[.val (.ref o), .val (.ref b), .val (.int (0 : Int32)), .val (.int (0 : Int32))] [(.ref o), (.int (0 : Int32)), (.ref b), (.int (0 : Int32)), (.ref t1)])) (fun t_ k_ => XS.aloadN X2.here hx rfl (hb hby own_d_jdk_42_method_147_17) rfl rfl k_) ?_
  obtain ⟨T3, X3, e3, st3⟩ := getF X2 hx hZ hown (host := "") (Or.inl (hw _ (List.mem_of_getElem? (i := 61) rfl))) Via.refl e2 Vo (g := (mkF m 18 #[.val (.ref o), .val (.ref b), .val (.int (0 : Int32)), .val (.int (0 : Int32))] [(.ref o), (.int (0 : Int32)), (.ref b), (.int (0 : Int32)), (.ref t1)])) rfl rfl (hb hby own_d_jdk_42_method_147_18)
  refine own_go (T3.setTop (mkF m 21 #[.val (.ref o), .val (.ref b), .val (.int (0 : Int32)), .val (.int (0 : Int32))] [(.ref t1), (.int (0 : Int32)), (.ref b), (.int (0 : Int32)), (.ref t1)])) (fun t_ k_ => st3 _ k_) ?_
  obtain ⟨cl4, Ar4, q4, Sz4, Nz4, Hz4, Gz4⟩ := id (Ao)
  refine own_go (T3.setTop (mkF m 22 #[.val (.ref o), .val (.ref b), .val (.int (0 : Int32)), .val (.int (0 : Int32))] [(.int (3 : Int32)), (.int (0 : Int32)), (.ref b), (.int (0 : Int32)), (.ref t1)])) (fun t_ k_ => X3.arraylength hx (by rw [e3]; exact Ar4.1) (State.isArrayOf_alike hZ.alike Ar4.2.1) (g := (mkF m 21 #[.val (.ref o), .val (.ref b), .val (.int (0 : Int32)), .val (.int (0 : Int32))] [(.ref t1), (.int (0 : Int32)), (.ref b), (.int (0 : Int32)), (.ref t1)])) rfl rfl (hb hby own_d_jdk_42_method_147_21) _ (by rw [len_of Sz4 Nz4]; exact k_)) ?_
  have Vp5 : Arv Z h0 b kv .byte (16 : Int32) [(.int (0 : Int32)), (.int (0 : Int32)), (.int (0 : Int32))] (.int (0 : Int32)) := (Ab).pad (pad_rep [] (.int (0 : Int32)) 3)
  obtain ⟨T5, h5, L5, X5, e5, N5, Kc5, A5, st5⟩ := cpA X3 hx hZ hown (hw _ (List.mem_of_getElem? (i := 94) rfl)) (hw _ (List.mem_of_getElem? (i := 97) rfl)) (hw _ (List.mem_of_getElem? (i := 95) rfl)) (hw _ (List.mem_of_getElem? (i := 96) rfl)) e3 (us := [(.int (111 : Int32)), (.int (117 : Int32)), (.int (116 : Int32))]) Ao Vp5 (Or.inl ⟨rfl, rfl⟩) (by decide) (by decide) (by decide) (by decide) (by decide) rfl (Nat.le_of_ble_eq_true rfl) N1 gb (g := (mkF m 22 #[.val (.ref o), .val (.ref b), .val (.int (0 : Int32)), .val (.int (0 : Int32))] [(.int (3 : Int32)), (.int (0 : Int32)), (.ref b), (.int (0 : Int32)), (.ref t1)])) rfl (by rw [hml]; rfl) rfl (hb hby own_d_jdk_42_method_147_22) (by decide) (W := 0) (by show 2 * 0 + _ ≤ _; exact Nat.le_of_eq rfl) (by decide)
  have V5 : Arv Z h5 b kv .byte (16 : Int32) [(.int (111 : Int32)), (.int (117 : Int32)), (.int (116 : Int32))] (.int (0 : Int32)) := A5
  have O5 := own_extK O Kc5 (allS gb all0)
  have KK5 : Keep h0 h5 [b] := (Keep.refl h0 [b]).trans Kc5 (allS (Or.inl (List.mem_of_getElem? (i := 0) rfl)) all0)
  refine own_go (T5.setTop (mkF m 25 #[.val (.ref o), .val (.ref b), .val (.int (0 : Int32)), .val (.int (0 : Int32))] [])) (fun t_ k_ => st5 _ k_) ?_
  refine own_go (T5.setTop (mkF m 43 #[.val (.ref o), .val (.ref b), .val (.int (0 : Int32)), .val (.int (0 : Int32))] [])) (fun t_ k_ => XS.goto X5.here hx rfl (pc0 := 25) (pc' := 43) rfl (hb hby own_d_jdk_42_method_147_25) (by decide) (by decide) k_) ?_
  obtain ⟨fs, hr, hrun, hended, hW, hsame⟩ := X5.leave (v := none) (fun _ => rfl)
  refine ⟨_, _, X5.returnOut hx Bd.returns (hb hby own_d_jdk_42_method_147_43) hr, hrun, hended, _, _, rfl, ?_, ⟨_, rfl⟩, hW, hsame.mono (by decide) (by decide)⟩
  show Q_gb0 Z o t1 kb b kv a__VALUES a_OUT a_INP a_TAKE_COMPLETE a_OUT_text a_INP_text a_TAKE_COMPLETE_text a_OUT_text_value a_INP_text_value a_TAKE_COMPLETE_text_value k__VALUES k_OUT_text_value k_INP_text_value k_TAKE_COMPLETE_text_value cs0 h0 _ T5.heap _
  show Q_gb0 Z o t1 kb b kv a__VALUES a_OUT a_INP a_TAKE_COMPLETE a_OUT_text a_INP_text a_TAKE_COMPLETE_text a_OUT_text_value a_INP_text_value a_TAKE_COMPLETE_text_value k__VALUES k_OUT_text_value k_INP_text_value k_TAKE_COMPLETE_text_value cs0 h0 _ T5.heap _
  rw [show T5.heap = h5 from e5]
  exact ⟨rfl, N5, KK5, V5⟩
theorem own_ef_inf0 (m : MethodId) (a : Addr) (o : Addr) : entryFrame m #[(.ref a), (.ref o)] 2 = mkF m 0 #[.val (.ref a), .val (.ref o)] [] := by first | (simp [entryFrame, mkF, argsToLocals, Value.category]; done) | rfl
theorem own_d_jdk_68_method_71_0 : decode jdk_68_method_71_code 0 = .ok (.getstatic 18, 3) := by decide +kernel
theorem own_d_jdk_68_method_71_3 : decode jdk_68_method_71_code 3 = .ok (.ifCond .eq 18, 3) := by decide +kernel
theorem own_d_jdk_68_method_71_6 : decode jdk_68_method_71_code 6 = .ok (.aload_n 0, 1) := by decide +kernel
theorem own_d_jdk_68_method_71_7 : decode jdk_68_method_71_code 7 = .ok (.getfield 22, 3) := by decide +kernel
theorem own_d_jdk_68_method_71_10 : decode jdk_68_method_71_code 10 = .ok (.aload_n 1, 1) := by decide +kernel
theorem own_d_jdk_68_method_71_11 : decode jdk_68_method_71_code 11 = .ok (.invokevirtual 40, 3) := by decide +kernel
theorem own_d_jdk_68_method_71_14 : decode jdk_68_method_71_code 14 = .ok (.if_icmp .eq 7, 3) := by decide +kernel
theorem own_d_jdk_68_method_71_21 : decode jdk_68_method_71_code 21 = .ok (.return_, 1) := by decide +kernel
def Q_inf0 (Z : State) (a : Addr) (o : Addr) (a__VALUES : Addr) (a_OUT : Addr) (a_INP : Addr) (a_TAKE_COMPLETE : Addr) (a_OUT_text : Addr) (a_INP_text : Addr) (a_TAKE_COMPLETE_text : Addr) (a_OUT_text_value : Addr) (a_INP_text_value : Addr) (a_TAKE_COMPLETE_text_value : Addr) (k__VALUES : ClassId) (k_OUT_text_value : ClassId) (k_INP_text_value : ClassId) (k_TAKE_COMPLETE_text_value : ClassId) (cs0 : Int32) (h0 : Heap) (v_ : Option Value) (h : Heap) (L_ : List Loc) : Prop := v_ = none ∧ Fr Z.heap.size L_ ∧ (h = h0)
set_option maxRecDepth 65536 in
set_option maxHeartbeats 40000000 in
theorem rm_inf0 (l : Launch) (Z : State) (a0 : Array Value) (hw : ∀ d ∈ tables_1, d.before a0 Z = true) (ws : List Jvm.Cond) (a : Addr) (o : Addr) (a__VALUES : Addr) (a_OUT : Addr) (a_INP : Addr) (a_TAKE_COMPLETE : Addr) (a_OUT_text : Addr) (a_INP_text : Addr) (a_TAKE_COMPLETE_text : Addr) (a_OUT_text_value : Addr) (a_INP_text_value : Addr) (a_TAKE_COMPLETE_text_value : Addr) (k__VALUES : ClassId) (k_OUT_text_value : ClassId) (k_INP_text_value : ClassId) (k_TAKE_COMPLETE_text_value : ClassId) (cs0 : Int32) (h0 : Heap) (O : Ext Z.heap h0) (w : own_W Z a__VALUES a_OUT a_INP a_TAKE_COMPLETE a_OUT_text a_INP_text a_TAKE_COMPLETE_text a_OUT_text_value a_INP_text_value a_TAKE_COMPLETE_text_value k__VALUES k_OUT_text_value k_INP_text_value k_TAKE_COMPLETE_text_value cs0) (Ca : Fld Z h0 a "java/lang/AbstractStringBuilder" "coder" "B" (.int 0)) (Xo : Exa Z h0 o "java/lang/String") (Co : Fld Z h0 o "java/lang/String" "coder" "B" (.int 0)) :
    MetFree l (⟨"java/lang/AbstractStringBuilder", "inflateIfNeededFor", "(Ljava/lang/String;)V"⟩ : MethodName) (head1 (Jvm.Cond.code (⟨"java/lang/AbstractStringBuilder", "inflateIfNeededFor", "(Ljava/lang/String;)V"⟩ : MethodName) jdk_68_method_71_code 2 none :: ws) ({ frames := 1, cells := 0, slots := 0, locals := 13 } : Room)) (fun a_ U_ => a_ = #[(.ref a), (.ref o)] ∧ Z.Warmed39 U_.vm ∧ U_.heap = h0) (fun _ _ _ _ _ => True) (fun _ U_ o_ U2_ => ∃ v_ L_, o_ = .returned v_ ∧ Q_inf0 Z a o a__VALUES a_OUT a_INP a_TAKE_COMPLETE a_OUT_text a_INP_text a_TAKE_COMPLETE_text a_OUT_text_value a_INP_text_value a_TAKE_COMPLETE_text_value k__VALUES k_OUT_text_value k_INP_text_value k_TAKE_COMPLETE_text_value cs0 h0 v_ U2_.heap L_ ∧ FrameEnd U_ o_ U2_ L_ ({ frames := 1, cells := 0, slots := 0, locals := 13 } : Room).cells ({ frames := 1, cells := 0, slots := 0, locals := 13 } : Room).slots) := by
  refine MetFree.of_bodySF (plainFor_of_name own_pn1) hisR ?_
  intro p e s m args below meth c s₁ Bd hml0 hP hK
  obtain ⟨rfl, hZ, hh⟩ := hP
  have hx := Bd.exec
  have hby := Bd.bytes
  have hml : c.maxLocals = 2 := hml0
  have hown : s.vm.findClass "java/lang/AbstractStringBuilder" = some m.cls := findClass_of_methodNamed Bd.named
  have hnm := (name_of_methodNamed Bd.named Bd.method).1
  have X0 : Stand p l e ({ frames := 1, cells := 0, slots := 0, locals := 13 } : Room) s m #[(.ref a), (.ref o)] below meth c s₁ [] 0 0 := Stand.of_body Bd
  have e0 : s₁.heap = h0 := by rw [← hh, Bd.state]; rfl
  have N0 := Fr.nil Z.heap.size
  show own_G p e below (fun o_ s₂ => ∃ v_ L_, o_ = .returned v_ ∧ Q_inf0 Z a o a__VALUES a_OUT a_INP a_TAKE_COMPLETE a_OUT_text a_INP_text a_TAKE_COMPLETE_text a_OUT_text_value a_INP_text_value a_TAKE_COMPLETE_text_value k__VALUES k_OUT_text_value k_INP_text_value k_TAKE_COMPLETE_text_value cs0 h0 v_ s₂.heap L_ ∧ FrameEnd s o_ s₂ L_ ({ frames := 1, cells := 0, slots := 0, locals := 13 } : Room).cells ({ frames := 1, cells := 0, slots := 0, locals := 13 } : Room).slots) (s₁.setTop (entryFrame m #[(.ref a), (.ref o)] 2))
  refine own_go (s₁.setTop (mkF m 0 #[.val (.ref a), .val (.ref o)] [])) (fun t_ k_ => castTop (own_ef_inf0 m a o) k_) ?_
  have w' := w
  obtain ⟨S__VALUES, X__VALUES, S_OUT, X_OUT, S_INP, X_INP, S_TAKE_COMPLETE, X_TAKE_COMPLETE, F_OUT_text, X_OUT_text, F_INP_text, X_INP_text, F_TAKE_COMPLETE_text, X_TAKE_COMPLETE_text, F_OUT_text_value, X_OUT_text_value, F_INP_text_value, X_INP_text_value, F_TAKE_COMPLETE_text_value, X_TAKE_COMPLETE_text_value, F_OUT_text_coder, F_INP_text_coder, F_TAKE_COMPLETE_text_coder, V__VALUES, V_OUT_text_value, V_INP_text_value, V_TAKE_COMPLETE_text_value, S_CS, n_CS⟩ := w'
  obtain ⟨T1, X1, e1, st1⟩ := getS2 X0 hx hZ hown (host := "") (Or.inl (hw _ (List.mem_of_getElem? (i := 19) rfl))) Via.refl e0 (S_CS.ext O) (g := (mkF m 0 #[.val (.ref a), .val (.ref o)] [])) rfl (hb hby own_d_jdk_68_method_71_0)
  refine own_go (T1.setTop (mkF m 3 #[.val (.ref a), .val (.ref o)] [(.int cs0)])) (fun t_ k_ => st1 _ k_) ?_
  refine own_go (T1.setTop (mkF m 6 #[.val (.ref a), .val (.ref o)] [])) (fun t_ k_ => XS.ifNo X1.here hx rfl (hb hby own_d_jdk_68_method_71_3) rfl ((if0 _ _).trans (feq n_CS).1) k_) ?_
  refine own_go (T1.setTop (mkF m 7 #[.val (.ref a), .val (.ref o)] [(.ref a)])) (fun t_ k_ => XS.aloadN X1.here hx rfl (hb hby own_d_jdk_68_method_71_6) rfl rfl k_) ?_
  obtain ⟨T2, X2, e2, st2⟩ := getF X1 hx hZ hown (host := "") (Or.inl (hw _ (List.mem_of_getElem? (i := 24) rfl))) Via.refl e1 Ca (g := (mkF m 7 #[.val (.ref a), .val (.ref o)] [(.ref a)])) rfl rfl (hb hby own_d_jdk_68_method_71_7)
  refine own_go (T2.setTop (mkF m 10 #[.val (.ref a), .val (.ref o)] [(.int (0 : Int32))])) (fun t_ k_ => st2 _ k_) ?_
  refine own_go (T2.setTop (mkF m 11 #[.val (.ref a), .val (.ref o)] [(.ref o), (.int (0 : Int32))])) (fun t_ k_ => XS.aloadN X2.here hx rfl (hb hby own_d_jdk_68_method_71_10) rfl rfl k_) ?_
  obtain ⟨cq3, kq3, q3a, q3b, q3c⟩ := isOf hZ e2 Xo
  obtain ⟨_, _, ⟨T3, Lu3, ku3, nu3⟩, -, X3, ⟨Lc3, hQ3, lu3, yu3, zu3⟩, st3⟩ := X2.virtualBack hx (y := (⟨"java/lang/String", "coder", "()B"⟩ : MethodName)) (z := (⟨"java/lang/String", "coder", "()B"⟩ : MethodName)) hown (mvT hZ (hw _ (List.mem_of_getElem? (i := 88) rfl))) (mvT hZ (hw _ (List.mem_of_getElem? (i := 64) rfl))) (notFace_of_selects (args := #[]) (mvT hZ (hw _ (List.mem_of_getElem? (i := 66) rfl)))) (mvT hZ (hw _ (List.mem_of_getElem? (i := 66) rfl))) (mvT hZ (hw _ (List.mem_of_getElem? (i := 65) rfl))) (by decide) (backOf (W := 1) (rm_cdr l Z a0 hw [] (o) (a__VALUES) (a_OUT) (a_INP) (a_TAKE_COMPLETE) (a_OUT_text) (a_INP_text) (a_TAKE_COMPLETE_text) (a_OUT_text_value) (a_INP_text_value) (a_TAKE_COMPLETE_text_value) (k__VALUES) (k_OUT_text_value) (k_INP_text_value) (k_TAKE_COMPLETE_text_value) (cs0) h0 O w Co) hZ (hw _ (List.mem_of_getElem? (i := 67) rfl)) (hw _ (List.mem_of_getElem? (i := 20) rfl)) (by decide) (by decide)) q3a q3c (g := (mkF m 11 #[.val (.ref a), .val (.ref o)] [(.ref o), (.int (0 : Int32))])) rfl (by rw [hml]; rfl) (Steps.refl _) (argsL := []) (rest := [(.int (0 : Int32))]) (lenOf own_pd3 rfl) rfl (by show 2 * 0 + _ ≤ _; exact Nat.le_of_eq rfl) (hb hby own_d_jdk_68_method_71_11) (fun _ _ => ⟨rfl, e2, (by decide : 0 + 0 ≤ _), (by decide : 0 + 0 ≤ _)⟩)
  dsimp only [Pt.U, Pt.locs, Pt.cells, Pt.slots] at X3 lu3 yu3 zu3 st3 hQ3
  subst lu3 yu3 zu3
  obtain ⟨rfl, N3q, e3⟩ := hQ3
  have N3 := Fr.app N0 N3q
  refine own_go (T3.setTop (mkF m 14 #[.val (.ref a), .val (.ref o)] [(.int (0 : Int32)), (.int (0 : Int32))])) (fun t_ k_ => st3.trans k_) ?_
  refine own_go (T3.setTop (mkF m 21 #[.val (.ref a), .val (.ref o)] [])) (fun t_ k_ => XS.icmpYes X3.here hx rfl (pc0 := 14) (pc' := 21) rfl (hb hby own_d_jdk_68_method_71_14) rfl (teq (by decide : (0 : Int32) = (0 : Int32))).1 (by decide) (by decide) k_) ?_
  obtain ⟨fs, hr, hrun, hended, hW, hsame⟩ := X3.leave (v := none) (fun _ => rfl)
  refine ⟨_, _, X3.returnOut hx Bd.returns (hb hby own_d_jdk_68_method_71_21) hr, hrun, hended, _, _, rfl, ?_, ⟨_, rfl⟩, hW, hsame.mono (by decide) (by decide)⟩
  show Q_inf0 Z a o a__VALUES a_OUT a_INP a_TAKE_COMPLETE a_OUT_text a_INP_text a_TAKE_COMPLETE_text a_OUT_text_value a_INP_text_value a_TAKE_COMPLETE_text_value k__VALUES k_OUT_text_value k_INP_text_value k_TAKE_COMPLETE_text_value cs0 h0 _ T3.heap _
  exact ⟨rfl, N3, e3⟩
theorem own_ef_ps0 (m : MethodId) (a : Addr) (o : Addr) : entryFrame m #[(.ref a), (.int (0 : Int32)), (.ref o)] 3 = mkF m 0 #[.val (.ref a), .val (.int (0 : Int32)), .val (.ref o)] [] := by first | (simp [entryFrame, mkF, argsToLocals, Value.category]; done) | rfl
theorem own_d_jdk_68_method_73_0 : decode jdk_68_method_73_code 0 = .ok (.aload_n 0, 1) := by decide +kernel
theorem own_d_jdk_68_method_73_1 : decode jdk_68_method_73_code 1 = .ok (.aload_n 2, 1) := by decide +kernel
theorem own_d_jdk_68_method_73_2 : decode jdk_68_method_73_code 2 = .ok (.invokevirtual 397, 3) := by decide +kernel
theorem own_pd4 : parseMethodDescriptor "(Ljava/lang/String;)V" = some ⟨[(.object "java/lang/String")], none⟩ := by decide +kernel
theorem own_d_jdk_68_method_73_5 : decode jdk_68_method_73_code 5 = .ok (.aload_n 2, 1) := by decide +kernel
theorem own_d_jdk_68_method_73_6 : decode jdk_68_method_73_code 6 = .ok (.aload_n 0, 1) := by decide +kernel
theorem own_d_jdk_68_method_73_7 : decode jdk_68_method_73_code 7 = .ok (.getfield 15, 3) := by decide +kernel
theorem own_d_jdk_68_method_73_10 : decode jdk_68_method_73_code 10 = .ok (.iload_n 1, 1) := by decide +kernel
theorem own_d_jdk_68_method_73_11 : decode jdk_68_method_73_code 11 = .ok (.aload_n 0, 1) := by decide +kernel
theorem own_d_jdk_68_method_73_12 : decode jdk_68_method_73_code 12 = .ok (.getfield 22, 3) := by decide +kernel
theorem own_d_jdk_68_method_73_15 : decode jdk_68_method_73_code 15 = .ok (.invokevirtual 399, 3) := by decide +kernel
theorem own_pd5 : parseMethodDescriptor "([BIB)V" = some ⟨[(.array .byte), .int, .byte], none⟩ := by decide +kernel
theorem own_d_jdk_68_method_73_18 : decode jdk_68_method_73_code 18 = .ok (.return_, 1) := by decide +kernel
def Q_ps0 (Z : State) (a : Addr) (b : Addr) (kv : ClassId) (o : Addr) (t1 : Addr) (kb : ClassId) (a__VALUES : Addr) (a_OUT : Addr) (a_INP : Addr) (a_TAKE_COMPLETE : Addr) (a_OUT_text : Addr) (a_INP_text : Addr) (a_TAKE_COMPLETE_text : Addr) (a_OUT_text_value : Addr) (a_INP_text_value : Addr) (a_TAKE_COMPLETE_text_value : Addr) (k__VALUES : ClassId) (k_OUT_text_value : ClassId) (k_INP_text_value : ClassId) (k_TAKE_COMPLETE_text_value : ClassId) (cs0 : Int32) (h0 : Heap) (v_ : Option Value) (h : Heap) (L_ : List Loc) : Prop := v_ = none ∧ Fr Z.heap.size L_ ∧ (Keep h0 h [b] ∧ Arv Z h b kv .byte 16 [(.int (111 : Int32)), (.int (117 : Int32)), (.int (116 : Int32))] (.int 0))
set_option maxRecDepth 65536 in
set_option maxHeartbeats 40000000 in
theorem rm_ps0 (l : Launch) (Z : State) (a0 : Array Value) (hw : ∀ d ∈ tables_1, d.before a0 Z = true) (ws : List Jvm.Cond) (a : Addr) (b : Addr) (kv : ClassId) (o : Addr) (t1 : Addr) (kb : ClassId) (a__VALUES : Addr) (a_OUT : Addr) (a_INP : Addr) (a_TAKE_COMPLETE : Addr) (a_OUT_text : Addr) (a_INP_text : Addr) (a_TAKE_COMPLETE_text : Addr) (a_OUT_text_value : Addr) (a_INP_text_value : Addr) (a_TAKE_COMPLETE_text_value : Addr) (k__VALUES : ClassId) (k_OUT_text_value : ClassId) (k_INP_text_value : ClassId) (k_TAKE_COMPLETE_text_value : ClassId) (cs0 : Int32) (h0 : Heap) (O : Ext Z.heap h0) (w : own_W Z a__VALUES a_OUT a_INP a_TAKE_COMPLETE a_OUT_text a_INP_text a_TAKE_COMPLETE_text a_OUT_text_value a_INP_text_value a_TAKE_COMPLETE_text_value k__VALUES k_OUT_text_value k_INP_text_value k_TAKE_COMPLETE_text_value cs0) (Xa : Exa Z h0 a "java/lang/StringBuilder") (Va : Fld Z h0 a "java/lang/AbstractStringBuilder" "value" "[B" (.ref b)) (Ca : Fld Z h0 a "java/lang/AbstractStringBuilder" "coder" "B" (.int 0)) (Ab : Arv Z h0 b kv .byte 16 [] (.int 0)) (gb : Z.heap.size ≤ b) (Xo : Exa Z h0 o "java/lang/String") (Vo : Fld Z h0 o "java/lang/String" "value" "[B" (.ref t1)) (Co : Fld Z h0 o "java/lang/String" "coder" "B" (.int 0)) (Ao : Arv Z h0 t1 kb .byte 3 [(.int (111 : Int32)), (.int (117 : Int32)), (.int (116 : Int32))] (.int 0)) :
    MetFree l (⟨"java/lang/AbstractStringBuilder", "putStringAt", "(ILjava/lang/String;)V"⟩ : MethodName) (head1 (Jvm.Cond.code (⟨"java/lang/AbstractStringBuilder", "putStringAt", "(ILjava/lang/String;)V"⟩ : MethodName) jdk_68_method_73_code 3 none :: ws) ({ frames := 2, cells := 0, slots := 0, locals := 55 } : Room)) (fun a_ U_ => a_ = #[(.ref a), (.int (0 : Int32)), (.ref o)] ∧ Z.Warmed39 U_.vm ∧ U_.heap = h0) (fun _ _ _ _ _ => True) (fun _ U_ o_ U2_ => ∃ v_ L_, o_ = .returned v_ ∧ Q_ps0 Z a b kv o t1 kb a__VALUES a_OUT a_INP a_TAKE_COMPLETE a_OUT_text a_INP_text a_TAKE_COMPLETE_text a_OUT_text_value a_INP_text_value a_TAKE_COMPLETE_text_value k__VALUES k_OUT_text_value k_INP_text_value k_TAKE_COMPLETE_text_value cs0 h0 v_ U2_.heap L_ ∧ FrameEnd U_ o_ U2_ L_ ({ frames := 2, cells := 0, slots := 0, locals := 55 } : Room).cells ({ frames := 2, cells := 0, slots := 0, locals := 55 } : Room).slots) := by
  refine MetFree.of_bodySF (plainFor_of_name own_pn1) hisR ?_
  intro p e s m args below meth c s₁ Bd hml0 hP hK
  obtain ⟨rfl, hZ, hh⟩ := hP
  have hx := Bd.exec
  have hby := Bd.bytes
  have hml : c.maxLocals = 3 := hml0
  have hown : s.vm.findClass "java/lang/AbstractStringBuilder" = some m.cls := findClass_of_methodNamed Bd.named
  have hnm := (name_of_methodNamed Bd.named Bd.method).1
  have X0 : Stand p l e ({ frames := 2, cells := 0, slots := 0, locals := 55 } : Room) s m #[(.ref a), (.int (0 : Int32)), (.ref o)] below meth c s₁ [] 0 0 := Stand.of_body Bd
  have e0 : s₁.heap = h0 := by rw [← hh, Bd.state]; rfl
  have N0 := Fr.nil Z.heap.size
  show own_G p e below (fun o_ s₂ => ∃ v_ L_, o_ = .returned v_ ∧ Q_ps0 Z a b kv o t1 kb a__VALUES a_OUT a_INP a_TAKE_COMPLETE a_OUT_text a_INP_text a_TAKE_COMPLETE_text a_OUT_text_value a_INP_text_value a_TAKE_COMPLETE_text_value k__VALUES k_OUT_text_value k_INP_text_value k_TAKE_COMPLETE_text_value cs0 h0 v_ s₂.heap L_ ∧ FrameEnd s o_ s₂ L_ ({ frames := 2, cells := 0, slots := 0, locals := 55 } : Room).cells ({ frames := 2, cells := 0, slots := 0, locals := 55 } : Room).slots) (s₁.setTop (entryFrame m #[(.ref a), (.int (0 : Int32)), (.ref o)] 3))
  refine own_go (s₁.setTop (mkF m 0 #[.val (.ref a), .val (.int (0 : Int32)), .val (.ref o)] [])) (fun t_ k_ => castTop (own_ef_ps0 m a o) k_) ?_
  have w' := w
  obtain ⟨S__VALUES, X__VALUES, S_OUT, X_OUT, S_INP, X_INP, S_TAKE_COMPLETE, X_TAKE_COMPLETE, F_OUT_text, X_OUT_text, F_INP_text, X_INP_text, F_TAKE_COMPLETE_text, X_TAKE_COMPLETE_text, F_OUT_text_value, X_OUT_text_value, F_INP_text_value, X_INP_text_value, F_TAKE_COMPLETE_text_value, X_TAKE_COMPLETE_text_value, F_OUT_text_coder, F_INP_text_coder, F_TAKE_COMPLETE_text_coder, V__VALUES, V_OUT_text_value, V_INP_text_value, V_TAKE_COMPLETE_text_value, S_CS, n_CS⟩ := w'
  refine own_go (s₁.setTop (mkF m 1 #[.val (.ref a), .val (.int (0 : Int32)), .val (.ref o)] [(.ref a)])) (fun t_ k_ => XS.aloadN X0.here hx rfl (hb hby own_d_jdk_68_method_73_0) rfl rfl k_) ?_
  refine own_go (s₁.setTop (mkF m 2 #[.val (.ref a), .val (.int (0 : Int32)), .val (.ref o)] [(.ref o), (.ref a)])) (fun t_ k_ => XS.aloadN X0.here hx rfl (hb hby own_d_jdk_68_method_73_1) rfl rfl k_) ?_
  obtain ⟨cq1, q1, q1'⟩ := (Xa).cell
  obtain ⟨_, _, ⟨T1, Lu1, ku1, nu1⟩, -, X1, ⟨Lc1, hQ1, lu1, yu1, zu1⟩, st1⟩ := X0.privateBack hx (y := (⟨"java/lang/AbstractStringBuilder", "inflateIfNeededFor", "(Ljava/lang/String;)V"⟩ : MethodName)) hown (mvT hZ (hw _ (List.mem_of_getElem? (i := 83) rfl))) (mvT hZ (hw _ (List.mem_of_getElem? (i := 84) rfl))) (own_selp (mvT hZ (hw _ (List.mem_of_getElem? (i := 76) rfl))) rfl (Cond.privateMethod_at (mvP hZ (hw _ (List.mem_of_getElem? (i := 85) rfl)) (args := #[]))) (mvT hZ (hw _ (List.mem_of_getElem? (i := 84) rfl))) (by decide)) (Cond.privateMethod_at (mvP hZ (hw _ (List.mem_of_getElem? (i := 85) rfl)) (args := #[]))) (mvT hZ (hw _ (List.mem_of_getElem? (i := 87) rfl))) (by decide) (backOf (W := 0) (rm_inf0 l Z a0 hw [] (a) (o) (a__VALUES) (a_OUT) (a_INP) (a_TAKE_COMPLETE) (a_OUT_text) (a_INP_text) (a_TAKE_COMPLETE_text) (a_OUT_text_value) (a_INP_text_value) (a_TAKE_COMPLETE_text_value) (k__VALUES) (k_OUT_text_value) (k_INP_text_value) (k_TAKE_COMPLETE_text_value) (cs0) h0 O w Ca Xo Co) hZ (hw _ (List.mem_of_getElem? (i := 87) rfl)) (hw _ (List.mem_of_getElem? (i := 14) rfl)) (by decide) (by decide)) (g := (mkF m 2 #[.val (.ref a), .val (.int (0 : Int32)), .val (.ref o)] [(.ref o), (.ref a)])) rfl (by rw [hml]; rfl) (Steps.refl _) (a := a) (by rw [e0]; exact q1) q1' (argsL := [(.ref o)]) (rest := []) (lenOf own_pd4 rfl) rfl (by show 2 * 0 + _ ≤ _; exact Nat.le_of_eq rfl) (hb hby own_d_jdk_68_method_73_2) (fun _ _ => ⟨rfl, e0, (by decide : 0 + 0 ≤ _), (by decide : 0 + 0 ≤ _)⟩)
  dsimp only [Pt.U, Pt.locs, Pt.cells, Pt.slots] at X1 lu1 yu1 zu1 st1 hQ1
  subst lu1 yu1 zu1
  obtain ⟨rfl, N1q, e1⟩ := hQ1
  have N1 := Fr.app N0 N1q
  refine own_go (T1.setTop (mkF m 5 #[.val (.ref a), .val (.int (0 : Int32)), .val (.ref o)] [])) (fun t_ k_ => st1.trans k_) ?_
  refine own_go (T1.setTop (mkF m 6 #[.val (.ref a), .val (.int (0 : Int32)), .val (.ref o)] [(.ref o)])) (fun t_ k_ => XS.aloadN X1.here hx rfl (hb hby own_d_jdk_68_method_73_5) rfl rfl k_) ?_
  refine own_go (T1.setTop (mkF m 7 #[.val (.ref a), .val (.int (0 : Int32)), .val (.ref o)] [(.ref a), (.ref o)])) (fun t_ k_ => XS.aloadN X1.here hx rfl (hb hby own_d_jdk_68_method_73_6) rfl rfl k_) ?_
  obtain ⟨T2, X2, e2, st2⟩ := getF X1 hx hZ hown (host := "") (Or.inl (hw _ (List.mem_of_getElem? (i := 22) rfl))) Via.refl e1 Va (g := (mkF m 7 #[.val (.ref a), .val (.int (0 : Int32)), .val (.ref o)] [(.ref a), (.ref o)])) rfl rfl (hb hby own_d_jdk_68_method_73_7)
  refine own_go (T2.setTop (mkF m 10 #[.val (.ref a), .val (.int (0 : Int32)), .val (.ref o)] [(.ref b), (.ref o)])) (fun t_ k_ => st2 _ k_) ?_
  refine own_go (T2.setTop (mkF m 11 #[.val (.ref a), .val (.int (0 : Int32)), .val (.ref o)] [(.int (0 : Int32)), (.ref b), (.ref o)])) (fun t_ k_ => XS.iloadN X2.here hx rfl (hb hby own_d_jdk_68_method_73_10) rfl k_) ?_
  refine own_go (T2.setTop (mkF m 12 #[.val (.ref a), .val (.int (0 : Int32)), .val (.ref o)] [(.ref a), (.int (0 : Int32)), (.ref b), (.ref o)])) (fun t_ k_ => XS.aloadN X2.here hx rfl (hb hby own_d_jdk_68_method_73_11) rfl rfl k_) ?_
  obtain ⟨T3, X3, e3, st3⟩ := getF X2 hx hZ hown (host := "") (Or.inl (hw _ (List.mem_of_getElem? (i := 24) rfl))) Via.refl e2 Ca (g := (mkF m 12 #[.val (.ref a), .val (.int (0 : Int32)), .val (.ref o)] [(.ref a), (.int (0 : Int32)), (.ref b), (.ref o)])) rfl rfl (hb hby own_d_jdk_68_method_73_12)
  refine own_go (T3.setTop (mkF m 15 #[.val (.ref a), .val (.int (0 : Int32)), .val (.ref o)] [(.int (0 : Int32)), (.int (0 : Int32)), (.ref b), (.ref o)])) (fun t_ k_ => st3 _ k_) ?_
  obtain ⟨cq4, kq4, q4a, q4b, q4c⟩ := isOf hZ e3 Xo
  obtain ⟨_, _, ⟨T4, Lu4, ku4, nu4⟩, -, X4, ⟨Lc4, hQ4, lu4, yu4, zu4⟩, st4⟩ := X3.virtualBack hx (y := (⟨"java/lang/String", "getBytes", "([BIB)V"⟩ : MethodName)) (z := (⟨"java/lang/String", "getBytes", "([BIB)V"⟩ : MethodName)) hown (mvT hZ (hw _ (List.mem_of_getElem? (i := 89) rfl))) (mvT hZ (hw _ (List.mem_of_getElem? (i := 90) rfl))) (notFace_of_selects (args := #[]) (mvT hZ (hw _ (List.mem_of_getElem? (i := 92) rfl)))) (mvT hZ (hw _ (List.mem_of_getElem? (i := 92) rfl))) (mvT hZ (hw _ (List.mem_of_getElem? (i := 91) rfl))) (by decide) (backOf (W := 0) (rm_gb0 l Z a0 hw [] (o) (t1) (kb) (b) (kv) (a__VALUES) (a_OUT) (a_INP) (a_TAKE_COMPLETE) (a_OUT_text) (a_INP_text) (a_TAKE_COMPLETE_text) (a_OUT_text_value) (a_INP_text_value) (a_TAKE_COMPLETE_text_value) (k__VALUES) (k_OUT_text_value) (k_INP_text_value) (k_TAKE_COMPLETE_text_value) (cs0) h0 O w Xo Vo Co Ao Ab gb) hZ (hw _ (List.mem_of_getElem? (i := 93) rfl)) (hw _ (List.mem_of_getElem? (i := 20) rfl)) (by decide) (by decide)) q4a q4c (g := (mkF m 15 #[.val (.ref a), .val (.int (0 : Int32)), .val (.ref o)] [(.int (0 : Int32)), (.int (0 : Int32)), (.ref b), (.ref o)])) rfl (by rw [hml]; rfl) (Steps.refl _) (argsL := [(.ref b), (.int (0 : Int32)), (.int (0 : Int32))]) (rest := []) (lenOf own_pd5 rfl) rfl (by show 2 * 0 + _ ≤ _; exact Nat.le_of_eq rfl) (hb hby own_d_jdk_68_method_73_15) (fun _ _ => ⟨rfl, e3, (by decide : 0 + 0 ≤ _), (by decide : 0 + 0 ≤ _)⟩)
  dsimp only [Pt.U, Pt.locs, Pt.cells, Pt.slots] at X4 lu4 yu4 zu4 st4 hQ4
  subst lu4 yu4 zu4
  obtain ⟨rfl, N4q, K4q, V4q⟩ := hQ4
  have N4 := Fr.app N1 N4q
  have O4 := own_extK O K4q (allS gb all0)
  have KK4 : Keep h0 T4.heap [b] := (Keep.refl h0 [b]).trans K4q (allS (Or.inl (List.mem_of_getElem? (i := 0) rfl)) all0)
  refine own_go (T4.setTop (mkF m 18 #[.val (.ref a), .val (.int (0 : Int32)), .val (.ref o)] [])) (fun t_ k_ => st4.trans k_) ?_
  obtain ⟨fs, hr, hrun, hended, hW, hsame⟩ := X4.leave (v := none) (fun _ => rfl)
  refine ⟨_, _, X4.returnOut hx Bd.returns (hb hby own_d_jdk_68_method_73_18) hr, hrun, hended, _, _, rfl, ?_, ⟨_, rfl⟩, hW, hsame.mono (by decide) (by decide)⟩
  show Q_ps0 Z a b kv o t1 kb a__VALUES a_OUT a_INP a_TAKE_COMPLETE a_OUT_text a_INP_text a_TAKE_COMPLETE_text a_OUT_text_value a_INP_text_value a_TAKE_COMPLETE_text_value k__VALUES k_OUT_text_value k_INP_text_value k_TAKE_COMPLETE_text_value cs0 h0 _ T4.heap _
  exact ⟨rfl, N4, KK4, V4q⟩
theorem own_ef_ln0 (m : MethodId) (o : Addr) : entryFrame m #[(.ref o)] 1 = mkF m 0 #[.val (.ref o)] [] := by first | (simp [entryFrame, mkF, argsToLocals, Value.category]; done) | rfl
theorem own_d_jdk_42_method_54_0 : decode jdk_42_method_54_code 0 = .ok (.aload_n 0, 1) := by decide +kernel
theorem own_d_jdk_42_method_54_1 : decode jdk_42_method_54_code 1 = .ok (.getfield 9, 3) := by decide +kernel
theorem own_d_jdk_42_method_54_4 : decode jdk_42_method_54_code 4 = .ok (.arraylength, 1) := by decide +kernel
theorem own_d_jdk_42_method_54_5 : decode jdk_42_method_54_code 5 = .ok (.aload_n 0, 1) := by decide +kernel
theorem own_d_jdk_42_method_54_6 : decode jdk_42_method_54_code 6 = .ok (.invokevirtual 335, 3) := by decide +kernel
theorem own_d_jdk_42_method_54_9 : decode jdk_42_method_54_code 9 = .ok (.ishr, 1) := by decide +kernel
theorem own_d_jdk_42_method_54_10 : decode jdk_42_method_54_code 10 = .ok (.ireturn, 1) := by decide +kernel
def Q_ln0 (Z : State) (o : Addr) (t1 : Addr) (kb : ClassId) (a__VALUES : Addr) (a_OUT : Addr) (a_INP : Addr) (a_TAKE_COMPLETE : Addr) (a_OUT_text : Addr) (a_INP_text : Addr) (a_TAKE_COMPLETE_text : Addr) (a_OUT_text_value : Addr) (a_INP_text_value : Addr) (a_TAKE_COMPLETE_text_value : Addr) (k__VALUES : ClassId) (k_OUT_text_value : ClassId) (k_INP_text_value : ClassId) (k_TAKE_COMPLETE_text_value : ClassId) (cs0 : Int32) (h0 : Heap) (v_ : Option Value) (h : Heap) (L_ : List Loc) : Prop := v_ = some (.int 3) ∧ Fr Z.heap.size L_ ∧ (h = h0)
set_option maxRecDepth 65536 in
set_option maxHeartbeats 40000000 in
theorem rm_ln0 (l : Launch) (Z : State) (a0 : Array Value) (hw : ∀ d ∈ tables_1, d.before a0 Z = true) (ws : List Jvm.Cond) (o : Addr) (t1 : Addr) (kb : ClassId) (a__VALUES : Addr) (a_OUT : Addr) (a_INP : Addr) (a_TAKE_COMPLETE : Addr) (a_OUT_text : Addr) (a_INP_text : Addr) (a_TAKE_COMPLETE_text : Addr) (a_OUT_text_value : Addr) (a_INP_text_value : Addr) (a_TAKE_COMPLETE_text_value : Addr) (k__VALUES : ClassId) (k_OUT_text_value : ClassId) (k_INP_text_value : ClassId) (k_TAKE_COMPLETE_text_value : ClassId) (cs0 : Int32) (h0 : Heap) (O : Ext Z.heap h0) (w : own_W Z a__VALUES a_OUT a_INP a_TAKE_COMPLETE a_OUT_text a_INP_text a_TAKE_COMPLETE_text a_OUT_text_value a_INP_text_value a_TAKE_COMPLETE_text_value k__VALUES k_OUT_text_value k_INP_text_value k_TAKE_COMPLETE_text_value cs0) (Xo : Exa Z h0 o "java/lang/String") (Vo : Fld Z h0 o "java/lang/String" "value" "[B" (.ref t1)) (Co : Fld Z h0 o "java/lang/String" "coder" "B" (.int 0)) (Ao : Arv Z h0 t1 kb .byte 3 [(.int (111 : Int32)), (.int (117 : Int32)), (.int (116 : Int32))] (.int 0)) :
    MetFree l (⟨"java/lang/String", "length", "()I"⟩ : MethodName) (head1 (Jvm.Cond.code (⟨"java/lang/String", "length", "()I"⟩ : MethodName) jdk_42_method_54_code 1 (some .int) :: ws) ({ frames := 1, cells := 0, slots := 0, locals := 13 } : Room)) (fun a_ U_ => a_ = #[(.ref o)] ∧ Z.Warmed39 U_.vm ∧ U_.heap = h0) (fun _ _ _ _ _ => True) (fun _ U_ o_ U2_ => ∃ v_ L_, o_ = .returned v_ ∧ Q_ln0 Z o t1 kb a__VALUES a_OUT a_INP a_TAKE_COMPLETE a_OUT_text a_INP_text a_TAKE_COMPLETE_text a_OUT_text_value a_INP_text_value a_TAKE_COMPLETE_text_value k__VALUES k_OUT_text_value k_INP_text_value k_TAKE_COMPLETE_text_value cs0 h0 v_ U2_.heap L_ ∧ FrameEnd U_ o_ U2_ L_ ({ frames := 1, cells := 0, slots := 0, locals := 13 } : Room).cells ({ frames := 1, cells := 0, slots := 0, locals := 13 } : Room).slots) := by
  refine MetFree.of_bodySF (plainFor_of_name own_pn0) hisR ?_
  intro p e s m args below meth c s₁ Bd hml0 hP hK
  obtain ⟨rfl, hZ, hh⟩ := hP
  have hx := Bd.exec
  have hby := Bd.bytes
  have hml : c.maxLocals = 1 := hml0
  have hown : s.vm.findClass "java/lang/String" = some m.cls := findClass_of_methodNamed Bd.named
  have hnm := (name_of_methodNamed Bd.named Bd.method).1
  have X0 : Stand p l e ({ frames := 1, cells := 0, slots := 0, locals := 13 } : Room) s m #[(.ref o)] below meth c s₁ [] 0 0 := Stand.of_body Bd
  have e0 : s₁.heap = h0 := by rw [← hh, Bd.state]; rfl
  have N0 := Fr.nil Z.heap.size
  show own_G p e below (fun o_ s₂ => ∃ v_ L_, o_ = .returned v_ ∧ Q_ln0 Z o t1 kb a__VALUES a_OUT a_INP a_TAKE_COMPLETE a_OUT_text a_INP_text a_TAKE_COMPLETE_text a_OUT_text_value a_INP_text_value a_TAKE_COMPLETE_text_value k__VALUES k_OUT_text_value k_INP_text_value k_TAKE_COMPLETE_text_value cs0 h0 v_ s₂.heap L_ ∧ FrameEnd s o_ s₂ L_ ({ frames := 1, cells := 0, slots := 0, locals := 13 } : Room).cells ({ frames := 1, cells := 0, slots := 0, locals := 13 } : Room).slots) (s₁.setTop (entryFrame m #[(.ref o)] 1))
  refine own_go (s₁.setTop (mkF m 0 #[.val (.ref o)] [])) (fun t_ k_ => castTop (own_ef_ln0 m o) k_) ?_
  have w' := w
  obtain ⟨S__VALUES, X__VALUES, S_OUT, X_OUT, S_INP, X_INP, S_TAKE_COMPLETE, X_TAKE_COMPLETE, F_OUT_text, X_OUT_text, F_INP_text, X_INP_text, F_TAKE_COMPLETE_text, X_TAKE_COMPLETE_text, F_OUT_text_value, X_OUT_text_value, F_INP_text_value, X_INP_text_value, F_TAKE_COMPLETE_text_value, X_TAKE_COMPLETE_text_value, F_OUT_text_coder, F_INP_text_coder, F_TAKE_COMPLETE_text_coder, V__VALUES, V_OUT_text_value, V_INP_text_value, V_TAKE_COMPLETE_text_value, S_CS, n_CS⟩ := w'
  refine own_go (s₁.setTop (mkF m 1 #[.val (.ref o)] [(.ref o)])) (fun t_ k_ => XS.aloadN X0.here hx rfl (hb hby own_d_jdk_42_method_54_0) rfl rfl k_) ?_
  obtain ⟨T1, X1, e1, st1⟩ := getF X0 hx hZ hown (host := "") (Or.inl (hw _ (List.mem_of_getElem? (i := 61) rfl))) Via.refl e0 Vo (g := (mkF m 1 #[.val (.ref o)] [(.ref o)])) rfl rfl (hb hby own_d_jdk_42_method_54_1)
  refine own_go (T1.setTop (mkF m 4 #[.val (.ref o)] [(.ref t1)])) (fun t_ k_ => st1 _ k_) ?_
  obtain ⟨cl2, Ar2, q2, Sz2, Nz2, Hz2, Gz2⟩ := id (Ao)
  refine own_go (T1.setTop (mkF m 5 #[.val (.ref o)] [(.int (3 : Int32))])) (fun t_ k_ => X1.arraylength hx (by rw [e1]; exact Ar2.1) (State.isArrayOf_alike hZ.alike Ar2.2.1) (g := (mkF m 4 #[.val (.ref o)] [(.ref t1)])) rfl rfl (hb hby own_d_jdk_42_method_54_4) _ (by rw [len_of Sz2 Nz2]; exact k_)) ?_
  refine own_go (T1.setTop (mkF m 6 #[.val (.ref o)] [(.ref o), (.int (3 : Int32))])) (fun t_ k_ => XS.aloadN X1.here hx rfl (hb hby own_d_jdk_42_method_54_5) rfl rfl k_) ?_
  obtain ⟨cq3, kq3, q3a, q3b, q3c⟩ := isOf hZ e1 Xo
  obtain ⟨_, _, ⟨T3, Lu3, ku3, nu3⟩, -, X3, ⟨Lc3, hQ3, lu3, yu3, zu3⟩, st3⟩ := X1.virtualBack hx (y := (⟨"java/lang/String", "coder", "()B"⟩ : MethodName)) (z := (⟨"java/lang/String", "coder", "()B"⟩ : MethodName)) hown (mvT hZ (hw _ (List.mem_of_getElem? (i := 63) rfl))) (mvT hZ (hw _ (List.mem_of_getElem? (i := 64) rfl))) (notFace_of_selects (args := #[]) (mvT hZ (hw _ (List.mem_of_getElem? (i := 66) rfl)))) (mvT hZ (hw _ (List.mem_of_getElem? (i := 66) rfl))) (mvT hZ (hw _ (List.mem_of_getElem? (i := 65) rfl))) (by decide) (backOf (W := 1) (rm_cdr l Z a0 hw [] (o) (a__VALUES) (a_OUT) (a_INP) (a_TAKE_COMPLETE) (a_OUT_text) (a_INP_text) (a_TAKE_COMPLETE_text) (a_OUT_text_value) (a_INP_text_value) (a_TAKE_COMPLETE_text_value) (k__VALUES) (k_OUT_text_value) (k_INP_text_value) (k_TAKE_COMPLETE_text_value) (cs0) h0 O w Co) hZ (hw _ (List.mem_of_getElem? (i := 67) rfl)) (hw _ (List.mem_of_getElem? (i := 20) rfl)) (by decide) (by decide)) q3a q3c (g := (mkF m 6 #[.val (.ref o)] [(.ref o), (.int (3 : Int32))])) rfl (by rw [hml]; rfl) (Steps.refl _) (argsL := []) (rest := [(.int (3 : Int32))]) (lenOf own_pd3 rfl) rfl (by show 2 * 0 + _ ≤ _; exact Nat.le_of_eq rfl) (hb hby own_d_jdk_42_method_54_6) (fun _ _ => ⟨rfl, e1, (by decide : 0 + 0 ≤ _), (by decide : 0 + 0 ≤ _)⟩)
  dsimp only [Pt.U, Pt.locs, Pt.cells, Pt.slots] at X3 lu3 yu3 zu3 st3 hQ3
  subst lu3 yu3 zu3
  obtain ⟨rfl, N3q, e3⟩ := hQ3
  have N3 := Fr.app N0 N3q
  refine own_go (T3.setTop (mkF m 9 #[.val (.ref o)] [(.int (0 : Int32)), (.int (3 : Int32))])) (fun t_ k_ => st3.trans k_) ?_
  refine own_go (T3.setTop (mkF m 10 #[.val (.ref o)] [(.int ((3 : Int32) >>> ((0 : Int32) &&& 31)))])) (fun t_ k_ => XS.ishr X3.here hx rfl (hb hby own_d_jdk_42_method_54_9) rfl k_) ?_
  rw [show ((3 : Int32) >>> ((0 : Int32) &&& 31)) = (3 : Int32) from by decide]
  obtain ⟨fs, hr, hrun, hended, hW, hsame⟩ := X3.leave (v := some (.int (3 : Int32))) (fun h => by rw [Bd.returns] at h; cases h)
  refine ⟨_, _, retI X3 hx Bd.returns (hb hby own_d_jdk_42_method_54_10) hr, hrun, hended, _, _, rfl, ?_, ⟨_, rfl⟩, hW, hsame.mono (by decide) (by decide)⟩
  show Q_ln0 Z o t1 kb a__VALUES a_OUT a_INP a_TAKE_COMPLETE a_OUT_text a_INP_text a_TAKE_COMPLETE_text a_OUT_text_value a_INP_text_value a_TAKE_COMPLETE_text_value k__VALUES k_OUT_text_value k_INP_text_value k_TAKE_COMPLETE_text_value cs0 h0 _ T3.heap _
  exact ⟨rfl, N3, e3⟩
theorem own_ef_aa0 (m : MethodId) (a : Addr) (o : Addr) : entryFrame m #[(.ref a), (.ref o)] 3 = mkF m 0 #[.val (.ref a), .val (.ref o), .unset] [] := by first | (simp [entryFrame, mkF, argsToLocals, Value.category]; done) | rfl
theorem own_d_jdk_68_method_22_0 : decode jdk_68_method_22_code 0 = .ok (.aload_n 1, 1) := by decide +kernel
theorem own_d_jdk_68_method_22_1 : decode jdk_68_method_22_code 1 = .ok (.ifnonnull 8, 3) := by decide +kernel
theorem own_d_jdk_68_method_22_9 : decode jdk_68_method_22_code 9 = .ok (.aload_n 1, 1) := by decide +kernel
theorem own_d_jdk_68_method_22_10 : decode jdk_68_method_22_code 10 = .ok (.invokevirtual 32, 3) := by decide +kernel
theorem own_pd6 : parseMethodDescriptor "()I" = some ⟨[], some .int⟩ := by decide +kernel
theorem own_d_jdk_68_method_22_13 : decode jdk_68_method_22_code 13 = .ok (.istore_n 2, 1) := by decide +kernel
theorem own_d_jdk_68_method_22_14 : decode jdk_68_method_22_code 14 = .ok (.aload_n 0, 1) := by decide +kernel
theorem own_d_jdk_68_method_22_15 : decode jdk_68_method_22_code 15 = .ok (.aload_n 0, 1) := by decide +kernel
theorem own_d_jdk_68_method_22_16 : decode jdk_68_method_22_code 16 = .ok (.getfield 79, 3) := by decide +kernel
theorem own_d_jdk_68_method_22_19 : decode jdk_68_method_22_code 19 = .ok (.iload_n 2, 1) := by decide +kernel
theorem own_d_jdk_68_method_22_20 : decode jdk_68_method_22_code 20 = .ok (.iadd, 1) := by decide +kernel
theorem own_d_jdk_68_method_22_21 : decode jdk_68_method_22_code 21 = .ok (.invokevirtual 100, 3) := by decide +kernel
theorem own_d_jdk_68_method_22_24 : decode jdk_68_method_22_code 24 = .ok (.aload_n 0, 1) := by decide +kernel
theorem own_d_jdk_68_method_22_25 : decode jdk_68_method_22_code 25 = .ok (.aload_n 0, 1) := by decide +kernel
theorem own_d_jdk_68_method_22_26 : decode jdk_68_method_22_code 26 = .ok (.getfield 79, 3) := by decide +kernel
theorem own_d_jdk_68_method_22_29 : decode jdk_68_method_22_code 29 = .ok (.aload_n 1, 1) := by decide +kernel
theorem own_d_jdk_68_method_22_30 : decode jdk_68_method_22_code 30 = .ok (.invokevirtual 208, 3) := by decide +kernel
theorem own_pd7 : parseMethodDescriptor "(ILjava/lang/String;)V" = some ⟨[.int, (.object "java/lang/String")], none⟩ := by decide +kernel
theorem own_d_jdk_68_method_22_33 : decode jdk_68_method_22_code 33 = .ok (.aload_n 0, 1) := by decide +kernel
theorem own_d_jdk_68_method_22_34 : decode jdk_68_method_22_code 34 = .ok (.dup, 1) := by decide +kernel
theorem own_d_jdk_68_method_22_35 : decode jdk_68_method_22_code 35 = .ok (.getfield 79, 3) := by decide +kernel
theorem own_d_jdk_68_method_22_38 : decode jdk_68_method_22_code 38 = .ok (.iload_n 2, 1) := by decide +kernel
theorem own_d_jdk_68_method_22_39 : decode jdk_68_method_22_code 39 = .ok (.iadd, 1) := by decide +kernel
theorem own_d_jdk_68_method_22_40 : decode jdk_68_method_22_code 40 = .ok (.putfield 79, 3) := by decide +kernel
theorem own_d_jdk_68_method_22_43 : decode jdk_68_method_22_code 43 = .ok (.aload_n 0, 1) := by decide +kernel
theorem own_d_jdk_68_method_22_44 : decode jdk_68_method_22_code 44 = .ok (.areturn, 1) := by decide +kernel
def Q_aa0 (Z : State) (a : Addr) (b : Addr) (kv : ClassId) (o : Addr) (t1 : Addr) (kb : ClassId) (a__VALUES : Addr) (a_OUT : Addr) (a_INP : Addr) (a_TAKE_COMPLETE : Addr) (a_OUT_text : Addr) (a_INP_text : Addr) (a_TAKE_COMPLETE_text : Addr) (a_OUT_text_value : Addr) (a_INP_text_value : Addr) (a_TAKE_COMPLETE_text_value : Addr) (k__VALUES : ClassId) (k_OUT_text_value : ClassId) (k_INP_text_value : ClassId) (k_TAKE_COMPLETE_text_value : ClassId) (cs0 : Int32) (h0 : Heap) (v_ : Option Value) (h : Heap) (L_ : List Loc) : Prop := ∃ (b2 : Addr), ∃ (k2 : ClassId), v_ = some (.ref a) ∧ Fr Z.heap.size L_ ∧ (Keep h0 h [a, b] ∧ Z.heap.size ≤ b2 ∧ b = b2 ∧ kv = k2 ∧ Exa Z h a "java/lang/StringBuilder" ∧ Fld Z h a "java/lang/AbstractStringBuilder" "value" "[B" (.ref b2) ∧ Fld Z h a "java/lang/AbstractStringBuilder" "coder" "B" (.int 0) ∧ Fld Z h a "java/lang/AbstractStringBuilder" "count" "I" (.int 3) ∧ Arv Z h b2 k2 .byte 16 [(.int (111 : Int32)), (.int (117 : Int32)), (.int (116 : Int32))] (.int 0))
set_option maxRecDepth 65536 in
set_option maxHeartbeats 40000000 in
theorem rm_aa0 (l : Launch) (Z : State) (a0 : Array Value) (hw : ∀ d ∈ tables_1, d.before a0 Z = true) (ws : List Jvm.Cond) (a : Addr) (b : Addr) (kv : ClassId) (o : Addr) (t1 : Addr) (kb : ClassId) (a__VALUES : Addr) (a_OUT : Addr) (a_INP : Addr) (a_TAKE_COMPLETE : Addr) (a_OUT_text : Addr) (a_INP_text : Addr) (a_TAKE_COMPLETE_text : Addr) (a_OUT_text_value : Addr) (a_INP_text_value : Addr) (a_TAKE_COMPLETE_text_value : Addr) (k__VALUES : ClassId) (k_OUT_text_value : ClassId) (k_INP_text_value : ClassId) (k_TAKE_COMPLETE_text_value : ClassId) (cs0 : Int32) (h0 : Heap) (O : Ext Z.heap h0) (w : own_W Z a__VALUES a_OUT a_INP a_TAKE_COMPLETE a_OUT_text a_INP_text a_TAKE_COMPLETE_text a_OUT_text_value a_INP_text_value a_TAKE_COMPLETE_text_value k__VALUES k_OUT_text_value k_INP_text_value k_TAKE_COMPLETE_text_value cs0) (Xa : Exa Z h0 a "java/lang/StringBuilder") (Va : Fld Z h0 a "java/lang/AbstractStringBuilder" "value" "[B" (.ref b)) (Ca : Fld Z h0 a "java/lang/AbstractStringBuilder" "coder" "B" (.int 0)) (Na : Fld Z h0 a "java/lang/AbstractStringBuilder" "count" "I" (.int 0)) (Ab : Arv Z h0 b kv .byte 16 [] (.int 0)) (ga : Z.heap.size ≤ a) (gb : Z.heap.size ≤ b) (Xo : Exa Z h0 o "java/lang/String") (Vo : Fld Z h0 o "java/lang/String" "value" "[B" (.ref t1)) (Co : Fld Z h0 o "java/lang/String" "coder" "B" (.int 0)) (Ao : Arv Z h0 t1 kb .byte 3 [(.int (111 : Int32)), (.int (117 : Int32)), (.int (116 : Int32))] (.int 0)) (nt : t1 ≠ b) :
    MetFree l (⟨"java/lang/AbstractStringBuilder", "append", "(Ljava/lang/String;)Ljava/lang/AbstractStringBuilder;"⟩ : MethodName) (head1 (Jvm.Cond.code (⟨"java/lang/AbstractStringBuilder", "append", "(Ljava/lang/String;)Ljava/lang/AbstractStringBuilder;"⟩ : MethodName) jdk_68_method_22_code 3 (some (.object "java/lang/AbstractStringBuilder")) :: ws) ({ frames := 3, cells := 0, slots := 0, locals := 69 } : Room)) (fun a_ U_ => a_ = #[(.ref a), (.ref o)] ∧ Z.Warmed39 U_.vm ∧ U_.heap = h0) (fun _ _ _ _ _ => True) (fun _ U_ o_ U2_ => ∃ v_ L_, o_ = .returned v_ ∧ Q_aa0 Z a b kv o t1 kb a__VALUES a_OUT a_INP a_TAKE_COMPLETE a_OUT_text a_INP_text a_TAKE_COMPLETE_text a_OUT_text_value a_INP_text_value a_TAKE_COMPLETE_text_value k__VALUES k_OUT_text_value k_INP_text_value k_TAKE_COMPLETE_text_value cs0 h0 v_ U2_.heap L_ ∧ FrameEnd U_ o_ U2_ L_ ({ frames := 3, cells := 0, slots := 0, locals := 69 } : Room).cells ({ frames := 3, cells := 0, slots := 0, locals := 69 } : Room).slots) := by
  refine MetFree.of_bodySF (plainFor_of_name own_pn1) hisR ?_
  intro p e s m args below meth c s₁ Bd hml0 hP hK
  obtain ⟨rfl, hZ, hh⟩ := hP
  have hx := Bd.exec
  have hby := Bd.bytes
  have hml : c.maxLocals = 3 := hml0
  have hown : s.vm.findClass "java/lang/AbstractStringBuilder" = some m.cls := findClass_of_methodNamed Bd.named
  have hnm := (name_of_methodNamed Bd.named Bd.method).1
  have X0 : Stand p l e ({ frames := 3, cells := 0, slots := 0, locals := 69 } : Room) s m #[(.ref a), (.ref o)] below meth c s₁ [] 0 0 := Stand.of_body Bd
  have e0 : s₁.heap = h0 := by rw [← hh, Bd.state]; rfl
  have N0 := Fr.nil Z.heap.size
  show own_G p e below (fun o_ s₂ => ∃ v_ L_, o_ = .returned v_ ∧ Q_aa0 Z a b kv o t1 kb a__VALUES a_OUT a_INP a_TAKE_COMPLETE a_OUT_text a_INP_text a_TAKE_COMPLETE_text a_OUT_text_value a_INP_text_value a_TAKE_COMPLETE_text_value k__VALUES k_OUT_text_value k_INP_text_value k_TAKE_COMPLETE_text_value cs0 h0 v_ s₂.heap L_ ∧ FrameEnd s o_ s₂ L_ ({ frames := 3, cells := 0, slots := 0, locals := 69 } : Room).cells ({ frames := 3, cells := 0, slots := 0, locals := 69 } : Room).slots) (s₁.setTop (entryFrame m #[(.ref a), (.ref o)] 3))
  refine own_go (s₁.setTop (mkF m 0 #[.val (.ref a), .val (.ref o), .unset] [])) (fun t_ k_ => castTop (own_ef_aa0 m a o) k_) ?_
  have w' := w
  obtain ⟨S__VALUES, X__VALUES, S_OUT, X_OUT, S_INP, X_INP, S_TAKE_COMPLETE, X_TAKE_COMPLETE, F_OUT_text, X_OUT_text, F_INP_text, X_INP_text, F_TAKE_COMPLETE_text, X_TAKE_COMPLETE_text, F_OUT_text_value, X_OUT_text_value, F_INP_text_value, X_INP_text_value, F_TAKE_COMPLETE_text_value, X_TAKE_COMPLETE_text_value, F_OUT_text_coder, F_INP_text_coder, F_TAKE_COMPLETE_text_coder, V__VALUES, V_OUT_text_value, V_INP_text_value, V_TAKE_COMPLETE_text_value, S_CS, n_CS⟩ := w'
  refine own_go (s₁.setTop (mkF m 1 #[.val (.ref a), .val (.ref o), .unset] [(.ref o)])) (fun t_ k_ => XS.aloadN X0.here hx rfl (hb hby own_d_jdk_68_method_22_0) rfl rfl k_) ?_
  refine own_go (s₁.setTop (mkF m 9 #[.val (.ref a), .val (.ref o), .unset] [])) (fun t_ k_ => XS.ifnonnullYes X0.here hx rfl (pc0 := 1) (pc' := 9) rfl (hb hby own_d_jdk_68_method_22_1) rfl (by decide) (by decide) k_) ?_
  refine own_go (s₁.setTop (mkF m 10 #[.val (.ref a), .val (.ref o), .unset] [(.ref o)])) (fun t_ k_ => XS.aloadN X0.here hx rfl (hb hby own_d_jdk_68_method_22_9) rfl rfl k_) ?_
  obtain ⟨cq1, kq1, q1a, q1b, q1c⟩ := isOf hZ e0 Xo
  obtain ⟨_, _, ⟨T1, Lu1, ku1, nu1⟩, -, X1, ⟨Lc1, hQ1, lu1, yu1, zu1⟩, st1⟩ := X0.virtualBack hx (y := (⟨"java/lang/String", "length", "()I"⟩ : MethodName)) (z := (⟨"java/lang/String", "length", "()I"⟩ : MethodName)) hown (mvT hZ (hw _ (List.mem_of_getElem? (i := 56) rfl))) (mvT hZ (hw _ (List.mem_of_getElem? (i := 57) rfl))) (notFace_of_selects (args := #[]) (mvT hZ (hw _ (List.mem_of_getElem? (i := 59) rfl)))) (mvT hZ (hw _ (List.mem_of_getElem? (i := 59) rfl))) (mvT hZ (hw _ (List.mem_of_getElem? (i := 58) rfl))) (by decide) (backOf (W := 0) (rm_ln0 l Z a0 hw [] (o) (t1) (kb) (a__VALUES) (a_OUT) (a_INP) (a_TAKE_COMPLETE) (a_OUT_text) (a_INP_text) (a_TAKE_COMPLETE_text) (a_OUT_text_value) (a_INP_text_value) (a_TAKE_COMPLETE_text_value) (k__VALUES) (k_OUT_text_value) (k_INP_text_value) (k_TAKE_COMPLETE_text_value) (cs0) h0 O w Xo Vo Co Ao) hZ (hw _ (List.mem_of_getElem? (i := 60) rfl)) (hw _ (List.mem_of_getElem? (i := 20) rfl)) (by decide) (by decide)) q1a q1c (g := (mkF m 10 #[.val (.ref a), .val (.ref o), .unset] [(.ref o)])) rfl (by rw [hml]; rfl) (Steps.refl _) (argsL := []) (rest := []) (lenOf own_pd6 rfl) rfl (by show 2 * 0 + _ ≤ _; exact Nat.le_of_eq rfl) (hb hby own_d_jdk_68_method_22_10) (fun _ _ => ⟨rfl, e0, (by decide : 0 + 0 ≤ _), (by decide : 0 + 0 ≤ _)⟩)
  dsimp only [Pt.U, Pt.locs, Pt.cells, Pt.slots] at X1 lu1 yu1 zu1 st1 hQ1
  subst lu1 yu1 zu1
  obtain ⟨rfl, N1q, e1⟩ := hQ1
  have N1 := Fr.app N0 N1q
  refine own_go (T1.setTop (mkF m 13 #[.val (.ref a), .val (.ref o), .unset] [(.int (3 : Int32))])) (fun t_ k_ => st1.trans k_) ?_
  refine own_go (T1.setTop (mkF m 14 #[.val (.ref a), .val (.ref o), .val (.int (3 : Int32))] [])) (fun t_ k_ => XS.istoreN X1.here hx rfl (hb hby own_d_jdk_68_method_22_13) rfl (l' := #[.val (.ref a), .val (.ref o), .val (.int (3 : Int32))]) rfl k_) ?_
  refine own_go (T1.setTop (mkF m 15 #[.val (.ref a), .val (.ref o), .val (.int (3 : Int32))] [(.ref a)])) (fun t_ k_ => XS.aloadN X1.here hx rfl (hb hby own_d_jdk_68_method_22_14) rfl rfl k_) ?_
  refine own_go (T1.setTop (mkF m 16 #[.val (.ref a), .val (.ref o), .val (.int (3 : Int32))] [(.ref a), (.ref a)])) (fun t_ k_ => XS.aloadN X1.here hx rfl (hb hby own_d_jdk_68_method_22_15) rfl rfl k_) ?_
  obtain ⟨T2, X2, e2, st2⟩ := getF X1 hx hZ hown (host := "") (Or.inl (hw _ (List.mem_of_getElem? (i := 71) rfl))) Via.refl e1 Na (g := (mkF m 16 #[.val (.ref a), .val (.ref o), .val (.int (3 : Int32))] [(.ref a), (.ref a)])) rfl rfl (hb hby own_d_jdk_68_method_22_16)
  refine own_go (T2.setTop (mkF m 19 #[.val (.ref a), .val (.ref o), .val (.int (3 : Int32))] [(.int (0 : Int32)), (.ref a)])) (fun t_ k_ => st2 _ k_) ?_
  refine own_go (T2.setTop (mkF m 20 #[.val (.ref a), .val (.ref o), .val (.int (3 : Int32))] [(.int (3 : Int32)), (.int (0 : Int32)), (.ref a)])) (fun t_ k_ => XS.iloadN X2.here hx rfl (hb hby own_d_jdk_68_method_22_19) rfl k_) ?_
  refine own_go (T2.setTop (mkF m 21 #[.val (.ref a), .val (.ref o), .val (.int (3 : Int32))] [(.int ((0 : Int32) + (3 : Int32))), (.ref a)])) (fun t_ k_ => XS.iadd X2.here hx rfl (hb hby own_d_jdk_68_method_22_20) rfl k_) ?_
  rw [show ((0 : Int32) + (3 : Int32)) = (3 : Int32) from by decide]
  obtain ⟨cq3, q3, q3'⟩ := (Xa).cell
  obtain ⟨_, _, ⟨T3, Lu3, ku3, nu3⟩, -, X3, ⟨Lc3, hQ3, lu3, yu3, zu3⟩, st3⟩ := X2.privateBack hx (y := (⟨"java/lang/AbstractStringBuilder", "ensureCapacityInternal", "(I)V"⟩ : MethodName)) hown (mvT hZ (hw _ (List.mem_of_getElem? (i := 73) rfl))) (mvT hZ (hw _ (List.mem_of_getElem? (i := 74) rfl))) (own_selp (mvT hZ (hw _ (List.mem_of_getElem? (i := 76) rfl))) rfl (Cond.privateMethod_at (mvP hZ (hw _ (List.mem_of_getElem? (i := 75) rfl)) (args := #[]))) (mvT hZ (hw _ (List.mem_of_getElem? (i := 74) rfl))) (by decide)) (Cond.privateMethod_at (mvP hZ (hw _ (List.mem_of_getElem? (i := 75) rfl)) (args := #[]))) (mvT hZ (hw _ (List.mem_of_getElem? (i := 77) rfl))) (by decide) (backOf (W := 0) (rm_en0 l Z a0 hw [] (a) (b) (kv) h0 O Xa Va Ca Na Ab ga gb) hZ (hw _ (List.mem_of_getElem? (i := 77) rfl)) (hw _ (List.mem_of_getElem? (i := 14) rfl)) (by decide) (by decide)) (g := (mkF m 21 #[.val (.ref a), .val (.ref o), .val (.int (3 : Int32))] [(.int (3 : Int32)), (.ref a)])) rfl (by rw [hml]; rfl) (Steps.refl _) (a := a) (by rw [e2]; exact q3) q3' (argsL := [(.int (3 : Int32))]) (rest := []) (lenOf own_pd0 rfl) rfl (by show 2 * 0 + _ ≤ _; exact Nat.le_of_eq rfl) (hb hby own_d_jdk_68_method_22_21) (fun _ _ => ⟨rfl, e2, (by decide : 0 + 0 ≤ _), (by decide : 0 + 0 ≤ _)⟩)
  dsimp only [Pt.U, Pt.locs, Pt.cells, Pt.slots] at X3 lu3 yu3 zu3 st3 hQ3
  subst lu3 yu3 zu3
  obtain ⟨rfl, N3q, e3⟩ := hQ3
  have N3 := Fr.app N1 N3q
  refine own_go (T3.setTop (mkF m 24 #[.val (.ref a), .val (.ref o), .val (.int (3 : Int32))] [])) (fun t_ k_ => st3.trans k_) ?_
  refine own_go (T3.setTop (mkF m 25 #[.val (.ref a), .val (.ref o), .val (.int (3 : Int32))] [(.ref a)])) (fun t_ k_ => XS.aloadN X3.here hx rfl (hb hby own_d_jdk_68_method_22_24) rfl rfl k_) ?_
  refine own_go (T3.setTop (mkF m 26 #[.val (.ref a), .val (.ref o), .val (.int (3 : Int32))] [(.ref a), (.ref a)])) (fun t_ k_ => XS.aloadN X3.here hx rfl (hb hby own_d_jdk_68_method_22_25) rfl rfl k_) ?_
  obtain ⟨T4, X4, e4, st4⟩ := getF X3 hx hZ hown (host := "") (Or.inl (hw _ (List.mem_of_getElem? (i := 71) rfl))) Via.refl e3 Na (g := (mkF m 26 #[.val (.ref a), .val (.ref o), .val (.int (3 : Int32))] [(.ref a), (.ref a)])) rfl rfl (hb hby own_d_jdk_68_method_22_26)
  refine own_go (T4.setTop (mkF m 29 #[.val (.ref a), .val (.ref o), .val (.int (3 : Int32))] [(.int (0 : Int32)), (.ref a)])) (fun t_ k_ => st4 _ k_) ?_
  refine own_go (T4.setTop (mkF m 30 #[.val (.ref a), .val (.ref o), .val (.int (3 : Int32))] [(.ref o), (.int (0 : Int32)), (.ref a)])) (fun t_ k_ => XS.aloadN X4.here hx rfl (hb hby own_d_jdk_68_method_22_29) rfl rfl k_) ?_
  obtain ⟨cq5, q5, q5'⟩ := (Xa).cell
  obtain ⟨_, _, ⟨T5, Lu5, ku5, nu5⟩, -, X5, ⟨Lc5, hQ5, lu5, yu5, zu5⟩, st5⟩ := X4.privateBack hx (y := (⟨"java/lang/AbstractStringBuilder", "putStringAt", "(ILjava/lang/String;)V"⟩ : MethodName)) hown (mvT hZ (hw _ (List.mem_of_getElem? (i := 78) rfl))) (mvT hZ (hw _ (List.mem_of_getElem? (i := 79) rfl))) (own_selp (mvT hZ (hw _ (List.mem_of_getElem? (i := 76) rfl))) rfl (Cond.privateMethod_at (mvP hZ (hw _ (List.mem_of_getElem? (i := 80) rfl)) (args := #[]))) (mvT hZ (hw _ (List.mem_of_getElem? (i := 79) rfl))) (by decide)) (Cond.privateMethod_at (mvP hZ (hw _ (List.mem_of_getElem? (i := 80) rfl)) (args := #[]))) (mvT hZ (hw _ (List.mem_of_getElem? (i := 82) rfl))) (by decide) (backOf (W := 0) (rm_ps0 l Z a0 hw [] (a) (b) (kv) (o) (t1) (kb) (a__VALUES) (a_OUT) (a_INP) (a_TAKE_COMPLETE) (a_OUT_text) (a_INP_text) (a_TAKE_COMPLETE_text) (a_OUT_text_value) (a_INP_text_value) (a_TAKE_COMPLETE_text_value) (k__VALUES) (k_OUT_text_value) (k_INP_text_value) (k_TAKE_COMPLETE_text_value) (cs0) h0 O w Xa Va Ca Ab gb Xo Vo Co Ao) hZ (hw _ (List.mem_of_getElem? (i := 82) rfl)) (hw _ (List.mem_of_getElem? (i := 14) rfl)) (by decide) (by decide)) (g := (mkF m 30 #[.val (.ref a), .val (.ref o), .val (.int (3 : Int32))] [(.ref o), (.int (0 : Int32)), (.ref a)])) rfl (by rw [hml]; rfl) (Steps.refl _) (a := a) (by rw [e4]; exact q5) q5' (argsL := [(.int (0 : Int32)), (.ref o)]) (rest := []) (lenOf own_pd7 rfl) rfl (by show 2 * 0 + _ ≤ _; exact Nat.le_of_eq rfl) (hb hby own_d_jdk_68_method_22_30) (fun _ _ => ⟨rfl, e4, (by decide : 0 + 0 ≤ _), (by decide : 0 + 0 ≤ _)⟩)
  dsimp only [Pt.U, Pt.locs, Pt.cells, Pt.slots] at X5 lu5 yu5 zu5 st5 hQ5
  subst lu5 yu5 zu5
  obtain ⟨rfl, N5q, K5q, V5q⟩ := hQ5
  have N5 := Fr.app N3 N5q
  have O5 := own_extK O K5q (allS gb all0)
  have KK5 : Keep h0 T5.heap [a, b] := (Keep.refl h0 [a, b]).trans K5q (allS (Or.inl (List.mem_of_getElem? (i := 1) rfl)) all0)
  refine own_go (T5.setTop (mkF m 33 #[.val (.ref a), .val (.ref o), .val (.int (3 : Int32))] [])) (fun t_ k_ => st5.trans k_) ?_
  refine own_go (T5.setTop (mkF m 34 #[.val (.ref a), .val (.ref o), .val (.int (3 : Int32))] [(.ref a)])) (fun t_ k_ => XS.aloadN X5.here hx rfl (hb hby own_d_jdk_68_method_22_33) rfl rfl k_) ?_
  refine own_go (T5.setTop (mkF m 35 #[.val (.ref a), .val (.ref o), .val (.int (3 : Int32))] [(.ref a), (.ref a)])) (fun t_ k_ => XS.dup X5.here hx rfl (hb hby own_d_jdk_68_method_22_34) rfl rfl k_) ?_
  have Nz6 : a ≠ b := (Exa.neArv Xa Ab (hw _ (List.mem_of_getElem? (i := 5) rfl)))
  have Fz7 := (Na.keep K5q (ninS Nz6 nin0))
  obtain ⟨T8, X8, e8, st8⟩ := getF X5 hx hZ hown (host := "") (Or.inl (hw _ (List.mem_of_getElem? (i := 71) rfl))) Via.refl rfl Fz7 (g := (mkF m 35 #[.val (.ref a), .val (.ref o), .val (.int (3 : Int32))] [(.ref a), (.ref a)])) rfl rfl (hb hby own_d_jdk_68_method_22_35)
  refine own_go (T8.setTop (mkF m 38 #[.val (.ref a), .val (.ref o), .val (.int (3 : Int32))] [(.int (0 : Int32)), (.ref a)])) (fun t_ k_ => st8 _ k_) ?_
  refine own_go (T8.setTop (mkF m 39 #[.val (.ref a), .val (.ref o), .val (.int (3 : Int32))] [(.int (3 : Int32)), (.int (0 : Int32)), (.ref a)])) (fun t_ k_ => XS.iloadN X8.here hx rfl (hb hby own_d_jdk_68_method_22_38) rfl k_) ?_
  refine own_go (T8.setTop (mkF m 40 #[.val (.ref a), .val (.ref o), .val (.int (3 : Int32))] [(.int ((0 : Int32) + (3 : Int32))), (.ref a)])) (fun t_ k_ => XS.iadd X8.here hx rfl (hb hby own_d_jdk_68_method_22_39) rfl k_) ?_
  rw [show ((0 : Int32) + (3 : Int32)) = (3 : Int32) from by decide]
  have Fz9 := (Xa.keep K5q)
  obtain ⟨T10, h10, X10, e10, W10, st10⟩ := putF X8 hx hZ hown (host := "") (Or.inl (hw _ (List.mem_of_getElem? (i := 71) rfl))) Via.refl e8 Fz7 Fz9 (Or.inl (hw _ (List.mem_of_getElem? (i := 72) rfl))) (hw _ (List.mem_of_getElem? (i := 5) rfl)) (ty := .int) (by decide) rfl rfl (g := (mkF m 40 #[.val (.ref a), .val (.ref o), .val (.int (3 : Int32))] [(.int (3 : Int32)), (.ref a)])) rfl rfl (hb hby own_d_jdk_68_method_22_40)
  have Fw10 := Fz7.same W10
  have K10 : Keep h0 h10 [a, b] := KK5.wr W10 (Or.inl (List.mem_of_getElem? (i := 0) rfl))
  have N10 := Fr.snoc X10 N5 ga
  have O10 := own_extW O5 W10 ga
  refine own_go (T10.setTop (mkF m 43 #[.val (.ref a), .val (.ref o), .val (.int (3 : Int32))] [])) (fun t_ k_ => st10 _ k_) ?_
  refine own_go (T10.setTop (mkF m 44 #[.val (.ref a), .val (.ref o), .val (.int (3 : Int32))] [(.ref a)])) (fun t_ k_ => XS.aloadN X10.here hx rfl (hb hby own_d_jdk_68_method_22_43) rfl rfl k_) ?_
  obtain ⟨fs, hr, hrun, hended, hW, hsame⟩ := X10.leave (v := some (.ref a)) (fun h => by rw [Bd.returns] at h; cases h)
  refine ⟨_, _, Jvm.RoadKit.retOut X10 hx Bd.returns rfl (Or.inr (Or.inr (Or.inr (Or.inr ⟨rfl, rfl, rfl⟩)))) (hb hby own_d_jdk_68_method_22_44) hr, hrun, hended, _, _, rfl, ?_, ⟨_, rfl⟩, hW, hsame.mono (by decide) (by decide)⟩
  show Q_aa0 Z a b kv o t1 kb a__VALUES a_OUT a_INP a_TAKE_COMPLETE a_OUT_text a_INP_text a_TAKE_COMPLETE_text a_OUT_text_value a_INP_text_value a_TAKE_COMPLETE_text_value k__VALUES k_OUT_text_value k_INP_text_value k_TAKE_COMPLETE_text_value cs0 h0 _ T10.heap _
  have Fz11 := (Fz9.wr W10)
  have Fz12 := ((Va.keep K5q (ninS Nz6 nin0)).other W10 (Or.inr (slot_ne (a0 := a0) (Or.inl (hw _ (List.mem_of_getElem? (i := 23) rfl))) (Or.inl (hw _ (List.mem_of_getElem? (i := 72) rfl))) (by decide) (t := (.array .byte)) (t' := .int) (by decide) (by decide))))
  have Fz13 := ((Ca.keep K5q (ninS Nz6 nin0)).other W10 (Or.inr (slot_ne (a0 := a0) (Or.inl (hw _ (List.mem_of_getElem? (i := 25) rfl))) (Or.inl (hw _ (List.mem_of_getElem? (i := 72) rfl))) (by decide) (t := .byte) (t' := .int) (by decide) (by decide))))
  have Fz14 := (V5q.other W10 (Ne.symm Nz6))
  rw [show T10.heap = h10 from e10]
  exact ⟨_, _, rfl, N10, K10, gb, rfl, rfl, Fz11, Fz12, Fz13, Fw10, Fz14⟩
theorem own_ef_ap0 (m : MethodId) (a : Addr) (o : Addr) : entryFrame m #[(.ref a), (.ref o)] 2 = mkF m 0 #[.val (.ref a), .val (.ref o)] [] := by first | (simp [entryFrame, mkF, argsToLocals, Value.category]; done) | rfl
theorem own_d_jdk_67_method_7_0 : decode jdk_67_method_7_code 0 = .ok (.aload_n 0, 1) := by decide +kernel
theorem own_d_jdk_67_method_7_1 : decode jdk_67_method_7_code 1 = .ok (.aload_n 1, 1) := by decide +kernel
theorem own_d_jdk_67_method_7_2 : decode jdk_67_method_7_code 2 = .ok (.invokespecial 29, 3) := by decide +kernel
theorem own_pd8 : parseMethodDescriptor "(Ljava/lang/String;)Ljava/lang/AbstractStringBuilder;" = some ⟨[(.object "java/lang/String")], some (.object "java/lang/AbstractStringBuilder")⟩ := by decide +kernel
theorem own_d_jdk_67_method_7_5 : decode jdk_67_method_7_code 5 = .ok (.pop, 1) := by decide +kernel
theorem own_d_jdk_67_method_7_6 : decode jdk_67_method_7_code 6 = .ok (.aload_n 0, 1) := by decide +kernel
theorem own_d_jdk_67_method_7_7 : decode jdk_67_method_7_code 7 = .ok (.areturn, 1) := by decide +kernel
def Q_ap0 (Z : State) (a : Addr) (b : Addr) (kv : ClassId) (o : Addr) (t1 : Addr) (kb : ClassId) (a__VALUES : Addr) (a_OUT : Addr) (a_INP : Addr) (a_TAKE_COMPLETE : Addr) (a_OUT_text : Addr) (a_INP_text : Addr) (a_TAKE_COMPLETE_text : Addr) (a_OUT_text_value : Addr) (a_INP_text_value : Addr) (a_TAKE_COMPLETE_text_value : Addr) (k__VALUES : ClassId) (k_OUT_text_value : ClassId) (k_INP_text_value : ClassId) (k_TAKE_COMPLETE_text_value : ClassId) (cs0 : Int32) (h0 : Heap) (v_ : Option Value) (h : Heap) (L_ : List Loc) : Prop := ∃ (b2 : Addr), ∃ (k2 : ClassId), v_ = some (.ref a) ∧ Fr Z.heap.size L_ ∧ (Keep h0 h [a, b] ∧ Z.heap.size ≤ b2 ∧ b = b2 ∧ kv = k2 ∧ Exa Z h a "java/lang/StringBuilder" ∧ Fld Z h a "java/lang/AbstractStringBuilder" "value" "[B" (.ref b2) ∧ Fld Z h a "java/lang/AbstractStringBuilder" "coder" "B" (.int 0) ∧ Fld Z h a "java/lang/AbstractStringBuilder" "count" "I" (.int 3) ∧ Arv Z h b2 k2 .byte 16 [(.int (111 : Int32)), (.int (117 : Int32)), (.int (116 : Int32))] (.int 0))
set_option maxRecDepth 65536 in
set_option maxHeartbeats 40000000 in
theorem rm_ap0 (l : Launch) (Z : State) (a0 : Array Value) (hw : ∀ d ∈ tables_1, d.before a0 Z = true) (ws : List Jvm.Cond) (a : Addr) (b : Addr) (kv : ClassId) (o : Addr) (t1 : Addr) (kb : ClassId) (a__VALUES : Addr) (a_OUT : Addr) (a_INP : Addr) (a_TAKE_COMPLETE : Addr) (a_OUT_text : Addr) (a_INP_text : Addr) (a_TAKE_COMPLETE_text : Addr) (a_OUT_text_value : Addr) (a_INP_text_value : Addr) (a_TAKE_COMPLETE_text_value : Addr) (k__VALUES : ClassId) (k_OUT_text_value : ClassId) (k_INP_text_value : ClassId) (k_TAKE_COMPLETE_text_value : ClassId) (cs0 : Int32) (h0 : Heap) (O : Ext Z.heap h0) (w : own_W Z a__VALUES a_OUT a_INP a_TAKE_COMPLETE a_OUT_text a_INP_text a_TAKE_COMPLETE_text a_OUT_text_value a_INP_text_value a_TAKE_COMPLETE_text_value k__VALUES k_OUT_text_value k_INP_text_value k_TAKE_COMPLETE_text_value cs0) (Xa : Exa Z h0 a "java/lang/StringBuilder") (Va : Fld Z h0 a "java/lang/AbstractStringBuilder" "value" "[B" (.ref b)) (Ca : Fld Z h0 a "java/lang/AbstractStringBuilder" "coder" "B" (.int 0)) (Na : Fld Z h0 a "java/lang/AbstractStringBuilder" "count" "I" (.int 0)) (Ab : Arv Z h0 b kv .byte 16 [] (.int 0)) (ga : Z.heap.size ≤ a) (gb : Z.heap.size ≤ b) (Xo : Exa Z h0 o "java/lang/String") (Vo : Fld Z h0 o "java/lang/String" "value" "[B" (.ref t1)) (Co : Fld Z h0 o "java/lang/String" "coder" "B" (.int 0)) (Ao : Arv Z h0 t1 kb .byte 3 [(.int (111 : Int32)), (.int (117 : Int32)), (.int (116 : Int32))] (.int 0)) (nt : t1 ≠ b) :
    MetFree l (⟨"java/lang/StringBuilder", "append", "(Ljava/lang/String;)Ljava/lang/StringBuilder;"⟩ : MethodName) (head1 (Jvm.Cond.code (⟨"java/lang/StringBuilder", "append", "(Ljava/lang/String;)Ljava/lang/StringBuilder;"⟩ : MethodName) jdk_67_method_7_code 2 (some (.object "java/lang/StringBuilder")) :: ws) ({ frames := 4, cells := 0, slots := 0, locals := 83 } : Room)) (fun a_ U_ => a_ = #[(.ref a), (.ref o)] ∧ Z.Warmed39 U_.vm ∧ U_.heap = h0) (fun _ _ _ _ _ => True) (fun _ U_ o_ U2_ => ∃ v_ L_, o_ = .returned v_ ∧ Q_ap0 Z a b kv o t1 kb a__VALUES a_OUT a_INP a_TAKE_COMPLETE a_OUT_text a_INP_text a_TAKE_COMPLETE_text a_OUT_text_value a_INP_text_value a_TAKE_COMPLETE_text_value k__VALUES k_OUT_text_value k_INP_text_value k_TAKE_COMPLETE_text_value cs0 h0 v_ U2_.heap L_ ∧ FrameEnd U_ o_ U2_ L_ ({ frames := 4, cells := 0, slots := 0, locals := 83 } : Room).cells ({ frames := 4, cells := 0, slots := 0, locals := 83 } : Room).slots) := by
  refine MetFree.of_bodySF (plainFor_of_name own_pn2) hisR ?_
  intro p e s m args below meth c s₁ Bd hml0 hP hK
  obtain ⟨rfl, hZ, hh⟩ := hP
  have hx := Bd.exec
  have hby := Bd.bytes
  have hml : c.maxLocals = 2 := hml0
  have hown : s.vm.findClass "java/lang/StringBuilder" = some m.cls := findClass_of_methodNamed Bd.named
  have hnm := (name_of_methodNamed Bd.named Bd.method).1
  have X0 : Stand p l e ({ frames := 4, cells := 0, slots := 0, locals := 83 } : Room) s m #[(.ref a), (.ref o)] below meth c s₁ [] 0 0 := Stand.of_body Bd
  have e0 : s₁.heap = h0 := by rw [← hh, Bd.state]; rfl
  have N0 := Fr.nil Z.heap.size
  show own_G p e below (fun o_ s₂ => ∃ v_ L_, o_ = .returned v_ ∧ Q_ap0 Z a b kv o t1 kb a__VALUES a_OUT a_INP a_TAKE_COMPLETE a_OUT_text a_INP_text a_TAKE_COMPLETE_text a_OUT_text_value a_INP_text_value a_TAKE_COMPLETE_text_value k__VALUES k_OUT_text_value k_INP_text_value k_TAKE_COMPLETE_text_value cs0 h0 v_ s₂.heap L_ ∧ FrameEnd s o_ s₂ L_ ({ frames := 4, cells := 0, slots := 0, locals := 83 } : Room).cells ({ frames := 4, cells := 0, slots := 0, locals := 83 } : Room).slots) (s₁.setTop (entryFrame m #[(.ref a), (.ref o)] 2))
  refine own_go (s₁.setTop (mkF m 0 #[.val (.ref a), .val (.ref o)] [])) (fun t_ k_ => castTop (own_ef_ap0 m a o) k_) ?_
  have w' := w
  obtain ⟨S__VALUES, X__VALUES, S_OUT, X_OUT, S_INP, X_INP, S_TAKE_COMPLETE, X_TAKE_COMPLETE, F_OUT_text, X_OUT_text, F_INP_text, X_INP_text, F_TAKE_COMPLETE_text, X_TAKE_COMPLETE_text, F_OUT_text_value, X_OUT_text_value, F_INP_text_value, X_INP_text_value, F_TAKE_COMPLETE_text_value, X_TAKE_COMPLETE_text_value, F_OUT_text_coder, F_INP_text_coder, F_TAKE_COMPLETE_text_coder, V__VALUES, V_OUT_text_value, V_INP_text_value, V_TAKE_COMPLETE_text_value, S_CS, n_CS⟩ := w'
  refine own_go (s₁.setTop (mkF m 1 #[.val (.ref a), .val (.ref o)] [(.ref a)])) (fun t_ k_ => XS.aloadN X0.here hx rfl (hb hby own_d_jdk_67_method_7_0) rfl rfl k_) ?_
  refine own_go (s₁.setTop (mkF m 2 #[.val (.ref a), .val (.ref o)] [(.ref o), (.ref a)])) (fun t_ k_ => XS.aloadN X0.here hx rfl (hb hby own_d_jdk_67_method_7_1) rfl rfl k_) ?_
  obtain ⟨_, _, ⟨T1, Lu1, ku1, nu1⟩, -, X1, ⟨Lc1, hQ1, lu1, yu1, zu1⟩, st1⟩ := superBack X0 hx hZ (y := (⟨"java/lang/AbstractStringBuilder", "append", "(Ljava/lang/String;)Ljava/lang/AbstractStringBuilder;"⟩ : MethodName)) hown (hw _ (List.mem_of_getElem? (i := 51) rfl)) (own_sameM (hw _ (List.mem_of_getElem? (i := 52) rfl)) (hw _ (List.mem_of_getElem? (i := 76) rfl)) rfl (by decide)) (hw _ (List.mem_of_getElem? (i := 52) rfl)) (hw _ (List.mem_of_getElem? (i := 53) rfl)) (by decide) (backOf (W := 0) (rm_aa0 l Z a0 hw [] (a) (b) (kv) (o) (t1) (kb) (a__VALUES) (a_OUT) (a_INP) (a_TAKE_COMPLETE) (a_OUT_text) (a_INP_text) (a_TAKE_COMPLETE_text) (a_OUT_text_value) (a_INP_text_value) (a_TAKE_COMPLETE_text_value) (k__VALUES) (k_OUT_text_value) (k_INP_text_value) (k_TAKE_COMPLETE_text_value) (cs0) h0 O w Xa Va Ca Na Ab ga gb Xo Vo Co Ao nt) hZ (hw _ (List.mem_of_getElem? (i := 55) rfl)) (hw _ (List.mem_of_getElem? (i := 14) rfl)) (by decide) (by decide)) e0 (Ins.self Xa) (g := (mkF m 2 #[.val (.ref a), .val (.ref o)] [(.ref o), (.ref a)])) rfl (by rw [hml]; rfl) (hw _ (List.mem_of_getElem? (i := 55) rfl)) (argsL := [(.ref o)]) (rest := []) (lenOf own_pd8 rfl) rfl (by show 2 * 0 + _ ≤ _; exact Nat.le_of_eq rfl) (hb hby own_d_jdk_67_method_7_2) (fun _ _ => ⟨rfl, e0, (by decide : 0 + 0 ≤ _), (by decide : 0 + 0 ≤ _)⟩)
  dsimp only [Pt.U, Pt.locs, Pt.cells, Pt.slots] at X1 lu1 yu1 zu1 st1 hQ1
  subst lu1 yu1 zu1
  obtain ⟨b1, kv1, rfl, N1q, K1q, u1_1, rfl, rfl, X1q, F1q, G1q, H1q, A1q⟩ := hQ1
  have N1 := Fr.app N0 N1q
  have O1 := own_extK O K1q (allS ga (allS gb all0))
  have KK1 : Keep h0 T1.heap [a, b] := (Keep.refl h0 [a, b]).trans K1q (allS (Or.inl (List.mem_of_getElem? (i := 0) rfl)) (allS (Or.inl (List.mem_of_getElem? (i := 1) rfl)) all0))
  refine own_go (T1.setTop (mkF m 5 #[.val (.ref a), .val (.ref o)] [(.ref a)])) (fun t_ k_ => st1.trans k_) ?_
  refine own_go (T1.setTop (mkF m 6 #[.val (.ref a), .val (.ref o)] [])) (fun t_ k_ => XS.pop X1.here hx rfl (hb hby own_d_jdk_67_method_7_5) rfl rfl k_) ?_
  refine own_go (T1.setTop (mkF m 7 #[.val (.ref a), .val (.ref o)] [(.ref a)])) (fun t_ k_ => XS.aloadN X1.here hx rfl (hb hby own_d_jdk_67_method_7_6) rfl rfl k_) ?_
  obtain ⟨fs, hr, hrun, hended, hW, hsame⟩ := X1.leave (v := some (.ref a)) (fun h => by rw [Bd.returns] at h; cases h)
  refine ⟨_, _, Jvm.RoadKit.retOut X1 hx Bd.returns rfl (Or.inr (Or.inr (Or.inr (Or.inr ⟨rfl, rfl, rfl⟩)))) (hb hby own_d_jdk_67_method_7_7) hr, hrun, hended, _, _, rfl, ?_, ⟨_, rfl⟩, hW, hsame.mono (by decide) (by decide)⟩
  show Q_ap0 Z a b kv o t1 kb a__VALUES a_OUT a_INP a_TAKE_COMPLETE a_OUT_text a_INP_text a_TAKE_COMPLETE_text a_OUT_text_value a_INP_text_value a_TAKE_COMPLETE_text_value k__VALUES k_OUT_text_value k_INP_text_value k_TAKE_COMPLETE_text_value cs0 h0 _ T1.heap _
  exact ⟨_, _, rfl, N1, KK1, gb, rfl, rfl, X1q, F1q, G1q, H1q, A1q⟩
theorem own_ef_en1 (m : MethodId) (a : Addr) : entryFrame m #[(.ref a), (.int (5 : Int32))] 3 = mkF m 0 #[.val (.ref a), .val (.int (5 : Int32)), .unset] [] := by first | (simp [entryFrame, mkF, argsToLocals, Value.category]; done) | rfl
def Q_en1 (Z : State) (a : Addr) (b : Addr) (kv : ClassId) (h0 : Heap) (v_ : Option Value) (h : Heap) (L_ : List Loc) : Prop := v_ = none ∧ Fr Z.heap.size L_ ∧ (h = h0)
set_option maxRecDepth 65536 in
set_option maxHeartbeats 40000000 in
theorem rm_en1 (l : Launch) (Z : State) (a0 : Array Value) (hw : ∀ d ∈ tables_1, d.before a0 Z = true) (ws : List Jvm.Cond) (a : Addr) (b : Addr) (kv : ClassId) (h0 : Heap) (O : Ext Z.heap h0) (Xa : Exa Z h0 a "java/lang/StringBuilder") (Va : Fld Z h0 a "java/lang/AbstractStringBuilder" "value" "[B" (.ref b)) (Ca : Fld Z h0 a "java/lang/AbstractStringBuilder" "coder" "B" (.int 0)) (Na : Fld Z h0 a "java/lang/AbstractStringBuilder" "count" "I" (.int 3)) (Ab : Arv Z h0 b kv .byte 16 [(.int (111 : Int32)), (.int (117 : Int32)), (.int (116 : Int32))] (.int 0)) (ga : Z.heap.size ≤ a) (gb : Z.heap.size ≤ b) :
    MetFree l (⟨"java/lang/AbstractStringBuilder", "ensureCapacityInternal", "(I)V"⟩ : MethodName) (head1 (Jvm.Cond.code (⟨"java/lang/AbstractStringBuilder", "ensureCapacityInternal", "(I)V"⟩ : MethodName) jdk_68_method_9_code 3 none :: ws) ({ frames := 0, cells := 0, slots := 0, locals := 0 } : Room)) (fun a_ U_ => a_ = #[(.ref a), (.int (5 : Int32))] ∧ Z.Warmed39 U_.vm ∧ U_.heap = h0) (fun _ _ _ _ _ => True) (fun _ U_ o_ U2_ => ∃ v_ L_, o_ = .returned v_ ∧ Q_en1 Z a b kv h0 v_ U2_.heap L_ ∧ FrameEnd U_ o_ U2_ L_ ({ frames := 0, cells := 0, slots := 0, locals := 0 } : Room).cells ({ frames := 0, cells := 0, slots := 0, locals := 0 } : Room).slots) := by
  refine MetFree.of_bodySF (plainFor_of_name own_pn1) hisR ?_
  intro p e s m args below meth c s₁ Bd hml0 hP hK
  obtain ⟨rfl, hZ, hh⟩ := hP
  have hx := Bd.exec
  have hby := Bd.bytes
  have hml : c.maxLocals = 3 := hml0
  have hown : s.vm.findClass "java/lang/AbstractStringBuilder" = some m.cls := findClass_of_methodNamed Bd.named
  have hnm := (name_of_methodNamed Bd.named Bd.method).1
  have X0 : Stand p l e ({ frames := 0, cells := 0, slots := 0, locals := 0 } : Room) s m #[(.ref a), (.int (5 : Int32))] below meth c s₁ [] 0 0 := Stand.of_body Bd
  have e0 : s₁.heap = h0 := by rw [← hh, Bd.state]; rfl
  have N0 := Fr.nil Z.heap.size
  show own_G p e below (fun o_ s₂ => ∃ v_ L_, o_ = .returned v_ ∧ Q_en1 Z a b kv h0 v_ s₂.heap L_ ∧ FrameEnd s o_ s₂ L_ ({ frames := 0, cells := 0, slots := 0, locals := 0 } : Room).cells ({ frames := 0, cells := 0, slots := 0, locals := 0 } : Room).slots) (s₁.setTop (entryFrame m #[(.ref a), (.int (5 : Int32))] 3))
  refine own_go (s₁.setTop (mkF m 0 #[.val (.ref a), .val (.int (5 : Int32)), .unset] [])) (fun t_ k_ => castTop (own_ef_en1 m a) k_) ?_
  refine own_go (s₁.setTop (mkF m 1 #[.val (.ref a), .val (.int (5 : Int32)), .unset] [(.ref a)])) (fun t_ k_ => XS.aloadN X0.here hx rfl (hb hby own_d_jdk_68_method_9_0) rfl rfl k_) ?_
  obtain ⟨T1, X1, e1, st1⟩ := getF X0 hx hZ hown (host := "") (Or.inl (hw _ (List.mem_of_getElem? (i := 22) rfl))) Via.refl e0 Va (g := (mkF m 1 #[.val (.ref a), .val (.int (5 : Int32)), .unset] [(.ref a)])) rfl rfl (hb hby own_d_jdk_68_method_9_1)
  refine own_go (T1.setTop (mkF m 4 #[.val (.ref a), .val (.int (5 : Int32)), .unset] [(.ref b)])) (fun t_ k_ => st1 _ k_) ?_
  obtain ⟨cl2, Ar2, q2, Sz2, Nz2, Hz2, Gz2⟩ := id (Ab)
  refine own_go (T1.setTop (mkF m 5 #[.val (.ref a), .val (.int (5 : Int32)), .unset] [(.int (16 : Int32))])) (fun t_ k_ => X1.arraylength hx (by rw [e1]; exact Ar2.1) (State.isArrayOf_alike hZ.alike Ar2.2.1) (g := (mkF m 4 #[.val (.ref a), .val (.int (5 : Int32)), .unset] [(.ref b)])) rfl rfl (hb hby own_d_jdk_68_method_9_4) _ (by rw [len_of Sz2 Nz2]; exact k_)) ?_
  refine own_go (T1.setTop (mkF m 6 #[.val (.ref a), .val (.int (5 : Int32)), .unset] [(.ref a), (.int (16 : Int32))])) (fun t_ k_ => XS.aloadN X1.here hx rfl (hb hby own_d_jdk_68_method_9_5) rfl rfl k_) ?_
  obtain ⟨T3, X3, e3, st3⟩ := getF X1 hx hZ hown (host := "") (Or.inl (hw _ (List.mem_of_getElem? (i := 24) rfl))) Via.refl e1 Ca (g := (mkF m 6 #[.val (.ref a), .val (.int (5 : Int32)), .unset] [(.ref a), (.int (16 : Int32))])) rfl rfl (hb hby own_d_jdk_68_method_9_6)
  refine own_go (T3.setTop (mkF m 9 #[.val (.ref a), .val (.int (5 : Int32)), .unset] [(.int (0 : Int32)), (.int (16 : Int32))])) (fun t_ k_ => st3 _ k_) ?_
  refine own_go (T3.setTop (mkF m 10 #[.val (.ref a), .val (.int (5 : Int32)), .unset] [(.int ((16 : Int32) >>> ((0 : Int32) &&& 31)))])) (fun t_ k_ => XS.ishr X3.here hx rfl (hb hby own_d_jdk_68_method_9_9) rfl k_) ?_
  rw [show ((16 : Int32) >>> ((0 : Int32) &&& 31)) = (16 : Int32) from by decide]
  refine own_go (T3.setTop (mkF m 11 #[.val (.ref a), .val (.int (5 : Int32)), .val (.int (16 : Int32))] [])) (fun t_ k_ => XS.istoreN X3.here hx rfl (hb hby own_d_jdk_68_method_9_10) rfl (l' := #[.val (.ref a), .val (.int (5 : Int32)), .val (.int (16 : Int32))]) rfl k_) ?_
  refine own_go (T3.setTop (mkF m 12 #[.val (.ref a), .val (.int (5 : Int32)), .val (.int (16 : Int32))] [(.int (5 : Int32))])) (fun t_ k_ => XS.iloadN X3.here hx rfl (hb hby own_d_jdk_68_method_9_11) rfl k_) ?_
  refine own_go (T3.setTop (mkF m 13 #[.val (.ref a), .val (.int (5 : Int32)), .val (.int (16 : Int32))] [(.int (16 : Int32)), (.int (5 : Int32))])) (fun t_ k_ => XS.iloadN X3.here hx rfl (hb hby own_d_jdk_68_method_9_12) rfl k_) ?_
  refine own_go (T3.setTop (mkF m 14 #[.val (.ref a), .val (.int (5 : Int32)), .val (.int (16 : Int32))] [(.int ((5 : Int32) - (16 : Int32)))])) (fun t_ k_ => XS.isub X3.here hx rfl (hb hby own_d_jdk_68_method_9_13) rfl k_) ?_
  rw [show ((5 : Int32) - (16 : Int32)) = (-11 : Int32) from by decide]
  refine own_go (T3.setTop (mkF m 38 #[.val (.ref a), .val (.int (5 : Int32)), .val (.int (16 : Int32))] [])) (fun t_ k_ => XS.ifYes X3.here hx rfl (pc0 := 14) (pc' := 38) rfl (hb hby own_d_jdk_68_method_9_14) rfl ((if0 _ _).trans (flt (by decide : ¬ ((0 : Int32) < (-11 : Int32)))).2.2.2) (by decide) (by decide) k_) ?_
  obtain ⟨fs, hr, hrun, hended, hW, hsame⟩ := X3.leave (v := none) (fun _ => rfl)
  refine ⟨_, _, X3.returnOut hx Bd.returns (hb hby own_d_jdk_68_method_9_38) hr, hrun, hended, _, _, rfl, ?_, ⟨_, rfl⟩, hW, hsame.mono (by decide) (by decide)⟩
  show Q_en1 Z a b kv h0 _ T3.heap _
  exact ⟨rfl, N0, e3⟩
theorem own_ef_gb1 (m : MethodId) (o : Addr) (b : Addr) : entryFrame m #[(.ref o), (.ref b), (.int (3 : Int32)), (.int (0 : Int32))] 4 = mkF m 0 #[.val (.ref o), .val (.ref b), .val (.int (3 : Int32)), .val (.int (0 : Int32))] [] := by first | (simp [entryFrame, mkF, argsToLocals, Value.category]; done) | rfl
def Q_gb1 (Z : State) (o : Addr) (t1 : Addr) (kb : ClassId) (b : Addr) (kv : ClassId) (a__VALUES : Addr) (a_OUT : Addr) (a_INP : Addr) (a_TAKE_COMPLETE : Addr) (a_OUT_text : Addr) (a_INP_text : Addr) (a_TAKE_COMPLETE_text : Addr) (a_OUT_text_value : Addr) (a_INP_text_value : Addr) (a_TAKE_COMPLETE_text_value : Addr) (k__VALUES : ClassId) (k_OUT_text_value : ClassId) (k_INP_text_value : ClassId) (k_TAKE_COMPLETE_text_value : ClassId) (cs0 : Int32) (h0 : Heap) (v_ : Option Value) (h : Heap) (L_ : List Loc) : Prop := v_ = none ∧ Fr Z.heap.size L_ ∧ (Keep h0 h [b] ∧ Arv Z h b kv .byte 16 [(.int (111 : Int32)), (.int (117 : Int32)), (.int (116 : Int32)), (.int (44 : Int32)), (.int (32 : Int32))] (.int 0))
set_option maxRecDepth 65536 in
set_option maxHeartbeats 40000000 in
theorem rm_gb1 (l : Launch) (Z : State) (a0 : Array Value) (hw : ∀ d ∈ tables_1, d.before a0 Z = true) (ws : List Jvm.Cond) (o : Addr) (t1 : Addr) (kb : ClassId) (b : Addr) (kv : ClassId) (a__VALUES : Addr) (a_OUT : Addr) (a_INP : Addr) (a_TAKE_COMPLETE : Addr) (a_OUT_text : Addr) (a_INP_text : Addr) (a_TAKE_COMPLETE_text : Addr) (a_OUT_text_value : Addr) (a_INP_text_value : Addr) (a_TAKE_COMPLETE_text_value : Addr) (k__VALUES : ClassId) (k_OUT_text_value : ClassId) (k_INP_text_value : ClassId) (k_TAKE_COMPLETE_text_value : ClassId) (cs0 : Int32) (h0 : Heap) (O : Ext Z.heap h0) (w : own_W Z a__VALUES a_OUT a_INP a_TAKE_COMPLETE a_OUT_text a_INP_text a_TAKE_COMPLETE_text a_OUT_text_value a_INP_text_value a_TAKE_COMPLETE_text_value k__VALUES k_OUT_text_value k_INP_text_value k_TAKE_COMPLETE_text_value cs0) (Xo : Exa Z h0 o "java/lang/String") (Vo : Fld Z h0 o "java/lang/String" "value" "[B" (.ref t1)) (Co : Fld Z h0 o "java/lang/String" "coder" "B" (.int 0)) (Ao : Arv Z h0 t1 kb .byte 2 [(.int (44 : Int32)), (.int (32 : Int32))] (.int 0)) (Ab : Arv Z h0 b kv .byte 16 [(.int (111 : Int32)), (.int (117 : Int32)), (.int (116 : Int32))] (.int 0)) (gb : Z.heap.size ≤ b) :
    MetFree l (⟨"java/lang/String", "getBytes", "([BIB)V"⟩ : MethodName) (head1 (Jvm.Cond.code (⟨"java/lang/String", "getBytes", "([BIB)V"⟩ : MethodName) jdk_42_method_147_code 4 none :: ws) ({ frames := 1, cells := 0, slots := 0, locals := 40 } : Room)) (fun a_ U_ => a_ = #[(.ref o), (.ref b), (.int (3 : Int32)), (.int (0 : Int32))] ∧ Z.Warmed39 U_.vm ∧ U_.heap = h0) (fun _ _ _ _ _ => True) (fun _ U_ o_ U2_ => ∃ v_ L_, o_ = .returned v_ ∧ Q_gb1 Z o t1 kb b kv a__VALUES a_OUT a_INP a_TAKE_COMPLETE a_OUT_text a_INP_text a_TAKE_COMPLETE_text a_OUT_text_value a_INP_text_value a_TAKE_COMPLETE_text_value k__VALUES k_OUT_text_value k_INP_text_value k_TAKE_COMPLETE_text_value cs0 h0 v_ U2_.heap L_ ∧ FrameEnd U_ o_ U2_ L_ ({ frames := 1, cells := 0, slots := 0, locals := 40 } : Room).cells ({ frames := 1, cells := 0, slots := 0, locals := 40 } : Room).slots) := by
  refine MetFree.of_bodySF (plainFor_of_name own_pn0) hisR ?_
  intro p e s m args below meth c s₁ Bd hml0 hP hK
  obtain ⟨rfl, hZ, hh⟩ := hP
  have hx := Bd.exec
  have hby := Bd.bytes
  have hml : c.maxLocals = 4 := hml0
  have hown : s.vm.findClass "java/lang/String" = some m.cls := findClass_of_methodNamed Bd.named
  have hnm := (name_of_methodNamed Bd.named Bd.method).1
  have X0 : Stand p l e ({ frames := 1, cells := 0, slots := 0, locals := 40 } : Room) s m #[(.ref o), (.ref b), (.int (3 : Int32)), (.int (0 : Int32))] below meth c s₁ [] 0 0 := Stand.of_body Bd
  have e0 : s₁.heap = h0 := by rw [← hh, Bd.state]; rfl
  have N0 := Fr.nil Z.heap.size
  show own_G p e below (fun o_ s₂ => ∃ v_ L_, o_ = .returned v_ ∧ Q_gb1 Z o t1 kb b kv a__VALUES a_OUT a_INP a_TAKE_COMPLETE a_OUT_text a_INP_text a_TAKE_COMPLETE_text a_OUT_text_value a_INP_text_value a_TAKE_COMPLETE_text_value k__VALUES k_OUT_text_value k_INP_text_value k_TAKE_COMPLETE_text_value cs0 h0 v_ s₂.heap L_ ∧ FrameEnd s o_ s₂ L_ ({ frames := 1, cells := 0, slots := 0, locals := 40 } : Room).cells ({ frames := 1, cells := 0, slots := 0, locals := 40 } : Room).slots) (s₁.setTop (entryFrame m #[(.ref o), (.ref b), (.int (3 : Int32)), (.int (0 : Int32))] 4))
  refine own_go (s₁.setTop (mkF m 0 #[.val (.ref o), .val (.ref b), .val (.int (3 : Int32)), .val (.int (0 : Int32))] [])) (fun t_ k_ => castTop (own_ef_gb1 m o b) k_) ?_
  have w' := w
  obtain ⟨S__VALUES, X__VALUES, S_OUT, X_OUT, S_INP, X_INP, S_TAKE_COMPLETE, X_TAKE_COMPLETE, F_OUT_text, X_OUT_text, F_INP_text, X_INP_text, F_TAKE_COMPLETE_text, X_TAKE_COMPLETE_text, F_OUT_text_value, X_OUT_text_value, F_INP_text_value, X_INP_text_value, F_TAKE_COMPLETE_text_value, X_TAKE_COMPLETE_text_value, F_OUT_text_coder, F_INP_text_coder, F_TAKE_COMPLETE_text_coder, V__VALUES, V_OUT_text_value, V_INP_text_value, V_TAKE_COMPLETE_text_value, S_CS, n_CS⟩ := w'
  refine own_go (s₁.setTop (mkF m 1 #[.val (.ref o), .val (.ref b), .val (.int (3 : Int32)), .val (.int (0 : Int32))] [(.ref o)])) (fun t_ k_ => XS.aloadN X0.here hx rfl (hb hby own_d_jdk_42_method_147_0) rfl rfl k_) ?_
  obtain ⟨cq1, kq1, q1a, q1b, q1c⟩ := isOf hZ e0 Xo
  obtain ⟨_, _, ⟨T1, Lu1, ku1, nu1⟩, -, X1, ⟨Lc1, hQ1, lu1, yu1, zu1⟩, st1⟩ := X0.virtualBack hx (y := (⟨"java/lang/String", "coder", "()B"⟩ : MethodName)) (z := (⟨"java/lang/String", "coder", "()B"⟩ : MethodName)) hown (mvT hZ (hw _ (List.mem_of_getElem? (i := 63) rfl))) (mvT hZ (hw _ (List.mem_of_getElem? (i := 64) rfl))) (notFace_of_selects (args := #[]) (mvT hZ (hw _ (List.mem_of_getElem? (i := 66) rfl)))) (mvT hZ (hw _ (List.mem_of_getElem? (i := 66) rfl))) (mvT hZ (hw _ (List.mem_of_getElem? (i := 65) rfl))) (by decide) (backOf (W := 0) (rm_cdr l Z a0 hw [] (o) (a__VALUES) (a_OUT) (a_INP) (a_TAKE_COMPLETE) (a_OUT_text) (a_INP_text) (a_TAKE_COMPLETE_text) (a_OUT_text_value) (a_INP_text_value) (a_TAKE_COMPLETE_text_value) (k__VALUES) (k_OUT_text_value) (k_INP_text_value) (k_TAKE_COMPLETE_text_value) (cs0) h0 O w Co) hZ (hw _ (List.mem_of_getElem? (i := 67) rfl)) (hw _ (List.mem_of_getElem? (i := 20) rfl)) (by decide) (by decide)) q1a q1c (g := (mkF m 1 #[.val (.ref o), .val (.ref b), .val (.int (3 : Int32)), .val (.int (0 : Int32))] [(.ref o)])) rfl (by rw [hml]; rfl) (Steps.refl _) (argsL := []) (rest := []) (lenOf own_pd3 rfl) rfl (by show 2 * 0 + _ ≤ _; exact Nat.le_of_eq rfl) (hb hby own_d_jdk_42_method_147_1) (fun _ _ => ⟨rfl, e0, (by decide : 0 + 0 ≤ _), (by decide : 0 + 0 ≤ _)⟩)
  dsimp only [Pt.U, Pt.locs, Pt.cells, Pt.slots] at X1 lu1 yu1 zu1 st1 hQ1
  subst lu1 yu1 zu1
  obtain ⟨rfl, N1q, e1⟩ := hQ1
  have N1 := Fr.app N0 N1q
  refine own_go (T1.setTop (mkF m 4 #[.val (.ref o), .val (.ref b), .val (.int (3 : Int32)), .val (.int (0 : Int32))] [(.int (0 : Int32))])) (fun t_ k_ => st1.trans k_) ?_
  refine own_go (T1.setTop (mkF m 5 #[.val (.ref o), .val (.ref b), .val (.int (3 : Int32)), .val (.int (0 : Int32))] [(.int (0 : Int32)), (.int (0 : Int32))])) (fun t_ k_ => XS.iloadN X1.here hx rfl (hb hby own_d_jdk_42_method_147_4) rfl k_) ?_
  refine own_go (T1.setTop (mkF m 8 #[.val (.ref o), .val (.ref b), .val (.int (3 : Int32)), .val (.int (0 : Int32))] [])) (fun t_ k_ => XS.icmpNo X1.here hx rfl (hb hby own_d_jdk_42_method_147_5) rfl (teq (by decide : (0 : Int32) = (0 : Int32))).2 k_) ?_
  refine own_go (T1.setTop (mkF m 9 #[.val (.ref o), .val (.ref b), .val (.int (3 : Int32)), .val (.int (0 : Int32))] [(.ref o)])) (fun t_ k_ => XS.aloadN X1.here hx rfl (hb hby own_d_jdk_42_method_147_8) rfl rfl k_) ?_
  obtain ⟨T2, X2, e2, st2⟩ := getF X1 hx hZ hown (host := "") (Or.inl (hw _ (List.mem_of_getElem? (i := 61) rfl))) Via.refl e1 Vo (g := (mkF m 9 #[.val (.ref o), .val (.ref b), .val (.int (3 : Int32)), .val (.int (0 : Int32))] [(.ref o)])) rfl rfl (hb hby own_d_jdk_42_method_147_9)
  refine own_go (T2.setTop (mkF m 12 #[.val (.ref o), .val (.ref b), .val (.int (3 : Int32)), .val (.int (0 : Int32))] [(.ref t1)])) (fun t_ k_ => st2 _ k_) ?_
  refine own_go (T2.setTop (mkF m 13 #[.val (.ref o), .val (.ref b), .val (.int (3 : Int32)), .val (.int (0 : Int32))] [(.int (0 : Int32)), (.ref t1)])) (fun t_ k_ => XS.iconst X2.here hx rfl (hb hby own_d_jdk_42_method_147_12) k_) ?_
  refine own_go (T2.setTop (mkF m 14 #[.val (.ref o), .val (.ref b), .val (.int (3 : Int32)), .val (.int (0 : Int32))] [(.ref b), (.int (0 : Int32)), (.ref t1)])) (fun t_ k_ => XS.aloadN X2.here hx rfl (hb hby own_d_jdk_42_method_147_13) rfl rfl k_) ?_
  refine own_go (T2.setTop (mkF m 15 #[.val (.ref o), .val (.ref b), .val (.int (3 : Int32)), .val (.int (0 : Int32))] [(.int (3 : Int32)), (.ref b), (.int (0 : Int32)), (.ref t1)])) (fun t_ k_ => XS.iloadN X2.here hx rfl (hb hby own_d_jdk_42_method_147_14) rfl k_) ?_
  refine own_go (T2.setTop (mkF m 16 #[.val (.ref o), .val (.ref b), .val (.int (3 : Int32)), .val (.int (0 : Int32))] [(.int (0 : Int32)), (.int (3 : Int32)), (.ref b), (.int (0 : Int32)), (.ref t1)])) (fun t_ k_ => XS.iloadN X2.here hx rfl (hb hby own_d_jdk_42_method_147_15) rfl k_) ?_
  refine own_go (T2.setTop (mkF m 17 #[.val (.ref o), .val (.ref b), .val (.int (3 : Int32)), .val (.int (0 : Int32))] [(.int ((3 : Int32) <<< ((0 : Int32) &&& 31))), (.ref b), (.int (0 : Int32)), (.ref t1)])) (fun t_ k_ => XS.ishl X2.here hx rfl (hb hby own_d_jdk_42_method_147_16) rfl k_) ?_
  rw [show ((3 : Int32) <<< ((0 : Int32) &&& 31)) = (3 : Int32) from by decide]
  refine own_go (T2.setTop (mkF m 18 #[.val (.ref o), .val (.ref b), .val (.int (3 : Int32)), .val (.int (0 : Int32))] [(.ref o), (.int (3 : Int32)), (.ref b), (.int (0 : Int32)), (.ref t1)])) (fun t_ k_ => XS.aloadN X2.here hx rfl (hb hby own_d_jdk_42_method_147_17) rfl rfl k_) ?_
  obtain ⟨T3, X3, e3, st3⟩ := getF X2 hx hZ hown (host := "") (Or.inl (hw _ (List.mem_of_getElem? (i := 61) rfl))) Via.refl e2 Vo (g := (mkF m 18 #[.val (.ref o), .val (.ref b), .val (.int (3 : Int32)), .val (.int (0 : Int32))] [(.ref o), (.int (3 : Int32)), (.ref b), (.int (0 : Int32)), (.ref t1)])) rfl rfl (hb hby own_d_jdk_42_method_147_18)
  refine own_go (T3.setTop (mkF m 21 #[.val (.ref o), .val (.ref b), .val (.int (3 : Int32)), .val (.int (0 : Int32))] [(.ref t1), (.int (3 : Int32)), (.ref b), (.int (0 : Int32)), (.ref t1)])) (fun t_ k_ => st3 _ k_) ?_
  obtain ⟨cl4, Ar4, q4, Sz4, Nz4, Hz4, Gz4⟩ := id (Ao)
  refine own_go (T3.setTop (mkF m 22 #[.val (.ref o), .val (.ref b), .val (.int (3 : Int32)), .val (.int (0 : Int32))] [(.int (2 : Int32)), (.int (3 : Int32)), (.ref b), (.int (0 : Int32)), (.ref t1)])) (fun t_ k_ => X3.arraylength hx (by rw [e3]; exact Ar4.1) (State.isArrayOf_alike hZ.alike Ar4.2.1) (g := (mkF m 21 #[.val (.ref o), .val (.ref b), .val (.int (3 : Int32)), .val (.int (0 : Int32))] [(.ref t1), (.int (3 : Int32)), (.ref b), (.int (0 : Int32)), (.ref t1)])) rfl rfl (hb hby own_d_jdk_42_method_147_21) _ (by rw [len_of Sz4 Nz4]; exact k_)) ?_
  have Vp5 : Arv Z h0 b kv .byte (16 : Int32) [(.int (111 : Int32)), (.int (117 : Int32)), (.int (116 : Int32)), (.int (0 : Int32)), (.int (0 : Int32))] (.int (0 : Int32)) := (Ab).pad (pad_rep [(.int (111 : Int32)), (.int (117 : Int32)), (.int (116 : Int32))] (.int (0 : Int32)) 2)
  obtain ⟨T5, h5, L5, X5, e5, N5, Kc5, A5, st5⟩ := cpA X3 hx hZ hown (hw _ (List.mem_of_getElem? (i := 94) rfl)) (hw _ (List.mem_of_getElem? (i := 97) rfl)) (hw _ (List.mem_of_getElem? (i := 95) rfl)) (hw _ (List.mem_of_getElem? (i := 96) rfl)) e3 (us := [(.int (44 : Int32)), (.int (32 : Int32))]) Ao Vp5 (Or.inl ⟨rfl, rfl⟩) (by decide) (by decide) (by decide) (by decide) (by decide) rfl (Nat.le_of_ble_eq_true rfl) N1 gb (g := (mkF m 22 #[.val (.ref o), .val (.ref b), .val (.int (3 : Int32)), .val (.int (0 : Int32))] [(.int (2 : Int32)), (.int (3 : Int32)), (.ref b), (.int (0 : Int32)), (.ref t1)])) rfl (by rw [hml]; rfl) rfl (hb hby own_d_jdk_42_method_147_22) (by decide) (W := 0) (by show 2 * 0 + _ ≤ _; exact Nat.le_of_eq rfl) (by decide)
  have V5 : Arv Z h5 b kv .byte (16 : Int32) [(.int (111 : Int32)), (.int (117 : Int32)), (.int (116 : Int32)), (.int (44 : Int32)), (.int (32 : Int32))] (.int (0 : Int32)) := A5
  have O5 := own_extK O Kc5 (allS gb all0)
  have KK5 : Keep h0 h5 [b] := (Keep.refl h0 [b]).trans Kc5 (allS (Or.inl (List.mem_of_getElem? (i := 0) rfl)) all0)
  refine own_go (T5.setTop (mkF m 25 #[.val (.ref o), .val (.ref b), .val (.int (3 : Int32)), .val (.int (0 : Int32))] [])) (fun t_ k_ => st5 _ k_) ?_
  refine own_go (T5.setTop (mkF m 43 #[.val (.ref o), .val (.ref b), .val (.int (3 : Int32)), .val (.int (0 : Int32))] [])) (fun t_ k_ => XS.goto X5.here hx rfl (pc0 := 25) (pc' := 43) rfl (hb hby own_d_jdk_42_method_147_25) (by decide) (by decide) k_) ?_
  obtain ⟨fs, hr, hrun, hended, hW, hsame⟩ := X5.leave (v := none) (fun _ => rfl)
  refine ⟨_, _, X5.returnOut hx Bd.returns (hb hby own_d_jdk_42_method_147_43) hr, hrun, hended, _, _, rfl, ?_, ⟨_, rfl⟩, hW, hsame.mono (by decide) (by decide)⟩
  show Q_gb1 Z o t1 kb b kv a__VALUES a_OUT a_INP a_TAKE_COMPLETE a_OUT_text a_INP_text a_TAKE_COMPLETE_text a_OUT_text_value a_INP_text_value a_TAKE_COMPLETE_text_value k__VALUES k_OUT_text_value k_INP_text_value k_TAKE_COMPLETE_text_value cs0 h0 _ T5.heap _
  show Q_gb1 Z o t1 kb b kv a__VALUES a_OUT a_INP a_TAKE_COMPLETE a_OUT_text a_INP_text a_TAKE_COMPLETE_text a_OUT_text_value a_INP_text_value a_TAKE_COMPLETE_text_value k__VALUES k_OUT_text_value k_INP_text_value k_TAKE_COMPLETE_text_value cs0 h0 _ T5.heap _
  rw [show T5.heap = h5 from e5]
  exact ⟨rfl, N5, KK5, V5⟩
theorem own_ef_inf1 (m : MethodId) (a : Addr) (o : Addr) : entryFrame m #[(.ref a), (.ref o)] 2 = mkF m 0 #[.val (.ref a), .val (.ref o)] [] := by first | (simp [entryFrame, mkF, argsToLocals, Value.category]; done) | rfl
def Q_inf1 (Z : State) (a : Addr) (o : Addr) (a__VALUES : Addr) (a_OUT : Addr) (a_INP : Addr) (a_TAKE_COMPLETE : Addr) (a_OUT_text : Addr) (a_INP_text : Addr) (a_TAKE_COMPLETE_text : Addr) (a_OUT_text_value : Addr) (a_INP_text_value : Addr) (a_TAKE_COMPLETE_text_value : Addr) (k__VALUES : ClassId) (k_OUT_text_value : ClassId) (k_INP_text_value : ClassId) (k_TAKE_COMPLETE_text_value : ClassId) (cs0 : Int32) (h0 : Heap) (v_ : Option Value) (h : Heap) (L_ : List Loc) : Prop := v_ = none ∧ Fr Z.heap.size L_ ∧ (h = h0)
set_option maxRecDepth 65536 in
set_option maxHeartbeats 40000000 in
theorem rm_inf1 (l : Launch) (Z : State) (a0 : Array Value) (hw : ∀ d ∈ tables_1, d.before a0 Z = true) (ws : List Jvm.Cond) (a : Addr) (o : Addr) (a__VALUES : Addr) (a_OUT : Addr) (a_INP : Addr) (a_TAKE_COMPLETE : Addr) (a_OUT_text : Addr) (a_INP_text : Addr) (a_TAKE_COMPLETE_text : Addr) (a_OUT_text_value : Addr) (a_INP_text_value : Addr) (a_TAKE_COMPLETE_text_value : Addr) (k__VALUES : ClassId) (k_OUT_text_value : ClassId) (k_INP_text_value : ClassId) (k_TAKE_COMPLETE_text_value : ClassId) (cs0 : Int32) (h0 : Heap) (O : Ext Z.heap h0) (w : own_W Z a__VALUES a_OUT a_INP a_TAKE_COMPLETE a_OUT_text a_INP_text a_TAKE_COMPLETE_text a_OUT_text_value a_INP_text_value a_TAKE_COMPLETE_text_value k__VALUES k_OUT_text_value k_INP_text_value k_TAKE_COMPLETE_text_value cs0) (Ca : Fld Z h0 a "java/lang/AbstractStringBuilder" "coder" "B" (.int 0)) (Xo : Exa Z h0 o "java/lang/String") (Co : Fld Z h0 o "java/lang/String" "coder" "B" (.int 0)) :
    MetFree l (⟨"java/lang/AbstractStringBuilder", "inflateIfNeededFor", "(Ljava/lang/String;)V"⟩ : MethodName) (head1 (Jvm.Cond.code (⟨"java/lang/AbstractStringBuilder", "inflateIfNeededFor", "(Ljava/lang/String;)V"⟩ : MethodName) jdk_68_method_71_code 2 none :: ws) ({ frames := 1, cells := 0, slots := 0, locals := 13 } : Room)) (fun a_ U_ => a_ = #[(.ref a), (.ref o)] ∧ Z.Warmed39 U_.vm ∧ U_.heap = h0) (fun _ _ _ _ _ => True) (fun _ U_ o_ U2_ => ∃ v_ L_, o_ = .returned v_ ∧ Q_inf1 Z a o a__VALUES a_OUT a_INP a_TAKE_COMPLETE a_OUT_text a_INP_text a_TAKE_COMPLETE_text a_OUT_text_value a_INP_text_value a_TAKE_COMPLETE_text_value k__VALUES k_OUT_text_value k_INP_text_value k_TAKE_COMPLETE_text_value cs0 h0 v_ U2_.heap L_ ∧ FrameEnd U_ o_ U2_ L_ ({ frames := 1, cells := 0, slots := 0, locals := 13 } : Room).cells ({ frames := 1, cells := 0, slots := 0, locals := 13 } : Room).slots) := by
  refine MetFree.of_bodySF (plainFor_of_name own_pn1) hisR ?_
  intro p e s m args below meth c s₁ Bd hml0 hP hK
  obtain ⟨rfl, hZ, hh⟩ := hP
  have hx := Bd.exec
  have hby := Bd.bytes
  have hml : c.maxLocals = 2 := hml0
  have hown : s.vm.findClass "java/lang/AbstractStringBuilder" = some m.cls := findClass_of_methodNamed Bd.named
  have hnm := (name_of_methodNamed Bd.named Bd.method).1
  have X0 : Stand p l e ({ frames := 1, cells := 0, slots := 0, locals := 13 } : Room) s m #[(.ref a), (.ref o)] below meth c s₁ [] 0 0 := Stand.of_body Bd
  have e0 : s₁.heap = h0 := by rw [← hh, Bd.state]; rfl
  have N0 := Fr.nil Z.heap.size
  show own_G p e below (fun o_ s₂ => ∃ v_ L_, o_ = .returned v_ ∧ Q_inf1 Z a o a__VALUES a_OUT a_INP a_TAKE_COMPLETE a_OUT_text a_INP_text a_TAKE_COMPLETE_text a_OUT_text_value a_INP_text_value a_TAKE_COMPLETE_text_value k__VALUES k_OUT_text_value k_INP_text_value k_TAKE_COMPLETE_text_value cs0 h0 v_ s₂.heap L_ ∧ FrameEnd s o_ s₂ L_ ({ frames := 1, cells := 0, slots := 0, locals := 13 } : Room).cells ({ frames := 1, cells := 0, slots := 0, locals := 13 } : Room).slots) (s₁.setTop (entryFrame m #[(.ref a), (.ref o)] 2))
  refine own_go (s₁.setTop (mkF m 0 #[.val (.ref a), .val (.ref o)] [])) (fun t_ k_ => castTop (own_ef_inf1 m a o) k_) ?_
  have w' := w
  obtain ⟨S__VALUES, X__VALUES, S_OUT, X_OUT, S_INP, X_INP, S_TAKE_COMPLETE, X_TAKE_COMPLETE, F_OUT_text, X_OUT_text, F_INP_text, X_INP_text, F_TAKE_COMPLETE_text, X_TAKE_COMPLETE_text, F_OUT_text_value, X_OUT_text_value, F_INP_text_value, X_INP_text_value, F_TAKE_COMPLETE_text_value, X_TAKE_COMPLETE_text_value, F_OUT_text_coder, F_INP_text_coder, F_TAKE_COMPLETE_text_coder, V__VALUES, V_OUT_text_value, V_INP_text_value, V_TAKE_COMPLETE_text_value, S_CS, n_CS⟩ := w'
  obtain ⟨T1, X1, e1, st1⟩ := getS2 X0 hx hZ hown (host := "") (Or.inl (hw _ (List.mem_of_getElem? (i := 19) rfl))) Via.refl e0 (S_CS.ext O) (g := (mkF m 0 #[.val (.ref a), .val (.ref o)] [])) rfl (hb hby own_d_jdk_68_method_71_0)
  refine own_go (T1.setTop (mkF m 3 #[.val (.ref a), .val (.ref o)] [(.int cs0)])) (fun t_ k_ => st1 _ k_) ?_
  refine own_go (T1.setTop (mkF m 6 #[.val (.ref a), .val (.ref o)] [])) (fun t_ k_ => XS.ifNo X1.here hx rfl (hb hby own_d_jdk_68_method_71_3) rfl ((if0 _ _).trans (feq n_CS).1) k_) ?_
  refine own_go (T1.setTop (mkF m 7 #[.val (.ref a), .val (.ref o)] [(.ref a)])) (fun t_ k_ => XS.aloadN X1.here hx rfl (hb hby own_d_jdk_68_method_71_6) rfl rfl k_) ?_
  obtain ⟨T2, X2, e2, st2⟩ := getF X1 hx hZ hown (host := "") (Or.inl (hw _ (List.mem_of_getElem? (i := 24) rfl))) Via.refl e1 Ca (g := (mkF m 7 #[.val (.ref a), .val (.ref o)] [(.ref a)])) rfl rfl (hb hby own_d_jdk_68_method_71_7)
  refine own_go (T2.setTop (mkF m 10 #[.val (.ref a), .val (.ref o)] [(.int (0 : Int32))])) (fun t_ k_ => st2 _ k_) ?_
  refine own_go (T2.setTop (mkF m 11 #[.val (.ref a), .val (.ref o)] [(.ref o), (.int (0 : Int32))])) (fun t_ k_ => XS.aloadN X2.here hx rfl (hb hby own_d_jdk_68_method_71_10) rfl rfl k_) ?_
  obtain ⟨cq3, kq3, q3a, q3b, q3c⟩ := isOf hZ e2 Xo
  obtain ⟨_, _, ⟨T3, Lu3, ku3, nu3⟩, -, X3, ⟨Lc3, hQ3, lu3, yu3, zu3⟩, st3⟩ := X2.virtualBack hx (y := (⟨"java/lang/String", "coder", "()B"⟩ : MethodName)) (z := (⟨"java/lang/String", "coder", "()B"⟩ : MethodName)) hown (mvT hZ (hw _ (List.mem_of_getElem? (i := 88) rfl))) (mvT hZ (hw _ (List.mem_of_getElem? (i := 64) rfl))) (notFace_of_selects (args := #[]) (mvT hZ (hw _ (List.mem_of_getElem? (i := 66) rfl)))) (mvT hZ (hw _ (List.mem_of_getElem? (i := 66) rfl))) (mvT hZ (hw _ (List.mem_of_getElem? (i := 65) rfl))) (by decide) (backOf (W := 1) (rm_cdr l Z a0 hw [] (o) (a__VALUES) (a_OUT) (a_INP) (a_TAKE_COMPLETE) (a_OUT_text) (a_INP_text) (a_TAKE_COMPLETE_text) (a_OUT_text_value) (a_INP_text_value) (a_TAKE_COMPLETE_text_value) (k__VALUES) (k_OUT_text_value) (k_INP_text_value) (k_TAKE_COMPLETE_text_value) (cs0) h0 O w Co) hZ (hw _ (List.mem_of_getElem? (i := 67) rfl)) (hw _ (List.mem_of_getElem? (i := 20) rfl)) (by decide) (by decide)) q3a q3c (g := (mkF m 11 #[.val (.ref a), .val (.ref o)] [(.ref o), (.int (0 : Int32))])) rfl (by rw [hml]; rfl) (Steps.refl _) (argsL := []) (rest := [(.int (0 : Int32))]) (lenOf own_pd3 rfl) rfl (by show 2 * 0 + _ ≤ _; exact Nat.le_of_eq rfl) (hb hby own_d_jdk_68_method_71_11) (fun _ _ => ⟨rfl, e2, (by decide : 0 + 0 ≤ _), (by decide : 0 + 0 ≤ _)⟩)
  dsimp only [Pt.U, Pt.locs, Pt.cells, Pt.slots] at X3 lu3 yu3 zu3 st3 hQ3
  subst lu3 yu3 zu3
  obtain ⟨rfl, N3q, e3⟩ := hQ3
  have N3 := Fr.app N0 N3q
  refine own_go (T3.setTop (mkF m 14 #[.val (.ref a), .val (.ref o)] [(.int (0 : Int32)), (.int (0 : Int32))])) (fun t_ k_ => st3.trans k_) ?_
  refine own_go (T3.setTop (mkF m 21 #[.val (.ref a), .val (.ref o)] [])) (fun t_ k_ => XS.icmpYes X3.here hx rfl (pc0 := 14) (pc' := 21) rfl (hb hby own_d_jdk_68_method_71_14) rfl (teq (by decide : (0 : Int32) = (0 : Int32))).1 (by decide) (by decide) k_) ?_
  obtain ⟨fs, hr, hrun, hended, hW, hsame⟩ := X3.leave (v := none) (fun _ => rfl)
  refine ⟨_, _, X3.returnOut hx Bd.returns (hb hby own_d_jdk_68_method_71_21) hr, hrun, hended, _, _, rfl, ?_, ⟨_, rfl⟩, hW, hsame.mono (by decide) (by decide)⟩
  show Q_inf1 Z a o a__VALUES a_OUT a_INP a_TAKE_COMPLETE a_OUT_text a_INP_text a_TAKE_COMPLETE_text a_OUT_text_value a_INP_text_value a_TAKE_COMPLETE_text_value k__VALUES k_OUT_text_value k_INP_text_value k_TAKE_COMPLETE_text_value cs0 h0 _ T3.heap _
  exact ⟨rfl, N3, e3⟩
theorem own_ef_ps1 (m : MethodId) (a : Addr) (o : Addr) : entryFrame m #[(.ref a), (.int (3 : Int32)), (.ref o)] 3 = mkF m 0 #[.val (.ref a), .val (.int (3 : Int32)), .val (.ref o)] [] := by first | (simp [entryFrame, mkF, argsToLocals, Value.category]; done) | rfl
def Q_ps1 (Z : State) (a : Addr) (b : Addr) (kv : ClassId) (o : Addr) (t1 : Addr) (kb : ClassId) (a__VALUES : Addr) (a_OUT : Addr) (a_INP : Addr) (a_TAKE_COMPLETE : Addr) (a_OUT_text : Addr) (a_INP_text : Addr) (a_TAKE_COMPLETE_text : Addr) (a_OUT_text_value : Addr) (a_INP_text_value : Addr) (a_TAKE_COMPLETE_text_value : Addr) (k__VALUES : ClassId) (k_OUT_text_value : ClassId) (k_INP_text_value : ClassId) (k_TAKE_COMPLETE_text_value : ClassId) (cs0 : Int32) (h0 : Heap) (v_ : Option Value) (h : Heap) (L_ : List Loc) : Prop := v_ = none ∧ Fr Z.heap.size L_ ∧ (Keep h0 h [b] ∧ Arv Z h b kv .byte 16 [(.int (111 : Int32)), (.int (117 : Int32)), (.int (116 : Int32)), (.int (44 : Int32)), (.int (32 : Int32))] (.int 0))
set_option maxRecDepth 65536 in
set_option maxHeartbeats 40000000 in
theorem rm_ps1 (l : Launch) (Z : State) (a0 : Array Value) (hw : ∀ d ∈ tables_1, d.before a0 Z = true) (ws : List Jvm.Cond) (a : Addr) (b : Addr) (kv : ClassId) (o : Addr) (t1 : Addr) (kb : ClassId) (a__VALUES : Addr) (a_OUT : Addr) (a_INP : Addr) (a_TAKE_COMPLETE : Addr) (a_OUT_text : Addr) (a_INP_text : Addr) (a_TAKE_COMPLETE_text : Addr) (a_OUT_text_value : Addr) (a_INP_text_value : Addr) (a_TAKE_COMPLETE_text_value : Addr) (k__VALUES : ClassId) (k_OUT_text_value : ClassId) (k_INP_text_value : ClassId) (k_TAKE_COMPLETE_text_value : ClassId) (cs0 : Int32) (h0 : Heap) (O : Ext Z.heap h0) (w : own_W Z a__VALUES a_OUT a_INP a_TAKE_COMPLETE a_OUT_text a_INP_text a_TAKE_COMPLETE_text a_OUT_text_value a_INP_text_value a_TAKE_COMPLETE_text_value k__VALUES k_OUT_text_value k_INP_text_value k_TAKE_COMPLETE_text_value cs0) (Xa : Exa Z h0 a "java/lang/StringBuilder") (Va : Fld Z h0 a "java/lang/AbstractStringBuilder" "value" "[B" (.ref b)) (Ca : Fld Z h0 a "java/lang/AbstractStringBuilder" "coder" "B" (.int 0)) (Ab : Arv Z h0 b kv .byte 16 [(.int (111 : Int32)), (.int (117 : Int32)), (.int (116 : Int32))] (.int 0)) (gb : Z.heap.size ≤ b) (Xo : Exa Z h0 o "java/lang/String") (Vo : Fld Z h0 o "java/lang/String" "value" "[B" (.ref t1)) (Co : Fld Z h0 o "java/lang/String" "coder" "B" (.int 0)) (Ao : Arv Z h0 t1 kb .byte 2 [(.int (44 : Int32)), (.int (32 : Int32))] (.int 0)) :
    MetFree l (⟨"java/lang/AbstractStringBuilder", "putStringAt", "(ILjava/lang/String;)V"⟩ : MethodName) (head1 (Jvm.Cond.code (⟨"java/lang/AbstractStringBuilder", "putStringAt", "(ILjava/lang/String;)V"⟩ : MethodName) jdk_68_method_73_code 3 none :: ws) ({ frames := 2, cells := 0, slots := 0, locals := 55 } : Room)) (fun a_ U_ => a_ = #[(.ref a), (.int (3 : Int32)), (.ref o)] ∧ Z.Warmed39 U_.vm ∧ U_.heap = h0) (fun _ _ _ _ _ => True) (fun _ U_ o_ U2_ => ∃ v_ L_, o_ = .returned v_ ∧ Q_ps1 Z a b kv o t1 kb a__VALUES a_OUT a_INP a_TAKE_COMPLETE a_OUT_text a_INP_text a_TAKE_COMPLETE_text a_OUT_text_value a_INP_text_value a_TAKE_COMPLETE_text_value k__VALUES k_OUT_text_value k_INP_text_value k_TAKE_COMPLETE_text_value cs0 h0 v_ U2_.heap L_ ∧ FrameEnd U_ o_ U2_ L_ ({ frames := 2, cells := 0, slots := 0, locals := 55 } : Room).cells ({ frames := 2, cells := 0, slots := 0, locals := 55 } : Room).slots) := by
  refine MetFree.of_bodySF (plainFor_of_name own_pn1) hisR ?_
  intro p e s m args below meth c s₁ Bd hml0 hP hK
  obtain ⟨rfl, hZ, hh⟩ := hP
  have hx := Bd.exec
  have hby := Bd.bytes
  have hml : c.maxLocals = 3 := hml0
  have hown : s.vm.findClass "java/lang/AbstractStringBuilder" = some m.cls := findClass_of_methodNamed Bd.named
  have hnm := (name_of_methodNamed Bd.named Bd.method).1
  have X0 : Stand p l e ({ frames := 2, cells := 0, slots := 0, locals := 55 } : Room) s m #[(.ref a), (.int (3 : Int32)), (.ref o)] below meth c s₁ [] 0 0 := Stand.of_body Bd
  have e0 : s₁.heap = h0 := by rw [← hh, Bd.state]; rfl
  have N0 := Fr.nil Z.heap.size
  show own_G p e below (fun o_ s₂ => ∃ v_ L_, o_ = .returned v_ ∧ Q_ps1 Z a b kv o t1 kb a__VALUES a_OUT a_INP a_TAKE_COMPLETE a_OUT_text a_INP_text a_TAKE_COMPLETE_text a_OUT_text_value a_INP_text_value a_TAKE_COMPLETE_text_value k__VALUES k_OUT_text_value k_INP_text_value k_TAKE_COMPLETE_text_value cs0 h0 v_ s₂.heap L_ ∧ FrameEnd s o_ s₂ L_ ({ frames := 2, cells := 0, slots := 0, locals := 55 } : Room).cells ({ frames := 2, cells := 0, slots := 0, locals := 55 } : Room).slots) (s₁.setTop (entryFrame m #[(.ref a), (.int (3 : Int32)), (.ref o)] 3))
  refine own_go (s₁.setTop (mkF m 0 #[.val (.ref a), .val (.int (3 : Int32)), .val (.ref o)] [])) (fun t_ k_ => castTop (own_ef_ps1 m a o) k_) ?_
  have w' := w
  obtain ⟨S__VALUES, X__VALUES, S_OUT, X_OUT, S_INP, X_INP, S_TAKE_COMPLETE, X_TAKE_COMPLETE, F_OUT_text, X_OUT_text, F_INP_text, X_INP_text, F_TAKE_COMPLETE_text, X_TAKE_COMPLETE_text, F_OUT_text_value, X_OUT_text_value, F_INP_text_value, X_INP_text_value, F_TAKE_COMPLETE_text_value, X_TAKE_COMPLETE_text_value, F_OUT_text_coder, F_INP_text_coder, F_TAKE_COMPLETE_text_coder, V__VALUES, V_OUT_text_value, V_INP_text_value, V_TAKE_COMPLETE_text_value, S_CS, n_CS⟩ := w'
  refine own_go (s₁.setTop (mkF m 1 #[.val (.ref a), .val (.int (3 : Int32)), .val (.ref o)] [(.ref a)])) (fun t_ k_ => XS.aloadN X0.here hx rfl (hb hby own_d_jdk_68_method_73_0) rfl rfl k_) ?_
  refine own_go (s₁.setTop (mkF m 2 #[.val (.ref a), .val (.int (3 : Int32)), .val (.ref o)] [(.ref o), (.ref a)])) (fun t_ k_ => XS.aloadN X0.here hx rfl (hb hby own_d_jdk_68_method_73_1) rfl rfl k_) ?_
  obtain ⟨cq1, q1, q1'⟩ := (Xa).cell
  obtain ⟨_, _, ⟨T1, Lu1, ku1, nu1⟩, -, X1, ⟨Lc1, hQ1, lu1, yu1, zu1⟩, st1⟩ := X0.privateBack hx (y := (⟨"java/lang/AbstractStringBuilder", "inflateIfNeededFor", "(Ljava/lang/String;)V"⟩ : MethodName)) hown (mvT hZ (hw _ (List.mem_of_getElem? (i := 83) rfl))) (mvT hZ (hw _ (List.mem_of_getElem? (i := 84) rfl))) (own_selp (mvT hZ (hw _ (List.mem_of_getElem? (i := 76) rfl))) rfl (Cond.privateMethod_at (mvP hZ (hw _ (List.mem_of_getElem? (i := 85) rfl)) (args := #[]))) (mvT hZ (hw _ (List.mem_of_getElem? (i := 84) rfl))) (by decide)) (Cond.privateMethod_at (mvP hZ (hw _ (List.mem_of_getElem? (i := 85) rfl)) (args := #[]))) (mvT hZ (hw _ (List.mem_of_getElem? (i := 87) rfl))) (by decide) (backOf (W := 0) (rm_inf1 l Z a0 hw [] (a) (o) (a__VALUES) (a_OUT) (a_INP) (a_TAKE_COMPLETE) (a_OUT_text) (a_INP_text) (a_TAKE_COMPLETE_text) (a_OUT_text_value) (a_INP_text_value) (a_TAKE_COMPLETE_text_value) (k__VALUES) (k_OUT_text_value) (k_INP_text_value) (k_TAKE_COMPLETE_text_value) (cs0) h0 O w Ca Xo Co) hZ (hw _ (List.mem_of_getElem? (i := 87) rfl)) (hw _ (List.mem_of_getElem? (i := 14) rfl)) (by decide) (by decide)) (g := (mkF m 2 #[.val (.ref a), .val (.int (3 : Int32)), .val (.ref o)] [(.ref o), (.ref a)])) rfl (by rw [hml]; rfl) (Steps.refl _) (a := a) (by rw [e0]; exact q1) q1' (argsL := [(.ref o)]) (rest := []) (lenOf own_pd4 rfl) rfl (by show 2 * 0 + _ ≤ _; exact Nat.le_of_eq rfl) (hb hby own_d_jdk_68_method_73_2) (fun _ _ => ⟨rfl, e0, (by decide : 0 + 0 ≤ _), (by decide : 0 + 0 ≤ _)⟩)
  dsimp only [Pt.U, Pt.locs, Pt.cells, Pt.slots] at X1 lu1 yu1 zu1 st1 hQ1
  subst lu1 yu1 zu1
  obtain ⟨rfl, N1q, e1⟩ := hQ1
  have N1 := Fr.app N0 N1q
  refine own_go (T1.setTop (mkF m 5 #[.val (.ref a), .val (.int (3 : Int32)), .val (.ref o)] [])) (fun t_ k_ => st1.trans k_) ?_
  refine own_go (T1.setTop (mkF m 6 #[.val (.ref a), .val (.int (3 : Int32)), .val (.ref o)] [(.ref o)])) (fun t_ k_ => XS.aloadN X1.here hx rfl (hb hby own_d_jdk_68_method_73_5) rfl rfl k_) ?_
  refine own_go (T1.setTop (mkF m 7 #[.val (.ref a), .val (.int (3 : Int32)), .val (.ref o)] [(.ref a), (.ref o)])) (fun t_ k_ => XS.aloadN X1.here hx rfl (hb hby own_d_jdk_68_method_73_6) rfl rfl k_) ?_
  obtain ⟨T2, X2, e2, st2⟩ := getF X1 hx hZ hown (host := "") (Or.inl (hw _ (List.mem_of_getElem? (i := 22) rfl))) Via.refl e1 Va (g := (mkF m 7 #[.val (.ref a), .val (.int (3 : Int32)), .val (.ref o)] [(.ref a), (.ref o)])) rfl rfl (hb hby own_d_jdk_68_method_73_7)
  refine own_go (T2.setTop (mkF m 10 #[.val (.ref a), .val (.int (3 : Int32)), .val (.ref o)] [(.ref b), (.ref o)])) (fun t_ k_ => st2 _ k_) ?_
  refine own_go (T2.setTop (mkF m 11 #[.val (.ref a), .val (.int (3 : Int32)), .val (.ref o)] [(.int (3 : Int32)), (.ref b), (.ref o)])) (fun t_ k_ => XS.iloadN X2.here hx rfl (hb hby own_d_jdk_68_method_73_10) rfl k_) ?_
  refine own_go (T2.setTop (mkF m 12 #[.val (.ref a), .val (.int (3 : Int32)), .val (.ref o)] [(.ref a), (.int (3 : Int32)), (.ref b), (.ref o)])) (fun t_ k_ => XS.aloadN X2.here hx rfl (hb hby own_d_jdk_68_method_73_11) rfl rfl k_) ?_
  obtain ⟨T3, X3, e3, st3⟩ := getF X2 hx hZ hown (host := "") (Or.inl (hw _ (List.mem_of_getElem? (i := 24) rfl))) Via.refl e2 Ca (g := (mkF m 12 #[.val (.ref a), .val (.int (3 : Int32)), .val (.ref o)] [(.ref a), (.int (3 : Int32)), (.ref b), (.ref o)])) rfl rfl (hb hby own_d_jdk_68_method_73_12)
  refine own_go (T3.setTop (mkF m 15 #[.val (.ref a), .val (.int (3 : Int32)), .val (.ref o)] [(.int (0 : Int32)), (.int (3 : Int32)), (.ref b), (.ref o)])) (fun t_ k_ => st3 _ k_) ?_
  obtain ⟨cq4, kq4, q4a, q4b, q4c⟩ := isOf hZ e3 Xo
  obtain ⟨_, _, ⟨T4, Lu4, ku4, nu4⟩, -, X4, ⟨Lc4, hQ4, lu4, yu4, zu4⟩, st4⟩ := X3.virtualBack hx (y := (⟨"java/lang/String", "getBytes", "([BIB)V"⟩ : MethodName)) (z := (⟨"java/lang/String", "getBytes", "([BIB)V"⟩ : MethodName)) hown (mvT hZ (hw _ (List.mem_of_getElem? (i := 89) rfl))) (mvT hZ (hw _ (List.mem_of_getElem? (i := 90) rfl))) (notFace_of_selects (args := #[]) (mvT hZ (hw _ (List.mem_of_getElem? (i := 92) rfl)))) (mvT hZ (hw _ (List.mem_of_getElem? (i := 92) rfl))) (mvT hZ (hw _ (List.mem_of_getElem? (i := 91) rfl))) (by decide) (backOf (W := 0) (rm_gb1 l Z a0 hw [] (o) (t1) (kb) (b) (kv) (a__VALUES) (a_OUT) (a_INP) (a_TAKE_COMPLETE) (a_OUT_text) (a_INP_text) (a_TAKE_COMPLETE_text) (a_OUT_text_value) (a_INP_text_value) (a_TAKE_COMPLETE_text_value) (k__VALUES) (k_OUT_text_value) (k_INP_text_value) (k_TAKE_COMPLETE_text_value) (cs0) h0 O w Xo Vo Co Ao Ab gb) hZ (hw _ (List.mem_of_getElem? (i := 93) rfl)) (hw _ (List.mem_of_getElem? (i := 20) rfl)) (by decide) (by decide)) q4a q4c (g := (mkF m 15 #[.val (.ref a), .val (.int (3 : Int32)), .val (.ref o)] [(.int (0 : Int32)), (.int (3 : Int32)), (.ref b), (.ref o)])) rfl (by rw [hml]; rfl) (Steps.refl _) (argsL := [(.ref b), (.int (3 : Int32)), (.int (0 : Int32))]) (rest := []) (lenOf own_pd5 rfl) rfl (by show 2 * 0 + _ ≤ _; exact Nat.le_of_eq rfl) (hb hby own_d_jdk_68_method_73_15) (fun _ _ => ⟨rfl, e3, (by decide : 0 + 0 ≤ _), (by decide : 0 + 0 ≤ _)⟩)
  dsimp only [Pt.U, Pt.locs, Pt.cells, Pt.slots] at X4 lu4 yu4 zu4 st4 hQ4
  subst lu4 yu4 zu4
  obtain ⟨rfl, N4q, K4q, V4q⟩ := hQ4
  have N4 := Fr.app N1 N4q
  have O4 := own_extK O K4q (allS gb all0)
  have KK4 : Keep h0 T4.heap [b] := (Keep.refl h0 [b]).trans K4q (allS (Or.inl (List.mem_of_getElem? (i := 0) rfl)) all0)
  refine own_go (T4.setTop (mkF m 18 #[.val (.ref a), .val (.int (3 : Int32)), .val (.ref o)] [])) (fun t_ k_ => st4.trans k_) ?_
  obtain ⟨fs, hr, hrun, hended, hW, hsame⟩ := X4.leave (v := none) (fun _ => rfl)
  refine ⟨_, _, X4.returnOut hx Bd.returns (hb hby own_d_jdk_68_method_73_18) hr, hrun, hended, _, _, rfl, ?_, ⟨_, rfl⟩, hW, hsame.mono (by decide) (by decide)⟩
  show Q_ps1 Z a b kv o t1 kb a__VALUES a_OUT a_INP a_TAKE_COMPLETE a_OUT_text a_INP_text a_TAKE_COMPLETE_text a_OUT_text_value a_INP_text_value a_TAKE_COMPLETE_text_value k__VALUES k_OUT_text_value k_INP_text_value k_TAKE_COMPLETE_text_value cs0 h0 _ T4.heap _
  exact ⟨rfl, N4, KK4, V4q⟩
theorem own_ef_ln1 (m : MethodId) (o : Addr) : entryFrame m #[(.ref o)] 1 = mkF m 0 #[.val (.ref o)] [] := by first | (simp [entryFrame, mkF, argsToLocals, Value.category]; done) | rfl
def Q_ln1 (Z : State) (o : Addr) (t1 : Addr) (kb : ClassId) (a__VALUES : Addr) (a_OUT : Addr) (a_INP : Addr) (a_TAKE_COMPLETE : Addr) (a_OUT_text : Addr) (a_INP_text : Addr) (a_TAKE_COMPLETE_text : Addr) (a_OUT_text_value : Addr) (a_INP_text_value : Addr) (a_TAKE_COMPLETE_text_value : Addr) (k__VALUES : ClassId) (k_OUT_text_value : ClassId) (k_INP_text_value : ClassId) (k_TAKE_COMPLETE_text_value : ClassId) (cs0 : Int32) (h0 : Heap) (v_ : Option Value) (h : Heap) (L_ : List Loc) : Prop := v_ = some (.int 2) ∧ Fr Z.heap.size L_ ∧ (h = h0)
set_option maxRecDepth 65536 in
set_option maxHeartbeats 40000000 in
theorem rm_ln1 (l : Launch) (Z : State) (a0 : Array Value) (hw : ∀ d ∈ tables_1, d.before a0 Z = true) (ws : List Jvm.Cond) (o : Addr) (t1 : Addr) (kb : ClassId) (a__VALUES : Addr) (a_OUT : Addr) (a_INP : Addr) (a_TAKE_COMPLETE : Addr) (a_OUT_text : Addr) (a_INP_text : Addr) (a_TAKE_COMPLETE_text : Addr) (a_OUT_text_value : Addr) (a_INP_text_value : Addr) (a_TAKE_COMPLETE_text_value : Addr) (k__VALUES : ClassId) (k_OUT_text_value : ClassId) (k_INP_text_value : ClassId) (k_TAKE_COMPLETE_text_value : ClassId) (cs0 : Int32) (h0 : Heap) (O : Ext Z.heap h0) (w : own_W Z a__VALUES a_OUT a_INP a_TAKE_COMPLETE a_OUT_text a_INP_text a_TAKE_COMPLETE_text a_OUT_text_value a_INP_text_value a_TAKE_COMPLETE_text_value k__VALUES k_OUT_text_value k_INP_text_value k_TAKE_COMPLETE_text_value cs0) (Xo : Exa Z h0 o "java/lang/String") (Vo : Fld Z h0 o "java/lang/String" "value" "[B" (.ref t1)) (Co : Fld Z h0 o "java/lang/String" "coder" "B" (.int 0)) (Ao : Arv Z h0 t1 kb .byte 2 [(.int (44 : Int32)), (.int (32 : Int32))] (.int 0)) :
    MetFree l (⟨"java/lang/String", "length", "()I"⟩ : MethodName) (head1 (Jvm.Cond.code (⟨"java/lang/String", "length", "()I"⟩ : MethodName) jdk_42_method_54_code 1 (some .int) :: ws) ({ frames := 1, cells := 0, slots := 0, locals := 13 } : Room)) (fun a_ U_ => a_ = #[(.ref o)] ∧ Z.Warmed39 U_.vm ∧ U_.heap = h0) (fun _ _ _ _ _ => True) (fun _ U_ o_ U2_ => ∃ v_ L_, o_ = .returned v_ ∧ Q_ln1 Z o t1 kb a__VALUES a_OUT a_INP a_TAKE_COMPLETE a_OUT_text a_INP_text a_TAKE_COMPLETE_text a_OUT_text_value a_INP_text_value a_TAKE_COMPLETE_text_value k__VALUES k_OUT_text_value k_INP_text_value k_TAKE_COMPLETE_text_value cs0 h0 v_ U2_.heap L_ ∧ FrameEnd U_ o_ U2_ L_ ({ frames := 1, cells := 0, slots := 0, locals := 13 } : Room).cells ({ frames := 1, cells := 0, slots := 0, locals := 13 } : Room).slots) := by
  refine MetFree.of_bodySF (plainFor_of_name own_pn0) hisR ?_
  intro p e s m args below meth c s₁ Bd hml0 hP hK
  obtain ⟨rfl, hZ, hh⟩ := hP
  have hx := Bd.exec
  have hby := Bd.bytes
  have hml : c.maxLocals = 1 := hml0
  have hown : s.vm.findClass "java/lang/String" = some m.cls := findClass_of_methodNamed Bd.named
  have hnm := (name_of_methodNamed Bd.named Bd.method).1
  have X0 : Stand p l e ({ frames := 1, cells := 0, slots := 0, locals := 13 } : Room) s m #[(.ref o)] below meth c s₁ [] 0 0 := Stand.of_body Bd
  have e0 : s₁.heap = h0 := by rw [← hh, Bd.state]; rfl
  have N0 := Fr.nil Z.heap.size
  show own_G p e below (fun o_ s₂ => ∃ v_ L_, o_ = .returned v_ ∧ Q_ln1 Z o t1 kb a__VALUES a_OUT a_INP a_TAKE_COMPLETE a_OUT_text a_INP_text a_TAKE_COMPLETE_text a_OUT_text_value a_INP_text_value a_TAKE_COMPLETE_text_value k__VALUES k_OUT_text_value k_INP_text_value k_TAKE_COMPLETE_text_value cs0 h0 v_ s₂.heap L_ ∧ FrameEnd s o_ s₂ L_ ({ frames := 1, cells := 0, slots := 0, locals := 13 } : Room).cells ({ frames := 1, cells := 0, slots := 0, locals := 13 } : Room).slots) (s₁.setTop (entryFrame m #[(.ref o)] 1))
  refine own_go (s₁.setTop (mkF m 0 #[.val (.ref o)] [])) (fun t_ k_ => castTop (own_ef_ln1 m o) k_) ?_
  have w' := w
  obtain ⟨S__VALUES, X__VALUES, S_OUT, X_OUT, S_INP, X_INP, S_TAKE_COMPLETE, X_TAKE_COMPLETE, F_OUT_text, X_OUT_text, F_INP_text, X_INP_text, F_TAKE_COMPLETE_text, X_TAKE_COMPLETE_text, F_OUT_text_value, X_OUT_text_value, F_INP_text_value, X_INP_text_value, F_TAKE_COMPLETE_text_value, X_TAKE_COMPLETE_text_value, F_OUT_text_coder, F_INP_text_coder, F_TAKE_COMPLETE_text_coder, V__VALUES, V_OUT_text_value, V_INP_text_value, V_TAKE_COMPLETE_text_value, S_CS, n_CS⟩ := w'
  refine own_go (s₁.setTop (mkF m 1 #[.val (.ref o)] [(.ref o)])) (fun t_ k_ => XS.aloadN X0.here hx rfl (hb hby own_d_jdk_42_method_54_0) rfl rfl k_) ?_
  obtain ⟨T1, X1, e1, st1⟩ := getF X0 hx hZ hown (host := "") (Or.inl (hw _ (List.mem_of_getElem? (i := 61) rfl))) Via.refl e0 Vo (g := (mkF m 1 #[.val (.ref o)] [(.ref o)])) rfl rfl (hb hby own_d_jdk_42_method_54_1)
  refine own_go (T1.setTop (mkF m 4 #[.val (.ref o)] [(.ref t1)])) (fun t_ k_ => st1 _ k_) ?_
  obtain ⟨cl2, Ar2, q2, Sz2, Nz2, Hz2, Gz2⟩ := id (Ao)
  refine own_go (T1.setTop (mkF m 5 #[.val (.ref o)] [(.int (2 : Int32))])) (fun t_ k_ => X1.arraylength hx (by rw [e1]; exact Ar2.1) (State.isArrayOf_alike hZ.alike Ar2.2.1) (g := (mkF m 4 #[.val (.ref o)] [(.ref t1)])) rfl rfl (hb hby own_d_jdk_42_method_54_4) _ (by rw [len_of Sz2 Nz2]; exact k_)) ?_
  refine own_go (T1.setTop (mkF m 6 #[.val (.ref o)] [(.ref o), (.int (2 : Int32))])) (fun t_ k_ => XS.aloadN X1.here hx rfl (hb hby own_d_jdk_42_method_54_5) rfl rfl k_) ?_
  obtain ⟨cq3, kq3, q3a, q3b, q3c⟩ := isOf hZ e1 Xo
  obtain ⟨_, _, ⟨T3, Lu3, ku3, nu3⟩, -, X3, ⟨Lc3, hQ3, lu3, yu3, zu3⟩, st3⟩ := X1.virtualBack hx (y := (⟨"java/lang/String", "coder", "()B"⟩ : MethodName)) (z := (⟨"java/lang/String", "coder", "()B"⟩ : MethodName)) hown (mvT hZ (hw _ (List.mem_of_getElem? (i := 63) rfl))) (mvT hZ (hw _ (List.mem_of_getElem? (i := 64) rfl))) (notFace_of_selects (args := #[]) (mvT hZ (hw _ (List.mem_of_getElem? (i := 66) rfl)))) (mvT hZ (hw _ (List.mem_of_getElem? (i := 66) rfl))) (mvT hZ (hw _ (List.mem_of_getElem? (i := 65) rfl))) (by decide) (backOf (W := 1) (rm_cdr l Z a0 hw [] (o) (a__VALUES) (a_OUT) (a_INP) (a_TAKE_COMPLETE) (a_OUT_text) (a_INP_text) (a_TAKE_COMPLETE_text) (a_OUT_text_value) (a_INP_text_value) (a_TAKE_COMPLETE_text_value) (k__VALUES) (k_OUT_text_value) (k_INP_text_value) (k_TAKE_COMPLETE_text_value) (cs0) h0 O w Co) hZ (hw _ (List.mem_of_getElem? (i := 67) rfl)) (hw _ (List.mem_of_getElem? (i := 20) rfl)) (by decide) (by decide)) q3a q3c (g := (mkF m 6 #[.val (.ref o)] [(.ref o), (.int (2 : Int32))])) rfl (by rw [hml]; rfl) (Steps.refl _) (argsL := []) (rest := [(.int (2 : Int32))]) (lenOf own_pd3 rfl) rfl (by show 2 * 0 + _ ≤ _; exact Nat.le_of_eq rfl) (hb hby own_d_jdk_42_method_54_6) (fun _ _ => ⟨rfl, e1, (by decide : 0 + 0 ≤ _), (by decide : 0 + 0 ≤ _)⟩)
  dsimp only [Pt.U, Pt.locs, Pt.cells, Pt.slots] at X3 lu3 yu3 zu3 st3 hQ3
  subst lu3 yu3 zu3
  obtain ⟨rfl, N3q, e3⟩ := hQ3
  have N3 := Fr.app N0 N3q
  refine own_go (T3.setTop (mkF m 9 #[.val (.ref o)] [(.int (0 : Int32)), (.int (2 : Int32))])) (fun t_ k_ => st3.trans k_) ?_
  refine own_go (T3.setTop (mkF m 10 #[.val (.ref o)] [(.int ((2 : Int32) >>> ((0 : Int32) &&& 31)))])) (fun t_ k_ => XS.ishr X3.here hx rfl (hb hby own_d_jdk_42_method_54_9) rfl k_) ?_
  rw [show ((2 : Int32) >>> ((0 : Int32) &&& 31)) = (2 : Int32) from by decide]
  obtain ⟨fs, hr, hrun, hended, hW, hsame⟩ := X3.leave (v := some (.int (2 : Int32))) (fun h => by rw [Bd.returns] at h; cases h)
  refine ⟨_, _, retI X3 hx Bd.returns (hb hby own_d_jdk_42_method_54_10) hr, hrun, hended, _, _, rfl, ?_, ⟨_, rfl⟩, hW, hsame.mono (by decide) (by decide)⟩
  show Q_ln1 Z o t1 kb a__VALUES a_OUT a_INP a_TAKE_COMPLETE a_OUT_text a_INP_text a_TAKE_COMPLETE_text a_OUT_text_value a_INP_text_value a_TAKE_COMPLETE_text_value k__VALUES k_OUT_text_value k_INP_text_value k_TAKE_COMPLETE_text_value cs0 h0 _ T3.heap _
  exact ⟨rfl, N3, e3⟩
theorem own_ef_aa1 (m : MethodId) (a : Addr) (o : Addr) : entryFrame m #[(.ref a), (.ref o)] 3 = mkF m 0 #[.val (.ref a), .val (.ref o), .unset] [] := by first | (simp [entryFrame, mkF, argsToLocals, Value.category]; done) | rfl
def Q_aa1 (Z : State) (a : Addr) (b : Addr) (kv : ClassId) (o : Addr) (t1 : Addr) (kb : ClassId) (a__VALUES : Addr) (a_OUT : Addr) (a_INP : Addr) (a_TAKE_COMPLETE : Addr) (a_OUT_text : Addr) (a_INP_text : Addr) (a_TAKE_COMPLETE_text : Addr) (a_OUT_text_value : Addr) (a_INP_text_value : Addr) (a_TAKE_COMPLETE_text_value : Addr) (k__VALUES : ClassId) (k_OUT_text_value : ClassId) (k_INP_text_value : ClassId) (k_TAKE_COMPLETE_text_value : ClassId) (cs0 : Int32) (h0 : Heap) (v_ : Option Value) (h : Heap) (L_ : List Loc) : Prop := ∃ (b2 : Addr), ∃ (k2 : ClassId), v_ = some (.ref a) ∧ Fr Z.heap.size L_ ∧ (Keep h0 h [a, b] ∧ Z.heap.size ≤ b2 ∧ b = b2 ∧ kv = k2 ∧ Exa Z h a "java/lang/StringBuilder" ∧ Fld Z h a "java/lang/AbstractStringBuilder" "value" "[B" (.ref b2) ∧ Fld Z h a "java/lang/AbstractStringBuilder" "coder" "B" (.int 0) ∧ Fld Z h a "java/lang/AbstractStringBuilder" "count" "I" (.int 5) ∧ Arv Z h b2 k2 .byte 16 [(.int (111 : Int32)), (.int (117 : Int32)), (.int (116 : Int32)), (.int (44 : Int32)), (.int (32 : Int32))] (.int 0))
set_option maxRecDepth 65536 in
set_option maxHeartbeats 40000000 in
theorem rm_aa1 (l : Launch) (Z : State) (a0 : Array Value) (hw : ∀ d ∈ tables_1, d.before a0 Z = true) (ws : List Jvm.Cond) (a : Addr) (b : Addr) (kv : ClassId) (o : Addr) (t1 : Addr) (kb : ClassId) (a__VALUES : Addr) (a_OUT : Addr) (a_INP : Addr) (a_TAKE_COMPLETE : Addr) (a_OUT_text : Addr) (a_INP_text : Addr) (a_TAKE_COMPLETE_text : Addr) (a_OUT_text_value : Addr) (a_INP_text_value : Addr) (a_TAKE_COMPLETE_text_value : Addr) (k__VALUES : ClassId) (k_OUT_text_value : ClassId) (k_INP_text_value : ClassId) (k_TAKE_COMPLETE_text_value : ClassId) (cs0 : Int32) (h0 : Heap) (O : Ext Z.heap h0) (w : own_W Z a__VALUES a_OUT a_INP a_TAKE_COMPLETE a_OUT_text a_INP_text a_TAKE_COMPLETE_text a_OUT_text_value a_INP_text_value a_TAKE_COMPLETE_text_value k__VALUES k_OUT_text_value k_INP_text_value k_TAKE_COMPLETE_text_value cs0) (Xa : Exa Z h0 a "java/lang/StringBuilder") (Va : Fld Z h0 a "java/lang/AbstractStringBuilder" "value" "[B" (.ref b)) (Ca : Fld Z h0 a "java/lang/AbstractStringBuilder" "coder" "B" (.int 0)) (Na : Fld Z h0 a "java/lang/AbstractStringBuilder" "count" "I" (.int 3)) (Ab : Arv Z h0 b kv .byte 16 [(.int (111 : Int32)), (.int (117 : Int32)), (.int (116 : Int32))] (.int 0)) (ga : Z.heap.size ≤ a) (gb : Z.heap.size ≤ b) (Xo : Exa Z h0 o "java/lang/String") (Vo : Fld Z h0 o "java/lang/String" "value" "[B" (.ref t1)) (Co : Fld Z h0 o "java/lang/String" "coder" "B" (.int 0)) (Ao : Arv Z h0 t1 kb .byte 2 [(.int (44 : Int32)), (.int (32 : Int32))] (.int 0)) (nt : t1 ≠ b) :
    MetFree l (⟨"java/lang/AbstractStringBuilder", "append", "(Ljava/lang/String;)Ljava/lang/AbstractStringBuilder;"⟩ : MethodName) (head1 (Jvm.Cond.code (⟨"java/lang/AbstractStringBuilder", "append", "(Ljava/lang/String;)Ljava/lang/AbstractStringBuilder;"⟩ : MethodName) jdk_68_method_22_code 3 (some (.object "java/lang/AbstractStringBuilder")) :: ws) ({ frames := 3, cells := 0, slots := 0, locals := 69 } : Room)) (fun a_ U_ => a_ = #[(.ref a), (.ref o)] ∧ Z.Warmed39 U_.vm ∧ U_.heap = h0) (fun _ _ _ _ _ => True) (fun _ U_ o_ U2_ => ∃ v_ L_, o_ = .returned v_ ∧ Q_aa1 Z a b kv o t1 kb a__VALUES a_OUT a_INP a_TAKE_COMPLETE a_OUT_text a_INP_text a_TAKE_COMPLETE_text a_OUT_text_value a_INP_text_value a_TAKE_COMPLETE_text_value k__VALUES k_OUT_text_value k_INP_text_value k_TAKE_COMPLETE_text_value cs0 h0 v_ U2_.heap L_ ∧ FrameEnd U_ o_ U2_ L_ ({ frames := 3, cells := 0, slots := 0, locals := 69 } : Room).cells ({ frames := 3, cells := 0, slots := 0, locals := 69 } : Room).slots) := by
  refine MetFree.of_bodySF (plainFor_of_name own_pn1) hisR ?_
  intro p e s m args below meth c s₁ Bd hml0 hP hK
  obtain ⟨rfl, hZ, hh⟩ := hP
  have hx := Bd.exec
  have hby := Bd.bytes
  have hml : c.maxLocals = 3 := hml0
  have hown : s.vm.findClass "java/lang/AbstractStringBuilder" = some m.cls := findClass_of_methodNamed Bd.named
  have hnm := (name_of_methodNamed Bd.named Bd.method).1
  have X0 : Stand p l e ({ frames := 3, cells := 0, slots := 0, locals := 69 } : Room) s m #[(.ref a), (.ref o)] below meth c s₁ [] 0 0 := Stand.of_body Bd
  have e0 : s₁.heap = h0 := by rw [← hh, Bd.state]; rfl
  have N0 := Fr.nil Z.heap.size
  show own_G p e below (fun o_ s₂ => ∃ v_ L_, o_ = .returned v_ ∧ Q_aa1 Z a b kv o t1 kb a__VALUES a_OUT a_INP a_TAKE_COMPLETE a_OUT_text a_INP_text a_TAKE_COMPLETE_text a_OUT_text_value a_INP_text_value a_TAKE_COMPLETE_text_value k__VALUES k_OUT_text_value k_INP_text_value k_TAKE_COMPLETE_text_value cs0 h0 v_ s₂.heap L_ ∧ FrameEnd s o_ s₂ L_ ({ frames := 3, cells := 0, slots := 0, locals := 69 } : Room).cells ({ frames := 3, cells := 0, slots := 0, locals := 69 } : Room).slots) (s₁.setTop (entryFrame m #[(.ref a), (.ref o)] 3))
  refine own_go (s₁.setTop (mkF m 0 #[.val (.ref a), .val (.ref o), .unset] [])) (fun t_ k_ => castTop (own_ef_aa1 m a o) k_) ?_
  have w' := w
  obtain ⟨S__VALUES, X__VALUES, S_OUT, X_OUT, S_INP, X_INP, S_TAKE_COMPLETE, X_TAKE_COMPLETE, F_OUT_text, X_OUT_text, F_INP_text, X_INP_text, F_TAKE_COMPLETE_text, X_TAKE_COMPLETE_text, F_OUT_text_value, X_OUT_text_value, F_INP_text_value, X_INP_text_value, F_TAKE_COMPLETE_text_value, X_TAKE_COMPLETE_text_value, F_OUT_text_coder, F_INP_text_coder, F_TAKE_COMPLETE_text_coder, V__VALUES, V_OUT_text_value, V_INP_text_value, V_TAKE_COMPLETE_text_value, S_CS, n_CS⟩ := w'
  refine own_go (s₁.setTop (mkF m 1 #[.val (.ref a), .val (.ref o), .unset] [(.ref o)])) (fun t_ k_ => XS.aloadN X0.here hx rfl (hb hby own_d_jdk_68_method_22_0) rfl rfl k_) ?_
  refine own_go (s₁.setTop (mkF m 9 #[.val (.ref a), .val (.ref o), .unset] [])) (fun t_ k_ => XS.ifnonnullYes X0.here hx rfl (pc0 := 1) (pc' := 9) rfl (hb hby own_d_jdk_68_method_22_1) rfl (by decide) (by decide) k_) ?_
  refine own_go (s₁.setTop (mkF m 10 #[.val (.ref a), .val (.ref o), .unset] [(.ref o)])) (fun t_ k_ => XS.aloadN X0.here hx rfl (hb hby own_d_jdk_68_method_22_9) rfl rfl k_) ?_
  obtain ⟨cq1, kq1, q1a, q1b, q1c⟩ := isOf hZ e0 Xo
  obtain ⟨_, _, ⟨T1, Lu1, ku1, nu1⟩, -, X1, ⟨Lc1, hQ1, lu1, yu1, zu1⟩, st1⟩ := X0.virtualBack hx (y := (⟨"java/lang/String", "length", "()I"⟩ : MethodName)) (z := (⟨"java/lang/String", "length", "()I"⟩ : MethodName)) hown (mvT hZ (hw _ (List.mem_of_getElem? (i := 56) rfl))) (mvT hZ (hw _ (List.mem_of_getElem? (i := 57) rfl))) (notFace_of_selects (args := #[]) (mvT hZ (hw _ (List.mem_of_getElem? (i := 59) rfl)))) (mvT hZ (hw _ (List.mem_of_getElem? (i := 59) rfl))) (mvT hZ (hw _ (List.mem_of_getElem? (i := 58) rfl))) (by decide) (backOf (W := 0) (rm_ln1 l Z a0 hw [] (o) (t1) (kb) (a__VALUES) (a_OUT) (a_INP) (a_TAKE_COMPLETE) (a_OUT_text) (a_INP_text) (a_TAKE_COMPLETE_text) (a_OUT_text_value) (a_INP_text_value) (a_TAKE_COMPLETE_text_value) (k__VALUES) (k_OUT_text_value) (k_INP_text_value) (k_TAKE_COMPLETE_text_value) (cs0) h0 O w Xo Vo Co Ao) hZ (hw _ (List.mem_of_getElem? (i := 60) rfl)) (hw _ (List.mem_of_getElem? (i := 20) rfl)) (by decide) (by decide)) q1a q1c (g := (mkF m 10 #[.val (.ref a), .val (.ref o), .unset] [(.ref o)])) rfl (by rw [hml]; rfl) (Steps.refl _) (argsL := []) (rest := []) (lenOf own_pd6 rfl) rfl (by show 2 * 0 + _ ≤ _; exact Nat.le_of_eq rfl) (hb hby own_d_jdk_68_method_22_10) (fun _ _ => ⟨rfl, e0, (by decide : 0 + 0 ≤ _), (by decide : 0 + 0 ≤ _)⟩)
  dsimp only [Pt.U, Pt.locs, Pt.cells, Pt.slots] at X1 lu1 yu1 zu1 st1 hQ1
  subst lu1 yu1 zu1
  obtain ⟨rfl, N1q, e1⟩ := hQ1
  have N1 := Fr.app N0 N1q
  refine own_go (T1.setTop (mkF m 13 #[.val (.ref a), .val (.ref o), .unset] [(.int (2 : Int32))])) (fun t_ k_ => st1.trans k_) ?_
  refine own_go (T1.setTop (mkF m 14 #[.val (.ref a), .val (.ref o), .val (.int (2 : Int32))] [])) (fun t_ k_ => XS.istoreN X1.here hx rfl (hb hby own_d_jdk_68_method_22_13) rfl (l' := #[.val (.ref a), .val (.ref o), .val (.int (2 : Int32))]) rfl k_) ?_
  refine own_go (T1.setTop (mkF m 15 #[.val (.ref a), .val (.ref o), .val (.int (2 : Int32))] [(.ref a)])) (fun t_ k_ => XS.aloadN X1.here hx rfl (hb hby own_d_jdk_68_method_22_14) rfl rfl k_) ?_
  refine own_go (T1.setTop (mkF m 16 #[.val (.ref a), .val (.ref o), .val (.int (2 : Int32))] [(.ref a), (.ref a)])) (fun t_ k_ => XS.aloadN X1.here hx rfl (hb hby own_d_jdk_68_method_22_15) rfl rfl k_) ?_
  obtain ⟨T2, X2, e2, st2⟩ := getF X1 hx hZ hown (host := "") (Or.inl (hw _ (List.mem_of_getElem? (i := 71) rfl))) Via.refl e1 Na (g := (mkF m 16 #[.val (.ref a), .val (.ref o), .val (.int (2 : Int32))] [(.ref a), (.ref a)])) rfl rfl (hb hby own_d_jdk_68_method_22_16)
  refine own_go (T2.setTop (mkF m 19 #[.val (.ref a), .val (.ref o), .val (.int (2 : Int32))] [(.int (3 : Int32)), (.ref a)])) (fun t_ k_ => st2 _ k_) ?_
  refine own_go (T2.setTop (mkF m 20 #[.val (.ref a), .val (.ref o), .val (.int (2 : Int32))] [(.int (2 : Int32)), (.int (3 : Int32)), (.ref a)])) (fun t_ k_ => XS.iloadN X2.here hx rfl (hb hby own_d_jdk_68_method_22_19) rfl k_) ?_
  refine own_go (T2.setTop (mkF m 21 #[.val (.ref a), .val (.ref o), .val (.int (2 : Int32))] [(.int ((3 : Int32) + (2 : Int32))), (.ref a)])) (fun t_ k_ => XS.iadd X2.here hx rfl (hb hby own_d_jdk_68_method_22_20) rfl k_) ?_
  rw [show ((3 : Int32) + (2 : Int32)) = (5 : Int32) from by decide]
  obtain ⟨cq3, q3, q3'⟩ := (Xa).cell
  obtain ⟨_, _, ⟨T3, Lu3, ku3, nu3⟩, -, X3, ⟨Lc3, hQ3, lu3, yu3, zu3⟩, st3⟩ := X2.privateBack hx (y := (⟨"java/lang/AbstractStringBuilder", "ensureCapacityInternal", "(I)V"⟩ : MethodName)) hown (mvT hZ (hw _ (List.mem_of_getElem? (i := 73) rfl))) (mvT hZ (hw _ (List.mem_of_getElem? (i := 74) rfl))) (own_selp (mvT hZ (hw _ (List.mem_of_getElem? (i := 76) rfl))) rfl (Cond.privateMethod_at (mvP hZ (hw _ (List.mem_of_getElem? (i := 75) rfl)) (args := #[]))) (mvT hZ (hw _ (List.mem_of_getElem? (i := 74) rfl))) (by decide)) (Cond.privateMethod_at (mvP hZ (hw _ (List.mem_of_getElem? (i := 75) rfl)) (args := #[]))) (mvT hZ (hw _ (List.mem_of_getElem? (i := 77) rfl))) (by decide) (backOf (W := 0) (rm_en1 l Z a0 hw [] (a) (b) (kv) h0 O Xa Va Ca Na Ab ga gb) hZ (hw _ (List.mem_of_getElem? (i := 77) rfl)) (hw _ (List.mem_of_getElem? (i := 14) rfl)) (by decide) (by decide)) (g := (mkF m 21 #[.val (.ref a), .val (.ref o), .val (.int (2 : Int32))] [(.int (5 : Int32)), (.ref a)])) rfl (by rw [hml]; rfl) (Steps.refl _) (a := a) (by rw [e2]; exact q3) q3' (argsL := [(.int (5 : Int32))]) (rest := []) (lenOf own_pd0 rfl) rfl (by show 2 * 0 + _ ≤ _; exact Nat.le_of_eq rfl) (hb hby own_d_jdk_68_method_22_21) (fun _ _ => ⟨rfl, e2, (by decide : 0 + 0 ≤ _), (by decide : 0 + 0 ≤ _)⟩)
  dsimp only [Pt.U, Pt.locs, Pt.cells, Pt.slots] at X3 lu3 yu3 zu3 st3 hQ3
  subst lu3 yu3 zu3
  obtain ⟨rfl, N3q, e3⟩ := hQ3
  have N3 := Fr.app N1 N3q
  refine own_go (T3.setTop (mkF m 24 #[.val (.ref a), .val (.ref o), .val (.int (2 : Int32))] [])) (fun t_ k_ => st3.trans k_) ?_
  refine own_go (T3.setTop (mkF m 25 #[.val (.ref a), .val (.ref o), .val (.int (2 : Int32))] [(.ref a)])) (fun t_ k_ => XS.aloadN X3.here hx rfl (hb hby own_d_jdk_68_method_22_24) rfl rfl k_) ?_
  refine own_go (T3.setTop (mkF m 26 #[.val (.ref a), .val (.ref o), .val (.int (2 : Int32))] [(.ref a), (.ref a)])) (fun t_ k_ => XS.aloadN X3.here hx rfl (hb hby own_d_jdk_68_method_22_25) rfl rfl k_) ?_
  obtain ⟨T4, X4, e4, st4⟩ := getF X3 hx hZ hown (host := "") (Or.inl (hw _ (List.mem_of_getElem? (i := 71) rfl))) Via.refl e3 Na (g := (mkF m 26 #[.val (.ref a), .val (.ref o), .val (.int (2 : Int32))] [(.ref a), (.ref a)])) rfl rfl (hb hby own_d_jdk_68_method_22_26)
  refine own_go (T4.setTop (mkF m 29 #[.val (.ref a), .val (.ref o), .val (.int (2 : Int32))] [(.int (3 : Int32)), (.ref a)])) (fun t_ k_ => st4 _ k_) ?_
  refine own_go (T4.setTop (mkF m 30 #[.val (.ref a), .val (.ref o), .val (.int (2 : Int32))] [(.ref o), (.int (3 : Int32)), (.ref a)])) (fun t_ k_ => XS.aloadN X4.here hx rfl (hb hby own_d_jdk_68_method_22_29) rfl rfl k_) ?_
  obtain ⟨cq5, q5, q5'⟩ := (Xa).cell
  obtain ⟨_, _, ⟨T5, Lu5, ku5, nu5⟩, -, X5, ⟨Lc5, hQ5, lu5, yu5, zu5⟩, st5⟩ := X4.privateBack hx (y := (⟨"java/lang/AbstractStringBuilder", "putStringAt", "(ILjava/lang/String;)V"⟩ : MethodName)) hown (mvT hZ (hw _ (List.mem_of_getElem? (i := 78) rfl))) (mvT hZ (hw _ (List.mem_of_getElem? (i := 79) rfl))) (own_selp (mvT hZ (hw _ (List.mem_of_getElem? (i := 76) rfl))) rfl (Cond.privateMethod_at (mvP hZ (hw _ (List.mem_of_getElem? (i := 80) rfl)) (args := #[]))) (mvT hZ (hw _ (List.mem_of_getElem? (i := 79) rfl))) (by decide)) (Cond.privateMethod_at (mvP hZ (hw _ (List.mem_of_getElem? (i := 80) rfl)) (args := #[]))) (mvT hZ (hw _ (List.mem_of_getElem? (i := 82) rfl))) (by decide) (backOf (W := 0) (rm_ps1 l Z a0 hw [] (a) (b) (kv) (o) (t1) (kb) (a__VALUES) (a_OUT) (a_INP) (a_TAKE_COMPLETE) (a_OUT_text) (a_INP_text) (a_TAKE_COMPLETE_text) (a_OUT_text_value) (a_INP_text_value) (a_TAKE_COMPLETE_text_value) (k__VALUES) (k_OUT_text_value) (k_INP_text_value) (k_TAKE_COMPLETE_text_value) (cs0) h0 O w Xa Va Ca Ab gb Xo Vo Co Ao) hZ (hw _ (List.mem_of_getElem? (i := 82) rfl)) (hw _ (List.mem_of_getElem? (i := 14) rfl)) (by decide) (by decide)) (g := (mkF m 30 #[.val (.ref a), .val (.ref o), .val (.int (2 : Int32))] [(.ref o), (.int (3 : Int32)), (.ref a)])) rfl (by rw [hml]; rfl) (Steps.refl _) (a := a) (by rw [e4]; exact q5) q5' (argsL := [(.int (3 : Int32)), (.ref o)]) (rest := []) (lenOf own_pd7 rfl) rfl (by show 2 * 0 + _ ≤ _; exact Nat.le_of_eq rfl) (hb hby own_d_jdk_68_method_22_30) (fun _ _ => ⟨rfl, e4, (by decide : 0 + 0 ≤ _), (by decide : 0 + 0 ≤ _)⟩)
  dsimp only [Pt.U, Pt.locs, Pt.cells, Pt.slots] at X5 lu5 yu5 zu5 st5 hQ5
  subst lu5 yu5 zu5
  obtain ⟨rfl, N5q, K5q, V5q⟩ := hQ5
  have N5 := Fr.app N3 N5q
  have O5 := own_extK O K5q (allS gb all0)
  have KK5 : Keep h0 T5.heap [a, b] := (Keep.refl h0 [a, b]).trans K5q (allS (Or.inl (List.mem_of_getElem? (i := 1) rfl)) all0)
  refine own_go (T5.setTop (mkF m 33 #[.val (.ref a), .val (.ref o), .val (.int (2 : Int32))] [])) (fun t_ k_ => st5.trans k_) ?_
  refine own_go (T5.setTop (mkF m 34 #[.val (.ref a), .val (.ref o), .val (.int (2 : Int32))] [(.ref a)])) (fun t_ k_ => XS.aloadN X5.here hx rfl (hb hby own_d_jdk_68_method_22_33) rfl rfl k_) ?_
  refine own_go (T5.setTop (mkF m 35 #[.val (.ref a), .val (.ref o), .val (.int (2 : Int32))] [(.ref a), (.ref a)])) (fun t_ k_ => XS.dup X5.here hx rfl (hb hby own_d_jdk_68_method_22_34) rfl rfl k_) ?_
  have Nz6 : a ≠ b := (Exa.neArv Xa Ab (hw _ (List.mem_of_getElem? (i := 5) rfl)))
  have Fz7 := (Na.keep K5q (ninS Nz6 nin0))
  obtain ⟨T8, X8, e8, st8⟩ := getF X5 hx hZ hown (host := "") (Or.inl (hw _ (List.mem_of_getElem? (i := 71) rfl))) Via.refl rfl Fz7 (g := (mkF m 35 #[.val (.ref a), .val (.ref o), .val (.int (2 : Int32))] [(.ref a), (.ref a)])) rfl rfl (hb hby own_d_jdk_68_method_22_35)
  refine own_go (T8.setTop (mkF m 38 #[.val (.ref a), .val (.ref o), .val (.int (2 : Int32))] [(.int (3 : Int32)), (.ref a)])) (fun t_ k_ => st8 _ k_) ?_
  refine own_go (T8.setTop (mkF m 39 #[.val (.ref a), .val (.ref o), .val (.int (2 : Int32))] [(.int (2 : Int32)), (.int (3 : Int32)), (.ref a)])) (fun t_ k_ => XS.iloadN X8.here hx rfl (hb hby own_d_jdk_68_method_22_38) rfl k_) ?_
  refine own_go (T8.setTop (mkF m 40 #[.val (.ref a), .val (.ref o), .val (.int (2 : Int32))] [(.int ((3 : Int32) + (2 : Int32))), (.ref a)])) (fun t_ k_ => XS.iadd X8.here hx rfl (hb hby own_d_jdk_68_method_22_39) rfl k_) ?_
  rw [show ((3 : Int32) + (2 : Int32)) = (5 : Int32) from by decide]
  have Fz9 := (Xa.keep K5q)
  obtain ⟨T10, h10, X10, e10, W10, st10⟩ := putF X8 hx hZ hown (host := "") (Or.inl (hw _ (List.mem_of_getElem? (i := 71) rfl))) Via.refl e8 Fz7 Fz9 (Or.inl (hw _ (List.mem_of_getElem? (i := 72) rfl))) (hw _ (List.mem_of_getElem? (i := 5) rfl)) (ty := .int) (by decide) rfl rfl (g := (mkF m 40 #[.val (.ref a), .val (.ref o), .val (.int (2 : Int32))] [(.int (5 : Int32)), (.ref a)])) rfl rfl (hb hby own_d_jdk_68_method_22_40)
  have Fw10 := Fz7.same W10
  have K10 : Keep h0 h10 [a, b] := KK5.wr W10 (Or.inl (List.mem_of_getElem? (i := 0) rfl))
  have N10 := Fr.snoc X10 N5 ga
  have O10 := own_extW O5 W10 ga
  refine own_go (T10.setTop (mkF m 43 #[.val (.ref a), .val (.ref o), .val (.int (2 : Int32))] [])) (fun t_ k_ => st10 _ k_) ?_
  refine own_go (T10.setTop (mkF m 44 #[.val (.ref a), .val (.ref o), .val (.int (2 : Int32))] [(.ref a)])) (fun t_ k_ => XS.aloadN X10.here hx rfl (hb hby own_d_jdk_68_method_22_43) rfl rfl k_) ?_
  obtain ⟨fs, hr, hrun, hended, hW, hsame⟩ := X10.leave (v := some (.ref a)) (fun h => by rw [Bd.returns] at h; cases h)
  refine ⟨_, _, Jvm.RoadKit.retOut X10 hx Bd.returns rfl (Or.inr (Or.inr (Or.inr (Or.inr ⟨rfl, rfl, rfl⟩)))) (hb hby own_d_jdk_68_method_22_44) hr, hrun, hended, _, _, rfl, ?_, ⟨_, rfl⟩, hW, hsame.mono (by decide) (by decide)⟩
  show Q_aa1 Z a b kv o t1 kb a__VALUES a_OUT a_INP a_TAKE_COMPLETE a_OUT_text a_INP_text a_TAKE_COMPLETE_text a_OUT_text_value a_INP_text_value a_TAKE_COMPLETE_text_value k__VALUES k_OUT_text_value k_INP_text_value k_TAKE_COMPLETE_text_value cs0 h0 _ T10.heap _
  have Fz11 := (Fz9.wr W10)
  have Fz12 := ((Va.keep K5q (ninS Nz6 nin0)).other W10 (Or.inr (slot_ne (a0 := a0) (Or.inl (hw _ (List.mem_of_getElem? (i := 23) rfl))) (Or.inl (hw _ (List.mem_of_getElem? (i := 72) rfl))) (by decide) (t := (.array .byte)) (t' := .int) (by decide) (by decide))))
  have Fz13 := ((Ca.keep K5q (ninS Nz6 nin0)).other W10 (Or.inr (slot_ne (a0 := a0) (Or.inl (hw _ (List.mem_of_getElem? (i := 25) rfl))) (Or.inl (hw _ (List.mem_of_getElem? (i := 72) rfl))) (by decide) (t := .byte) (t' := .int) (by decide) (by decide))))
  have Fz14 := (V5q.other W10 (Ne.symm Nz6))
  rw [show T10.heap = h10 from e10]
  exact ⟨_, _, rfl, N10, K10, gb, rfl, rfl, Fz11, Fz12, Fz13, Fw10, Fz14⟩
theorem own_ef_ap1 (m : MethodId) (a : Addr) (o : Addr) : entryFrame m #[(.ref a), (.ref o)] 2 = mkF m 0 #[.val (.ref a), .val (.ref o)] [] := by first | (simp [entryFrame, mkF, argsToLocals, Value.category]; done) | rfl
def Q_ap1 (Z : State) (a : Addr) (b : Addr) (kv : ClassId) (o : Addr) (t1 : Addr) (kb : ClassId) (a__VALUES : Addr) (a_OUT : Addr) (a_INP : Addr) (a_TAKE_COMPLETE : Addr) (a_OUT_text : Addr) (a_INP_text : Addr) (a_TAKE_COMPLETE_text : Addr) (a_OUT_text_value : Addr) (a_INP_text_value : Addr) (a_TAKE_COMPLETE_text_value : Addr) (k__VALUES : ClassId) (k_OUT_text_value : ClassId) (k_INP_text_value : ClassId) (k_TAKE_COMPLETE_text_value : ClassId) (cs0 : Int32) (h0 : Heap) (v_ : Option Value) (h : Heap) (L_ : List Loc) : Prop := ∃ (b2 : Addr), ∃ (k2 : ClassId), v_ = some (.ref a) ∧ Fr Z.heap.size L_ ∧ (Keep h0 h [a, b] ∧ Z.heap.size ≤ b2 ∧ b = b2 ∧ kv = k2 ∧ Exa Z h a "java/lang/StringBuilder" ∧ Fld Z h a "java/lang/AbstractStringBuilder" "value" "[B" (.ref b2) ∧ Fld Z h a "java/lang/AbstractStringBuilder" "coder" "B" (.int 0) ∧ Fld Z h a "java/lang/AbstractStringBuilder" "count" "I" (.int 5) ∧ Arv Z h b2 k2 .byte 16 [(.int (111 : Int32)), (.int (117 : Int32)), (.int (116 : Int32)), (.int (44 : Int32)), (.int (32 : Int32))] (.int 0))
set_option maxRecDepth 65536 in
set_option maxHeartbeats 40000000 in
theorem rm_ap1 (l : Launch) (Z : State) (a0 : Array Value) (hw : ∀ d ∈ tables_1, d.before a0 Z = true) (ws : List Jvm.Cond) (a : Addr) (b : Addr) (kv : ClassId) (o : Addr) (t1 : Addr) (kb : ClassId) (a__VALUES : Addr) (a_OUT : Addr) (a_INP : Addr) (a_TAKE_COMPLETE : Addr) (a_OUT_text : Addr) (a_INP_text : Addr) (a_TAKE_COMPLETE_text : Addr) (a_OUT_text_value : Addr) (a_INP_text_value : Addr) (a_TAKE_COMPLETE_text_value : Addr) (k__VALUES : ClassId) (k_OUT_text_value : ClassId) (k_INP_text_value : ClassId) (k_TAKE_COMPLETE_text_value : ClassId) (cs0 : Int32) (h0 : Heap) (O : Ext Z.heap h0) (w : own_W Z a__VALUES a_OUT a_INP a_TAKE_COMPLETE a_OUT_text a_INP_text a_TAKE_COMPLETE_text a_OUT_text_value a_INP_text_value a_TAKE_COMPLETE_text_value k__VALUES k_OUT_text_value k_INP_text_value k_TAKE_COMPLETE_text_value cs0) (Xa : Exa Z h0 a "java/lang/StringBuilder") (Va : Fld Z h0 a "java/lang/AbstractStringBuilder" "value" "[B" (.ref b)) (Ca : Fld Z h0 a "java/lang/AbstractStringBuilder" "coder" "B" (.int 0)) (Na : Fld Z h0 a "java/lang/AbstractStringBuilder" "count" "I" (.int 3)) (Ab : Arv Z h0 b kv .byte 16 [(.int (111 : Int32)), (.int (117 : Int32)), (.int (116 : Int32))] (.int 0)) (ga : Z.heap.size ≤ a) (gb : Z.heap.size ≤ b) (Xo : Exa Z h0 o "java/lang/String") (Vo : Fld Z h0 o "java/lang/String" "value" "[B" (.ref t1)) (Co : Fld Z h0 o "java/lang/String" "coder" "B" (.int 0)) (Ao : Arv Z h0 t1 kb .byte 2 [(.int (44 : Int32)), (.int (32 : Int32))] (.int 0)) (nt : t1 ≠ b) :
    MetFree l (⟨"java/lang/StringBuilder", "append", "(Ljava/lang/String;)Ljava/lang/StringBuilder;"⟩ : MethodName) (head1 (Jvm.Cond.code (⟨"java/lang/StringBuilder", "append", "(Ljava/lang/String;)Ljava/lang/StringBuilder;"⟩ : MethodName) jdk_67_method_7_code 2 (some (.object "java/lang/StringBuilder")) :: ws) ({ frames := 4, cells := 0, slots := 0, locals := 83 } : Room)) (fun a_ U_ => a_ = #[(.ref a), (.ref o)] ∧ Z.Warmed39 U_.vm ∧ U_.heap = h0) (fun _ _ _ _ _ => True) (fun _ U_ o_ U2_ => ∃ v_ L_, o_ = .returned v_ ∧ Q_ap1 Z a b kv o t1 kb a__VALUES a_OUT a_INP a_TAKE_COMPLETE a_OUT_text a_INP_text a_TAKE_COMPLETE_text a_OUT_text_value a_INP_text_value a_TAKE_COMPLETE_text_value k__VALUES k_OUT_text_value k_INP_text_value k_TAKE_COMPLETE_text_value cs0 h0 v_ U2_.heap L_ ∧ FrameEnd U_ o_ U2_ L_ ({ frames := 4, cells := 0, slots := 0, locals := 83 } : Room).cells ({ frames := 4, cells := 0, slots := 0, locals := 83 } : Room).slots) := by
  refine MetFree.of_bodySF (plainFor_of_name own_pn2) hisR ?_
  intro p e s m args below meth c s₁ Bd hml0 hP hK
  obtain ⟨rfl, hZ, hh⟩ := hP
  have hx := Bd.exec
  have hby := Bd.bytes
  have hml : c.maxLocals = 2 := hml0
  have hown : s.vm.findClass "java/lang/StringBuilder" = some m.cls := findClass_of_methodNamed Bd.named
  have hnm := (name_of_methodNamed Bd.named Bd.method).1
  have X0 : Stand p l e ({ frames := 4, cells := 0, slots := 0, locals := 83 } : Room) s m #[(.ref a), (.ref o)] below meth c s₁ [] 0 0 := Stand.of_body Bd
  have e0 : s₁.heap = h0 := by rw [← hh, Bd.state]; rfl
  have N0 := Fr.nil Z.heap.size
  show own_G p e below (fun o_ s₂ => ∃ v_ L_, o_ = .returned v_ ∧ Q_ap1 Z a b kv o t1 kb a__VALUES a_OUT a_INP a_TAKE_COMPLETE a_OUT_text a_INP_text a_TAKE_COMPLETE_text a_OUT_text_value a_INP_text_value a_TAKE_COMPLETE_text_value k__VALUES k_OUT_text_value k_INP_text_value k_TAKE_COMPLETE_text_value cs0 h0 v_ s₂.heap L_ ∧ FrameEnd s o_ s₂ L_ ({ frames := 4, cells := 0, slots := 0, locals := 83 } : Room).cells ({ frames := 4, cells := 0, slots := 0, locals := 83 } : Room).slots) (s₁.setTop (entryFrame m #[(.ref a), (.ref o)] 2))
  refine own_go (s₁.setTop (mkF m 0 #[.val (.ref a), .val (.ref o)] [])) (fun t_ k_ => castTop (own_ef_ap1 m a o) k_) ?_
  have w' := w
  obtain ⟨S__VALUES, X__VALUES, S_OUT, X_OUT, S_INP, X_INP, S_TAKE_COMPLETE, X_TAKE_COMPLETE, F_OUT_text, X_OUT_text, F_INP_text, X_INP_text, F_TAKE_COMPLETE_text, X_TAKE_COMPLETE_text, F_OUT_text_value, X_OUT_text_value, F_INP_text_value, X_INP_text_value, F_TAKE_COMPLETE_text_value, X_TAKE_COMPLETE_text_value, F_OUT_text_coder, F_INP_text_coder, F_TAKE_COMPLETE_text_coder, V__VALUES, V_OUT_text_value, V_INP_text_value, V_TAKE_COMPLETE_text_value, S_CS, n_CS⟩ := w'
  refine own_go (s₁.setTop (mkF m 1 #[.val (.ref a), .val (.ref o)] [(.ref a)])) (fun t_ k_ => XS.aloadN X0.here hx rfl (hb hby own_d_jdk_67_method_7_0) rfl rfl k_) ?_
  refine own_go (s₁.setTop (mkF m 2 #[.val (.ref a), .val (.ref o)] [(.ref o), (.ref a)])) (fun t_ k_ => XS.aloadN X0.here hx rfl (hb hby own_d_jdk_67_method_7_1) rfl rfl k_) ?_
  obtain ⟨_, _, ⟨T1, Lu1, ku1, nu1⟩, -, X1, ⟨Lc1, hQ1, lu1, yu1, zu1⟩, st1⟩ := superBack X0 hx hZ (y := (⟨"java/lang/AbstractStringBuilder", "append", "(Ljava/lang/String;)Ljava/lang/AbstractStringBuilder;"⟩ : MethodName)) hown (hw _ (List.mem_of_getElem? (i := 51) rfl)) (own_sameM (hw _ (List.mem_of_getElem? (i := 52) rfl)) (hw _ (List.mem_of_getElem? (i := 76) rfl)) rfl (by decide)) (hw _ (List.mem_of_getElem? (i := 52) rfl)) (hw _ (List.mem_of_getElem? (i := 53) rfl)) (by decide) (backOf (W := 0) (rm_aa1 l Z a0 hw [] (a) (b) (kv) (o) (t1) (kb) (a__VALUES) (a_OUT) (a_INP) (a_TAKE_COMPLETE) (a_OUT_text) (a_INP_text) (a_TAKE_COMPLETE_text) (a_OUT_text_value) (a_INP_text_value) (a_TAKE_COMPLETE_text_value) (k__VALUES) (k_OUT_text_value) (k_INP_text_value) (k_TAKE_COMPLETE_text_value) (cs0) h0 O w Xa Va Ca Na Ab ga gb Xo Vo Co Ao nt) hZ (hw _ (List.mem_of_getElem? (i := 55) rfl)) (hw _ (List.mem_of_getElem? (i := 14) rfl)) (by decide) (by decide)) e0 (Ins.self Xa) (g := (mkF m 2 #[.val (.ref a), .val (.ref o)] [(.ref o), (.ref a)])) rfl (by rw [hml]; rfl) (hw _ (List.mem_of_getElem? (i := 55) rfl)) (argsL := [(.ref o)]) (rest := []) (lenOf own_pd8 rfl) rfl (by show 2 * 0 + _ ≤ _; exact Nat.le_of_eq rfl) (hb hby own_d_jdk_67_method_7_2) (fun _ _ => ⟨rfl, e0, (by decide : 0 + 0 ≤ _), (by decide : 0 + 0 ≤ _)⟩)
  dsimp only [Pt.U, Pt.locs, Pt.cells, Pt.slots] at X1 lu1 yu1 zu1 st1 hQ1
  subst lu1 yu1 zu1
  obtain ⟨b1, kv1, rfl, N1q, K1q, u1_1, rfl, rfl, X1q, F1q, G1q, H1q, A1q⟩ := hQ1
  have N1 := Fr.app N0 N1q
  have O1 := own_extK O K1q (allS ga (allS gb all0))
  have KK1 : Keep h0 T1.heap [a, b] := (Keep.refl h0 [a, b]).trans K1q (allS (Or.inl (List.mem_of_getElem? (i := 0) rfl)) (allS (Or.inl (List.mem_of_getElem? (i := 1) rfl)) all0))
  refine own_go (T1.setTop (mkF m 5 #[.val (.ref a), .val (.ref o)] [(.ref a)])) (fun t_ k_ => st1.trans k_) ?_
  refine own_go (T1.setTop (mkF m 6 #[.val (.ref a), .val (.ref o)] [])) (fun t_ k_ => XS.pop X1.here hx rfl (hb hby own_d_jdk_67_method_7_5) rfl rfl k_) ?_
  refine own_go (T1.setTop (mkF m 7 #[.val (.ref a), .val (.ref o)] [(.ref a)])) (fun t_ k_ => XS.aloadN X1.here hx rfl (hb hby own_d_jdk_67_method_7_6) rfl rfl k_) ?_
  obtain ⟨fs, hr, hrun, hended, hW, hsame⟩ := X1.leave (v := some (.ref a)) (fun h => by rw [Bd.returns] at h; cases h)
  refine ⟨_, _, Jvm.RoadKit.retOut X1 hx Bd.returns rfl (Or.inr (Or.inr (Or.inr (Or.inr ⟨rfl, rfl, rfl⟩)))) (hb hby own_d_jdk_67_method_7_7) hr, hrun, hended, _, _, rfl, ?_, ⟨_, rfl⟩, hW, hsame.mono (by decide) (by decide)⟩
  show Q_ap1 Z a b kv o t1 kb a__VALUES a_OUT a_INP a_TAKE_COMPLETE a_OUT_text a_INP_text a_TAKE_COMPLETE_text a_OUT_text_value a_INP_text_value a_TAKE_COMPLETE_text_value k__VALUES k_OUT_text_value k_INP_text_value k_TAKE_COMPLETE_text_value cs0 h0 _ T1.heap _
  exact ⟨_, _, rfl, N1, KK1, gb, rfl, rfl, X1q, F1q, G1q, H1q, A1q⟩
theorem own_ef_en2 (m : MethodId) (a : Addr) : entryFrame m #[(.ref a), (.int (8 : Int32))] 3 = mkF m 0 #[.val (.ref a), .val (.int (8 : Int32)), .unset] [] := by first | (simp [entryFrame, mkF, argsToLocals, Value.category]; done) | rfl
def Q_en2 (Z : State) (a : Addr) (b : Addr) (kv : ClassId) (h0 : Heap) (v_ : Option Value) (h : Heap) (L_ : List Loc) : Prop := v_ = none ∧ Fr Z.heap.size L_ ∧ (h = h0)
set_option maxRecDepth 65536 in
set_option maxHeartbeats 40000000 in
theorem rm_en2 (l : Launch) (Z : State) (a0 : Array Value) (hw : ∀ d ∈ tables_1, d.before a0 Z = true) (ws : List Jvm.Cond) (a : Addr) (b : Addr) (kv : ClassId) (h0 : Heap) (O : Ext Z.heap h0) (Xa : Exa Z h0 a "java/lang/StringBuilder") (Va : Fld Z h0 a "java/lang/AbstractStringBuilder" "value" "[B" (.ref b)) (Ca : Fld Z h0 a "java/lang/AbstractStringBuilder" "coder" "B" (.int 0)) (Na : Fld Z h0 a "java/lang/AbstractStringBuilder" "count" "I" (.int 5)) (Ab : Arv Z h0 b kv .byte 16 [(.int (111 : Int32)), (.int (117 : Int32)), (.int (116 : Int32)), (.int (44 : Int32)), (.int (32 : Int32))] (.int 0)) (ga : Z.heap.size ≤ a) (gb : Z.heap.size ≤ b) :
    MetFree l (⟨"java/lang/AbstractStringBuilder", "ensureCapacityInternal", "(I)V"⟩ : MethodName) (head1 (Jvm.Cond.code (⟨"java/lang/AbstractStringBuilder", "ensureCapacityInternal", "(I)V"⟩ : MethodName) jdk_68_method_9_code 3 none :: ws) ({ frames := 0, cells := 0, slots := 0, locals := 0 } : Room)) (fun a_ U_ => a_ = #[(.ref a), (.int (8 : Int32))] ∧ Z.Warmed39 U_.vm ∧ U_.heap = h0) (fun _ _ _ _ _ => True) (fun _ U_ o_ U2_ => ∃ v_ L_, o_ = .returned v_ ∧ Q_en2 Z a b kv h0 v_ U2_.heap L_ ∧ FrameEnd U_ o_ U2_ L_ ({ frames := 0, cells := 0, slots := 0, locals := 0 } : Room).cells ({ frames := 0, cells := 0, slots := 0, locals := 0 } : Room).slots) := by
  refine MetFree.of_bodySF (plainFor_of_name own_pn1) hisR ?_
  intro p e s m args below meth c s₁ Bd hml0 hP hK
  obtain ⟨rfl, hZ, hh⟩ := hP
  have hx := Bd.exec
  have hby := Bd.bytes
  have hml : c.maxLocals = 3 := hml0
  have hown : s.vm.findClass "java/lang/AbstractStringBuilder" = some m.cls := findClass_of_methodNamed Bd.named
  have hnm := (name_of_methodNamed Bd.named Bd.method).1
  have X0 : Stand p l e ({ frames := 0, cells := 0, slots := 0, locals := 0 } : Room) s m #[(.ref a), (.int (8 : Int32))] below meth c s₁ [] 0 0 := Stand.of_body Bd
  have e0 : s₁.heap = h0 := by rw [← hh, Bd.state]; rfl
  have N0 := Fr.nil Z.heap.size
  show own_G p e below (fun o_ s₂ => ∃ v_ L_, o_ = .returned v_ ∧ Q_en2 Z a b kv h0 v_ s₂.heap L_ ∧ FrameEnd s o_ s₂ L_ ({ frames := 0, cells := 0, slots := 0, locals := 0 } : Room).cells ({ frames := 0, cells := 0, slots := 0, locals := 0 } : Room).slots) (s₁.setTop (entryFrame m #[(.ref a), (.int (8 : Int32))] 3))
  refine own_go (s₁.setTop (mkF m 0 #[.val (.ref a), .val (.int (8 : Int32)), .unset] [])) (fun t_ k_ => castTop (own_ef_en2 m a) k_) ?_
  refine own_go (s₁.setTop (mkF m 1 #[.val (.ref a), .val (.int (8 : Int32)), .unset] [(.ref a)])) (fun t_ k_ => XS.aloadN X0.here hx rfl (hb hby own_d_jdk_68_method_9_0) rfl rfl k_) ?_
  obtain ⟨T1, X1, e1, st1⟩ := getF X0 hx hZ hown (host := "") (Or.inl (hw _ (List.mem_of_getElem? (i := 22) rfl))) Via.refl e0 Va (g := (mkF m 1 #[.val (.ref a), .val (.int (8 : Int32)), .unset] [(.ref a)])) rfl rfl (hb hby own_d_jdk_68_method_9_1)
  refine own_go (T1.setTop (mkF m 4 #[.val (.ref a), .val (.int (8 : Int32)), .unset] [(.ref b)])) (fun t_ k_ => st1 _ k_) ?_
  obtain ⟨cl2, Ar2, q2, Sz2, Nz2, Hz2, Gz2⟩ := id (Ab)
  refine own_go (T1.setTop (mkF m 5 #[.val (.ref a), .val (.int (8 : Int32)), .unset] [(.int (16 : Int32))])) (fun t_ k_ => X1.arraylength hx (by rw [e1]; exact Ar2.1) (State.isArrayOf_alike hZ.alike Ar2.2.1) (g := (mkF m 4 #[.val (.ref a), .val (.int (8 : Int32)), .unset] [(.ref b)])) rfl rfl (hb hby own_d_jdk_68_method_9_4) _ (by rw [len_of Sz2 Nz2]; exact k_)) ?_
  refine own_go (T1.setTop (mkF m 6 #[.val (.ref a), .val (.int (8 : Int32)), .unset] [(.ref a), (.int (16 : Int32))])) (fun t_ k_ => XS.aloadN X1.here hx rfl (hb hby own_d_jdk_68_method_9_5) rfl rfl k_) ?_
  obtain ⟨T3, X3, e3, st3⟩ := getF X1 hx hZ hown (host := "") (Or.inl (hw _ (List.mem_of_getElem? (i := 24) rfl))) Via.refl e1 Ca (g := (mkF m 6 #[.val (.ref a), .val (.int (8 : Int32)), .unset] [(.ref a), (.int (16 : Int32))])) rfl rfl (hb hby own_d_jdk_68_method_9_6)
  refine own_go (T3.setTop (mkF m 9 #[.val (.ref a), .val (.int (8 : Int32)), .unset] [(.int (0 : Int32)), (.int (16 : Int32))])) (fun t_ k_ => st3 _ k_) ?_
  refine own_go (T3.setTop (mkF m 10 #[.val (.ref a), .val (.int (8 : Int32)), .unset] [(.int ((16 : Int32) >>> ((0 : Int32) &&& 31)))])) (fun t_ k_ => XS.ishr X3.here hx rfl (hb hby own_d_jdk_68_method_9_9) rfl k_) ?_
  rw [show ((16 : Int32) >>> ((0 : Int32) &&& 31)) = (16 : Int32) from by decide]
  refine own_go (T3.setTop (mkF m 11 #[.val (.ref a), .val (.int (8 : Int32)), .val (.int (16 : Int32))] [])) (fun t_ k_ => XS.istoreN X3.here hx rfl (hb hby own_d_jdk_68_method_9_10) rfl (l' := #[.val (.ref a), .val (.int (8 : Int32)), .val (.int (16 : Int32))]) rfl k_) ?_
  refine own_go (T3.setTop (mkF m 12 #[.val (.ref a), .val (.int (8 : Int32)), .val (.int (16 : Int32))] [(.int (8 : Int32))])) (fun t_ k_ => XS.iloadN X3.here hx rfl (hb hby own_d_jdk_68_method_9_11) rfl k_) ?_
  refine own_go (T3.setTop (mkF m 13 #[.val (.ref a), .val (.int (8 : Int32)), .val (.int (16 : Int32))] [(.int (16 : Int32)), (.int (8 : Int32))])) (fun t_ k_ => XS.iloadN X3.here hx rfl (hb hby own_d_jdk_68_method_9_12) rfl k_) ?_
  refine own_go (T3.setTop (mkF m 14 #[.val (.ref a), .val (.int (8 : Int32)), .val (.int (16 : Int32))] [(.int ((8 : Int32) - (16 : Int32)))])) (fun t_ k_ => XS.isub X3.here hx rfl (hb hby own_d_jdk_68_method_9_13) rfl k_) ?_
  rw [show ((8 : Int32) - (16 : Int32)) = (-8 : Int32) from by decide]
  refine own_go (T3.setTop (mkF m 38 #[.val (.ref a), .val (.int (8 : Int32)), .val (.int (16 : Int32))] [])) (fun t_ k_ => XS.ifYes X3.here hx rfl (pc0 := 14) (pc' := 38) rfl (hb hby own_d_jdk_68_method_9_14) rfl ((if0 _ _).trans (flt (by decide : ¬ ((0 : Int32) < (-8 : Int32)))).2.2.2) (by decide) (by decide) k_) ?_
  obtain ⟨fs, hr, hrun, hended, hW, hsame⟩ := X3.leave (v := none) (fun _ => rfl)
  refine ⟨_, _, X3.returnOut hx Bd.returns (hb hby own_d_jdk_68_method_9_38) hr, hrun, hended, _, _, rfl, ?_, ⟨_, rfl⟩, hW, hsame.mono (by decide) (by decide)⟩
  show Q_en2 Z a b kv h0 _ T3.heap _
  exact ⟨rfl, N0, e3⟩
theorem own_ef_gb2 (m : MethodId) (o : Addr) (b : Addr) : entryFrame m #[(.ref o), (.ref b), (.int (5 : Int32)), (.int (0 : Int32))] 4 = mkF m 0 #[.val (.ref o), .val (.ref b), .val (.int (5 : Int32)), .val (.int (0 : Int32))] [] := by first | (simp [entryFrame, mkF, argsToLocals, Value.category]; done) | rfl
def Q_gb2 (Z : State) (o : Addr) (t1 : Addr) (kb : ClassId) (b : Addr) (kv : ClassId) (a__VALUES : Addr) (a_OUT : Addr) (a_INP : Addr) (a_TAKE_COMPLETE : Addr) (a_OUT_text : Addr) (a_INP_text : Addr) (a_TAKE_COMPLETE_text : Addr) (a_OUT_text_value : Addr) (a_INP_text_value : Addr) (a_TAKE_COMPLETE_text_value : Addr) (k__VALUES : ClassId) (k_OUT_text_value : ClassId) (k_INP_text_value : ClassId) (k_TAKE_COMPLETE_text_value : ClassId) (cs0 : Int32) (h0 : Heap) (v_ : Option Value) (h : Heap) (L_ : List Loc) : Prop := v_ = none ∧ Fr Z.heap.size L_ ∧ (Keep h0 h [b] ∧ Arv Z h b kv .byte 16 [(.int (111 : Int32)), (.int (117 : Int32)), (.int (116 : Int32)), (.int (44 : Int32)), (.int (32 : Int32)), (.int (105 : Int32)), (.int (110 : Int32)), (.int (112 : Int32))] (.int 0))
set_option maxRecDepth 65536 in
set_option maxHeartbeats 40000000 in
theorem rm_gb2 (l : Launch) (Z : State) (a0 : Array Value) (hw : ∀ d ∈ tables_1, d.before a0 Z = true) (ws : List Jvm.Cond) (o : Addr) (t1 : Addr) (kb : ClassId) (b : Addr) (kv : ClassId) (a__VALUES : Addr) (a_OUT : Addr) (a_INP : Addr) (a_TAKE_COMPLETE : Addr) (a_OUT_text : Addr) (a_INP_text : Addr) (a_TAKE_COMPLETE_text : Addr) (a_OUT_text_value : Addr) (a_INP_text_value : Addr) (a_TAKE_COMPLETE_text_value : Addr) (k__VALUES : ClassId) (k_OUT_text_value : ClassId) (k_INP_text_value : ClassId) (k_TAKE_COMPLETE_text_value : ClassId) (cs0 : Int32) (h0 : Heap) (O : Ext Z.heap h0) (w : own_W Z a__VALUES a_OUT a_INP a_TAKE_COMPLETE a_OUT_text a_INP_text a_TAKE_COMPLETE_text a_OUT_text_value a_INP_text_value a_TAKE_COMPLETE_text_value k__VALUES k_OUT_text_value k_INP_text_value k_TAKE_COMPLETE_text_value cs0) (Xo : Exa Z h0 o "java/lang/String") (Vo : Fld Z h0 o "java/lang/String" "value" "[B" (.ref t1)) (Co : Fld Z h0 o "java/lang/String" "coder" "B" (.int 0)) (Ao : Arv Z h0 t1 kb .byte 3 [(.int (105 : Int32)), (.int (110 : Int32)), (.int (112 : Int32))] (.int 0)) (Ab : Arv Z h0 b kv .byte 16 [(.int (111 : Int32)), (.int (117 : Int32)), (.int (116 : Int32)), (.int (44 : Int32)), (.int (32 : Int32))] (.int 0)) (gb : Z.heap.size ≤ b) :
    MetFree l (⟨"java/lang/String", "getBytes", "([BIB)V"⟩ : MethodName) (head1 (Jvm.Cond.code (⟨"java/lang/String", "getBytes", "([BIB)V"⟩ : MethodName) jdk_42_method_147_code 4 none :: ws) ({ frames := 1, cells := 0, slots := 0, locals := 40 } : Room)) (fun a_ U_ => a_ = #[(.ref o), (.ref b), (.int (5 : Int32)), (.int (0 : Int32))] ∧ Z.Warmed39 U_.vm ∧ U_.heap = h0) (fun _ _ _ _ _ => True) (fun _ U_ o_ U2_ => ∃ v_ L_, o_ = .returned v_ ∧ Q_gb2 Z o t1 kb b kv a__VALUES a_OUT a_INP a_TAKE_COMPLETE a_OUT_text a_INP_text a_TAKE_COMPLETE_text a_OUT_text_value a_INP_text_value a_TAKE_COMPLETE_text_value k__VALUES k_OUT_text_value k_INP_text_value k_TAKE_COMPLETE_text_value cs0 h0 v_ U2_.heap L_ ∧ FrameEnd U_ o_ U2_ L_ ({ frames := 1, cells := 0, slots := 0, locals := 40 } : Room).cells ({ frames := 1, cells := 0, slots := 0, locals := 40 } : Room).slots) := by
  refine MetFree.of_bodySF (plainFor_of_name own_pn0) hisR ?_
  intro p e s m args below meth c s₁ Bd hml0 hP hK
  obtain ⟨rfl, hZ, hh⟩ := hP
  have hx := Bd.exec
  have hby := Bd.bytes
  have hml : c.maxLocals = 4 := hml0
  have hown : s.vm.findClass "java/lang/String" = some m.cls := findClass_of_methodNamed Bd.named
  have hnm := (name_of_methodNamed Bd.named Bd.method).1
  have X0 : Stand p l e ({ frames := 1, cells := 0, slots := 0, locals := 40 } : Room) s m #[(.ref o), (.ref b), (.int (5 : Int32)), (.int (0 : Int32))] below meth c s₁ [] 0 0 := Stand.of_body Bd
  have e0 : s₁.heap = h0 := by rw [← hh, Bd.state]; rfl
  have N0 := Fr.nil Z.heap.size
  show own_G p e below (fun o_ s₂ => ∃ v_ L_, o_ = .returned v_ ∧ Q_gb2 Z o t1 kb b kv a__VALUES a_OUT a_INP a_TAKE_COMPLETE a_OUT_text a_INP_text a_TAKE_COMPLETE_text a_OUT_text_value a_INP_text_value a_TAKE_COMPLETE_text_value k__VALUES k_OUT_text_value k_INP_text_value k_TAKE_COMPLETE_text_value cs0 h0 v_ s₂.heap L_ ∧ FrameEnd s o_ s₂ L_ ({ frames := 1, cells := 0, slots := 0, locals := 40 } : Room).cells ({ frames := 1, cells := 0, slots := 0, locals := 40 } : Room).slots) (s₁.setTop (entryFrame m #[(.ref o), (.ref b), (.int (5 : Int32)), (.int (0 : Int32))] 4))
  refine own_go (s₁.setTop (mkF m 0 #[.val (.ref o), .val (.ref b), .val (.int (5 : Int32)), .val (.int (0 : Int32))] [])) (fun t_ k_ => castTop (own_ef_gb2 m o b) k_) ?_
  have w' := w
  obtain ⟨S__VALUES, X__VALUES, S_OUT, X_OUT, S_INP, X_INP, S_TAKE_COMPLETE, X_TAKE_COMPLETE, F_OUT_text, X_OUT_text, F_INP_text, X_INP_text, F_TAKE_COMPLETE_text, X_TAKE_COMPLETE_text, F_OUT_text_value, X_OUT_text_value, F_INP_text_value, X_INP_text_value, F_TAKE_COMPLETE_text_value, X_TAKE_COMPLETE_text_value, F_OUT_text_coder, F_INP_text_coder, F_TAKE_COMPLETE_text_coder, V__VALUES, V_OUT_text_value, V_INP_text_value, V_TAKE_COMPLETE_text_value, S_CS, n_CS⟩ := w'
  refine own_go (s₁.setTop (mkF m 1 #[.val (.ref o), .val (.ref b), .val (.int (5 : Int32)), .val (.int (0 : Int32))] [(.ref o)])) (fun t_ k_ => XS.aloadN X0.here hx rfl (hb hby own_d_jdk_42_method_147_0) rfl rfl k_) ?_
  obtain ⟨cq1, kq1, q1a, q1b, q1c⟩ := isOf hZ e0 Xo
  obtain ⟨_, _, ⟨T1, Lu1, ku1, nu1⟩, -, X1, ⟨Lc1, hQ1, lu1, yu1, zu1⟩, st1⟩ := X0.virtualBack hx (y := (⟨"java/lang/String", "coder", "()B"⟩ : MethodName)) (z := (⟨"java/lang/String", "coder", "()B"⟩ : MethodName)) hown (mvT hZ (hw _ (List.mem_of_getElem? (i := 63) rfl))) (mvT hZ (hw _ (List.mem_of_getElem? (i := 64) rfl))) (notFace_of_selects (args := #[]) (mvT hZ (hw _ (List.mem_of_getElem? (i := 66) rfl)))) (mvT hZ (hw _ (List.mem_of_getElem? (i := 66) rfl))) (mvT hZ (hw _ (List.mem_of_getElem? (i := 65) rfl))) (by decide) (backOf (W := 0) (rm_cdr l Z a0 hw [] (o) (a__VALUES) (a_OUT) (a_INP) (a_TAKE_COMPLETE) (a_OUT_text) (a_INP_text) (a_TAKE_COMPLETE_text) (a_OUT_text_value) (a_INP_text_value) (a_TAKE_COMPLETE_text_value) (k__VALUES) (k_OUT_text_value) (k_INP_text_value) (k_TAKE_COMPLETE_text_value) (cs0) h0 O w Co) hZ (hw _ (List.mem_of_getElem? (i := 67) rfl)) (hw _ (List.mem_of_getElem? (i := 20) rfl)) (by decide) (by decide)) q1a q1c (g := (mkF m 1 #[.val (.ref o), .val (.ref b), .val (.int (5 : Int32)), .val (.int (0 : Int32))] [(.ref o)])) rfl (by rw [hml]; rfl) (Steps.refl _) (argsL := []) (rest := []) (lenOf own_pd3 rfl) rfl (by show 2 * 0 + _ ≤ _; exact Nat.le_of_eq rfl) (hb hby own_d_jdk_42_method_147_1) (fun _ _ => ⟨rfl, e0, (by decide : 0 + 0 ≤ _), (by decide : 0 + 0 ≤ _)⟩)
  dsimp only [Pt.U, Pt.locs, Pt.cells, Pt.slots] at X1 lu1 yu1 zu1 st1 hQ1
  subst lu1 yu1 zu1
  obtain ⟨rfl, N1q, e1⟩ := hQ1
  have N1 := Fr.app N0 N1q
  refine own_go (T1.setTop (mkF m 4 #[.val (.ref o), .val (.ref b), .val (.int (5 : Int32)), .val (.int (0 : Int32))] [(.int (0 : Int32))])) (fun t_ k_ => st1.trans k_) ?_
  refine own_go (T1.setTop (mkF m 5 #[.val (.ref o), .val (.ref b), .val (.int (5 : Int32)), .val (.int (0 : Int32))] [(.int (0 : Int32)), (.int (0 : Int32))])) (fun t_ k_ => XS.iloadN X1.here hx rfl (hb hby own_d_jdk_42_method_147_4) rfl k_) ?_
  refine own_go (T1.setTop (mkF m 8 #[.val (.ref o), .val (.ref b), .val (.int (5 : Int32)), .val (.int (0 : Int32))] [])) (fun t_ k_ => XS.icmpNo X1.here hx rfl (hb hby own_d_jdk_42_method_147_5) rfl (teq (by decide : (0 : Int32) = (0 : Int32))).2 k_) ?_
  refine own_go (T1.setTop (mkF m 9 #[.val (.ref o), .val (.ref b), .val (.int (5 : Int32)), .val (.int (0 : Int32))] [(.ref o)])) (fun t_ k_ => XS.aloadN X1.here hx rfl (hb hby own_d_jdk_42_method_147_8) rfl rfl k_) ?_
  obtain ⟨T2, X2, e2, st2⟩ := getF X1 hx hZ hown (host := "") (Or.inl (hw _ (List.mem_of_getElem? (i := 61) rfl))) Via.refl e1 Vo (g := (mkF m 9 #[.val (.ref o), .val (.ref b), .val (.int (5 : Int32)), .val (.int (0 : Int32))] [(.ref o)])) rfl rfl (hb hby own_d_jdk_42_method_147_9)
  refine own_go (T2.setTop (mkF m 12 #[.val (.ref o), .val (.ref b), .val (.int (5 : Int32)), .val (.int (0 : Int32))] [(.ref t1)])) (fun t_ k_ => st2 _ k_) ?_
  refine own_go (T2.setTop (mkF m 13 #[.val (.ref o), .val (.ref b), .val (.int (5 : Int32)), .val (.int (0 : Int32))] [(.int (0 : Int32)), (.ref t1)])) (fun t_ k_ => XS.iconst X2.here hx rfl (hb hby own_d_jdk_42_method_147_12) k_) ?_
  refine own_go (T2.setTop (mkF m 14 #[.val (.ref o), .val (.ref b), .val (.int (5 : Int32)), .val (.int (0 : Int32))] [(.ref b), (.int (0 : Int32)), (.ref t1)])) (fun t_ k_ => XS.aloadN X2.here hx rfl (hb hby own_d_jdk_42_method_147_13) rfl rfl k_) ?_
  refine own_go (T2.setTop (mkF m 15 #[.val (.ref o), .val (.ref b), .val (.int (5 : Int32)), .val (.int (0 : Int32))] [(.int (5 : Int32)), (.ref b), (.int (0 : Int32)), (.ref t1)])) (fun t_ k_ => XS.iloadN X2.here hx rfl (hb hby own_d_jdk_42_method_147_14) rfl k_) ?_
  refine own_go (T2.setTop (mkF m 16 #[.val (.ref o), .val (.ref b), .val (.int (5 : Int32)), .val (.int (0 : Int32))] [(.int (0 : Int32)), (.int (5 : Int32)), (.ref b), (.int (0 : Int32)), (.ref t1)])) (fun t_ k_ => XS.iloadN X2.here hx rfl (hb hby own_d_jdk_42_method_147_15) rfl k_) ?_
  refine own_go (T2.setTop (mkF m 17 #[.val (.ref o), .val (.ref b), .val (.int (5 : Int32)), .val (.int (0 : Int32))] [(.int ((5 : Int32) <<< ((0 : Int32) &&& 31))), (.ref b), (.int (0 : Int32)), (.ref t1)])) (fun t_ k_ => XS.ishl X2.here hx rfl (hb hby own_d_jdk_42_method_147_16) rfl k_) ?_
  rw [show ((5 : Int32) <<< ((0 : Int32) &&& 31)) = (5 : Int32) from by decide]
  refine own_go (T2.setTop (mkF m 18 #[.val (.ref o), .val (.ref b), .val (.int (5 : Int32)), .val (.int (0 : Int32))] [(.ref o), (.int (5 : Int32)), (.ref b), (.int (0 : Int32)), (.ref t1)])) (fun t_ k_ => XS.aloadN X2.here hx rfl (hb hby own_d_jdk_42_method_147_17) rfl rfl k_) ?_
  obtain ⟨T3, X3, e3, st3⟩ := getF X2 hx hZ hown (host := "") (Or.inl (hw _ (List.mem_of_getElem? (i := 61) rfl))) Via.refl e2 Vo (g := (mkF m 18 #[.val (.ref o), .val (.ref b), .val (.int (5 : Int32)), .val (.int (0 : Int32))] [(.ref o), (.int (5 : Int32)), (.ref b), (.int (0 : Int32)), (.ref t1)])) rfl rfl (hb hby own_d_jdk_42_method_147_18)
  refine own_go (T3.setTop (mkF m 21 #[.val (.ref o), .val (.ref b), .val (.int (5 : Int32)), .val (.int (0 : Int32))] [(.ref t1), (.int (5 : Int32)), (.ref b), (.int (0 : Int32)), (.ref t1)])) (fun t_ k_ => st3 _ k_) ?_
  obtain ⟨cl4, Ar4, q4, Sz4, Nz4, Hz4, Gz4⟩ := id (Ao)
  refine own_go (T3.setTop (mkF m 22 #[.val (.ref o), .val (.ref b), .val (.int (5 : Int32)), .val (.int (0 : Int32))] [(.int (3 : Int32)), (.int (5 : Int32)), (.ref b), (.int (0 : Int32)), (.ref t1)])) (fun t_ k_ => X3.arraylength hx (by rw [e3]; exact Ar4.1) (State.isArrayOf_alike hZ.alike Ar4.2.1) (g := (mkF m 21 #[.val (.ref o), .val (.ref b), .val (.int (5 : Int32)), .val (.int (0 : Int32))] [(.ref t1), (.int (5 : Int32)), (.ref b), (.int (0 : Int32)), (.ref t1)])) rfl rfl (hb hby own_d_jdk_42_method_147_21) _ (by rw [len_of Sz4 Nz4]; exact k_)) ?_
  have Vp5 : Arv Z h0 b kv .byte (16 : Int32) [(.int (111 : Int32)), (.int (117 : Int32)), (.int (116 : Int32)), (.int (44 : Int32)), (.int (32 : Int32)), (.int (0 : Int32)), (.int (0 : Int32)), (.int (0 : Int32))] (.int (0 : Int32)) := (Ab).pad (pad_rep [(.int (111 : Int32)), (.int (117 : Int32)), (.int (116 : Int32)), (.int (44 : Int32)), (.int (32 : Int32))] (.int (0 : Int32)) 3)
  obtain ⟨T5, h5, L5, X5, e5, N5, Kc5, A5, st5⟩ := cpA X3 hx hZ hown (hw _ (List.mem_of_getElem? (i := 94) rfl)) (hw _ (List.mem_of_getElem? (i := 97) rfl)) (hw _ (List.mem_of_getElem? (i := 95) rfl)) (hw _ (List.mem_of_getElem? (i := 96) rfl)) e3 (us := [(.int (105 : Int32)), (.int (110 : Int32)), (.int (112 : Int32))]) Ao Vp5 (Or.inl ⟨rfl, rfl⟩) (by decide) (by decide) (by decide) (by decide) (by decide) rfl (Nat.le_of_ble_eq_true rfl) N1 gb (g := (mkF m 22 #[.val (.ref o), .val (.ref b), .val (.int (5 : Int32)), .val (.int (0 : Int32))] [(.int (3 : Int32)), (.int (5 : Int32)), (.ref b), (.int (0 : Int32)), (.ref t1)])) rfl (by rw [hml]; rfl) rfl (hb hby own_d_jdk_42_method_147_22) (by decide) (W := 0) (by show 2 * 0 + _ ≤ _; exact Nat.le_of_eq rfl) (by decide)
  have V5 : Arv Z h5 b kv .byte (16 : Int32) [(.int (111 : Int32)), (.int (117 : Int32)), (.int (116 : Int32)), (.int (44 : Int32)), (.int (32 : Int32)), (.int (105 : Int32)), (.int (110 : Int32)), (.int (112 : Int32))] (.int (0 : Int32)) := A5
  have O5 := own_extK O Kc5 (allS gb all0)
  have KK5 : Keep h0 h5 [b] := (Keep.refl h0 [b]).trans Kc5 (allS (Or.inl (List.mem_of_getElem? (i := 0) rfl)) all0)
  refine own_go (T5.setTop (mkF m 25 #[.val (.ref o), .val (.ref b), .val (.int (5 : Int32)), .val (.int (0 : Int32))] [])) (fun t_ k_ => st5 _ k_) ?_
  refine own_go (T5.setTop (mkF m 43 #[.val (.ref o), .val (.ref b), .val (.int (5 : Int32)), .val (.int (0 : Int32))] [])) (fun t_ k_ => XS.goto X5.here hx rfl (pc0 := 25) (pc' := 43) rfl (hb hby own_d_jdk_42_method_147_25) (by decide) (by decide) k_) ?_
  obtain ⟨fs, hr, hrun, hended, hW, hsame⟩ := X5.leave (v := none) (fun _ => rfl)
  refine ⟨_, _, X5.returnOut hx Bd.returns (hb hby own_d_jdk_42_method_147_43) hr, hrun, hended, _, _, rfl, ?_, ⟨_, rfl⟩, hW, hsame.mono (by decide) (by decide)⟩
  show Q_gb2 Z o t1 kb b kv a__VALUES a_OUT a_INP a_TAKE_COMPLETE a_OUT_text a_INP_text a_TAKE_COMPLETE_text a_OUT_text_value a_INP_text_value a_TAKE_COMPLETE_text_value k__VALUES k_OUT_text_value k_INP_text_value k_TAKE_COMPLETE_text_value cs0 h0 _ T5.heap _
  show Q_gb2 Z o t1 kb b kv a__VALUES a_OUT a_INP a_TAKE_COMPLETE a_OUT_text a_INP_text a_TAKE_COMPLETE_text a_OUT_text_value a_INP_text_value a_TAKE_COMPLETE_text_value k__VALUES k_OUT_text_value k_INP_text_value k_TAKE_COMPLETE_text_value cs0 h0 _ T5.heap _
  rw [show T5.heap = h5 from e5]
  exact ⟨rfl, N5, KK5, V5⟩
theorem own_ef_inf2 (m : MethodId) (a : Addr) (o : Addr) : entryFrame m #[(.ref a), (.ref o)] 2 = mkF m 0 #[.val (.ref a), .val (.ref o)] [] := by first | (simp [entryFrame, mkF, argsToLocals, Value.category]; done) | rfl
def Q_inf2 (Z : State) (a : Addr) (o : Addr) (a__VALUES : Addr) (a_OUT : Addr) (a_INP : Addr) (a_TAKE_COMPLETE : Addr) (a_OUT_text : Addr) (a_INP_text : Addr) (a_TAKE_COMPLETE_text : Addr) (a_OUT_text_value : Addr) (a_INP_text_value : Addr) (a_TAKE_COMPLETE_text_value : Addr) (k__VALUES : ClassId) (k_OUT_text_value : ClassId) (k_INP_text_value : ClassId) (k_TAKE_COMPLETE_text_value : ClassId) (cs0 : Int32) (h0 : Heap) (v_ : Option Value) (h : Heap) (L_ : List Loc) : Prop := v_ = none ∧ Fr Z.heap.size L_ ∧ (h = h0)
set_option maxRecDepth 65536 in
set_option maxHeartbeats 40000000 in
theorem rm_inf2 (l : Launch) (Z : State) (a0 : Array Value) (hw : ∀ d ∈ tables_1, d.before a0 Z = true) (ws : List Jvm.Cond) (a : Addr) (o : Addr) (a__VALUES : Addr) (a_OUT : Addr) (a_INP : Addr) (a_TAKE_COMPLETE : Addr) (a_OUT_text : Addr) (a_INP_text : Addr) (a_TAKE_COMPLETE_text : Addr) (a_OUT_text_value : Addr) (a_INP_text_value : Addr) (a_TAKE_COMPLETE_text_value : Addr) (k__VALUES : ClassId) (k_OUT_text_value : ClassId) (k_INP_text_value : ClassId) (k_TAKE_COMPLETE_text_value : ClassId) (cs0 : Int32) (h0 : Heap) (O : Ext Z.heap h0) (w : own_W Z a__VALUES a_OUT a_INP a_TAKE_COMPLETE a_OUT_text a_INP_text a_TAKE_COMPLETE_text a_OUT_text_value a_INP_text_value a_TAKE_COMPLETE_text_value k__VALUES k_OUT_text_value k_INP_text_value k_TAKE_COMPLETE_text_value cs0) (Ca : Fld Z h0 a "java/lang/AbstractStringBuilder" "coder" "B" (.int 0)) (Xo : Exa Z h0 o "java/lang/String") (Co : Fld Z h0 o "java/lang/String" "coder" "B" (.int 0)) :
    MetFree l (⟨"java/lang/AbstractStringBuilder", "inflateIfNeededFor", "(Ljava/lang/String;)V"⟩ : MethodName) (head1 (Jvm.Cond.code (⟨"java/lang/AbstractStringBuilder", "inflateIfNeededFor", "(Ljava/lang/String;)V"⟩ : MethodName) jdk_68_method_71_code 2 none :: ws) ({ frames := 1, cells := 0, slots := 0, locals := 13 } : Room)) (fun a_ U_ => a_ = #[(.ref a), (.ref o)] ∧ Z.Warmed39 U_.vm ∧ U_.heap = h0) (fun _ _ _ _ _ => True) (fun _ U_ o_ U2_ => ∃ v_ L_, o_ = .returned v_ ∧ Q_inf2 Z a o a__VALUES a_OUT a_INP a_TAKE_COMPLETE a_OUT_text a_INP_text a_TAKE_COMPLETE_text a_OUT_text_value a_INP_text_value a_TAKE_COMPLETE_text_value k__VALUES k_OUT_text_value k_INP_text_value k_TAKE_COMPLETE_text_value cs0 h0 v_ U2_.heap L_ ∧ FrameEnd U_ o_ U2_ L_ ({ frames := 1, cells := 0, slots := 0, locals := 13 } : Room).cells ({ frames := 1, cells := 0, slots := 0, locals := 13 } : Room).slots) := by
  refine MetFree.of_bodySF (plainFor_of_name own_pn1) hisR ?_
  intro p e s m args below meth c s₁ Bd hml0 hP hK
  obtain ⟨rfl, hZ, hh⟩ := hP
  have hx := Bd.exec
  have hby := Bd.bytes
  have hml : c.maxLocals = 2 := hml0
  have hown : s.vm.findClass "java/lang/AbstractStringBuilder" = some m.cls := findClass_of_methodNamed Bd.named
  have hnm := (name_of_methodNamed Bd.named Bd.method).1
  have X0 : Stand p l e ({ frames := 1, cells := 0, slots := 0, locals := 13 } : Room) s m #[(.ref a), (.ref o)] below meth c s₁ [] 0 0 := Stand.of_body Bd
  have e0 : s₁.heap = h0 := by rw [← hh, Bd.state]; rfl
  have N0 := Fr.nil Z.heap.size
  show own_G p e below (fun o_ s₂ => ∃ v_ L_, o_ = .returned v_ ∧ Q_inf2 Z a o a__VALUES a_OUT a_INP a_TAKE_COMPLETE a_OUT_text a_INP_text a_TAKE_COMPLETE_text a_OUT_text_value a_INP_text_value a_TAKE_COMPLETE_text_value k__VALUES k_OUT_text_value k_INP_text_value k_TAKE_COMPLETE_text_value cs0 h0 v_ s₂.heap L_ ∧ FrameEnd s o_ s₂ L_ ({ frames := 1, cells := 0, slots := 0, locals := 13 } : Room).cells ({ frames := 1, cells := 0, slots := 0, locals := 13 } : Room).slots) (s₁.setTop (entryFrame m #[(.ref a), (.ref o)] 2))
  refine own_go (s₁.setTop (mkF m 0 #[.val (.ref a), .val (.ref o)] [])) (fun t_ k_ => castTop (own_ef_inf2 m a o) k_) ?_
  have w' := w
  obtain ⟨S__VALUES, X__VALUES, S_OUT, X_OUT, S_INP, X_INP, S_TAKE_COMPLETE, X_TAKE_COMPLETE, F_OUT_text, X_OUT_text, F_INP_text, X_INP_text, F_TAKE_COMPLETE_text, X_TAKE_COMPLETE_text, F_OUT_text_value, X_OUT_text_value, F_INP_text_value, X_INP_text_value, F_TAKE_COMPLETE_text_value, X_TAKE_COMPLETE_text_value, F_OUT_text_coder, F_INP_text_coder, F_TAKE_COMPLETE_text_coder, V__VALUES, V_OUT_text_value, V_INP_text_value, V_TAKE_COMPLETE_text_value, S_CS, n_CS⟩ := w'
  obtain ⟨T1, X1, e1, st1⟩ := getS2 X0 hx hZ hown (host := "") (Or.inl (hw _ (List.mem_of_getElem? (i := 19) rfl))) Via.refl e0 (S_CS.ext O) (g := (mkF m 0 #[.val (.ref a), .val (.ref o)] [])) rfl (hb hby own_d_jdk_68_method_71_0)
  refine own_go (T1.setTop (mkF m 3 #[.val (.ref a), .val (.ref o)] [(.int cs0)])) (fun t_ k_ => st1 _ k_) ?_
  refine own_go (T1.setTop (mkF m 6 #[.val (.ref a), .val (.ref o)] [])) (fun t_ k_ => XS.ifNo X1.here hx rfl (hb hby own_d_jdk_68_method_71_3) rfl ((if0 _ _).trans (feq n_CS).1) k_) ?_
  refine own_go (T1.setTop (mkF m 7 #[.val (.ref a), .val (.ref o)] [(.ref a)])) (fun t_ k_ => XS.aloadN X1.here hx rfl (hb hby own_d_jdk_68_method_71_6) rfl rfl k_) ?_
  obtain ⟨T2, X2, e2, st2⟩ := getF X1 hx hZ hown (host := "") (Or.inl (hw _ (List.mem_of_getElem? (i := 24) rfl))) Via.refl e1 Ca (g := (mkF m 7 #[.val (.ref a), .val (.ref o)] [(.ref a)])) rfl rfl (hb hby own_d_jdk_68_method_71_7)
  refine own_go (T2.setTop (mkF m 10 #[.val (.ref a), .val (.ref o)] [(.int (0 : Int32))])) (fun t_ k_ => st2 _ k_) ?_
  refine own_go (T2.setTop (mkF m 11 #[.val (.ref a), .val (.ref o)] [(.ref o), (.int (0 : Int32))])) (fun t_ k_ => XS.aloadN X2.here hx rfl (hb hby own_d_jdk_68_method_71_10) rfl rfl k_) ?_
  obtain ⟨cq3, kq3, q3a, q3b, q3c⟩ := isOf hZ e2 Xo
  obtain ⟨_, _, ⟨T3, Lu3, ku3, nu3⟩, -, X3, ⟨Lc3, hQ3, lu3, yu3, zu3⟩, st3⟩ := X2.virtualBack hx (y := (⟨"java/lang/String", "coder", "()B"⟩ : MethodName)) (z := (⟨"java/lang/String", "coder", "()B"⟩ : MethodName)) hown (mvT hZ (hw _ (List.mem_of_getElem? (i := 88) rfl))) (mvT hZ (hw _ (List.mem_of_getElem? (i := 64) rfl))) (notFace_of_selects (args := #[]) (mvT hZ (hw _ (List.mem_of_getElem? (i := 66) rfl)))) (mvT hZ (hw _ (List.mem_of_getElem? (i := 66) rfl))) (mvT hZ (hw _ (List.mem_of_getElem? (i := 65) rfl))) (by decide) (backOf (W := 1) (rm_cdr l Z a0 hw [] (o) (a__VALUES) (a_OUT) (a_INP) (a_TAKE_COMPLETE) (a_OUT_text) (a_INP_text) (a_TAKE_COMPLETE_text) (a_OUT_text_value) (a_INP_text_value) (a_TAKE_COMPLETE_text_value) (k__VALUES) (k_OUT_text_value) (k_INP_text_value) (k_TAKE_COMPLETE_text_value) (cs0) h0 O w Co) hZ (hw _ (List.mem_of_getElem? (i := 67) rfl)) (hw _ (List.mem_of_getElem? (i := 20) rfl)) (by decide) (by decide)) q3a q3c (g := (mkF m 11 #[.val (.ref a), .val (.ref o)] [(.ref o), (.int (0 : Int32))])) rfl (by rw [hml]; rfl) (Steps.refl _) (argsL := []) (rest := [(.int (0 : Int32))]) (lenOf own_pd3 rfl) rfl (by show 2 * 0 + _ ≤ _; exact Nat.le_of_eq rfl) (hb hby own_d_jdk_68_method_71_11) (fun _ _ => ⟨rfl, e2, (by decide : 0 + 0 ≤ _), (by decide : 0 + 0 ≤ _)⟩)
  dsimp only [Pt.U, Pt.locs, Pt.cells, Pt.slots] at X3 lu3 yu3 zu3 st3 hQ3
  subst lu3 yu3 zu3
  obtain ⟨rfl, N3q, e3⟩ := hQ3
  have N3 := Fr.app N0 N3q
  refine own_go (T3.setTop (mkF m 14 #[.val (.ref a), .val (.ref o)] [(.int (0 : Int32)), (.int (0 : Int32))])) (fun t_ k_ => st3.trans k_) ?_
  refine own_go (T3.setTop (mkF m 21 #[.val (.ref a), .val (.ref o)] [])) (fun t_ k_ => XS.icmpYes X3.here hx rfl (pc0 := 14) (pc' := 21) rfl (hb hby own_d_jdk_68_method_71_14) rfl (teq (by decide : (0 : Int32) = (0 : Int32))).1 (by decide) (by decide) k_) ?_
  obtain ⟨fs, hr, hrun, hended, hW, hsame⟩ := X3.leave (v := none) (fun _ => rfl)
  refine ⟨_, _, X3.returnOut hx Bd.returns (hb hby own_d_jdk_68_method_71_21) hr, hrun, hended, _, _, rfl, ?_, ⟨_, rfl⟩, hW, hsame.mono (by decide) (by decide)⟩
  show Q_inf2 Z a o a__VALUES a_OUT a_INP a_TAKE_COMPLETE a_OUT_text a_INP_text a_TAKE_COMPLETE_text a_OUT_text_value a_INP_text_value a_TAKE_COMPLETE_text_value k__VALUES k_OUT_text_value k_INP_text_value k_TAKE_COMPLETE_text_value cs0 h0 _ T3.heap _
  exact ⟨rfl, N3, e3⟩
theorem own_ef_ps2 (m : MethodId) (a : Addr) (o : Addr) : entryFrame m #[(.ref a), (.int (5 : Int32)), (.ref o)] 3 = mkF m 0 #[.val (.ref a), .val (.int (5 : Int32)), .val (.ref o)] [] := by first | (simp [entryFrame, mkF, argsToLocals, Value.category]; done) | rfl
def Q_ps2 (Z : State) (a : Addr) (b : Addr) (kv : ClassId) (o : Addr) (t1 : Addr) (kb : ClassId) (a__VALUES : Addr) (a_OUT : Addr) (a_INP : Addr) (a_TAKE_COMPLETE : Addr) (a_OUT_text : Addr) (a_INP_text : Addr) (a_TAKE_COMPLETE_text : Addr) (a_OUT_text_value : Addr) (a_INP_text_value : Addr) (a_TAKE_COMPLETE_text_value : Addr) (k__VALUES : ClassId) (k_OUT_text_value : ClassId) (k_INP_text_value : ClassId) (k_TAKE_COMPLETE_text_value : ClassId) (cs0 : Int32) (h0 : Heap) (v_ : Option Value) (h : Heap) (L_ : List Loc) : Prop := v_ = none ∧ Fr Z.heap.size L_ ∧ (Keep h0 h [b] ∧ Arv Z h b kv .byte 16 [(.int (111 : Int32)), (.int (117 : Int32)), (.int (116 : Int32)), (.int (44 : Int32)), (.int (32 : Int32)), (.int (105 : Int32)), (.int (110 : Int32)), (.int (112 : Int32))] (.int 0))
set_option maxRecDepth 65536 in
set_option maxHeartbeats 40000000 in
theorem rm_ps2 (l : Launch) (Z : State) (a0 : Array Value) (hw : ∀ d ∈ tables_1, d.before a0 Z = true) (ws : List Jvm.Cond) (a : Addr) (b : Addr) (kv : ClassId) (o : Addr) (t1 : Addr) (kb : ClassId) (a__VALUES : Addr) (a_OUT : Addr) (a_INP : Addr) (a_TAKE_COMPLETE : Addr) (a_OUT_text : Addr) (a_INP_text : Addr) (a_TAKE_COMPLETE_text : Addr) (a_OUT_text_value : Addr) (a_INP_text_value : Addr) (a_TAKE_COMPLETE_text_value : Addr) (k__VALUES : ClassId) (k_OUT_text_value : ClassId) (k_INP_text_value : ClassId) (k_TAKE_COMPLETE_text_value : ClassId) (cs0 : Int32) (h0 : Heap) (O : Ext Z.heap h0) (w : own_W Z a__VALUES a_OUT a_INP a_TAKE_COMPLETE a_OUT_text a_INP_text a_TAKE_COMPLETE_text a_OUT_text_value a_INP_text_value a_TAKE_COMPLETE_text_value k__VALUES k_OUT_text_value k_INP_text_value k_TAKE_COMPLETE_text_value cs0) (Xa : Exa Z h0 a "java/lang/StringBuilder") (Va : Fld Z h0 a "java/lang/AbstractStringBuilder" "value" "[B" (.ref b)) (Ca : Fld Z h0 a "java/lang/AbstractStringBuilder" "coder" "B" (.int 0)) (Ab : Arv Z h0 b kv .byte 16 [(.int (111 : Int32)), (.int (117 : Int32)), (.int (116 : Int32)), (.int (44 : Int32)), (.int (32 : Int32))] (.int 0)) (gb : Z.heap.size ≤ b) (Xo : Exa Z h0 o "java/lang/String") (Vo : Fld Z h0 o "java/lang/String" "value" "[B" (.ref t1)) (Co : Fld Z h0 o "java/lang/String" "coder" "B" (.int 0)) (Ao : Arv Z h0 t1 kb .byte 3 [(.int (105 : Int32)), (.int (110 : Int32)), (.int (112 : Int32))] (.int 0)) :
    MetFree l (⟨"java/lang/AbstractStringBuilder", "putStringAt", "(ILjava/lang/String;)V"⟩ : MethodName) (head1 (Jvm.Cond.code (⟨"java/lang/AbstractStringBuilder", "putStringAt", "(ILjava/lang/String;)V"⟩ : MethodName) jdk_68_method_73_code 3 none :: ws) ({ frames := 2, cells := 0, slots := 0, locals := 55 } : Room)) (fun a_ U_ => a_ = #[(.ref a), (.int (5 : Int32)), (.ref o)] ∧ Z.Warmed39 U_.vm ∧ U_.heap = h0) (fun _ _ _ _ _ => True) (fun _ U_ o_ U2_ => ∃ v_ L_, o_ = .returned v_ ∧ Q_ps2 Z a b kv o t1 kb a__VALUES a_OUT a_INP a_TAKE_COMPLETE a_OUT_text a_INP_text a_TAKE_COMPLETE_text a_OUT_text_value a_INP_text_value a_TAKE_COMPLETE_text_value k__VALUES k_OUT_text_value k_INP_text_value k_TAKE_COMPLETE_text_value cs0 h0 v_ U2_.heap L_ ∧ FrameEnd U_ o_ U2_ L_ ({ frames := 2, cells := 0, slots := 0, locals := 55 } : Room).cells ({ frames := 2, cells := 0, slots := 0, locals := 55 } : Room).slots) := by
  refine MetFree.of_bodySF (plainFor_of_name own_pn1) hisR ?_
  intro p e s m args below meth c s₁ Bd hml0 hP hK
  obtain ⟨rfl, hZ, hh⟩ := hP
  have hx := Bd.exec
  have hby := Bd.bytes
  have hml : c.maxLocals = 3 := hml0
  have hown : s.vm.findClass "java/lang/AbstractStringBuilder" = some m.cls := findClass_of_methodNamed Bd.named
  have hnm := (name_of_methodNamed Bd.named Bd.method).1
  have X0 : Stand p l e ({ frames := 2, cells := 0, slots := 0, locals := 55 } : Room) s m #[(.ref a), (.int (5 : Int32)), (.ref o)] below meth c s₁ [] 0 0 := Stand.of_body Bd
  have e0 : s₁.heap = h0 := by rw [← hh, Bd.state]; rfl
  have N0 := Fr.nil Z.heap.size
  show own_G p e below (fun o_ s₂ => ∃ v_ L_, o_ = .returned v_ ∧ Q_ps2 Z a b kv o t1 kb a__VALUES a_OUT a_INP a_TAKE_COMPLETE a_OUT_text a_INP_text a_TAKE_COMPLETE_text a_OUT_text_value a_INP_text_value a_TAKE_COMPLETE_text_value k__VALUES k_OUT_text_value k_INP_text_value k_TAKE_COMPLETE_text_value cs0 h0 v_ s₂.heap L_ ∧ FrameEnd s o_ s₂ L_ ({ frames := 2, cells := 0, slots := 0, locals := 55 } : Room).cells ({ frames := 2, cells := 0, slots := 0, locals := 55 } : Room).slots) (s₁.setTop (entryFrame m #[(.ref a), (.int (5 : Int32)), (.ref o)] 3))
  refine own_go (s₁.setTop (mkF m 0 #[.val (.ref a), .val (.int (5 : Int32)), .val (.ref o)] [])) (fun t_ k_ => castTop (own_ef_ps2 m a o) k_) ?_
  have w' := w
  obtain ⟨S__VALUES, X__VALUES, S_OUT, X_OUT, S_INP, X_INP, S_TAKE_COMPLETE, X_TAKE_COMPLETE, F_OUT_text, X_OUT_text, F_INP_text, X_INP_text, F_TAKE_COMPLETE_text, X_TAKE_COMPLETE_text, F_OUT_text_value, X_OUT_text_value, F_INP_text_value, X_INP_text_value, F_TAKE_COMPLETE_text_value, X_TAKE_COMPLETE_text_value, F_OUT_text_coder, F_INP_text_coder, F_TAKE_COMPLETE_text_coder, V__VALUES, V_OUT_text_value, V_INP_text_value, V_TAKE_COMPLETE_text_value, S_CS, n_CS⟩ := w'
  refine own_go (s₁.setTop (mkF m 1 #[.val (.ref a), .val (.int (5 : Int32)), .val (.ref o)] [(.ref a)])) (fun t_ k_ => XS.aloadN X0.here hx rfl (hb hby own_d_jdk_68_method_73_0) rfl rfl k_) ?_
  refine own_go (s₁.setTop (mkF m 2 #[.val (.ref a), .val (.int (5 : Int32)), .val (.ref o)] [(.ref o), (.ref a)])) (fun t_ k_ => XS.aloadN X0.here hx rfl (hb hby own_d_jdk_68_method_73_1) rfl rfl k_) ?_
  obtain ⟨cq1, q1, q1'⟩ := (Xa).cell
  obtain ⟨_, _, ⟨T1, Lu1, ku1, nu1⟩, -, X1, ⟨Lc1, hQ1, lu1, yu1, zu1⟩, st1⟩ := X0.privateBack hx (y := (⟨"java/lang/AbstractStringBuilder", "inflateIfNeededFor", "(Ljava/lang/String;)V"⟩ : MethodName)) hown (mvT hZ (hw _ (List.mem_of_getElem? (i := 83) rfl))) (mvT hZ (hw _ (List.mem_of_getElem? (i := 84) rfl))) (own_selp (mvT hZ (hw _ (List.mem_of_getElem? (i := 76) rfl))) rfl (Cond.privateMethod_at (mvP hZ (hw _ (List.mem_of_getElem? (i := 85) rfl)) (args := #[]))) (mvT hZ (hw _ (List.mem_of_getElem? (i := 84) rfl))) (by decide)) (Cond.privateMethod_at (mvP hZ (hw _ (List.mem_of_getElem? (i := 85) rfl)) (args := #[]))) (mvT hZ (hw _ (List.mem_of_getElem? (i := 87) rfl))) (by decide) (backOf (W := 0) (rm_inf2 l Z a0 hw [] (a) (o) (a__VALUES) (a_OUT) (a_INP) (a_TAKE_COMPLETE) (a_OUT_text) (a_INP_text) (a_TAKE_COMPLETE_text) (a_OUT_text_value) (a_INP_text_value) (a_TAKE_COMPLETE_text_value) (k__VALUES) (k_OUT_text_value) (k_INP_text_value) (k_TAKE_COMPLETE_text_value) (cs0) h0 O w Ca Xo Co) hZ (hw _ (List.mem_of_getElem? (i := 87) rfl)) (hw _ (List.mem_of_getElem? (i := 14) rfl)) (by decide) (by decide)) (g := (mkF m 2 #[.val (.ref a), .val (.int (5 : Int32)), .val (.ref o)] [(.ref o), (.ref a)])) rfl (by rw [hml]; rfl) (Steps.refl _) (a := a) (by rw [e0]; exact q1) q1' (argsL := [(.ref o)]) (rest := []) (lenOf own_pd4 rfl) rfl (by show 2 * 0 + _ ≤ _; exact Nat.le_of_eq rfl) (hb hby own_d_jdk_68_method_73_2) (fun _ _ => ⟨rfl, e0, (by decide : 0 + 0 ≤ _), (by decide : 0 + 0 ≤ _)⟩)
  dsimp only [Pt.U, Pt.locs, Pt.cells, Pt.slots] at X1 lu1 yu1 zu1 st1 hQ1
  subst lu1 yu1 zu1
  obtain ⟨rfl, N1q, e1⟩ := hQ1
  have N1 := Fr.app N0 N1q
  refine own_go (T1.setTop (mkF m 5 #[.val (.ref a), .val (.int (5 : Int32)), .val (.ref o)] [])) (fun t_ k_ => st1.trans k_) ?_
  refine own_go (T1.setTop (mkF m 6 #[.val (.ref a), .val (.int (5 : Int32)), .val (.ref o)] [(.ref o)])) (fun t_ k_ => XS.aloadN X1.here hx rfl (hb hby own_d_jdk_68_method_73_5) rfl rfl k_) ?_
  refine own_go (T1.setTop (mkF m 7 #[.val (.ref a), .val (.int (5 : Int32)), .val (.ref o)] [(.ref a), (.ref o)])) (fun t_ k_ => XS.aloadN X1.here hx rfl (hb hby own_d_jdk_68_method_73_6) rfl rfl k_) ?_
  obtain ⟨T2, X2, e2, st2⟩ := getF X1 hx hZ hown (host := "") (Or.inl (hw _ (List.mem_of_getElem? (i := 22) rfl))) Via.refl e1 Va (g := (mkF m 7 #[.val (.ref a), .val (.int (5 : Int32)), .val (.ref o)] [(.ref a), (.ref o)])) rfl rfl (hb hby own_d_jdk_68_method_73_7)
  refine own_go (T2.setTop (mkF m 10 #[.val (.ref a), .val (.int (5 : Int32)), .val (.ref o)] [(.ref b), (.ref o)])) (fun t_ k_ => st2 _ k_) ?_
  refine own_go (T2.setTop (mkF m 11 #[.val (.ref a), .val (.int (5 : Int32)), .val (.ref o)] [(.int (5 : Int32)), (.ref b), (.ref o)])) (fun t_ k_ => XS.iloadN X2.here hx rfl (hb hby own_d_jdk_68_method_73_10) rfl k_) ?_
  refine own_go (T2.setTop (mkF m 12 #[.val (.ref a), .val (.int (5 : Int32)), .val (.ref o)] [(.ref a), (.int (5 : Int32)), (.ref b), (.ref o)])) (fun t_ k_ => XS.aloadN X2.here hx rfl (hb hby own_d_jdk_68_method_73_11) rfl rfl k_) ?_
  obtain ⟨T3, X3, e3, st3⟩ := getF X2 hx hZ hown (host := "") (Or.inl (hw _ (List.mem_of_getElem? (i := 24) rfl))) Via.refl e2 Ca (g := (mkF m 12 #[.val (.ref a), .val (.int (5 : Int32)), .val (.ref o)] [(.ref a), (.int (5 : Int32)), (.ref b), (.ref o)])) rfl rfl (hb hby own_d_jdk_68_method_73_12)
  refine own_go (T3.setTop (mkF m 15 #[.val (.ref a), .val (.int (5 : Int32)), .val (.ref o)] [(.int (0 : Int32)), (.int (5 : Int32)), (.ref b), (.ref o)])) (fun t_ k_ => st3 _ k_) ?_
  obtain ⟨cq4, kq4, q4a, q4b, q4c⟩ := isOf hZ e3 Xo
  obtain ⟨_, _, ⟨T4, Lu4, ku4, nu4⟩, -, X4, ⟨Lc4, hQ4, lu4, yu4, zu4⟩, st4⟩ := X3.virtualBack hx (y := (⟨"java/lang/String", "getBytes", "([BIB)V"⟩ : MethodName)) (z := (⟨"java/lang/String", "getBytes", "([BIB)V"⟩ : MethodName)) hown (mvT hZ (hw _ (List.mem_of_getElem? (i := 89) rfl))) (mvT hZ (hw _ (List.mem_of_getElem? (i := 90) rfl))) (notFace_of_selects (args := #[]) (mvT hZ (hw _ (List.mem_of_getElem? (i := 92) rfl)))) (mvT hZ (hw _ (List.mem_of_getElem? (i := 92) rfl))) (mvT hZ (hw _ (List.mem_of_getElem? (i := 91) rfl))) (by decide) (backOf (W := 0) (rm_gb2 l Z a0 hw [] (o) (t1) (kb) (b) (kv) (a__VALUES) (a_OUT) (a_INP) (a_TAKE_COMPLETE) (a_OUT_text) (a_INP_text) (a_TAKE_COMPLETE_text) (a_OUT_text_value) (a_INP_text_value) (a_TAKE_COMPLETE_text_value) (k__VALUES) (k_OUT_text_value) (k_INP_text_value) (k_TAKE_COMPLETE_text_value) (cs0) h0 O w Xo Vo Co Ao Ab gb) hZ (hw _ (List.mem_of_getElem? (i := 93) rfl)) (hw _ (List.mem_of_getElem? (i := 20) rfl)) (by decide) (by decide)) q4a q4c (g := (mkF m 15 #[.val (.ref a), .val (.int (5 : Int32)), .val (.ref o)] [(.int (0 : Int32)), (.int (5 : Int32)), (.ref b), (.ref o)])) rfl (by rw [hml]; rfl) (Steps.refl _) (argsL := [(.ref b), (.int (5 : Int32)), (.int (0 : Int32))]) (rest := []) (lenOf own_pd5 rfl) rfl (by show 2 * 0 + _ ≤ _; exact Nat.le_of_eq rfl) (hb hby own_d_jdk_68_method_73_15) (fun _ _ => ⟨rfl, e3, (by decide : 0 + 0 ≤ _), (by decide : 0 + 0 ≤ _)⟩)
  dsimp only [Pt.U, Pt.locs, Pt.cells, Pt.slots] at X4 lu4 yu4 zu4 st4 hQ4
  subst lu4 yu4 zu4
  obtain ⟨rfl, N4q, K4q, V4q⟩ := hQ4
  have N4 := Fr.app N1 N4q
  have O4 := own_extK O K4q (allS gb all0)
  have KK4 : Keep h0 T4.heap [b] := (Keep.refl h0 [b]).trans K4q (allS (Or.inl (List.mem_of_getElem? (i := 0) rfl)) all0)
  refine own_go (T4.setTop (mkF m 18 #[.val (.ref a), .val (.int (5 : Int32)), .val (.ref o)] [])) (fun t_ k_ => st4.trans k_) ?_
  obtain ⟨fs, hr, hrun, hended, hW, hsame⟩ := X4.leave (v := none) (fun _ => rfl)
  refine ⟨_, _, X4.returnOut hx Bd.returns (hb hby own_d_jdk_68_method_73_18) hr, hrun, hended, _, _, rfl, ?_, ⟨_, rfl⟩, hW, hsame.mono (by decide) (by decide)⟩
  show Q_ps2 Z a b kv o t1 kb a__VALUES a_OUT a_INP a_TAKE_COMPLETE a_OUT_text a_INP_text a_TAKE_COMPLETE_text a_OUT_text_value a_INP_text_value a_TAKE_COMPLETE_text_value k__VALUES k_OUT_text_value k_INP_text_value k_TAKE_COMPLETE_text_value cs0 h0 _ T4.heap _
  exact ⟨rfl, N4, KK4, V4q⟩
theorem own_ef_ln2 (m : MethodId) (o : Addr) : entryFrame m #[(.ref o)] 1 = mkF m 0 #[.val (.ref o)] [] := by first | (simp [entryFrame, mkF, argsToLocals, Value.category]; done) | rfl
def Q_ln2 (Z : State) (o : Addr) (t1 : Addr) (kb : ClassId) (a__VALUES : Addr) (a_OUT : Addr) (a_INP : Addr) (a_TAKE_COMPLETE : Addr) (a_OUT_text : Addr) (a_INP_text : Addr) (a_TAKE_COMPLETE_text : Addr) (a_OUT_text_value : Addr) (a_INP_text_value : Addr) (a_TAKE_COMPLETE_text_value : Addr) (k__VALUES : ClassId) (k_OUT_text_value : ClassId) (k_INP_text_value : ClassId) (k_TAKE_COMPLETE_text_value : ClassId) (cs0 : Int32) (h0 : Heap) (v_ : Option Value) (h : Heap) (L_ : List Loc) : Prop := v_ = some (.int 3) ∧ Fr Z.heap.size L_ ∧ (h = h0)
set_option maxRecDepth 65536 in
set_option maxHeartbeats 40000000 in
theorem rm_ln2 (l : Launch) (Z : State) (a0 : Array Value) (hw : ∀ d ∈ tables_1, d.before a0 Z = true) (ws : List Jvm.Cond) (o : Addr) (t1 : Addr) (kb : ClassId) (a__VALUES : Addr) (a_OUT : Addr) (a_INP : Addr) (a_TAKE_COMPLETE : Addr) (a_OUT_text : Addr) (a_INP_text : Addr) (a_TAKE_COMPLETE_text : Addr) (a_OUT_text_value : Addr) (a_INP_text_value : Addr) (a_TAKE_COMPLETE_text_value : Addr) (k__VALUES : ClassId) (k_OUT_text_value : ClassId) (k_INP_text_value : ClassId) (k_TAKE_COMPLETE_text_value : ClassId) (cs0 : Int32) (h0 : Heap) (O : Ext Z.heap h0) (w : own_W Z a__VALUES a_OUT a_INP a_TAKE_COMPLETE a_OUT_text a_INP_text a_TAKE_COMPLETE_text a_OUT_text_value a_INP_text_value a_TAKE_COMPLETE_text_value k__VALUES k_OUT_text_value k_INP_text_value k_TAKE_COMPLETE_text_value cs0) (Xo : Exa Z h0 o "java/lang/String") (Vo : Fld Z h0 o "java/lang/String" "value" "[B" (.ref t1)) (Co : Fld Z h0 o "java/lang/String" "coder" "B" (.int 0)) (Ao : Arv Z h0 t1 kb .byte 3 [(.int (105 : Int32)), (.int (110 : Int32)), (.int (112 : Int32))] (.int 0)) :
    MetFree l (⟨"java/lang/String", "length", "()I"⟩ : MethodName) (head1 (Jvm.Cond.code (⟨"java/lang/String", "length", "()I"⟩ : MethodName) jdk_42_method_54_code 1 (some .int) :: ws) ({ frames := 1, cells := 0, slots := 0, locals := 13 } : Room)) (fun a_ U_ => a_ = #[(.ref o)] ∧ Z.Warmed39 U_.vm ∧ U_.heap = h0) (fun _ _ _ _ _ => True) (fun _ U_ o_ U2_ => ∃ v_ L_, o_ = .returned v_ ∧ Q_ln2 Z o t1 kb a__VALUES a_OUT a_INP a_TAKE_COMPLETE a_OUT_text a_INP_text a_TAKE_COMPLETE_text a_OUT_text_value a_INP_text_value a_TAKE_COMPLETE_text_value k__VALUES k_OUT_text_value k_INP_text_value k_TAKE_COMPLETE_text_value cs0 h0 v_ U2_.heap L_ ∧ FrameEnd U_ o_ U2_ L_ ({ frames := 1, cells := 0, slots := 0, locals := 13 } : Room).cells ({ frames := 1, cells := 0, slots := 0, locals := 13 } : Room).slots) := by
  refine MetFree.of_bodySF (plainFor_of_name own_pn0) hisR ?_
  intro p e s m args below meth c s₁ Bd hml0 hP hK
  obtain ⟨rfl, hZ, hh⟩ := hP
  have hx := Bd.exec
  have hby := Bd.bytes
  have hml : c.maxLocals = 1 := hml0
  have hown : s.vm.findClass "java/lang/String" = some m.cls := findClass_of_methodNamed Bd.named
  have hnm := (name_of_methodNamed Bd.named Bd.method).1
  have X0 : Stand p l e ({ frames := 1, cells := 0, slots := 0, locals := 13 } : Room) s m #[(.ref o)] below meth c s₁ [] 0 0 := Stand.of_body Bd
  have e0 : s₁.heap = h0 := by rw [← hh, Bd.state]; rfl
  have N0 := Fr.nil Z.heap.size
  show own_G p e below (fun o_ s₂ => ∃ v_ L_, o_ = .returned v_ ∧ Q_ln2 Z o t1 kb a__VALUES a_OUT a_INP a_TAKE_COMPLETE a_OUT_text a_INP_text a_TAKE_COMPLETE_text a_OUT_text_value a_INP_text_value a_TAKE_COMPLETE_text_value k__VALUES k_OUT_text_value k_INP_text_value k_TAKE_COMPLETE_text_value cs0 h0 v_ s₂.heap L_ ∧ FrameEnd s o_ s₂ L_ ({ frames := 1, cells := 0, slots := 0, locals := 13 } : Room).cells ({ frames := 1, cells := 0, slots := 0, locals := 13 } : Room).slots) (s₁.setTop (entryFrame m #[(.ref o)] 1))
  refine own_go (s₁.setTop (mkF m 0 #[.val (.ref o)] [])) (fun t_ k_ => castTop (own_ef_ln2 m o) k_) ?_
  have w' := w
  obtain ⟨S__VALUES, X__VALUES, S_OUT, X_OUT, S_INP, X_INP, S_TAKE_COMPLETE, X_TAKE_COMPLETE, F_OUT_text, X_OUT_text, F_INP_text, X_INP_text, F_TAKE_COMPLETE_text, X_TAKE_COMPLETE_text, F_OUT_text_value, X_OUT_text_value, F_INP_text_value, X_INP_text_value, F_TAKE_COMPLETE_text_value, X_TAKE_COMPLETE_text_value, F_OUT_text_coder, F_INP_text_coder, F_TAKE_COMPLETE_text_coder, V__VALUES, V_OUT_text_value, V_INP_text_value, V_TAKE_COMPLETE_text_value, S_CS, n_CS⟩ := w'
  refine own_go (s₁.setTop (mkF m 1 #[.val (.ref o)] [(.ref o)])) (fun t_ k_ => XS.aloadN X0.here hx rfl (hb hby own_d_jdk_42_method_54_0) rfl rfl k_) ?_
  obtain ⟨T1, X1, e1, st1⟩ := getF X0 hx hZ hown (host := "") (Or.inl (hw _ (List.mem_of_getElem? (i := 61) rfl))) Via.refl e0 Vo (g := (mkF m 1 #[.val (.ref o)] [(.ref o)])) rfl rfl (hb hby own_d_jdk_42_method_54_1)
  refine own_go (T1.setTop (mkF m 4 #[.val (.ref o)] [(.ref t1)])) (fun t_ k_ => st1 _ k_) ?_
  obtain ⟨cl2, Ar2, q2, Sz2, Nz2, Hz2, Gz2⟩ := id (Ao)
  refine own_go (T1.setTop (mkF m 5 #[.val (.ref o)] [(.int (3 : Int32))])) (fun t_ k_ => X1.arraylength hx (by rw [e1]; exact Ar2.1) (State.isArrayOf_alike hZ.alike Ar2.2.1) (g := (mkF m 4 #[.val (.ref o)] [(.ref t1)])) rfl rfl (hb hby own_d_jdk_42_method_54_4) _ (by rw [len_of Sz2 Nz2]; exact k_)) ?_
  refine own_go (T1.setTop (mkF m 6 #[.val (.ref o)] [(.ref o), (.int (3 : Int32))])) (fun t_ k_ => XS.aloadN X1.here hx rfl (hb hby own_d_jdk_42_method_54_5) rfl rfl k_) ?_
  obtain ⟨cq3, kq3, q3a, q3b, q3c⟩ := isOf hZ e1 Xo
  obtain ⟨_, _, ⟨T3, Lu3, ku3, nu3⟩, -, X3, ⟨Lc3, hQ3, lu3, yu3, zu3⟩, st3⟩ := X1.virtualBack hx (y := (⟨"java/lang/String", "coder", "()B"⟩ : MethodName)) (z := (⟨"java/lang/String", "coder", "()B"⟩ : MethodName)) hown (mvT hZ (hw _ (List.mem_of_getElem? (i := 63) rfl))) (mvT hZ (hw _ (List.mem_of_getElem? (i := 64) rfl))) (notFace_of_selects (args := #[]) (mvT hZ (hw _ (List.mem_of_getElem? (i := 66) rfl)))) (mvT hZ (hw _ (List.mem_of_getElem? (i := 66) rfl))) (mvT hZ (hw _ (List.mem_of_getElem? (i := 65) rfl))) (by decide) (backOf (W := 1) (rm_cdr l Z a0 hw [] (o) (a__VALUES) (a_OUT) (a_INP) (a_TAKE_COMPLETE) (a_OUT_text) (a_INP_text) (a_TAKE_COMPLETE_text) (a_OUT_text_value) (a_INP_text_value) (a_TAKE_COMPLETE_text_value) (k__VALUES) (k_OUT_text_value) (k_INP_text_value) (k_TAKE_COMPLETE_text_value) (cs0) h0 O w Co) hZ (hw _ (List.mem_of_getElem? (i := 67) rfl)) (hw _ (List.mem_of_getElem? (i := 20) rfl)) (by decide) (by decide)) q3a q3c (g := (mkF m 6 #[.val (.ref o)] [(.ref o), (.int (3 : Int32))])) rfl (by rw [hml]; rfl) (Steps.refl _) (argsL := []) (rest := [(.int (3 : Int32))]) (lenOf own_pd3 rfl) rfl (by show 2 * 0 + _ ≤ _; exact Nat.le_of_eq rfl) (hb hby own_d_jdk_42_method_54_6) (fun _ _ => ⟨rfl, e1, (by decide : 0 + 0 ≤ _), (by decide : 0 + 0 ≤ _)⟩)
  dsimp only [Pt.U, Pt.locs, Pt.cells, Pt.slots] at X3 lu3 yu3 zu3 st3 hQ3
  subst lu3 yu3 zu3
  obtain ⟨rfl, N3q, e3⟩ := hQ3
  have N3 := Fr.app N0 N3q
  refine own_go (T3.setTop (mkF m 9 #[.val (.ref o)] [(.int (0 : Int32)), (.int (3 : Int32))])) (fun t_ k_ => st3.trans k_) ?_
  refine own_go (T3.setTop (mkF m 10 #[.val (.ref o)] [(.int ((3 : Int32) >>> ((0 : Int32) &&& 31)))])) (fun t_ k_ => XS.ishr X3.here hx rfl (hb hby own_d_jdk_42_method_54_9) rfl k_) ?_
  rw [show ((3 : Int32) >>> ((0 : Int32) &&& 31)) = (3 : Int32) from by decide]
  obtain ⟨fs, hr, hrun, hended, hW, hsame⟩ := X3.leave (v := some (.int (3 : Int32))) (fun h => by rw [Bd.returns] at h; cases h)
  refine ⟨_, _, retI X3 hx Bd.returns (hb hby own_d_jdk_42_method_54_10) hr, hrun, hended, _, _, rfl, ?_, ⟨_, rfl⟩, hW, hsame.mono (by decide) (by decide)⟩
  show Q_ln2 Z o t1 kb a__VALUES a_OUT a_INP a_TAKE_COMPLETE a_OUT_text a_INP_text a_TAKE_COMPLETE_text a_OUT_text_value a_INP_text_value a_TAKE_COMPLETE_text_value k__VALUES k_OUT_text_value k_INP_text_value k_TAKE_COMPLETE_text_value cs0 h0 _ T3.heap _
  exact ⟨rfl, N3, e3⟩
theorem own_ef_aa2 (m : MethodId) (a : Addr) (o : Addr) : entryFrame m #[(.ref a), (.ref o)] 3 = mkF m 0 #[.val (.ref a), .val (.ref o), .unset] [] := by first | (simp [entryFrame, mkF, argsToLocals, Value.category]; done) | rfl
def Q_aa2 (Z : State) (a : Addr) (b : Addr) (kv : ClassId) (o : Addr) (t1 : Addr) (kb : ClassId) (a__VALUES : Addr) (a_OUT : Addr) (a_INP : Addr) (a_TAKE_COMPLETE : Addr) (a_OUT_text : Addr) (a_INP_text : Addr) (a_TAKE_COMPLETE_text : Addr) (a_OUT_text_value : Addr) (a_INP_text_value : Addr) (a_TAKE_COMPLETE_text_value : Addr) (k__VALUES : ClassId) (k_OUT_text_value : ClassId) (k_INP_text_value : ClassId) (k_TAKE_COMPLETE_text_value : ClassId) (cs0 : Int32) (h0 : Heap) (v_ : Option Value) (h : Heap) (L_ : List Loc) : Prop := ∃ (b2 : Addr), ∃ (k2 : ClassId), v_ = some (.ref a) ∧ Fr Z.heap.size L_ ∧ (Keep h0 h [a, b] ∧ Z.heap.size ≤ b2 ∧ b = b2 ∧ kv = k2 ∧ Exa Z h a "java/lang/StringBuilder" ∧ Fld Z h a "java/lang/AbstractStringBuilder" "value" "[B" (.ref b2) ∧ Fld Z h a "java/lang/AbstractStringBuilder" "coder" "B" (.int 0) ∧ Fld Z h a "java/lang/AbstractStringBuilder" "count" "I" (.int 8) ∧ Arv Z h b2 k2 .byte 16 [(.int (111 : Int32)), (.int (117 : Int32)), (.int (116 : Int32)), (.int (44 : Int32)), (.int (32 : Int32)), (.int (105 : Int32)), (.int (110 : Int32)), (.int (112 : Int32))] (.int 0))
set_option maxRecDepth 65536 in
set_option maxHeartbeats 40000000 in
theorem rm_aa2 (l : Launch) (Z : State) (a0 : Array Value) (hw : ∀ d ∈ tables_1, d.before a0 Z = true) (ws : List Jvm.Cond) (a : Addr) (b : Addr) (kv : ClassId) (o : Addr) (t1 : Addr) (kb : ClassId) (a__VALUES : Addr) (a_OUT : Addr) (a_INP : Addr) (a_TAKE_COMPLETE : Addr) (a_OUT_text : Addr) (a_INP_text : Addr) (a_TAKE_COMPLETE_text : Addr) (a_OUT_text_value : Addr) (a_INP_text_value : Addr) (a_TAKE_COMPLETE_text_value : Addr) (k__VALUES : ClassId) (k_OUT_text_value : ClassId) (k_INP_text_value : ClassId) (k_TAKE_COMPLETE_text_value : ClassId) (cs0 : Int32) (h0 : Heap) (O : Ext Z.heap h0) (w : own_W Z a__VALUES a_OUT a_INP a_TAKE_COMPLETE a_OUT_text a_INP_text a_TAKE_COMPLETE_text a_OUT_text_value a_INP_text_value a_TAKE_COMPLETE_text_value k__VALUES k_OUT_text_value k_INP_text_value k_TAKE_COMPLETE_text_value cs0) (Xa : Exa Z h0 a "java/lang/StringBuilder") (Va : Fld Z h0 a "java/lang/AbstractStringBuilder" "value" "[B" (.ref b)) (Ca : Fld Z h0 a "java/lang/AbstractStringBuilder" "coder" "B" (.int 0)) (Na : Fld Z h0 a "java/lang/AbstractStringBuilder" "count" "I" (.int 5)) (Ab : Arv Z h0 b kv .byte 16 [(.int (111 : Int32)), (.int (117 : Int32)), (.int (116 : Int32)), (.int (44 : Int32)), (.int (32 : Int32))] (.int 0)) (ga : Z.heap.size ≤ a) (gb : Z.heap.size ≤ b) (Xo : Exa Z h0 o "java/lang/String") (Vo : Fld Z h0 o "java/lang/String" "value" "[B" (.ref t1)) (Co : Fld Z h0 o "java/lang/String" "coder" "B" (.int 0)) (Ao : Arv Z h0 t1 kb .byte 3 [(.int (105 : Int32)), (.int (110 : Int32)), (.int (112 : Int32))] (.int 0)) (nt : t1 ≠ b) :
    MetFree l (⟨"java/lang/AbstractStringBuilder", "append", "(Ljava/lang/String;)Ljava/lang/AbstractStringBuilder;"⟩ : MethodName) (head1 (Jvm.Cond.code (⟨"java/lang/AbstractStringBuilder", "append", "(Ljava/lang/String;)Ljava/lang/AbstractStringBuilder;"⟩ : MethodName) jdk_68_method_22_code 3 (some (.object "java/lang/AbstractStringBuilder")) :: ws) ({ frames := 3, cells := 0, slots := 0, locals := 69 } : Room)) (fun a_ U_ => a_ = #[(.ref a), (.ref o)] ∧ Z.Warmed39 U_.vm ∧ U_.heap = h0) (fun _ _ _ _ _ => True) (fun _ U_ o_ U2_ => ∃ v_ L_, o_ = .returned v_ ∧ Q_aa2 Z a b kv o t1 kb a__VALUES a_OUT a_INP a_TAKE_COMPLETE a_OUT_text a_INP_text a_TAKE_COMPLETE_text a_OUT_text_value a_INP_text_value a_TAKE_COMPLETE_text_value k__VALUES k_OUT_text_value k_INP_text_value k_TAKE_COMPLETE_text_value cs0 h0 v_ U2_.heap L_ ∧ FrameEnd U_ o_ U2_ L_ ({ frames := 3, cells := 0, slots := 0, locals := 69 } : Room).cells ({ frames := 3, cells := 0, slots := 0, locals := 69 } : Room).slots) := by
  refine MetFree.of_bodySF (plainFor_of_name own_pn1) hisR ?_
  intro p e s m args below meth c s₁ Bd hml0 hP hK
  obtain ⟨rfl, hZ, hh⟩ := hP
  have hx := Bd.exec
  have hby := Bd.bytes
  have hml : c.maxLocals = 3 := hml0
  have hown : s.vm.findClass "java/lang/AbstractStringBuilder" = some m.cls := findClass_of_methodNamed Bd.named
  have hnm := (name_of_methodNamed Bd.named Bd.method).1
  have X0 : Stand p l e ({ frames := 3, cells := 0, slots := 0, locals := 69 } : Room) s m #[(.ref a), (.ref o)] below meth c s₁ [] 0 0 := Stand.of_body Bd
  have e0 : s₁.heap = h0 := by rw [← hh, Bd.state]; rfl
  have N0 := Fr.nil Z.heap.size
  show own_G p e below (fun o_ s₂ => ∃ v_ L_, o_ = .returned v_ ∧ Q_aa2 Z a b kv o t1 kb a__VALUES a_OUT a_INP a_TAKE_COMPLETE a_OUT_text a_INP_text a_TAKE_COMPLETE_text a_OUT_text_value a_INP_text_value a_TAKE_COMPLETE_text_value k__VALUES k_OUT_text_value k_INP_text_value k_TAKE_COMPLETE_text_value cs0 h0 v_ s₂.heap L_ ∧ FrameEnd s o_ s₂ L_ ({ frames := 3, cells := 0, slots := 0, locals := 69 } : Room).cells ({ frames := 3, cells := 0, slots := 0, locals := 69 } : Room).slots) (s₁.setTop (entryFrame m #[(.ref a), (.ref o)] 3))
  refine own_go (s₁.setTop (mkF m 0 #[.val (.ref a), .val (.ref o), .unset] [])) (fun t_ k_ => castTop (own_ef_aa2 m a o) k_) ?_
  have w' := w
  obtain ⟨S__VALUES, X__VALUES, S_OUT, X_OUT, S_INP, X_INP, S_TAKE_COMPLETE, X_TAKE_COMPLETE, F_OUT_text, X_OUT_text, F_INP_text, X_INP_text, F_TAKE_COMPLETE_text, X_TAKE_COMPLETE_text, F_OUT_text_value, X_OUT_text_value, F_INP_text_value, X_INP_text_value, F_TAKE_COMPLETE_text_value, X_TAKE_COMPLETE_text_value, F_OUT_text_coder, F_INP_text_coder, F_TAKE_COMPLETE_text_coder, V__VALUES, V_OUT_text_value, V_INP_text_value, V_TAKE_COMPLETE_text_value, S_CS, n_CS⟩ := w'
  refine own_go (s₁.setTop (mkF m 1 #[.val (.ref a), .val (.ref o), .unset] [(.ref o)])) (fun t_ k_ => XS.aloadN X0.here hx rfl (hb hby own_d_jdk_68_method_22_0) rfl rfl k_) ?_
  refine own_go (s₁.setTop (mkF m 9 #[.val (.ref a), .val (.ref o), .unset] [])) (fun t_ k_ => XS.ifnonnullYes X0.here hx rfl (pc0 := 1) (pc' := 9) rfl (hb hby own_d_jdk_68_method_22_1) rfl (by decide) (by decide) k_) ?_
  refine own_go (s₁.setTop (mkF m 10 #[.val (.ref a), .val (.ref o), .unset] [(.ref o)])) (fun t_ k_ => XS.aloadN X0.here hx rfl (hb hby own_d_jdk_68_method_22_9) rfl rfl k_) ?_
  obtain ⟨cq1, kq1, q1a, q1b, q1c⟩ := isOf hZ e0 Xo
  obtain ⟨_, _, ⟨T1, Lu1, ku1, nu1⟩, -, X1, ⟨Lc1, hQ1, lu1, yu1, zu1⟩, st1⟩ := X0.virtualBack hx (y := (⟨"java/lang/String", "length", "()I"⟩ : MethodName)) (z := (⟨"java/lang/String", "length", "()I"⟩ : MethodName)) hown (mvT hZ (hw _ (List.mem_of_getElem? (i := 56) rfl))) (mvT hZ (hw _ (List.mem_of_getElem? (i := 57) rfl))) (notFace_of_selects (args := #[]) (mvT hZ (hw _ (List.mem_of_getElem? (i := 59) rfl)))) (mvT hZ (hw _ (List.mem_of_getElem? (i := 59) rfl))) (mvT hZ (hw _ (List.mem_of_getElem? (i := 58) rfl))) (by decide) (backOf (W := 0) (rm_ln2 l Z a0 hw [] (o) (t1) (kb) (a__VALUES) (a_OUT) (a_INP) (a_TAKE_COMPLETE) (a_OUT_text) (a_INP_text) (a_TAKE_COMPLETE_text) (a_OUT_text_value) (a_INP_text_value) (a_TAKE_COMPLETE_text_value) (k__VALUES) (k_OUT_text_value) (k_INP_text_value) (k_TAKE_COMPLETE_text_value) (cs0) h0 O w Xo Vo Co Ao) hZ (hw _ (List.mem_of_getElem? (i := 60) rfl)) (hw _ (List.mem_of_getElem? (i := 20) rfl)) (by decide) (by decide)) q1a q1c (g := (mkF m 10 #[.val (.ref a), .val (.ref o), .unset] [(.ref o)])) rfl (by rw [hml]; rfl) (Steps.refl _) (argsL := []) (rest := []) (lenOf own_pd6 rfl) rfl (by show 2 * 0 + _ ≤ _; exact Nat.le_of_eq rfl) (hb hby own_d_jdk_68_method_22_10) (fun _ _ => ⟨rfl, e0, (by decide : 0 + 0 ≤ _), (by decide : 0 + 0 ≤ _)⟩)
  dsimp only [Pt.U, Pt.locs, Pt.cells, Pt.slots] at X1 lu1 yu1 zu1 st1 hQ1
  subst lu1 yu1 zu1
  obtain ⟨rfl, N1q, e1⟩ := hQ1
  have N1 := Fr.app N0 N1q
  refine own_go (T1.setTop (mkF m 13 #[.val (.ref a), .val (.ref o), .unset] [(.int (3 : Int32))])) (fun t_ k_ => st1.trans k_) ?_
  refine own_go (T1.setTop (mkF m 14 #[.val (.ref a), .val (.ref o), .val (.int (3 : Int32))] [])) (fun t_ k_ => XS.istoreN X1.here hx rfl (hb hby own_d_jdk_68_method_22_13) rfl (l' := #[.val (.ref a), .val (.ref o), .val (.int (3 : Int32))]) rfl k_) ?_
  refine own_go (T1.setTop (mkF m 15 #[.val (.ref a), .val (.ref o), .val (.int (3 : Int32))] [(.ref a)])) (fun t_ k_ => XS.aloadN X1.here hx rfl (hb hby own_d_jdk_68_method_22_14) rfl rfl k_) ?_
  refine own_go (T1.setTop (mkF m 16 #[.val (.ref a), .val (.ref o), .val (.int (3 : Int32))] [(.ref a), (.ref a)])) (fun t_ k_ => XS.aloadN X1.here hx rfl (hb hby own_d_jdk_68_method_22_15) rfl rfl k_) ?_
  obtain ⟨T2, X2, e2, st2⟩ := getF X1 hx hZ hown (host := "") (Or.inl (hw _ (List.mem_of_getElem? (i := 71) rfl))) Via.refl e1 Na (g := (mkF m 16 #[.val (.ref a), .val (.ref o), .val (.int (3 : Int32))] [(.ref a), (.ref a)])) rfl rfl (hb hby own_d_jdk_68_method_22_16)
  refine own_go (T2.setTop (mkF m 19 #[.val (.ref a), .val (.ref o), .val (.int (3 : Int32))] [(.int (5 : Int32)), (.ref a)])) (fun t_ k_ => st2 _ k_) ?_
  refine own_go (T2.setTop (mkF m 20 #[.val (.ref a), .val (.ref o), .val (.int (3 : Int32))] [(.int (3 : Int32)), (.int (5 : Int32)), (.ref a)])) (fun t_ k_ => XS.iloadN X2.here hx rfl (hb hby own_d_jdk_68_method_22_19) rfl k_) ?_
  refine own_go (T2.setTop (mkF m 21 #[.val (.ref a), .val (.ref o), .val (.int (3 : Int32))] [(.int ((5 : Int32) + (3 : Int32))), (.ref a)])) (fun t_ k_ => XS.iadd X2.here hx rfl (hb hby own_d_jdk_68_method_22_20) rfl k_) ?_
  rw [show ((5 : Int32) + (3 : Int32)) = (8 : Int32) from by decide]
  obtain ⟨cq3, q3, q3'⟩ := (Xa).cell
  obtain ⟨_, _, ⟨T3, Lu3, ku3, nu3⟩, -, X3, ⟨Lc3, hQ3, lu3, yu3, zu3⟩, st3⟩ := X2.privateBack hx (y := (⟨"java/lang/AbstractStringBuilder", "ensureCapacityInternal", "(I)V"⟩ : MethodName)) hown (mvT hZ (hw _ (List.mem_of_getElem? (i := 73) rfl))) (mvT hZ (hw _ (List.mem_of_getElem? (i := 74) rfl))) (own_selp (mvT hZ (hw _ (List.mem_of_getElem? (i := 76) rfl))) rfl (Cond.privateMethod_at (mvP hZ (hw _ (List.mem_of_getElem? (i := 75) rfl)) (args := #[]))) (mvT hZ (hw _ (List.mem_of_getElem? (i := 74) rfl))) (by decide)) (Cond.privateMethod_at (mvP hZ (hw _ (List.mem_of_getElem? (i := 75) rfl)) (args := #[]))) (mvT hZ (hw _ (List.mem_of_getElem? (i := 77) rfl))) (by decide) (backOf (W := 0) (rm_en2 l Z a0 hw [] (a) (b) (kv) h0 O Xa Va Ca Na Ab ga gb) hZ (hw _ (List.mem_of_getElem? (i := 77) rfl)) (hw _ (List.mem_of_getElem? (i := 14) rfl)) (by decide) (by decide)) (g := (mkF m 21 #[.val (.ref a), .val (.ref o), .val (.int (3 : Int32))] [(.int (8 : Int32)), (.ref a)])) rfl (by rw [hml]; rfl) (Steps.refl _) (a := a) (by rw [e2]; exact q3) q3' (argsL := [(.int (8 : Int32))]) (rest := []) (lenOf own_pd0 rfl) rfl (by show 2 * 0 + _ ≤ _; exact Nat.le_of_eq rfl) (hb hby own_d_jdk_68_method_22_21) (fun _ _ => ⟨rfl, e2, (by decide : 0 + 0 ≤ _), (by decide : 0 + 0 ≤ _)⟩)
  dsimp only [Pt.U, Pt.locs, Pt.cells, Pt.slots] at X3 lu3 yu3 zu3 st3 hQ3
  subst lu3 yu3 zu3
  obtain ⟨rfl, N3q, e3⟩ := hQ3
  have N3 := Fr.app N1 N3q
  refine own_go (T3.setTop (mkF m 24 #[.val (.ref a), .val (.ref o), .val (.int (3 : Int32))] [])) (fun t_ k_ => st3.trans k_) ?_
  refine own_go (T3.setTop (mkF m 25 #[.val (.ref a), .val (.ref o), .val (.int (3 : Int32))] [(.ref a)])) (fun t_ k_ => XS.aloadN X3.here hx rfl (hb hby own_d_jdk_68_method_22_24) rfl rfl k_) ?_
  refine own_go (T3.setTop (mkF m 26 #[.val (.ref a), .val (.ref o), .val (.int (3 : Int32))] [(.ref a), (.ref a)])) (fun t_ k_ => XS.aloadN X3.here hx rfl (hb hby own_d_jdk_68_method_22_25) rfl rfl k_) ?_
  obtain ⟨T4, X4, e4, st4⟩ := getF X3 hx hZ hown (host := "") (Or.inl (hw _ (List.mem_of_getElem? (i := 71) rfl))) Via.refl e3 Na (g := (mkF m 26 #[.val (.ref a), .val (.ref o), .val (.int (3 : Int32))] [(.ref a), (.ref a)])) rfl rfl (hb hby own_d_jdk_68_method_22_26)
  refine own_go (T4.setTop (mkF m 29 #[.val (.ref a), .val (.ref o), .val (.int (3 : Int32))] [(.int (5 : Int32)), (.ref a)])) (fun t_ k_ => st4 _ k_) ?_
  refine own_go (T4.setTop (mkF m 30 #[.val (.ref a), .val (.ref o), .val (.int (3 : Int32))] [(.ref o), (.int (5 : Int32)), (.ref a)])) (fun t_ k_ => XS.aloadN X4.here hx rfl (hb hby own_d_jdk_68_method_22_29) rfl rfl k_) ?_
  obtain ⟨cq5, q5, q5'⟩ := (Xa).cell
  obtain ⟨_, _, ⟨T5, Lu5, ku5, nu5⟩, -, X5, ⟨Lc5, hQ5, lu5, yu5, zu5⟩, st5⟩ := X4.privateBack hx (y := (⟨"java/lang/AbstractStringBuilder", "putStringAt", "(ILjava/lang/String;)V"⟩ : MethodName)) hown (mvT hZ (hw _ (List.mem_of_getElem? (i := 78) rfl))) (mvT hZ (hw _ (List.mem_of_getElem? (i := 79) rfl))) (own_selp (mvT hZ (hw _ (List.mem_of_getElem? (i := 76) rfl))) rfl (Cond.privateMethod_at (mvP hZ (hw _ (List.mem_of_getElem? (i := 80) rfl)) (args := #[]))) (mvT hZ (hw _ (List.mem_of_getElem? (i := 79) rfl))) (by decide)) (Cond.privateMethod_at (mvP hZ (hw _ (List.mem_of_getElem? (i := 80) rfl)) (args := #[]))) (mvT hZ (hw _ (List.mem_of_getElem? (i := 82) rfl))) (by decide) (backOf (W := 0) (rm_ps2 l Z a0 hw [] (a) (b) (kv) (o) (t1) (kb) (a__VALUES) (a_OUT) (a_INP) (a_TAKE_COMPLETE) (a_OUT_text) (a_INP_text) (a_TAKE_COMPLETE_text) (a_OUT_text_value) (a_INP_text_value) (a_TAKE_COMPLETE_text_value) (k__VALUES) (k_OUT_text_value) (k_INP_text_value) (k_TAKE_COMPLETE_text_value) (cs0) h0 O w Xa Va Ca Ab gb Xo Vo Co Ao) hZ (hw _ (List.mem_of_getElem? (i := 82) rfl)) (hw _ (List.mem_of_getElem? (i := 14) rfl)) (by decide) (by decide)) (g := (mkF m 30 #[.val (.ref a), .val (.ref o), .val (.int (3 : Int32))] [(.ref o), (.int (5 : Int32)), (.ref a)])) rfl (by rw [hml]; rfl) (Steps.refl _) (a := a) (by rw [e4]; exact q5) q5' (argsL := [(.int (5 : Int32)), (.ref o)]) (rest := []) (lenOf own_pd7 rfl) rfl (by show 2 * 0 + _ ≤ _; exact Nat.le_of_eq rfl) (hb hby own_d_jdk_68_method_22_30) (fun _ _ => ⟨rfl, e4, (by decide : 0 + 0 ≤ _), (by decide : 0 + 0 ≤ _)⟩)
  dsimp only [Pt.U, Pt.locs, Pt.cells, Pt.slots] at X5 lu5 yu5 zu5 st5 hQ5
  subst lu5 yu5 zu5
  obtain ⟨rfl, N5q, K5q, V5q⟩ := hQ5
  have N5 := Fr.app N3 N5q
  have O5 := own_extK O K5q (allS gb all0)
  have KK5 : Keep h0 T5.heap [a, b] := (Keep.refl h0 [a, b]).trans K5q (allS (Or.inl (List.mem_of_getElem? (i := 1) rfl)) all0)
  refine own_go (T5.setTop (mkF m 33 #[.val (.ref a), .val (.ref o), .val (.int (3 : Int32))] [])) (fun t_ k_ => st5.trans k_) ?_
  refine own_go (T5.setTop (mkF m 34 #[.val (.ref a), .val (.ref o), .val (.int (3 : Int32))] [(.ref a)])) (fun t_ k_ => XS.aloadN X5.here hx rfl (hb hby own_d_jdk_68_method_22_33) rfl rfl k_) ?_
  refine own_go (T5.setTop (mkF m 35 #[.val (.ref a), .val (.ref o), .val (.int (3 : Int32))] [(.ref a), (.ref a)])) (fun t_ k_ => XS.dup X5.here hx rfl (hb hby own_d_jdk_68_method_22_34) rfl rfl k_) ?_
  have Nz6 : a ≠ b := (Exa.neArv Xa Ab (hw _ (List.mem_of_getElem? (i := 5) rfl)))
  have Fz7 := (Na.keep K5q (ninS Nz6 nin0))
  obtain ⟨T8, X8, e8, st8⟩ := getF X5 hx hZ hown (host := "") (Or.inl (hw _ (List.mem_of_getElem? (i := 71) rfl))) Via.refl rfl Fz7 (g := (mkF m 35 #[.val (.ref a), .val (.ref o), .val (.int (3 : Int32))] [(.ref a), (.ref a)])) rfl rfl (hb hby own_d_jdk_68_method_22_35)
  refine own_go (T8.setTop (mkF m 38 #[.val (.ref a), .val (.ref o), .val (.int (3 : Int32))] [(.int (5 : Int32)), (.ref a)])) (fun t_ k_ => st8 _ k_) ?_
  refine own_go (T8.setTop (mkF m 39 #[.val (.ref a), .val (.ref o), .val (.int (3 : Int32))] [(.int (3 : Int32)), (.int (5 : Int32)), (.ref a)])) (fun t_ k_ => XS.iloadN X8.here hx rfl (hb hby own_d_jdk_68_method_22_38) rfl k_) ?_
  refine own_go (T8.setTop (mkF m 40 #[.val (.ref a), .val (.ref o), .val (.int (3 : Int32))] [(.int ((5 : Int32) + (3 : Int32))), (.ref a)])) (fun t_ k_ => XS.iadd X8.here hx rfl (hb hby own_d_jdk_68_method_22_39) rfl k_) ?_
  rw [show ((5 : Int32) + (3 : Int32)) = (8 : Int32) from by decide]
  have Fz9 := (Xa.keep K5q)
  obtain ⟨T10, h10, X10, e10, W10, st10⟩ := putF X8 hx hZ hown (host := "") (Or.inl (hw _ (List.mem_of_getElem? (i := 71) rfl))) Via.refl e8 Fz7 Fz9 (Or.inl (hw _ (List.mem_of_getElem? (i := 72) rfl))) (hw _ (List.mem_of_getElem? (i := 5) rfl)) (ty := .int) (by decide) rfl rfl (g := (mkF m 40 #[.val (.ref a), .val (.ref o), .val (.int (3 : Int32))] [(.int (8 : Int32)), (.ref a)])) rfl rfl (hb hby own_d_jdk_68_method_22_40)
  have Fw10 := Fz7.same W10
  have K10 : Keep h0 h10 [a, b] := KK5.wr W10 (Or.inl (List.mem_of_getElem? (i := 0) rfl))
  have N10 := Fr.snoc X10 N5 ga
  have O10 := own_extW O5 W10 ga
  refine own_go (T10.setTop (mkF m 43 #[.val (.ref a), .val (.ref o), .val (.int (3 : Int32))] [])) (fun t_ k_ => st10 _ k_) ?_
  refine own_go (T10.setTop (mkF m 44 #[.val (.ref a), .val (.ref o), .val (.int (3 : Int32))] [(.ref a)])) (fun t_ k_ => XS.aloadN X10.here hx rfl (hb hby own_d_jdk_68_method_22_43) rfl rfl k_) ?_
  obtain ⟨fs, hr, hrun, hended, hW, hsame⟩ := X10.leave (v := some (.ref a)) (fun h => by rw [Bd.returns] at h; cases h)
  refine ⟨_, _, Jvm.RoadKit.retOut X10 hx Bd.returns rfl (Or.inr (Or.inr (Or.inr (Or.inr ⟨rfl, rfl, rfl⟩)))) (hb hby own_d_jdk_68_method_22_44) hr, hrun, hended, _, _, rfl, ?_, ⟨_, rfl⟩, hW, hsame.mono (by decide) (by decide)⟩
  show Q_aa2 Z a b kv o t1 kb a__VALUES a_OUT a_INP a_TAKE_COMPLETE a_OUT_text a_INP_text a_TAKE_COMPLETE_text a_OUT_text_value a_INP_text_value a_TAKE_COMPLETE_text_value k__VALUES k_OUT_text_value k_INP_text_value k_TAKE_COMPLETE_text_value cs0 h0 _ T10.heap _
  have Fz11 := (Fz9.wr W10)
  have Fz12 := ((Va.keep K5q (ninS Nz6 nin0)).other W10 (Or.inr (slot_ne (a0 := a0) (Or.inl (hw _ (List.mem_of_getElem? (i := 23) rfl))) (Or.inl (hw _ (List.mem_of_getElem? (i := 72) rfl))) (by decide) (t := (.array .byte)) (t' := .int) (by decide) (by decide))))
  have Fz13 := ((Ca.keep K5q (ninS Nz6 nin0)).other W10 (Or.inr (slot_ne (a0 := a0) (Or.inl (hw _ (List.mem_of_getElem? (i := 25) rfl))) (Or.inl (hw _ (List.mem_of_getElem? (i := 72) rfl))) (by decide) (t := .byte) (t' := .int) (by decide) (by decide))))
  have Fz14 := (V5q.other W10 (Ne.symm Nz6))
  rw [show T10.heap = h10 from e10]
  exact ⟨_, _, rfl, N10, K10, gb, rfl, rfl, Fz11, Fz12, Fz13, Fw10, Fz14⟩
theorem own_ef_ap2 (m : MethodId) (a : Addr) (o : Addr) : entryFrame m #[(.ref a), (.ref o)] 2 = mkF m 0 #[.val (.ref a), .val (.ref o)] [] := by first | (simp [entryFrame, mkF, argsToLocals, Value.category]; done) | rfl
def Q_ap2 (Z : State) (a : Addr) (b : Addr) (kv : ClassId) (o : Addr) (t1 : Addr) (kb : ClassId) (a__VALUES : Addr) (a_OUT : Addr) (a_INP : Addr) (a_TAKE_COMPLETE : Addr) (a_OUT_text : Addr) (a_INP_text : Addr) (a_TAKE_COMPLETE_text : Addr) (a_OUT_text_value : Addr) (a_INP_text_value : Addr) (a_TAKE_COMPLETE_text_value : Addr) (k__VALUES : ClassId) (k_OUT_text_value : ClassId) (k_INP_text_value : ClassId) (k_TAKE_COMPLETE_text_value : ClassId) (cs0 : Int32) (h0 : Heap) (v_ : Option Value) (h : Heap) (L_ : List Loc) : Prop := ∃ (b2 : Addr), ∃ (k2 : ClassId), v_ = some (.ref a) ∧ Fr Z.heap.size L_ ∧ (Keep h0 h [a, b] ∧ Z.heap.size ≤ b2 ∧ b = b2 ∧ kv = k2 ∧ Exa Z h a "java/lang/StringBuilder" ∧ Fld Z h a "java/lang/AbstractStringBuilder" "value" "[B" (.ref b2) ∧ Fld Z h a "java/lang/AbstractStringBuilder" "coder" "B" (.int 0) ∧ Fld Z h a "java/lang/AbstractStringBuilder" "count" "I" (.int 8) ∧ Arv Z h b2 k2 .byte 16 [(.int (111 : Int32)), (.int (117 : Int32)), (.int (116 : Int32)), (.int (44 : Int32)), (.int (32 : Int32)), (.int (105 : Int32)), (.int (110 : Int32)), (.int (112 : Int32))] (.int 0))
set_option maxRecDepth 65536 in
set_option maxHeartbeats 40000000 in
theorem rm_ap2 (l : Launch) (Z : State) (a0 : Array Value) (hw : ∀ d ∈ tables_1, d.before a0 Z = true) (ws : List Jvm.Cond) (a : Addr) (b : Addr) (kv : ClassId) (o : Addr) (t1 : Addr) (kb : ClassId) (a__VALUES : Addr) (a_OUT : Addr) (a_INP : Addr) (a_TAKE_COMPLETE : Addr) (a_OUT_text : Addr) (a_INP_text : Addr) (a_TAKE_COMPLETE_text : Addr) (a_OUT_text_value : Addr) (a_INP_text_value : Addr) (a_TAKE_COMPLETE_text_value : Addr) (k__VALUES : ClassId) (k_OUT_text_value : ClassId) (k_INP_text_value : ClassId) (k_TAKE_COMPLETE_text_value : ClassId) (cs0 : Int32) (h0 : Heap) (O : Ext Z.heap h0) (w : own_W Z a__VALUES a_OUT a_INP a_TAKE_COMPLETE a_OUT_text a_INP_text a_TAKE_COMPLETE_text a_OUT_text_value a_INP_text_value a_TAKE_COMPLETE_text_value k__VALUES k_OUT_text_value k_INP_text_value k_TAKE_COMPLETE_text_value cs0) (Xa : Exa Z h0 a "java/lang/StringBuilder") (Va : Fld Z h0 a "java/lang/AbstractStringBuilder" "value" "[B" (.ref b)) (Ca : Fld Z h0 a "java/lang/AbstractStringBuilder" "coder" "B" (.int 0)) (Na : Fld Z h0 a "java/lang/AbstractStringBuilder" "count" "I" (.int 5)) (Ab : Arv Z h0 b kv .byte 16 [(.int (111 : Int32)), (.int (117 : Int32)), (.int (116 : Int32)), (.int (44 : Int32)), (.int (32 : Int32))] (.int 0)) (ga : Z.heap.size ≤ a) (gb : Z.heap.size ≤ b) (Xo : Exa Z h0 o "java/lang/String") (Vo : Fld Z h0 o "java/lang/String" "value" "[B" (.ref t1)) (Co : Fld Z h0 o "java/lang/String" "coder" "B" (.int 0)) (Ao : Arv Z h0 t1 kb .byte 3 [(.int (105 : Int32)), (.int (110 : Int32)), (.int (112 : Int32))] (.int 0)) (nt : t1 ≠ b) :
    MetFree l (⟨"java/lang/StringBuilder", "append", "(Ljava/lang/String;)Ljava/lang/StringBuilder;"⟩ : MethodName) (head1 (Jvm.Cond.code (⟨"java/lang/StringBuilder", "append", "(Ljava/lang/String;)Ljava/lang/StringBuilder;"⟩ : MethodName) jdk_67_method_7_code 2 (some (.object "java/lang/StringBuilder")) :: ws) ({ frames := 4, cells := 0, slots := 0, locals := 83 } : Room)) (fun a_ U_ => a_ = #[(.ref a), (.ref o)] ∧ Z.Warmed39 U_.vm ∧ U_.heap = h0) (fun _ _ _ _ _ => True) (fun _ U_ o_ U2_ => ∃ v_ L_, o_ = .returned v_ ∧ Q_ap2 Z a b kv o t1 kb a__VALUES a_OUT a_INP a_TAKE_COMPLETE a_OUT_text a_INP_text a_TAKE_COMPLETE_text a_OUT_text_value a_INP_text_value a_TAKE_COMPLETE_text_value k__VALUES k_OUT_text_value k_INP_text_value k_TAKE_COMPLETE_text_value cs0 h0 v_ U2_.heap L_ ∧ FrameEnd U_ o_ U2_ L_ ({ frames := 4, cells := 0, slots := 0, locals := 83 } : Room).cells ({ frames := 4, cells := 0, slots := 0, locals := 83 } : Room).slots) := by
  refine MetFree.of_bodySF (plainFor_of_name own_pn2) hisR ?_
  intro p e s m args below meth c s₁ Bd hml0 hP hK
  obtain ⟨rfl, hZ, hh⟩ := hP
  have hx := Bd.exec
  have hby := Bd.bytes
  have hml : c.maxLocals = 2 := hml0
  have hown : s.vm.findClass "java/lang/StringBuilder" = some m.cls := findClass_of_methodNamed Bd.named
  have hnm := (name_of_methodNamed Bd.named Bd.method).1
  have X0 : Stand p l e ({ frames := 4, cells := 0, slots := 0, locals := 83 } : Room) s m #[(.ref a), (.ref o)] below meth c s₁ [] 0 0 := Stand.of_body Bd
  have e0 : s₁.heap = h0 := by rw [← hh, Bd.state]; rfl
  have N0 := Fr.nil Z.heap.size
  show own_G p e below (fun o_ s₂ => ∃ v_ L_, o_ = .returned v_ ∧ Q_ap2 Z a b kv o t1 kb a__VALUES a_OUT a_INP a_TAKE_COMPLETE a_OUT_text a_INP_text a_TAKE_COMPLETE_text a_OUT_text_value a_INP_text_value a_TAKE_COMPLETE_text_value k__VALUES k_OUT_text_value k_INP_text_value k_TAKE_COMPLETE_text_value cs0 h0 v_ s₂.heap L_ ∧ FrameEnd s o_ s₂ L_ ({ frames := 4, cells := 0, slots := 0, locals := 83 } : Room).cells ({ frames := 4, cells := 0, slots := 0, locals := 83 } : Room).slots) (s₁.setTop (entryFrame m #[(.ref a), (.ref o)] 2))
  refine own_go (s₁.setTop (mkF m 0 #[.val (.ref a), .val (.ref o)] [])) (fun t_ k_ => castTop (own_ef_ap2 m a o) k_) ?_
  have w' := w
  obtain ⟨S__VALUES, X__VALUES, S_OUT, X_OUT, S_INP, X_INP, S_TAKE_COMPLETE, X_TAKE_COMPLETE, F_OUT_text, X_OUT_text, F_INP_text, X_INP_text, F_TAKE_COMPLETE_text, X_TAKE_COMPLETE_text, F_OUT_text_value, X_OUT_text_value, F_INP_text_value, X_INP_text_value, F_TAKE_COMPLETE_text_value, X_TAKE_COMPLETE_text_value, F_OUT_text_coder, F_INP_text_coder, F_TAKE_COMPLETE_text_coder, V__VALUES, V_OUT_text_value, V_INP_text_value, V_TAKE_COMPLETE_text_value, S_CS, n_CS⟩ := w'
  refine own_go (s₁.setTop (mkF m 1 #[.val (.ref a), .val (.ref o)] [(.ref a)])) (fun t_ k_ => XS.aloadN X0.here hx rfl (hb hby own_d_jdk_67_method_7_0) rfl rfl k_) ?_
  refine own_go (s₁.setTop (mkF m 2 #[.val (.ref a), .val (.ref o)] [(.ref o), (.ref a)])) (fun t_ k_ => XS.aloadN X0.here hx rfl (hb hby own_d_jdk_67_method_7_1) rfl rfl k_) ?_
  obtain ⟨_, _, ⟨T1, Lu1, ku1, nu1⟩, -, X1, ⟨Lc1, hQ1, lu1, yu1, zu1⟩, st1⟩ := superBack X0 hx hZ (y := (⟨"java/lang/AbstractStringBuilder", "append", "(Ljava/lang/String;)Ljava/lang/AbstractStringBuilder;"⟩ : MethodName)) hown (hw _ (List.mem_of_getElem? (i := 51) rfl)) (own_sameM (hw _ (List.mem_of_getElem? (i := 52) rfl)) (hw _ (List.mem_of_getElem? (i := 76) rfl)) rfl (by decide)) (hw _ (List.mem_of_getElem? (i := 52) rfl)) (hw _ (List.mem_of_getElem? (i := 53) rfl)) (by decide) (backOf (W := 0) (rm_aa2 l Z a0 hw [] (a) (b) (kv) (o) (t1) (kb) (a__VALUES) (a_OUT) (a_INP) (a_TAKE_COMPLETE) (a_OUT_text) (a_INP_text) (a_TAKE_COMPLETE_text) (a_OUT_text_value) (a_INP_text_value) (a_TAKE_COMPLETE_text_value) (k__VALUES) (k_OUT_text_value) (k_INP_text_value) (k_TAKE_COMPLETE_text_value) (cs0) h0 O w Xa Va Ca Na Ab ga gb Xo Vo Co Ao nt) hZ (hw _ (List.mem_of_getElem? (i := 55) rfl)) (hw _ (List.mem_of_getElem? (i := 14) rfl)) (by decide) (by decide)) e0 (Ins.self Xa) (g := (mkF m 2 #[.val (.ref a), .val (.ref o)] [(.ref o), (.ref a)])) rfl (by rw [hml]; rfl) (hw _ (List.mem_of_getElem? (i := 55) rfl)) (argsL := [(.ref o)]) (rest := []) (lenOf own_pd8 rfl) rfl (by show 2 * 0 + _ ≤ _; exact Nat.le_of_eq rfl) (hb hby own_d_jdk_67_method_7_2) (fun _ _ => ⟨rfl, e0, (by decide : 0 + 0 ≤ _), (by decide : 0 + 0 ≤ _)⟩)
  dsimp only [Pt.U, Pt.locs, Pt.cells, Pt.slots] at X1 lu1 yu1 zu1 st1 hQ1
  subst lu1 yu1 zu1
  obtain ⟨b1, kv1, rfl, N1q, K1q, u1_1, rfl, rfl, X1q, F1q, G1q, H1q, A1q⟩ := hQ1
  have N1 := Fr.app N0 N1q
  have O1 := own_extK O K1q (allS ga (allS gb all0))
  have KK1 : Keep h0 T1.heap [a, b] := (Keep.refl h0 [a, b]).trans K1q (allS (Or.inl (List.mem_of_getElem? (i := 0) rfl)) (allS (Or.inl (List.mem_of_getElem? (i := 1) rfl)) all0))
  refine own_go (T1.setTop (mkF m 5 #[.val (.ref a), .val (.ref o)] [(.ref a)])) (fun t_ k_ => st1.trans k_) ?_
  refine own_go (T1.setTop (mkF m 6 #[.val (.ref a), .val (.ref o)] [])) (fun t_ k_ => XS.pop X1.here hx rfl (hb hby own_d_jdk_67_method_7_5) rfl rfl k_) ?_
  refine own_go (T1.setTop (mkF m 7 #[.val (.ref a), .val (.ref o)] [(.ref a)])) (fun t_ k_ => XS.aloadN X1.here hx rfl (hb hby own_d_jdk_67_method_7_6) rfl rfl k_) ?_
  obtain ⟨fs, hr, hrun, hended, hW, hsame⟩ := X1.leave (v := some (.ref a)) (fun h => by rw [Bd.returns] at h; cases h)
  refine ⟨_, _, Jvm.RoadKit.retOut X1 hx Bd.returns rfl (Or.inr (Or.inr (Or.inr (Or.inr ⟨rfl, rfl, rfl⟩)))) (hb hby own_d_jdk_67_method_7_7) hr, hrun, hended, _, _, rfl, ?_, ⟨_, rfl⟩, hW, hsame.mono (by decide) (by decide)⟩
  show Q_ap2 Z a b kv o t1 kb a__VALUES a_OUT a_INP a_TAKE_COMPLETE a_OUT_text a_INP_text a_TAKE_COMPLETE_text a_OUT_text_value a_INP_text_value a_TAKE_COMPLETE_text_value k__VALUES k_OUT_text_value k_INP_text_value k_TAKE_COMPLETE_text_value cs0 h0 _ T1.heap _
  exact ⟨_, _, rfl, N1, KK1, gb, rfl, rfl, X1q, F1q, G1q, H1q, A1q⟩
theorem own_ef_en3 (m : MethodId) (a : Addr) : entryFrame m #[(.ref a), (.int (12 : Int32))] 3 = mkF m 0 #[.val (.ref a), .val (.int (12 : Int32)), .unset] [] := by first | (simp [entryFrame, mkF, argsToLocals, Value.category]; done) | rfl
def Q_en3 (Z : State) (a : Addr) (b : Addr) (kv : ClassId) (h0 : Heap) (v_ : Option Value) (h : Heap) (L_ : List Loc) : Prop := v_ = none ∧ Fr Z.heap.size L_ ∧ (h = h0)
set_option maxRecDepth 65536 in
set_option maxHeartbeats 40000000 in
theorem rm_en3 (l : Launch) (Z : State) (a0 : Array Value) (hw : ∀ d ∈ tables_1, d.before a0 Z = true) (ws : List Jvm.Cond) (a : Addr) (b : Addr) (kv : ClassId) (h0 : Heap) (O : Ext Z.heap h0) (Xa : Exa Z h0 a "java/lang/StringBuilder") (Va : Fld Z h0 a "java/lang/AbstractStringBuilder" "value" "[B" (.ref b)) (Ca : Fld Z h0 a "java/lang/AbstractStringBuilder" "coder" "B" (.int 0)) (Na : Fld Z h0 a "java/lang/AbstractStringBuilder" "count" "I" (.int 8)) (Ab : Arv Z h0 b kv .byte 16 [(.int (111 : Int32)), (.int (117 : Int32)), (.int (116 : Int32)), (.int (44 : Int32)), (.int (32 : Int32)), (.int (105 : Int32)), (.int (110 : Int32)), (.int (112 : Int32))] (.int 0)) (ga : Z.heap.size ≤ a) (gb : Z.heap.size ≤ b) :
    MetFree l (⟨"java/lang/AbstractStringBuilder", "ensureCapacityInternal", "(I)V"⟩ : MethodName) (head1 (Jvm.Cond.code (⟨"java/lang/AbstractStringBuilder", "ensureCapacityInternal", "(I)V"⟩ : MethodName) jdk_68_method_9_code 3 none :: ws) ({ frames := 0, cells := 0, slots := 0, locals := 0 } : Room)) (fun a_ U_ => a_ = #[(.ref a), (.int (12 : Int32))] ∧ Z.Warmed39 U_.vm ∧ U_.heap = h0) (fun _ _ _ _ _ => True) (fun _ U_ o_ U2_ => ∃ v_ L_, o_ = .returned v_ ∧ Q_en3 Z a b kv h0 v_ U2_.heap L_ ∧ FrameEnd U_ o_ U2_ L_ ({ frames := 0, cells := 0, slots := 0, locals := 0 } : Room).cells ({ frames := 0, cells := 0, slots := 0, locals := 0 } : Room).slots) := by
  refine MetFree.of_bodySF (plainFor_of_name own_pn1) hisR ?_
  intro p e s m args below meth c s₁ Bd hml0 hP hK
  obtain ⟨rfl, hZ, hh⟩ := hP
  have hx := Bd.exec
  have hby := Bd.bytes
  have hml : c.maxLocals = 3 := hml0
  have hown : s.vm.findClass "java/lang/AbstractStringBuilder" = some m.cls := findClass_of_methodNamed Bd.named
  have hnm := (name_of_methodNamed Bd.named Bd.method).1
  have X0 : Stand p l e ({ frames := 0, cells := 0, slots := 0, locals := 0 } : Room) s m #[(.ref a), (.int (12 : Int32))] below meth c s₁ [] 0 0 := Stand.of_body Bd
  have e0 : s₁.heap = h0 := by rw [← hh, Bd.state]; rfl
  have N0 := Fr.nil Z.heap.size
  show own_G p e below (fun o_ s₂ => ∃ v_ L_, o_ = .returned v_ ∧ Q_en3 Z a b kv h0 v_ s₂.heap L_ ∧ FrameEnd s o_ s₂ L_ ({ frames := 0, cells := 0, slots := 0, locals := 0 } : Room).cells ({ frames := 0, cells := 0, slots := 0, locals := 0 } : Room).slots) (s₁.setTop (entryFrame m #[(.ref a), (.int (12 : Int32))] 3))
  refine own_go (s₁.setTop (mkF m 0 #[.val (.ref a), .val (.int (12 : Int32)), .unset] [])) (fun t_ k_ => castTop (own_ef_en3 m a) k_) ?_
  refine own_go (s₁.setTop (mkF m 1 #[.val (.ref a), .val (.int (12 : Int32)), .unset] [(.ref a)])) (fun t_ k_ => XS.aloadN X0.here hx rfl (hb hby own_d_jdk_68_method_9_0) rfl rfl k_) ?_
  obtain ⟨T1, X1, e1, st1⟩ := getF X0 hx hZ hown (host := "") (Or.inl (hw _ (List.mem_of_getElem? (i := 22) rfl))) Via.refl e0 Va (g := (mkF m 1 #[.val (.ref a), .val (.int (12 : Int32)), .unset] [(.ref a)])) rfl rfl (hb hby own_d_jdk_68_method_9_1)
  refine own_go (T1.setTop (mkF m 4 #[.val (.ref a), .val (.int (12 : Int32)), .unset] [(.ref b)])) (fun t_ k_ => st1 _ k_) ?_
  obtain ⟨cl2, Ar2, q2, Sz2, Nz2, Hz2, Gz2⟩ := id (Ab)
  refine own_go (T1.setTop (mkF m 5 #[.val (.ref a), .val (.int (12 : Int32)), .unset] [(.int (16 : Int32))])) (fun t_ k_ => X1.arraylength hx (by rw [e1]; exact Ar2.1) (State.isArrayOf_alike hZ.alike Ar2.2.1) (g := (mkF m 4 #[.val (.ref a), .val (.int (12 : Int32)), .unset] [(.ref b)])) rfl rfl (hb hby own_d_jdk_68_method_9_4) _ (by rw [len_of Sz2 Nz2]; exact k_)) ?_
  refine own_go (T1.setTop (mkF m 6 #[.val (.ref a), .val (.int (12 : Int32)), .unset] [(.ref a), (.int (16 : Int32))])) (fun t_ k_ => XS.aloadN X1.here hx rfl (hb hby own_d_jdk_68_method_9_5) rfl rfl k_) ?_
  obtain ⟨T3, X3, e3, st3⟩ := getF X1 hx hZ hown (host := "") (Or.inl (hw _ (List.mem_of_getElem? (i := 24) rfl))) Via.refl e1 Ca (g := (mkF m 6 #[.val (.ref a), .val (.int (12 : Int32)), .unset] [(.ref a), (.int (16 : Int32))])) rfl rfl (hb hby own_d_jdk_68_method_9_6)
  refine own_go (T3.setTop (mkF m 9 #[.val (.ref a), .val (.int (12 : Int32)), .unset] [(.int (0 : Int32)), (.int (16 : Int32))])) (fun t_ k_ => st3 _ k_) ?_
  refine own_go (T3.setTop (mkF m 10 #[.val (.ref a), .val (.int (12 : Int32)), .unset] [(.int ((16 : Int32) >>> ((0 : Int32) &&& 31)))])) (fun t_ k_ => XS.ishr X3.here hx rfl (hb hby own_d_jdk_68_method_9_9) rfl k_) ?_
  rw [show ((16 : Int32) >>> ((0 : Int32) &&& 31)) = (16 : Int32) from by decide]
  refine own_go (T3.setTop (mkF m 11 #[.val (.ref a), .val (.int (12 : Int32)), .val (.int (16 : Int32))] [])) (fun t_ k_ => XS.istoreN X3.here hx rfl (hb hby own_d_jdk_68_method_9_10) rfl (l' := #[.val (.ref a), .val (.int (12 : Int32)), .val (.int (16 : Int32))]) rfl k_) ?_
  refine own_go (T3.setTop (mkF m 12 #[.val (.ref a), .val (.int (12 : Int32)), .val (.int (16 : Int32))] [(.int (12 : Int32))])) (fun t_ k_ => XS.iloadN X3.here hx rfl (hb hby own_d_jdk_68_method_9_11) rfl k_) ?_
  refine own_go (T3.setTop (mkF m 13 #[.val (.ref a), .val (.int (12 : Int32)), .val (.int (16 : Int32))] [(.int (16 : Int32)), (.int (12 : Int32))])) (fun t_ k_ => XS.iloadN X3.here hx rfl (hb hby own_d_jdk_68_method_9_12) rfl k_) ?_
  refine own_go (T3.setTop (mkF m 14 #[.val (.ref a), .val (.int (12 : Int32)), .val (.int (16 : Int32))] [(.int ((12 : Int32) - (16 : Int32)))])) (fun t_ k_ => XS.isub X3.here hx rfl (hb hby own_d_jdk_68_method_9_13) rfl k_) ?_
  rw [show ((12 : Int32) - (16 : Int32)) = (-4 : Int32) from by decide]
  refine own_go (T3.setTop (mkF m 38 #[.val (.ref a), .val (.int (12 : Int32)), .val (.int (16 : Int32))] [])) (fun t_ k_ => XS.ifYes X3.here hx rfl (pc0 := 14) (pc' := 38) rfl (hb hby own_d_jdk_68_method_9_14) rfl ((if0 _ _).trans (flt (by decide : ¬ ((0 : Int32) < (-4 : Int32)))).2.2.2) (by decide) (by decide) k_) ?_
  obtain ⟨fs, hr, hrun, hended, hW, hsame⟩ := X3.leave (v := none) (fun _ => rfl)
  refine ⟨_, _, X3.returnOut hx Bd.returns (hb hby own_d_jdk_68_method_9_38) hr, hrun, hended, _, _, rfl, ?_, ⟨_, rfl⟩, hW, hsame.mono (by decide) (by decide)⟩
  show Q_en3 Z a b kv h0 _ T3.heap _
  exact ⟨rfl, N0, e3⟩
theorem own_ef_gb3 (m : MethodId) (o : Addr) (b : Addr) : entryFrame m #[(.ref o), (.ref b), (.int (8 : Int32)), (.int (0 : Int32))] 4 = mkF m 0 #[.val (.ref o), .val (.ref b), .val (.int (8 : Int32)), .val (.int (0 : Int32))] [] := by first | (simp [entryFrame, mkF, argsToLocals, Value.category]; done) | rfl
def Q_gb3 (Z : State) (o : Addr) (t1 : Addr) (kb : ClassId) (b : Addr) (kv : ClassId) (a__VALUES : Addr) (a_OUT : Addr) (a_INP : Addr) (a_TAKE_COMPLETE : Addr) (a_OUT_text : Addr) (a_INP_text : Addr) (a_TAKE_COMPLETE_text : Addr) (a_OUT_text_value : Addr) (a_INP_text_value : Addr) (a_TAKE_COMPLETE_text_value : Addr) (k__VALUES : ClassId) (k_OUT_text_value : ClassId) (k_INP_text_value : ClassId) (k_TAKE_COMPLETE_text_value : ClassId) (cs0 : Int32) (h0 : Heap) (v_ : Option Value) (h : Heap) (L_ : List Loc) : Prop := v_ = none ∧ Fr Z.heap.size L_ ∧ (Keep h0 h [b] ∧ Arv Z h b kv .byte 16 [(.int (111 : Int32)), (.int (117 : Int32)), (.int (116 : Int32)), (.int (44 : Int32)), (.int (32 : Int32)), (.int (105 : Int32)), (.int (110 : Int32)), (.int (112 : Int32)), (.int (32 : Int32)), (.int (111 : Int32)), (.int (114 : Int32)), (.int (32 : Int32))] (.int 0))
set_option maxRecDepth 65536 in
set_option maxHeartbeats 40000000 in
theorem rm_gb3 (l : Launch) (Z : State) (a0 : Array Value) (hw : ∀ d ∈ tables_1, d.before a0 Z = true) (ws : List Jvm.Cond) (o : Addr) (t1 : Addr) (kb : ClassId) (b : Addr) (kv : ClassId) (a__VALUES : Addr) (a_OUT : Addr) (a_INP : Addr) (a_TAKE_COMPLETE : Addr) (a_OUT_text : Addr) (a_INP_text : Addr) (a_TAKE_COMPLETE_text : Addr) (a_OUT_text_value : Addr) (a_INP_text_value : Addr) (a_TAKE_COMPLETE_text_value : Addr) (k__VALUES : ClassId) (k_OUT_text_value : ClassId) (k_INP_text_value : ClassId) (k_TAKE_COMPLETE_text_value : ClassId) (cs0 : Int32) (h0 : Heap) (O : Ext Z.heap h0) (w : own_W Z a__VALUES a_OUT a_INP a_TAKE_COMPLETE a_OUT_text a_INP_text a_TAKE_COMPLETE_text a_OUT_text_value a_INP_text_value a_TAKE_COMPLETE_text_value k__VALUES k_OUT_text_value k_INP_text_value k_TAKE_COMPLETE_text_value cs0) (Xo : Exa Z h0 o "java/lang/String") (Vo : Fld Z h0 o "java/lang/String" "value" "[B" (.ref t1)) (Co : Fld Z h0 o "java/lang/String" "coder" "B" (.int 0)) (Ao : Arv Z h0 t1 kb .byte 4 [(.int (32 : Int32)), (.int (111 : Int32)), (.int (114 : Int32)), (.int (32 : Int32))] (.int 0)) (Ab : Arv Z h0 b kv .byte 16 [(.int (111 : Int32)), (.int (117 : Int32)), (.int (116 : Int32)), (.int (44 : Int32)), (.int (32 : Int32)), (.int (105 : Int32)), (.int (110 : Int32)), (.int (112 : Int32))] (.int 0)) (gb : Z.heap.size ≤ b) :
    MetFree l (⟨"java/lang/String", "getBytes", "([BIB)V"⟩ : MethodName) (head1 (Jvm.Cond.code (⟨"java/lang/String", "getBytes", "([BIB)V"⟩ : MethodName) jdk_42_method_147_code 4 none :: ws) ({ frames := 1, cells := 0, slots := 0, locals := 40 } : Room)) (fun a_ U_ => a_ = #[(.ref o), (.ref b), (.int (8 : Int32)), (.int (0 : Int32))] ∧ Z.Warmed39 U_.vm ∧ U_.heap = h0) (fun _ _ _ _ _ => True) (fun _ U_ o_ U2_ => ∃ v_ L_, o_ = .returned v_ ∧ Q_gb3 Z o t1 kb b kv a__VALUES a_OUT a_INP a_TAKE_COMPLETE a_OUT_text a_INP_text a_TAKE_COMPLETE_text a_OUT_text_value a_INP_text_value a_TAKE_COMPLETE_text_value k__VALUES k_OUT_text_value k_INP_text_value k_TAKE_COMPLETE_text_value cs0 h0 v_ U2_.heap L_ ∧ FrameEnd U_ o_ U2_ L_ ({ frames := 1, cells := 0, slots := 0, locals := 40 } : Room).cells ({ frames := 1, cells := 0, slots := 0, locals := 40 } : Room).slots) := by
  refine MetFree.of_bodySF (plainFor_of_name own_pn0) hisR ?_
  intro p e s m args below meth c s₁ Bd hml0 hP hK
  obtain ⟨rfl, hZ, hh⟩ := hP
  have hx := Bd.exec
  have hby := Bd.bytes
  have hml : c.maxLocals = 4 := hml0
  have hown : s.vm.findClass "java/lang/String" = some m.cls := findClass_of_methodNamed Bd.named
  have hnm := (name_of_methodNamed Bd.named Bd.method).1
  have X0 : Stand p l e ({ frames := 1, cells := 0, slots := 0, locals := 40 } : Room) s m #[(.ref o), (.ref b), (.int (8 : Int32)), (.int (0 : Int32))] below meth c s₁ [] 0 0 := Stand.of_body Bd
  have e0 : s₁.heap = h0 := by rw [← hh, Bd.state]; rfl
  have N0 := Fr.nil Z.heap.size
  show own_G p e below (fun o_ s₂ => ∃ v_ L_, o_ = .returned v_ ∧ Q_gb3 Z o t1 kb b kv a__VALUES a_OUT a_INP a_TAKE_COMPLETE a_OUT_text a_INP_text a_TAKE_COMPLETE_text a_OUT_text_value a_INP_text_value a_TAKE_COMPLETE_text_value k__VALUES k_OUT_text_value k_INP_text_value k_TAKE_COMPLETE_text_value cs0 h0 v_ s₂.heap L_ ∧ FrameEnd s o_ s₂ L_ ({ frames := 1, cells := 0, slots := 0, locals := 40 } : Room).cells ({ frames := 1, cells := 0, slots := 0, locals := 40 } : Room).slots) (s₁.setTop (entryFrame m #[(.ref o), (.ref b), (.int (8 : Int32)), (.int (0 : Int32))] 4))
  refine own_go (s₁.setTop (mkF m 0 #[.val (.ref o), .val (.ref b), .val (.int (8 : Int32)), .val (.int (0 : Int32))] [])) (fun t_ k_ => castTop (own_ef_gb3 m o b) k_) ?_
  have w' := w
  obtain ⟨S__VALUES, X__VALUES, S_OUT, X_OUT, S_INP, X_INP, S_TAKE_COMPLETE, X_TAKE_COMPLETE, F_OUT_text, X_OUT_text, F_INP_text, X_INP_text, F_TAKE_COMPLETE_text, X_TAKE_COMPLETE_text, F_OUT_text_value, X_OUT_text_value, F_INP_text_value, X_INP_text_value, F_TAKE_COMPLETE_text_value, X_TAKE_COMPLETE_text_value, F_OUT_text_coder, F_INP_text_coder, F_TAKE_COMPLETE_text_coder, V__VALUES, V_OUT_text_value, V_INP_text_value, V_TAKE_COMPLETE_text_value, S_CS, n_CS⟩ := w'
  refine own_go (s₁.setTop (mkF m 1 #[.val (.ref o), .val (.ref b), .val (.int (8 : Int32)), .val (.int (0 : Int32))] [(.ref o)])) (fun t_ k_ => XS.aloadN X0.here hx rfl (hb hby own_d_jdk_42_method_147_0) rfl rfl k_) ?_
  obtain ⟨cq1, kq1, q1a, q1b, q1c⟩ := isOf hZ e0 Xo
  obtain ⟨_, _, ⟨T1, Lu1, ku1, nu1⟩, -, X1, ⟨Lc1, hQ1, lu1, yu1, zu1⟩, st1⟩ := X0.virtualBack hx (y := (⟨"java/lang/String", "coder", "()B"⟩ : MethodName)) (z := (⟨"java/lang/String", "coder", "()B"⟩ : MethodName)) hown (mvT hZ (hw _ (List.mem_of_getElem? (i := 63) rfl))) (mvT hZ (hw _ (List.mem_of_getElem? (i := 64) rfl))) (notFace_of_selects (args := #[]) (mvT hZ (hw _ (List.mem_of_getElem? (i := 66) rfl)))) (mvT hZ (hw _ (List.mem_of_getElem? (i := 66) rfl))) (mvT hZ (hw _ (List.mem_of_getElem? (i := 65) rfl))) (by decide) (backOf (W := 0) (rm_cdr l Z a0 hw [] (o) (a__VALUES) (a_OUT) (a_INP) (a_TAKE_COMPLETE) (a_OUT_text) (a_INP_text) (a_TAKE_COMPLETE_text) (a_OUT_text_value) (a_INP_text_value) (a_TAKE_COMPLETE_text_value) (k__VALUES) (k_OUT_text_value) (k_INP_text_value) (k_TAKE_COMPLETE_text_value) (cs0) h0 O w Co) hZ (hw _ (List.mem_of_getElem? (i := 67) rfl)) (hw _ (List.mem_of_getElem? (i := 20) rfl)) (by decide) (by decide)) q1a q1c (g := (mkF m 1 #[.val (.ref o), .val (.ref b), .val (.int (8 : Int32)), .val (.int (0 : Int32))] [(.ref o)])) rfl (by rw [hml]; rfl) (Steps.refl _) (argsL := []) (rest := []) (lenOf own_pd3 rfl) rfl (by show 2 * 0 + _ ≤ _; exact Nat.le_of_eq rfl) (hb hby own_d_jdk_42_method_147_1) (fun _ _ => ⟨rfl, e0, (by decide : 0 + 0 ≤ _), (by decide : 0 + 0 ≤ _)⟩)
  dsimp only [Pt.U, Pt.locs, Pt.cells, Pt.slots] at X1 lu1 yu1 zu1 st1 hQ1
  subst lu1 yu1 zu1
  obtain ⟨rfl, N1q, e1⟩ := hQ1
  have N1 := Fr.app N0 N1q
  refine own_go (T1.setTop (mkF m 4 #[.val (.ref o), .val (.ref b), .val (.int (8 : Int32)), .val (.int (0 : Int32))] [(.int (0 : Int32))])) (fun t_ k_ => st1.trans k_) ?_
  refine own_go (T1.setTop (mkF m 5 #[.val (.ref o), .val (.ref b), .val (.int (8 : Int32)), .val (.int (0 : Int32))] [(.int (0 : Int32)), (.int (0 : Int32))])) (fun t_ k_ => XS.iloadN X1.here hx rfl (hb hby own_d_jdk_42_method_147_4) rfl k_) ?_
  refine own_go (T1.setTop (mkF m 8 #[.val (.ref o), .val (.ref b), .val (.int (8 : Int32)), .val (.int (0 : Int32))] [])) (fun t_ k_ => XS.icmpNo X1.here hx rfl (hb hby own_d_jdk_42_method_147_5) rfl (teq (by decide : (0 : Int32) = (0 : Int32))).2 k_) ?_
  refine own_go (T1.setTop (mkF m 9 #[.val (.ref o), .val (.ref b), .val (.int (8 : Int32)), .val (.int (0 : Int32))] [(.ref o)])) (fun t_ k_ => XS.aloadN X1.here hx rfl (hb hby own_d_jdk_42_method_147_8) rfl rfl k_) ?_
  obtain ⟨T2, X2, e2, st2⟩ := getF X1 hx hZ hown (host := "") (Or.inl (hw _ (List.mem_of_getElem? (i := 61) rfl))) Via.refl e1 Vo (g := (mkF m 9 #[.val (.ref o), .val (.ref b), .val (.int (8 : Int32)), .val (.int (0 : Int32))] [(.ref o)])) rfl rfl (hb hby own_d_jdk_42_method_147_9)
  refine own_go (T2.setTop (mkF m 12 #[.val (.ref o), .val (.ref b), .val (.int (8 : Int32)), .val (.int (0 : Int32))] [(.ref t1)])) (fun t_ k_ => st2 _ k_) ?_
  refine own_go (T2.setTop (mkF m 13 #[.val (.ref o), .val (.ref b), .val (.int (8 : Int32)), .val (.int (0 : Int32))] [(.int (0 : Int32)), (.ref t1)])) (fun t_ k_ => XS.iconst X2.here hx rfl (hb hby own_d_jdk_42_method_147_12) k_) ?_
  refine own_go (T2.setTop (mkF m 14 #[.val (.ref o), .val (.ref b), .val (.int (8 : Int32)), .val (.int (0 : Int32))] [(.ref b), (.int (0 : Int32)), (.ref t1)])) (fun t_ k_ => XS.aloadN X2.here hx rfl (hb hby own_d_jdk_42_method_147_13) rfl rfl k_) ?_
  refine own_go (T2.setTop (mkF m 15 #[.val (.ref o), .val (.ref b), .val (.int (8 : Int32)), .val (.int (0 : Int32))] [(.int (8 : Int32)), (.ref b), (.int (0 : Int32)), (.ref t1)])) (fun t_ k_ => XS.iloadN X2.here hx rfl (hb hby own_d_jdk_42_method_147_14) rfl k_) ?_
  refine own_go (T2.setTop (mkF m 16 #[.val (.ref o), .val (.ref b), .val (.int (8 : Int32)), .val (.int (0 : Int32))] [(.int (0 : Int32)), (.int (8 : Int32)), (.ref b), (.int (0 : Int32)), (.ref t1)])) (fun t_ k_ => XS.iloadN X2.here hx rfl (hb hby own_d_jdk_42_method_147_15) rfl k_) ?_
  refine own_go (T2.setTop (mkF m 17 #[.val (.ref o), .val (.ref b), .val (.int (8 : Int32)), .val (.int (0 : Int32))] [(.int ((8 : Int32) <<< ((0 : Int32) &&& 31))), (.ref b), (.int (0 : Int32)), (.ref t1)])) (fun t_ k_ => XS.ishl X2.here hx rfl (hb hby own_d_jdk_42_method_147_16) rfl k_) ?_
  rw [show ((8 : Int32) <<< ((0 : Int32) &&& 31)) = (8 : Int32) from by decide]
  refine own_go (T2.setTop (mkF m 18 #[.val (.ref o), .val (.ref b), .val (.int (8 : Int32)), .val (.int (0 : Int32))] [(.ref o), (.int (8 : Int32)), (.ref b), (.int (0 : Int32)), (.ref t1)])) (fun t_ k_ => XS.aloadN X2.here hx rfl (hb hby own_d_jdk_42_method_147_17) rfl rfl k_) ?_
  obtain ⟨T3, X3, e3, st3⟩ := getF X2 hx hZ hown (host := "") (Or.inl (hw _ (List.mem_of_getElem? (i := 61) rfl))) Via.refl e2 Vo (g := (mkF m 18 #[.val (.ref o), .val (.ref b), .val (.int (8 : Int32)), .val (.int (0 : Int32))] [(.ref o), (.int (8 : Int32)), (.ref b), (.int (0 : Int32)), (.ref t1)])) rfl rfl (hb hby own_d_jdk_42_method_147_18)
  refine own_go (T3.setTop (mkF m 21 #[.val (.ref o), .val (.ref b), .val (.int (8 : Int32)), .val (.int (0 : Int32))] [(.ref t1), (.int (8 : Int32)), (.ref b), (.int (0 : Int32)), (.ref t1)])) (fun t_ k_ => st3 _ k_) ?_
  obtain ⟨cl4, Ar4, q4, Sz4, Nz4, Hz4, Gz4⟩ := id (Ao)
  refine own_go (T3.setTop (mkF m 22 #[.val (.ref o), .val (.ref b), .val (.int (8 : Int32)), .val (.int (0 : Int32))] [(.int (4 : Int32)), (.int (8 : Int32)), (.ref b), (.int (0 : Int32)), (.ref t1)])) (fun t_ k_ => X3.arraylength hx (by rw [e3]; exact Ar4.1) (State.isArrayOf_alike hZ.alike Ar4.2.1) (g := (mkF m 21 #[.val (.ref o), .val (.ref b), .val (.int (8 : Int32)), .val (.int (0 : Int32))] [(.ref t1), (.int (8 : Int32)), (.ref b), (.int (0 : Int32)), (.ref t1)])) rfl rfl (hb hby own_d_jdk_42_method_147_21) _ (by rw [len_of Sz4 Nz4]; exact k_)) ?_
  have Vp5 : Arv Z h0 b kv .byte (16 : Int32) [(.int (111 : Int32)), (.int (117 : Int32)), (.int (116 : Int32)), (.int (44 : Int32)), (.int (32 : Int32)), (.int (105 : Int32)), (.int (110 : Int32)), (.int (112 : Int32)), (.int (0 : Int32)), (.int (0 : Int32)), (.int (0 : Int32)), (.int (0 : Int32))] (.int (0 : Int32)) := (Ab).pad (pad_rep [(.int (111 : Int32)), (.int (117 : Int32)), (.int (116 : Int32)), (.int (44 : Int32)), (.int (32 : Int32)), (.int (105 : Int32)), (.int (110 : Int32)), (.int (112 : Int32))] (.int (0 : Int32)) 4)
  obtain ⟨T5, h5, L5, X5, e5, N5, Kc5, A5, st5⟩ := cpA X3 hx hZ hown (hw _ (List.mem_of_getElem? (i := 94) rfl)) (hw _ (List.mem_of_getElem? (i := 97) rfl)) (hw _ (List.mem_of_getElem? (i := 95) rfl)) (hw _ (List.mem_of_getElem? (i := 96) rfl)) e3 (us := [(.int (32 : Int32)), (.int (111 : Int32)), (.int (114 : Int32)), (.int (32 : Int32))]) Ao Vp5 (Or.inl ⟨rfl, rfl⟩) (by decide) (by decide) (by decide) (by decide) (by decide) rfl (Nat.le_of_ble_eq_true rfl) N1 gb (g := (mkF m 22 #[.val (.ref o), .val (.ref b), .val (.int (8 : Int32)), .val (.int (0 : Int32))] [(.int (4 : Int32)), (.int (8 : Int32)), (.ref b), (.int (0 : Int32)), (.ref t1)])) rfl (by rw [hml]; rfl) rfl (hb hby own_d_jdk_42_method_147_22) (by decide) (W := 0) (by show 2 * 0 + _ ≤ _; exact Nat.le_of_eq rfl) (by decide)
  have V5 : Arv Z h5 b kv .byte (16 : Int32) [(.int (111 : Int32)), (.int (117 : Int32)), (.int (116 : Int32)), (.int (44 : Int32)), (.int (32 : Int32)), (.int (105 : Int32)), (.int (110 : Int32)), (.int (112 : Int32)), (.int (32 : Int32)), (.int (111 : Int32)), (.int (114 : Int32)), (.int (32 : Int32))] (.int (0 : Int32)) := A5
  have O5 := own_extK O Kc5 (allS gb all0)
  have KK5 : Keep h0 h5 [b] := (Keep.refl h0 [b]).trans Kc5 (allS (Or.inl (List.mem_of_getElem? (i := 0) rfl)) all0)
  refine own_go (T5.setTop (mkF m 25 #[.val (.ref o), .val (.ref b), .val (.int (8 : Int32)), .val (.int (0 : Int32))] [])) (fun t_ k_ => st5 _ k_) ?_
  refine own_go (T5.setTop (mkF m 43 #[.val (.ref o), .val (.ref b), .val (.int (8 : Int32)), .val (.int (0 : Int32))] [])) (fun t_ k_ => XS.goto X5.here hx rfl (pc0 := 25) (pc' := 43) rfl (hb hby own_d_jdk_42_method_147_25) (by decide) (by decide) k_) ?_
  obtain ⟨fs, hr, hrun, hended, hW, hsame⟩ := X5.leave (v := none) (fun _ => rfl)
  refine ⟨_, _, X5.returnOut hx Bd.returns (hb hby own_d_jdk_42_method_147_43) hr, hrun, hended, _, _, rfl, ?_, ⟨_, rfl⟩, hW, hsame.mono (by decide) (by decide)⟩
  show Q_gb3 Z o t1 kb b kv a__VALUES a_OUT a_INP a_TAKE_COMPLETE a_OUT_text a_INP_text a_TAKE_COMPLETE_text a_OUT_text_value a_INP_text_value a_TAKE_COMPLETE_text_value k__VALUES k_OUT_text_value k_INP_text_value k_TAKE_COMPLETE_text_value cs0 h0 _ T5.heap _
  show Q_gb3 Z o t1 kb b kv a__VALUES a_OUT a_INP a_TAKE_COMPLETE a_OUT_text a_INP_text a_TAKE_COMPLETE_text a_OUT_text_value a_INP_text_value a_TAKE_COMPLETE_text_value k__VALUES k_OUT_text_value k_INP_text_value k_TAKE_COMPLETE_text_value cs0 h0 _ T5.heap _
  rw [show T5.heap = h5 from e5]
  exact ⟨rfl, N5, KK5, V5⟩
theorem own_ef_inf3 (m : MethodId) (a : Addr) (o : Addr) : entryFrame m #[(.ref a), (.ref o)] 2 = mkF m 0 #[.val (.ref a), .val (.ref o)] [] := by first | (simp [entryFrame, mkF, argsToLocals, Value.category]; done) | rfl
def Q_inf3 (Z : State) (a : Addr) (o : Addr) (a__VALUES : Addr) (a_OUT : Addr) (a_INP : Addr) (a_TAKE_COMPLETE : Addr) (a_OUT_text : Addr) (a_INP_text : Addr) (a_TAKE_COMPLETE_text : Addr) (a_OUT_text_value : Addr) (a_INP_text_value : Addr) (a_TAKE_COMPLETE_text_value : Addr) (k__VALUES : ClassId) (k_OUT_text_value : ClassId) (k_INP_text_value : ClassId) (k_TAKE_COMPLETE_text_value : ClassId) (cs0 : Int32) (h0 : Heap) (v_ : Option Value) (h : Heap) (L_ : List Loc) : Prop := v_ = none ∧ Fr Z.heap.size L_ ∧ (h = h0)
set_option maxRecDepth 65536 in
set_option maxHeartbeats 40000000 in
theorem rm_inf3 (l : Launch) (Z : State) (a0 : Array Value) (hw : ∀ d ∈ tables_1, d.before a0 Z = true) (ws : List Jvm.Cond) (a : Addr) (o : Addr) (a__VALUES : Addr) (a_OUT : Addr) (a_INP : Addr) (a_TAKE_COMPLETE : Addr) (a_OUT_text : Addr) (a_INP_text : Addr) (a_TAKE_COMPLETE_text : Addr) (a_OUT_text_value : Addr) (a_INP_text_value : Addr) (a_TAKE_COMPLETE_text_value : Addr) (k__VALUES : ClassId) (k_OUT_text_value : ClassId) (k_INP_text_value : ClassId) (k_TAKE_COMPLETE_text_value : ClassId) (cs0 : Int32) (h0 : Heap) (O : Ext Z.heap h0) (w : own_W Z a__VALUES a_OUT a_INP a_TAKE_COMPLETE a_OUT_text a_INP_text a_TAKE_COMPLETE_text a_OUT_text_value a_INP_text_value a_TAKE_COMPLETE_text_value k__VALUES k_OUT_text_value k_INP_text_value k_TAKE_COMPLETE_text_value cs0) (Ca : Fld Z h0 a "java/lang/AbstractStringBuilder" "coder" "B" (.int 0)) (Xo : Exa Z h0 o "java/lang/String") (Co : Fld Z h0 o "java/lang/String" "coder" "B" (.int 0)) :
    MetFree l (⟨"java/lang/AbstractStringBuilder", "inflateIfNeededFor", "(Ljava/lang/String;)V"⟩ : MethodName) (head1 (Jvm.Cond.code (⟨"java/lang/AbstractStringBuilder", "inflateIfNeededFor", "(Ljava/lang/String;)V"⟩ : MethodName) jdk_68_method_71_code 2 none :: ws) ({ frames := 1, cells := 0, slots := 0, locals := 13 } : Room)) (fun a_ U_ => a_ = #[(.ref a), (.ref o)] ∧ Z.Warmed39 U_.vm ∧ U_.heap = h0) (fun _ _ _ _ _ => True) (fun _ U_ o_ U2_ => ∃ v_ L_, o_ = .returned v_ ∧ Q_inf3 Z a o a__VALUES a_OUT a_INP a_TAKE_COMPLETE a_OUT_text a_INP_text a_TAKE_COMPLETE_text a_OUT_text_value a_INP_text_value a_TAKE_COMPLETE_text_value k__VALUES k_OUT_text_value k_INP_text_value k_TAKE_COMPLETE_text_value cs0 h0 v_ U2_.heap L_ ∧ FrameEnd U_ o_ U2_ L_ ({ frames := 1, cells := 0, slots := 0, locals := 13 } : Room).cells ({ frames := 1, cells := 0, slots := 0, locals := 13 } : Room).slots) := by
  refine MetFree.of_bodySF (plainFor_of_name own_pn1) hisR ?_
  intro p e s m args below meth c s₁ Bd hml0 hP hK
  obtain ⟨rfl, hZ, hh⟩ := hP
  have hx := Bd.exec
  have hby := Bd.bytes
  have hml : c.maxLocals = 2 := hml0
  have hown : s.vm.findClass "java/lang/AbstractStringBuilder" = some m.cls := findClass_of_methodNamed Bd.named
  have hnm := (name_of_methodNamed Bd.named Bd.method).1
  have X0 : Stand p l e ({ frames := 1, cells := 0, slots := 0, locals := 13 } : Room) s m #[(.ref a), (.ref o)] below meth c s₁ [] 0 0 := Stand.of_body Bd
  have e0 : s₁.heap = h0 := by rw [← hh, Bd.state]; rfl
  have N0 := Fr.nil Z.heap.size
  show own_G p e below (fun o_ s₂ => ∃ v_ L_, o_ = .returned v_ ∧ Q_inf3 Z a o a__VALUES a_OUT a_INP a_TAKE_COMPLETE a_OUT_text a_INP_text a_TAKE_COMPLETE_text a_OUT_text_value a_INP_text_value a_TAKE_COMPLETE_text_value k__VALUES k_OUT_text_value k_INP_text_value k_TAKE_COMPLETE_text_value cs0 h0 v_ s₂.heap L_ ∧ FrameEnd s o_ s₂ L_ ({ frames := 1, cells := 0, slots := 0, locals := 13 } : Room).cells ({ frames := 1, cells := 0, slots := 0, locals := 13 } : Room).slots) (s₁.setTop (entryFrame m #[(.ref a), (.ref o)] 2))
  refine own_go (s₁.setTop (mkF m 0 #[.val (.ref a), .val (.ref o)] [])) (fun t_ k_ => castTop (own_ef_inf3 m a o) k_) ?_
  have w' := w
  obtain ⟨S__VALUES, X__VALUES, S_OUT, X_OUT, S_INP, X_INP, S_TAKE_COMPLETE, X_TAKE_COMPLETE, F_OUT_text, X_OUT_text, F_INP_text, X_INP_text, F_TAKE_COMPLETE_text, X_TAKE_COMPLETE_text, F_OUT_text_value, X_OUT_text_value, F_INP_text_value, X_INP_text_value, F_TAKE_COMPLETE_text_value, X_TAKE_COMPLETE_text_value, F_OUT_text_coder, F_INP_text_coder, F_TAKE_COMPLETE_text_coder, V__VALUES, V_OUT_text_value, V_INP_text_value, V_TAKE_COMPLETE_text_value, S_CS, n_CS⟩ := w'
  obtain ⟨T1, X1, e1, st1⟩ := getS2 X0 hx hZ hown (host := "") (Or.inl (hw _ (List.mem_of_getElem? (i := 19) rfl))) Via.refl e0 (S_CS.ext O) (g := (mkF m 0 #[.val (.ref a), .val (.ref o)] [])) rfl (hb hby own_d_jdk_68_method_71_0)
  refine own_go (T1.setTop (mkF m 3 #[.val (.ref a), .val (.ref o)] [(.int cs0)])) (fun t_ k_ => st1 _ k_) ?_
  refine own_go (T1.setTop (mkF m 6 #[.val (.ref a), .val (.ref o)] [])) (fun t_ k_ => XS.ifNo X1.here hx rfl (hb hby own_d_jdk_68_method_71_3) rfl ((if0 _ _).trans (feq n_CS).1) k_) ?_
  refine own_go (T1.setTop (mkF m 7 #[.val (.ref a), .val (.ref o)] [(.ref a)])) (fun t_ k_ => XS.aloadN X1.here hx rfl (hb hby own_d_jdk_68_method_71_6) rfl rfl k_) ?_
  obtain ⟨T2, X2, e2, st2⟩ := getF X1 hx hZ hown (host := "") (Or.inl (hw _ (List.mem_of_getElem? (i := 24) rfl))) Via.refl e1 Ca (g := (mkF m 7 #[.val (.ref a), .val (.ref o)] [(.ref a)])) rfl rfl (hb hby own_d_jdk_68_method_71_7)
  refine own_go (T2.setTop (mkF m 10 #[.val (.ref a), .val (.ref o)] [(.int (0 : Int32))])) (fun t_ k_ => st2 _ k_) ?_
  refine own_go (T2.setTop (mkF m 11 #[.val (.ref a), .val (.ref o)] [(.ref o), (.int (0 : Int32))])) (fun t_ k_ => XS.aloadN X2.here hx rfl (hb hby own_d_jdk_68_method_71_10) rfl rfl k_) ?_
  obtain ⟨cq3, kq3, q3a, q3b, q3c⟩ := isOf hZ e2 Xo
  obtain ⟨_, _, ⟨T3, Lu3, ku3, nu3⟩, -, X3, ⟨Lc3, hQ3, lu3, yu3, zu3⟩, st3⟩ := X2.virtualBack hx (y := (⟨"java/lang/String", "coder", "()B"⟩ : MethodName)) (z := (⟨"java/lang/String", "coder", "()B"⟩ : MethodName)) hown (mvT hZ (hw _ (List.mem_of_getElem? (i := 88) rfl))) (mvT hZ (hw _ (List.mem_of_getElem? (i := 64) rfl))) (notFace_of_selects (args := #[]) (mvT hZ (hw _ (List.mem_of_getElem? (i := 66) rfl)))) (mvT hZ (hw _ (List.mem_of_getElem? (i := 66) rfl))) (mvT hZ (hw _ (List.mem_of_getElem? (i := 65) rfl))) (by decide) (backOf (W := 1) (rm_cdr l Z a0 hw [] (o) (a__VALUES) (a_OUT) (a_INP) (a_TAKE_COMPLETE) (a_OUT_text) (a_INP_text) (a_TAKE_COMPLETE_text) (a_OUT_text_value) (a_INP_text_value) (a_TAKE_COMPLETE_text_value) (k__VALUES) (k_OUT_text_value) (k_INP_text_value) (k_TAKE_COMPLETE_text_value) (cs0) h0 O w Co) hZ (hw _ (List.mem_of_getElem? (i := 67) rfl)) (hw _ (List.mem_of_getElem? (i := 20) rfl)) (by decide) (by decide)) q3a q3c (g := (mkF m 11 #[.val (.ref a), .val (.ref o)] [(.ref o), (.int (0 : Int32))])) rfl (by rw [hml]; rfl) (Steps.refl _) (argsL := []) (rest := [(.int (0 : Int32))]) (lenOf own_pd3 rfl) rfl (by show 2 * 0 + _ ≤ _; exact Nat.le_of_eq rfl) (hb hby own_d_jdk_68_method_71_11) (fun _ _ => ⟨rfl, e2, (by decide : 0 + 0 ≤ _), (by decide : 0 + 0 ≤ _)⟩)
  dsimp only [Pt.U, Pt.locs, Pt.cells, Pt.slots] at X3 lu3 yu3 zu3 st3 hQ3
  subst lu3 yu3 zu3
  obtain ⟨rfl, N3q, e3⟩ := hQ3
  have N3 := Fr.app N0 N3q
  refine own_go (T3.setTop (mkF m 14 #[.val (.ref a), .val (.ref o)] [(.int (0 : Int32)), (.int (0 : Int32))])) (fun t_ k_ => st3.trans k_) ?_
  refine own_go (T3.setTop (mkF m 21 #[.val (.ref a), .val (.ref o)] [])) (fun t_ k_ => XS.icmpYes X3.here hx rfl (pc0 := 14) (pc' := 21) rfl (hb hby own_d_jdk_68_method_71_14) rfl (teq (by decide : (0 : Int32) = (0 : Int32))).1 (by decide) (by decide) k_) ?_
  obtain ⟨fs, hr, hrun, hended, hW, hsame⟩ := X3.leave (v := none) (fun _ => rfl)
  refine ⟨_, _, X3.returnOut hx Bd.returns (hb hby own_d_jdk_68_method_71_21) hr, hrun, hended, _, _, rfl, ?_, ⟨_, rfl⟩, hW, hsame.mono (by decide) (by decide)⟩
  show Q_inf3 Z a o a__VALUES a_OUT a_INP a_TAKE_COMPLETE a_OUT_text a_INP_text a_TAKE_COMPLETE_text a_OUT_text_value a_INP_text_value a_TAKE_COMPLETE_text_value k__VALUES k_OUT_text_value k_INP_text_value k_TAKE_COMPLETE_text_value cs0 h0 _ T3.heap _
  exact ⟨rfl, N3, e3⟩
theorem own_ef_ps3 (m : MethodId) (a : Addr) (o : Addr) : entryFrame m #[(.ref a), (.int (8 : Int32)), (.ref o)] 3 = mkF m 0 #[.val (.ref a), .val (.int (8 : Int32)), .val (.ref o)] [] := by first | (simp [entryFrame, mkF, argsToLocals, Value.category]; done) | rfl
def Q_ps3 (Z : State) (a : Addr) (b : Addr) (kv : ClassId) (o : Addr) (t1 : Addr) (kb : ClassId) (a__VALUES : Addr) (a_OUT : Addr) (a_INP : Addr) (a_TAKE_COMPLETE : Addr) (a_OUT_text : Addr) (a_INP_text : Addr) (a_TAKE_COMPLETE_text : Addr) (a_OUT_text_value : Addr) (a_INP_text_value : Addr) (a_TAKE_COMPLETE_text_value : Addr) (k__VALUES : ClassId) (k_OUT_text_value : ClassId) (k_INP_text_value : ClassId) (k_TAKE_COMPLETE_text_value : ClassId) (cs0 : Int32) (h0 : Heap) (v_ : Option Value) (h : Heap) (L_ : List Loc) : Prop := v_ = none ∧ Fr Z.heap.size L_ ∧ (Keep h0 h [b] ∧ Arv Z h b kv .byte 16 [(.int (111 : Int32)), (.int (117 : Int32)), (.int (116 : Int32)), (.int (44 : Int32)), (.int (32 : Int32)), (.int (105 : Int32)), (.int (110 : Int32)), (.int (112 : Int32)), (.int (32 : Int32)), (.int (111 : Int32)), (.int (114 : Int32)), (.int (32 : Int32))] (.int 0))
set_option maxRecDepth 65536 in
set_option maxHeartbeats 40000000 in
theorem rm_ps3 (l : Launch) (Z : State) (a0 : Array Value) (hw : ∀ d ∈ tables_1, d.before a0 Z = true) (ws : List Jvm.Cond) (a : Addr) (b : Addr) (kv : ClassId) (o : Addr) (t1 : Addr) (kb : ClassId) (a__VALUES : Addr) (a_OUT : Addr) (a_INP : Addr) (a_TAKE_COMPLETE : Addr) (a_OUT_text : Addr) (a_INP_text : Addr) (a_TAKE_COMPLETE_text : Addr) (a_OUT_text_value : Addr) (a_INP_text_value : Addr) (a_TAKE_COMPLETE_text_value : Addr) (k__VALUES : ClassId) (k_OUT_text_value : ClassId) (k_INP_text_value : ClassId) (k_TAKE_COMPLETE_text_value : ClassId) (cs0 : Int32) (h0 : Heap) (O : Ext Z.heap h0) (w : own_W Z a__VALUES a_OUT a_INP a_TAKE_COMPLETE a_OUT_text a_INP_text a_TAKE_COMPLETE_text a_OUT_text_value a_INP_text_value a_TAKE_COMPLETE_text_value k__VALUES k_OUT_text_value k_INP_text_value k_TAKE_COMPLETE_text_value cs0) (Xa : Exa Z h0 a "java/lang/StringBuilder") (Va : Fld Z h0 a "java/lang/AbstractStringBuilder" "value" "[B" (.ref b)) (Ca : Fld Z h0 a "java/lang/AbstractStringBuilder" "coder" "B" (.int 0)) (Ab : Arv Z h0 b kv .byte 16 [(.int (111 : Int32)), (.int (117 : Int32)), (.int (116 : Int32)), (.int (44 : Int32)), (.int (32 : Int32)), (.int (105 : Int32)), (.int (110 : Int32)), (.int (112 : Int32))] (.int 0)) (gb : Z.heap.size ≤ b) (Xo : Exa Z h0 o "java/lang/String") (Vo : Fld Z h0 o "java/lang/String" "value" "[B" (.ref t1)) (Co : Fld Z h0 o "java/lang/String" "coder" "B" (.int 0)) (Ao : Arv Z h0 t1 kb .byte 4 [(.int (32 : Int32)), (.int (111 : Int32)), (.int (114 : Int32)), (.int (32 : Int32))] (.int 0)) :
    MetFree l (⟨"java/lang/AbstractStringBuilder", "putStringAt", "(ILjava/lang/String;)V"⟩ : MethodName) (head1 (Jvm.Cond.code (⟨"java/lang/AbstractStringBuilder", "putStringAt", "(ILjava/lang/String;)V"⟩ : MethodName) jdk_68_method_73_code 3 none :: ws) ({ frames := 2, cells := 0, slots := 0, locals := 55 } : Room)) (fun a_ U_ => a_ = #[(.ref a), (.int (8 : Int32)), (.ref o)] ∧ Z.Warmed39 U_.vm ∧ U_.heap = h0) (fun _ _ _ _ _ => True) (fun _ U_ o_ U2_ => ∃ v_ L_, o_ = .returned v_ ∧ Q_ps3 Z a b kv o t1 kb a__VALUES a_OUT a_INP a_TAKE_COMPLETE a_OUT_text a_INP_text a_TAKE_COMPLETE_text a_OUT_text_value a_INP_text_value a_TAKE_COMPLETE_text_value k__VALUES k_OUT_text_value k_INP_text_value k_TAKE_COMPLETE_text_value cs0 h0 v_ U2_.heap L_ ∧ FrameEnd U_ o_ U2_ L_ ({ frames := 2, cells := 0, slots := 0, locals := 55 } : Room).cells ({ frames := 2, cells := 0, slots := 0, locals := 55 } : Room).slots) := by
  refine MetFree.of_bodySF (plainFor_of_name own_pn1) hisR ?_
  intro p e s m args below meth c s₁ Bd hml0 hP hK
  obtain ⟨rfl, hZ, hh⟩ := hP
  have hx := Bd.exec
  have hby := Bd.bytes
  have hml : c.maxLocals = 3 := hml0
  have hown : s.vm.findClass "java/lang/AbstractStringBuilder" = some m.cls := findClass_of_methodNamed Bd.named
  have hnm := (name_of_methodNamed Bd.named Bd.method).1
  have X0 : Stand p l e ({ frames := 2, cells := 0, slots := 0, locals := 55 } : Room) s m #[(.ref a), (.int (8 : Int32)), (.ref o)] below meth c s₁ [] 0 0 := Stand.of_body Bd
  have e0 : s₁.heap = h0 := by rw [← hh, Bd.state]; rfl
  have N0 := Fr.nil Z.heap.size
  show own_G p e below (fun o_ s₂ => ∃ v_ L_, o_ = .returned v_ ∧ Q_ps3 Z a b kv o t1 kb a__VALUES a_OUT a_INP a_TAKE_COMPLETE a_OUT_text a_INP_text a_TAKE_COMPLETE_text a_OUT_text_value a_INP_text_value a_TAKE_COMPLETE_text_value k__VALUES k_OUT_text_value k_INP_text_value k_TAKE_COMPLETE_text_value cs0 h0 v_ s₂.heap L_ ∧ FrameEnd s o_ s₂ L_ ({ frames := 2, cells := 0, slots := 0, locals := 55 } : Room).cells ({ frames := 2, cells := 0, slots := 0, locals := 55 } : Room).slots) (s₁.setTop (entryFrame m #[(.ref a), (.int (8 : Int32)), (.ref o)] 3))
  refine own_go (s₁.setTop (mkF m 0 #[.val (.ref a), .val (.int (8 : Int32)), .val (.ref o)] [])) (fun t_ k_ => castTop (own_ef_ps3 m a o) k_) ?_
  have w' := w
  obtain ⟨S__VALUES, X__VALUES, S_OUT, X_OUT, S_INP, X_INP, S_TAKE_COMPLETE, X_TAKE_COMPLETE, F_OUT_text, X_OUT_text, F_INP_text, X_INP_text, F_TAKE_COMPLETE_text, X_TAKE_COMPLETE_text, F_OUT_text_value, X_OUT_text_value, F_INP_text_value, X_INP_text_value, F_TAKE_COMPLETE_text_value, X_TAKE_COMPLETE_text_value, F_OUT_text_coder, F_INP_text_coder, F_TAKE_COMPLETE_text_coder, V__VALUES, V_OUT_text_value, V_INP_text_value, V_TAKE_COMPLETE_text_value, S_CS, n_CS⟩ := w'
  refine own_go (s₁.setTop (mkF m 1 #[.val (.ref a), .val (.int (8 : Int32)), .val (.ref o)] [(.ref a)])) (fun t_ k_ => XS.aloadN X0.here hx rfl (hb hby own_d_jdk_68_method_73_0) rfl rfl k_) ?_
  refine own_go (s₁.setTop (mkF m 2 #[.val (.ref a), .val (.int (8 : Int32)), .val (.ref o)] [(.ref o), (.ref a)])) (fun t_ k_ => XS.aloadN X0.here hx rfl (hb hby own_d_jdk_68_method_73_1) rfl rfl k_) ?_
  obtain ⟨cq1, q1, q1'⟩ := (Xa).cell
  obtain ⟨_, _, ⟨T1, Lu1, ku1, nu1⟩, -, X1, ⟨Lc1, hQ1, lu1, yu1, zu1⟩, st1⟩ := X0.privateBack hx (y := (⟨"java/lang/AbstractStringBuilder", "inflateIfNeededFor", "(Ljava/lang/String;)V"⟩ : MethodName)) hown (mvT hZ (hw _ (List.mem_of_getElem? (i := 83) rfl))) (mvT hZ (hw _ (List.mem_of_getElem? (i := 84) rfl))) (own_selp (mvT hZ (hw _ (List.mem_of_getElem? (i := 76) rfl))) rfl (Cond.privateMethod_at (mvP hZ (hw _ (List.mem_of_getElem? (i := 85) rfl)) (args := #[]))) (mvT hZ (hw _ (List.mem_of_getElem? (i := 84) rfl))) (by decide)) (Cond.privateMethod_at (mvP hZ (hw _ (List.mem_of_getElem? (i := 85) rfl)) (args := #[]))) (mvT hZ (hw _ (List.mem_of_getElem? (i := 87) rfl))) (by decide) (backOf (W := 0) (rm_inf3 l Z a0 hw [] (a) (o) (a__VALUES) (a_OUT) (a_INP) (a_TAKE_COMPLETE) (a_OUT_text) (a_INP_text) (a_TAKE_COMPLETE_text) (a_OUT_text_value) (a_INP_text_value) (a_TAKE_COMPLETE_text_value) (k__VALUES) (k_OUT_text_value) (k_INP_text_value) (k_TAKE_COMPLETE_text_value) (cs0) h0 O w Ca Xo Co) hZ (hw _ (List.mem_of_getElem? (i := 87) rfl)) (hw _ (List.mem_of_getElem? (i := 14) rfl)) (by decide) (by decide)) (g := (mkF m 2 #[.val (.ref a), .val (.int (8 : Int32)), .val (.ref o)] [(.ref o), (.ref a)])) rfl (by rw [hml]; rfl) (Steps.refl _) (a := a) (by rw [e0]; exact q1) q1' (argsL := [(.ref o)]) (rest := []) (lenOf own_pd4 rfl) rfl (by show 2 * 0 + _ ≤ _; exact Nat.le_of_eq rfl) (hb hby own_d_jdk_68_method_73_2) (fun _ _ => ⟨rfl, e0, (by decide : 0 + 0 ≤ _), (by decide : 0 + 0 ≤ _)⟩)
  dsimp only [Pt.U, Pt.locs, Pt.cells, Pt.slots] at X1 lu1 yu1 zu1 st1 hQ1
  subst lu1 yu1 zu1
  obtain ⟨rfl, N1q, e1⟩ := hQ1
  have N1 := Fr.app N0 N1q
  refine own_go (T1.setTop (mkF m 5 #[.val (.ref a), .val (.int (8 : Int32)), .val (.ref o)] [])) (fun t_ k_ => st1.trans k_) ?_
  refine own_go (T1.setTop (mkF m 6 #[.val (.ref a), .val (.int (8 : Int32)), .val (.ref o)] [(.ref o)])) (fun t_ k_ => XS.aloadN X1.here hx rfl (hb hby own_d_jdk_68_method_73_5) rfl rfl k_) ?_
  refine own_go (T1.setTop (mkF m 7 #[.val (.ref a), .val (.int (8 : Int32)), .val (.ref o)] [(.ref a), (.ref o)])) (fun t_ k_ => XS.aloadN X1.here hx rfl (hb hby own_d_jdk_68_method_73_6) rfl rfl k_) ?_
  obtain ⟨T2, X2, e2, st2⟩ := getF X1 hx hZ hown (host := "") (Or.inl (hw _ (List.mem_of_getElem? (i := 22) rfl))) Via.refl e1 Va (g := (mkF m 7 #[.val (.ref a), .val (.int (8 : Int32)), .val (.ref o)] [(.ref a), (.ref o)])) rfl rfl (hb hby own_d_jdk_68_method_73_7)
  refine own_go (T2.setTop (mkF m 10 #[.val (.ref a), .val (.int (8 : Int32)), .val (.ref o)] [(.ref b), (.ref o)])) (fun t_ k_ => st2 _ k_) ?_
  refine own_go (T2.setTop (mkF m 11 #[.val (.ref a), .val (.int (8 : Int32)), .val (.ref o)] [(.int (8 : Int32)), (.ref b), (.ref o)])) (fun t_ k_ => XS.iloadN X2.here hx rfl (hb hby own_d_jdk_68_method_73_10) rfl k_) ?_
  refine own_go (T2.setTop (mkF m 12 #[.val (.ref a), .val (.int (8 : Int32)), .val (.ref o)] [(.ref a), (.int (8 : Int32)), (.ref b), (.ref o)])) (fun t_ k_ => XS.aloadN X2.here hx rfl (hb hby own_d_jdk_68_method_73_11) rfl rfl k_) ?_
  obtain ⟨T3, X3, e3, st3⟩ := getF X2 hx hZ hown (host := "") (Or.inl (hw _ (List.mem_of_getElem? (i := 24) rfl))) Via.refl e2 Ca (g := (mkF m 12 #[.val (.ref a), .val (.int (8 : Int32)), .val (.ref o)] [(.ref a), (.int (8 : Int32)), (.ref b), (.ref o)])) rfl rfl (hb hby own_d_jdk_68_method_73_12)
  refine own_go (T3.setTop (mkF m 15 #[.val (.ref a), .val (.int (8 : Int32)), .val (.ref o)] [(.int (0 : Int32)), (.int (8 : Int32)), (.ref b), (.ref o)])) (fun t_ k_ => st3 _ k_) ?_
  obtain ⟨cq4, kq4, q4a, q4b, q4c⟩ := isOf hZ e3 Xo
  obtain ⟨_, _, ⟨T4, Lu4, ku4, nu4⟩, -, X4, ⟨Lc4, hQ4, lu4, yu4, zu4⟩, st4⟩ := X3.virtualBack hx (y := (⟨"java/lang/String", "getBytes", "([BIB)V"⟩ : MethodName)) (z := (⟨"java/lang/String", "getBytes", "([BIB)V"⟩ : MethodName)) hown (mvT hZ (hw _ (List.mem_of_getElem? (i := 89) rfl))) (mvT hZ (hw _ (List.mem_of_getElem? (i := 90) rfl))) (notFace_of_selects (args := #[]) (mvT hZ (hw _ (List.mem_of_getElem? (i := 92) rfl)))) (mvT hZ (hw _ (List.mem_of_getElem? (i := 92) rfl))) (mvT hZ (hw _ (List.mem_of_getElem? (i := 91) rfl))) (by decide) (backOf (W := 0) (rm_gb3 l Z a0 hw [] (o) (t1) (kb) (b) (kv) (a__VALUES) (a_OUT) (a_INP) (a_TAKE_COMPLETE) (a_OUT_text) (a_INP_text) (a_TAKE_COMPLETE_text) (a_OUT_text_value) (a_INP_text_value) (a_TAKE_COMPLETE_text_value) (k__VALUES) (k_OUT_text_value) (k_INP_text_value) (k_TAKE_COMPLETE_text_value) (cs0) h0 O w Xo Vo Co Ao Ab gb) hZ (hw _ (List.mem_of_getElem? (i := 93) rfl)) (hw _ (List.mem_of_getElem? (i := 20) rfl)) (by decide) (by decide)) q4a q4c (g := (mkF m 15 #[.val (.ref a), .val (.int (8 : Int32)), .val (.ref o)] [(.int (0 : Int32)), (.int (8 : Int32)), (.ref b), (.ref o)])) rfl (by rw [hml]; rfl) (Steps.refl _) (argsL := [(.ref b), (.int (8 : Int32)), (.int (0 : Int32))]) (rest := []) (lenOf own_pd5 rfl) rfl (by show 2 * 0 + _ ≤ _; exact Nat.le_of_eq rfl) (hb hby own_d_jdk_68_method_73_15) (fun _ _ => ⟨rfl, e3, (by decide : 0 + 0 ≤ _), (by decide : 0 + 0 ≤ _)⟩)
  dsimp only [Pt.U, Pt.locs, Pt.cells, Pt.slots] at X4 lu4 yu4 zu4 st4 hQ4
  subst lu4 yu4 zu4
  obtain ⟨rfl, N4q, K4q, V4q⟩ := hQ4
  have N4 := Fr.app N1 N4q
  have O4 := own_extK O K4q (allS gb all0)
  have KK4 : Keep h0 T4.heap [b] := (Keep.refl h0 [b]).trans K4q (allS (Or.inl (List.mem_of_getElem? (i := 0) rfl)) all0)
  refine own_go (T4.setTop (mkF m 18 #[.val (.ref a), .val (.int (8 : Int32)), .val (.ref o)] [])) (fun t_ k_ => st4.trans k_) ?_
  obtain ⟨fs, hr, hrun, hended, hW, hsame⟩ := X4.leave (v := none) (fun _ => rfl)
  refine ⟨_, _, X4.returnOut hx Bd.returns (hb hby own_d_jdk_68_method_73_18) hr, hrun, hended, _, _, rfl, ?_, ⟨_, rfl⟩, hW, hsame.mono (by decide) (by decide)⟩
  show Q_ps3 Z a b kv o t1 kb a__VALUES a_OUT a_INP a_TAKE_COMPLETE a_OUT_text a_INP_text a_TAKE_COMPLETE_text a_OUT_text_value a_INP_text_value a_TAKE_COMPLETE_text_value k__VALUES k_OUT_text_value k_INP_text_value k_TAKE_COMPLETE_text_value cs0 h0 _ T4.heap _
  exact ⟨rfl, N4, KK4, V4q⟩
theorem own_ef_ln3 (m : MethodId) (o : Addr) : entryFrame m #[(.ref o)] 1 = mkF m 0 #[.val (.ref o)] [] := by first | (simp [entryFrame, mkF, argsToLocals, Value.category]; done) | rfl
def Q_ln3 (Z : State) (o : Addr) (t1 : Addr) (kb : ClassId) (a__VALUES : Addr) (a_OUT : Addr) (a_INP : Addr) (a_TAKE_COMPLETE : Addr) (a_OUT_text : Addr) (a_INP_text : Addr) (a_TAKE_COMPLETE_text : Addr) (a_OUT_text_value : Addr) (a_INP_text_value : Addr) (a_TAKE_COMPLETE_text_value : Addr) (k__VALUES : ClassId) (k_OUT_text_value : ClassId) (k_INP_text_value : ClassId) (k_TAKE_COMPLETE_text_value : ClassId) (cs0 : Int32) (h0 : Heap) (v_ : Option Value) (h : Heap) (L_ : List Loc) : Prop := v_ = some (.int 4) ∧ Fr Z.heap.size L_ ∧ (h = h0)
set_option maxRecDepth 65536 in
set_option maxHeartbeats 40000000 in
theorem rm_ln3 (l : Launch) (Z : State) (a0 : Array Value) (hw : ∀ d ∈ tables_1, d.before a0 Z = true) (ws : List Jvm.Cond) (o : Addr) (t1 : Addr) (kb : ClassId) (a__VALUES : Addr) (a_OUT : Addr) (a_INP : Addr) (a_TAKE_COMPLETE : Addr) (a_OUT_text : Addr) (a_INP_text : Addr) (a_TAKE_COMPLETE_text : Addr) (a_OUT_text_value : Addr) (a_INP_text_value : Addr) (a_TAKE_COMPLETE_text_value : Addr) (k__VALUES : ClassId) (k_OUT_text_value : ClassId) (k_INP_text_value : ClassId) (k_TAKE_COMPLETE_text_value : ClassId) (cs0 : Int32) (h0 : Heap) (O : Ext Z.heap h0) (w : own_W Z a__VALUES a_OUT a_INP a_TAKE_COMPLETE a_OUT_text a_INP_text a_TAKE_COMPLETE_text a_OUT_text_value a_INP_text_value a_TAKE_COMPLETE_text_value k__VALUES k_OUT_text_value k_INP_text_value k_TAKE_COMPLETE_text_value cs0) (Xo : Exa Z h0 o "java/lang/String") (Vo : Fld Z h0 o "java/lang/String" "value" "[B" (.ref t1)) (Co : Fld Z h0 o "java/lang/String" "coder" "B" (.int 0)) (Ao : Arv Z h0 t1 kb .byte 4 [(.int (32 : Int32)), (.int (111 : Int32)), (.int (114 : Int32)), (.int (32 : Int32))] (.int 0)) :
    MetFree l (⟨"java/lang/String", "length", "()I"⟩ : MethodName) (head1 (Jvm.Cond.code (⟨"java/lang/String", "length", "()I"⟩ : MethodName) jdk_42_method_54_code 1 (some .int) :: ws) ({ frames := 1, cells := 0, slots := 0, locals := 13 } : Room)) (fun a_ U_ => a_ = #[(.ref o)] ∧ Z.Warmed39 U_.vm ∧ U_.heap = h0) (fun _ _ _ _ _ => True) (fun _ U_ o_ U2_ => ∃ v_ L_, o_ = .returned v_ ∧ Q_ln3 Z o t1 kb a__VALUES a_OUT a_INP a_TAKE_COMPLETE a_OUT_text a_INP_text a_TAKE_COMPLETE_text a_OUT_text_value a_INP_text_value a_TAKE_COMPLETE_text_value k__VALUES k_OUT_text_value k_INP_text_value k_TAKE_COMPLETE_text_value cs0 h0 v_ U2_.heap L_ ∧ FrameEnd U_ o_ U2_ L_ ({ frames := 1, cells := 0, slots := 0, locals := 13 } : Room).cells ({ frames := 1, cells := 0, slots := 0, locals := 13 } : Room).slots) := by
  refine MetFree.of_bodySF (plainFor_of_name own_pn0) hisR ?_
  intro p e s m args below meth c s₁ Bd hml0 hP hK
  obtain ⟨rfl, hZ, hh⟩ := hP
  have hx := Bd.exec
  have hby := Bd.bytes
  have hml : c.maxLocals = 1 := hml0
  have hown : s.vm.findClass "java/lang/String" = some m.cls := findClass_of_methodNamed Bd.named
  have hnm := (name_of_methodNamed Bd.named Bd.method).1
  have X0 : Stand p l e ({ frames := 1, cells := 0, slots := 0, locals := 13 } : Room) s m #[(.ref o)] below meth c s₁ [] 0 0 := Stand.of_body Bd
  have e0 : s₁.heap = h0 := by rw [← hh, Bd.state]; rfl
  have N0 := Fr.nil Z.heap.size
  show own_G p e below (fun o_ s₂ => ∃ v_ L_, o_ = .returned v_ ∧ Q_ln3 Z o t1 kb a__VALUES a_OUT a_INP a_TAKE_COMPLETE a_OUT_text a_INP_text a_TAKE_COMPLETE_text a_OUT_text_value a_INP_text_value a_TAKE_COMPLETE_text_value k__VALUES k_OUT_text_value k_INP_text_value k_TAKE_COMPLETE_text_value cs0 h0 v_ s₂.heap L_ ∧ FrameEnd s o_ s₂ L_ ({ frames := 1, cells := 0, slots := 0, locals := 13 } : Room).cells ({ frames := 1, cells := 0, slots := 0, locals := 13 } : Room).slots) (s₁.setTop (entryFrame m #[(.ref o)] 1))
  refine own_go (s₁.setTop (mkF m 0 #[.val (.ref o)] [])) (fun t_ k_ => castTop (own_ef_ln3 m o) k_) ?_
  have w' := w
  obtain ⟨S__VALUES, X__VALUES, S_OUT, X_OUT, S_INP, X_INP, S_TAKE_COMPLETE, X_TAKE_COMPLETE, F_OUT_text, X_OUT_text, F_INP_text, X_INP_text, F_TAKE_COMPLETE_text, X_TAKE_COMPLETE_text, F_OUT_text_value, X_OUT_text_value, F_INP_text_value, X_INP_text_value, F_TAKE_COMPLETE_text_value, X_TAKE_COMPLETE_text_value, F_OUT_text_coder, F_INP_text_coder, F_TAKE_COMPLETE_text_coder, V__VALUES, V_OUT_text_value, V_INP_text_value, V_TAKE_COMPLETE_text_value, S_CS, n_CS⟩ := w'
  refine own_go (s₁.setTop (mkF m 1 #[.val (.ref o)] [(.ref o)])) (fun t_ k_ => XS.aloadN X0.here hx rfl (hb hby own_d_jdk_42_method_54_0) rfl rfl k_) ?_
  obtain ⟨T1, X1, e1, st1⟩ := getF X0 hx hZ hown (host := "") (Or.inl (hw _ (List.mem_of_getElem? (i := 61) rfl))) Via.refl e0 Vo (g := (mkF m 1 #[.val (.ref o)] [(.ref o)])) rfl rfl (hb hby own_d_jdk_42_method_54_1)
  refine own_go (T1.setTop (mkF m 4 #[.val (.ref o)] [(.ref t1)])) (fun t_ k_ => st1 _ k_) ?_
  obtain ⟨cl2, Ar2, q2, Sz2, Nz2, Hz2, Gz2⟩ := id (Ao)
  refine own_go (T1.setTop (mkF m 5 #[.val (.ref o)] [(.int (4 : Int32))])) (fun t_ k_ => X1.arraylength hx (by rw [e1]; exact Ar2.1) (State.isArrayOf_alike hZ.alike Ar2.2.1) (g := (mkF m 4 #[.val (.ref o)] [(.ref t1)])) rfl rfl (hb hby own_d_jdk_42_method_54_4) _ (by rw [len_of Sz2 Nz2]; exact k_)) ?_
  refine own_go (T1.setTop (mkF m 6 #[.val (.ref o)] [(.ref o), (.int (4 : Int32))])) (fun t_ k_ => XS.aloadN X1.here hx rfl (hb hby own_d_jdk_42_method_54_5) rfl rfl k_) ?_
  obtain ⟨cq3, kq3, q3a, q3b, q3c⟩ := isOf hZ e1 Xo
  obtain ⟨_, _, ⟨T3, Lu3, ku3, nu3⟩, -, X3, ⟨Lc3, hQ3, lu3, yu3, zu3⟩, st3⟩ := X1.virtualBack hx (y := (⟨"java/lang/String", "coder", "()B"⟩ : MethodName)) (z := (⟨"java/lang/String", "coder", "()B"⟩ : MethodName)) hown (mvT hZ (hw _ (List.mem_of_getElem? (i := 63) rfl))) (mvT hZ (hw _ (List.mem_of_getElem? (i := 64) rfl))) (notFace_of_selects (args := #[]) (mvT hZ (hw _ (List.mem_of_getElem? (i := 66) rfl)))) (mvT hZ (hw _ (List.mem_of_getElem? (i := 66) rfl))) (mvT hZ (hw _ (List.mem_of_getElem? (i := 65) rfl))) (by decide) (backOf (W := 1) (rm_cdr l Z a0 hw [] (o) (a__VALUES) (a_OUT) (a_INP) (a_TAKE_COMPLETE) (a_OUT_text) (a_INP_text) (a_TAKE_COMPLETE_text) (a_OUT_text_value) (a_INP_text_value) (a_TAKE_COMPLETE_text_value) (k__VALUES) (k_OUT_text_value) (k_INP_text_value) (k_TAKE_COMPLETE_text_value) (cs0) h0 O w Co) hZ (hw _ (List.mem_of_getElem? (i := 67) rfl)) (hw _ (List.mem_of_getElem? (i := 20) rfl)) (by decide) (by decide)) q3a q3c (g := (mkF m 6 #[.val (.ref o)] [(.ref o), (.int (4 : Int32))])) rfl (by rw [hml]; rfl) (Steps.refl _) (argsL := []) (rest := [(.int (4 : Int32))]) (lenOf own_pd3 rfl) rfl (by show 2 * 0 + _ ≤ _; exact Nat.le_of_eq rfl) (hb hby own_d_jdk_42_method_54_6) (fun _ _ => ⟨rfl, e1, (by decide : 0 + 0 ≤ _), (by decide : 0 + 0 ≤ _)⟩)
  dsimp only [Pt.U, Pt.locs, Pt.cells, Pt.slots] at X3 lu3 yu3 zu3 st3 hQ3
  subst lu3 yu3 zu3
  obtain ⟨rfl, N3q, e3⟩ := hQ3
  have N3 := Fr.app N0 N3q
  refine own_go (T3.setTop (mkF m 9 #[.val (.ref o)] [(.int (0 : Int32)), (.int (4 : Int32))])) (fun t_ k_ => st3.trans k_) ?_
  refine own_go (T3.setTop (mkF m 10 #[.val (.ref o)] [(.int ((4 : Int32) >>> ((0 : Int32) &&& 31)))])) (fun t_ k_ => XS.ishr X3.here hx rfl (hb hby own_d_jdk_42_method_54_9) rfl k_) ?_
  rw [show ((4 : Int32) >>> ((0 : Int32) &&& 31)) = (4 : Int32) from by decide]
  obtain ⟨fs, hr, hrun, hended, hW, hsame⟩ := X3.leave (v := some (.int (4 : Int32))) (fun h => by rw [Bd.returns] at h; cases h)
  refine ⟨_, _, retI X3 hx Bd.returns (hb hby own_d_jdk_42_method_54_10) hr, hrun, hended, _, _, rfl, ?_, ⟨_, rfl⟩, hW, hsame.mono (by decide) (by decide)⟩
  show Q_ln3 Z o t1 kb a__VALUES a_OUT a_INP a_TAKE_COMPLETE a_OUT_text a_INP_text a_TAKE_COMPLETE_text a_OUT_text_value a_INP_text_value a_TAKE_COMPLETE_text_value k__VALUES k_OUT_text_value k_INP_text_value k_TAKE_COMPLETE_text_value cs0 h0 _ T3.heap _
  exact ⟨rfl, N3, e3⟩
theorem own_ef_aa3 (m : MethodId) (a : Addr) (o : Addr) : entryFrame m #[(.ref a), (.ref o)] 3 = mkF m 0 #[.val (.ref a), .val (.ref o), .unset] [] := by first | (simp [entryFrame, mkF, argsToLocals, Value.category]; done) | rfl
def Q_aa3 (Z : State) (a : Addr) (b : Addr) (kv : ClassId) (o : Addr) (t1 : Addr) (kb : ClassId) (a__VALUES : Addr) (a_OUT : Addr) (a_INP : Addr) (a_TAKE_COMPLETE : Addr) (a_OUT_text : Addr) (a_INP_text : Addr) (a_TAKE_COMPLETE_text : Addr) (a_OUT_text_value : Addr) (a_INP_text_value : Addr) (a_TAKE_COMPLETE_text_value : Addr) (k__VALUES : ClassId) (k_OUT_text_value : ClassId) (k_INP_text_value : ClassId) (k_TAKE_COMPLETE_text_value : ClassId) (cs0 : Int32) (h0 : Heap) (v_ : Option Value) (h : Heap) (L_ : List Loc) : Prop := ∃ (b2 : Addr), ∃ (k2 : ClassId), v_ = some (.ref a) ∧ Fr Z.heap.size L_ ∧ (Keep h0 h [a, b] ∧ Z.heap.size ≤ b2 ∧ b = b2 ∧ kv = k2 ∧ Exa Z h a "java/lang/StringBuilder" ∧ Fld Z h a "java/lang/AbstractStringBuilder" "value" "[B" (.ref b2) ∧ Fld Z h a "java/lang/AbstractStringBuilder" "coder" "B" (.int 0) ∧ Fld Z h a "java/lang/AbstractStringBuilder" "count" "I" (.int 12) ∧ Arv Z h b2 k2 .byte 16 [(.int (111 : Int32)), (.int (117 : Int32)), (.int (116 : Int32)), (.int (44 : Int32)), (.int (32 : Int32)), (.int (105 : Int32)), (.int (110 : Int32)), (.int (112 : Int32)), (.int (32 : Int32)), (.int (111 : Int32)), (.int (114 : Int32)), (.int (32 : Int32))] (.int 0))
set_option maxRecDepth 65536 in
set_option maxHeartbeats 40000000 in
theorem rm_aa3 (l : Launch) (Z : State) (a0 : Array Value) (hw : ∀ d ∈ tables_1, d.before a0 Z = true) (ws : List Jvm.Cond) (a : Addr) (b : Addr) (kv : ClassId) (o : Addr) (t1 : Addr) (kb : ClassId) (a__VALUES : Addr) (a_OUT : Addr) (a_INP : Addr) (a_TAKE_COMPLETE : Addr) (a_OUT_text : Addr) (a_INP_text : Addr) (a_TAKE_COMPLETE_text : Addr) (a_OUT_text_value : Addr) (a_INP_text_value : Addr) (a_TAKE_COMPLETE_text_value : Addr) (k__VALUES : ClassId) (k_OUT_text_value : ClassId) (k_INP_text_value : ClassId) (k_TAKE_COMPLETE_text_value : ClassId) (cs0 : Int32) (h0 : Heap) (O : Ext Z.heap h0) (w : own_W Z a__VALUES a_OUT a_INP a_TAKE_COMPLETE a_OUT_text a_INP_text a_TAKE_COMPLETE_text a_OUT_text_value a_INP_text_value a_TAKE_COMPLETE_text_value k__VALUES k_OUT_text_value k_INP_text_value k_TAKE_COMPLETE_text_value cs0) (Xa : Exa Z h0 a "java/lang/StringBuilder") (Va : Fld Z h0 a "java/lang/AbstractStringBuilder" "value" "[B" (.ref b)) (Ca : Fld Z h0 a "java/lang/AbstractStringBuilder" "coder" "B" (.int 0)) (Na : Fld Z h0 a "java/lang/AbstractStringBuilder" "count" "I" (.int 8)) (Ab : Arv Z h0 b kv .byte 16 [(.int (111 : Int32)), (.int (117 : Int32)), (.int (116 : Int32)), (.int (44 : Int32)), (.int (32 : Int32)), (.int (105 : Int32)), (.int (110 : Int32)), (.int (112 : Int32))] (.int 0)) (ga : Z.heap.size ≤ a) (gb : Z.heap.size ≤ b) (Xo : Exa Z h0 o "java/lang/String") (Vo : Fld Z h0 o "java/lang/String" "value" "[B" (.ref t1)) (Co : Fld Z h0 o "java/lang/String" "coder" "B" (.int 0)) (Ao : Arv Z h0 t1 kb .byte 4 [(.int (32 : Int32)), (.int (111 : Int32)), (.int (114 : Int32)), (.int (32 : Int32))] (.int 0)) (nt : t1 ≠ b) :
    MetFree l (⟨"java/lang/AbstractStringBuilder", "append", "(Ljava/lang/String;)Ljava/lang/AbstractStringBuilder;"⟩ : MethodName) (head1 (Jvm.Cond.code (⟨"java/lang/AbstractStringBuilder", "append", "(Ljava/lang/String;)Ljava/lang/AbstractStringBuilder;"⟩ : MethodName) jdk_68_method_22_code 3 (some (.object "java/lang/AbstractStringBuilder")) :: ws) ({ frames := 3, cells := 0, slots := 0, locals := 69 } : Room)) (fun a_ U_ => a_ = #[(.ref a), (.ref o)] ∧ Z.Warmed39 U_.vm ∧ U_.heap = h0) (fun _ _ _ _ _ => True) (fun _ U_ o_ U2_ => ∃ v_ L_, o_ = .returned v_ ∧ Q_aa3 Z a b kv o t1 kb a__VALUES a_OUT a_INP a_TAKE_COMPLETE a_OUT_text a_INP_text a_TAKE_COMPLETE_text a_OUT_text_value a_INP_text_value a_TAKE_COMPLETE_text_value k__VALUES k_OUT_text_value k_INP_text_value k_TAKE_COMPLETE_text_value cs0 h0 v_ U2_.heap L_ ∧ FrameEnd U_ o_ U2_ L_ ({ frames := 3, cells := 0, slots := 0, locals := 69 } : Room).cells ({ frames := 3, cells := 0, slots := 0, locals := 69 } : Room).slots) := by
  refine MetFree.of_bodySF (plainFor_of_name own_pn1) hisR ?_
  intro p e s m args below meth c s₁ Bd hml0 hP hK
  obtain ⟨rfl, hZ, hh⟩ := hP
  have hx := Bd.exec
  have hby := Bd.bytes
  have hml : c.maxLocals = 3 := hml0
  have hown : s.vm.findClass "java/lang/AbstractStringBuilder" = some m.cls := findClass_of_methodNamed Bd.named
  have hnm := (name_of_methodNamed Bd.named Bd.method).1
  have X0 : Stand p l e ({ frames := 3, cells := 0, slots := 0, locals := 69 } : Room) s m #[(.ref a), (.ref o)] below meth c s₁ [] 0 0 := Stand.of_body Bd
  have e0 : s₁.heap = h0 := by rw [← hh, Bd.state]; rfl
  have N0 := Fr.nil Z.heap.size
  show own_G p e below (fun o_ s₂ => ∃ v_ L_, o_ = .returned v_ ∧ Q_aa3 Z a b kv o t1 kb a__VALUES a_OUT a_INP a_TAKE_COMPLETE a_OUT_text a_INP_text a_TAKE_COMPLETE_text a_OUT_text_value a_INP_text_value a_TAKE_COMPLETE_text_value k__VALUES k_OUT_text_value k_INP_text_value k_TAKE_COMPLETE_text_value cs0 h0 v_ s₂.heap L_ ∧ FrameEnd s o_ s₂ L_ ({ frames := 3, cells := 0, slots := 0, locals := 69 } : Room).cells ({ frames := 3, cells := 0, slots := 0, locals := 69 } : Room).slots) (s₁.setTop (entryFrame m #[(.ref a), (.ref o)] 3))
  refine own_go (s₁.setTop (mkF m 0 #[.val (.ref a), .val (.ref o), .unset] [])) (fun t_ k_ => castTop (own_ef_aa3 m a o) k_) ?_
  have w' := w
  obtain ⟨S__VALUES, X__VALUES, S_OUT, X_OUT, S_INP, X_INP, S_TAKE_COMPLETE, X_TAKE_COMPLETE, F_OUT_text, X_OUT_text, F_INP_text, X_INP_text, F_TAKE_COMPLETE_text, X_TAKE_COMPLETE_text, F_OUT_text_value, X_OUT_text_value, F_INP_text_value, X_INP_text_value, F_TAKE_COMPLETE_text_value, X_TAKE_COMPLETE_text_value, F_OUT_text_coder, F_INP_text_coder, F_TAKE_COMPLETE_text_coder, V__VALUES, V_OUT_text_value, V_INP_text_value, V_TAKE_COMPLETE_text_value, S_CS, n_CS⟩ := w'
  refine own_go (s₁.setTop (mkF m 1 #[.val (.ref a), .val (.ref o), .unset] [(.ref o)])) (fun t_ k_ => XS.aloadN X0.here hx rfl (hb hby own_d_jdk_68_method_22_0) rfl rfl k_) ?_
  refine own_go (s₁.setTop (mkF m 9 #[.val (.ref a), .val (.ref o), .unset] [])) (fun t_ k_ => XS.ifnonnullYes X0.here hx rfl (pc0 := 1) (pc' := 9) rfl (hb hby own_d_jdk_68_method_22_1) rfl (by decide) (by decide) k_) ?_
  refine own_go (s₁.setTop (mkF m 10 #[.val (.ref a), .val (.ref o), .unset] [(.ref o)])) (fun t_ k_ => XS.aloadN X0.here hx rfl (hb hby own_d_jdk_68_method_22_9) rfl rfl k_) ?_
  obtain ⟨cq1, kq1, q1a, q1b, q1c⟩ := isOf hZ e0 Xo
  obtain ⟨_, _, ⟨T1, Lu1, ku1, nu1⟩, -, X1, ⟨Lc1, hQ1, lu1, yu1, zu1⟩, st1⟩ := X0.virtualBack hx (y := (⟨"java/lang/String", "length", "()I"⟩ : MethodName)) (z := (⟨"java/lang/String", "length", "()I"⟩ : MethodName)) hown (mvT hZ (hw _ (List.mem_of_getElem? (i := 56) rfl))) (mvT hZ (hw _ (List.mem_of_getElem? (i := 57) rfl))) (notFace_of_selects (args := #[]) (mvT hZ (hw _ (List.mem_of_getElem? (i := 59) rfl)))) (mvT hZ (hw _ (List.mem_of_getElem? (i := 59) rfl))) (mvT hZ (hw _ (List.mem_of_getElem? (i := 58) rfl))) (by decide) (backOf (W := 0) (rm_ln3 l Z a0 hw [] (o) (t1) (kb) (a__VALUES) (a_OUT) (a_INP) (a_TAKE_COMPLETE) (a_OUT_text) (a_INP_text) (a_TAKE_COMPLETE_text) (a_OUT_text_value) (a_INP_text_value) (a_TAKE_COMPLETE_text_value) (k__VALUES) (k_OUT_text_value) (k_INP_text_value) (k_TAKE_COMPLETE_text_value) (cs0) h0 O w Xo Vo Co Ao) hZ (hw _ (List.mem_of_getElem? (i := 60) rfl)) (hw _ (List.mem_of_getElem? (i := 20) rfl)) (by decide) (by decide)) q1a q1c (g := (mkF m 10 #[.val (.ref a), .val (.ref o), .unset] [(.ref o)])) rfl (by rw [hml]; rfl) (Steps.refl _) (argsL := []) (rest := []) (lenOf own_pd6 rfl) rfl (by show 2 * 0 + _ ≤ _; exact Nat.le_of_eq rfl) (hb hby own_d_jdk_68_method_22_10) (fun _ _ => ⟨rfl, e0, (by decide : 0 + 0 ≤ _), (by decide : 0 + 0 ≤ _)⟩)
  dsimp only [Pt.U, Pt.locs, Pt.cells, Pt.slots] at X1 lu1 yu1 zu1 st1 hQ1
  subst lu1 yu1 zu1
  obtain ⟨rfl, N1q, e1⟩ := hQ1
  have N1 := Fr.app N0 N1q
  refine own_go (T1.setTop (mkF m 13 #[.val (.ref a), .val (.ref o), .unset] [(.int (4 : Int32))])) (fun t_ k_ => st1.trans k_) ?_
  refine own_go (T1.setTop (mkF m 14 #[.val (.ref a), .val (.ref o), .val (.int (4 : Int32))] [])) (fun t_ k_ => XS.istoreN X1.here hx rfl (hb hby own_d_jdk_68_method_22_13) rfl (l' := #[.val (.ref a), .val (.ref o), .val (.int (4 : Int32))]) rfl k_) ?_
  refine own_go (T1.setTop (mkF m 15 #[.val (.ref a), .val (.ref o), .val (.int (4 : Int32))] [(.ref a)])) (fun t_ k_ => XS.aloadN X1.here hx rfl (hb hby own_d_jdk_68_method_22_14) rfl rfl k_) ?_
  refine own_go (T1.setTop (mkF m 16 #[.val (.ref a), .val (.ref o), .val (.int (4 : Int32))] [(.ref a), (.ref a)])) (fun t_ k_ => XS.aloadN X1.here hx rfl (hb hby own_d_jdk_68_method_22_15) rfl rfl k_) ?_
  obtain ⟨T2, X2, e2, st2⟩ := getF X1 hx hZ hown (host := "") (Or.inl (hw _ (List.mem_of_getElem? (i := 71) rfl))) Via.refl e1 Na (g := (mkF m 16 #[.val (.ref a), .val (.ref o), .val (.int (4 : Int32))] [(.ref a), (.ref a)])) rfl rfl (hb hby own_d_jdk_68_method_22_16)
  refine own_go (T2.setTop (mkF m 19 #[.val (.ref a), .val (.ref o), .val (.int (4 : Int32))] [(.int (8 : Int32)), (.ref a)])) (fun t_ k_ => st2 _ k_) ?_
  refine own_go (T2.setTop (mkF m 20 #[.val (.ref a), .val (.ref o), .val (.int (4 : Int32))] [(.int (4 : Int32)), (.int (8 : Int32)), (.ref a)])) (fun t_ k_ => XS.iloadN X2.here hx rfl (hb hby own_d_jdk_68_method_22_19) rfl k_) ?_
  refine own_go (T2.setTop (mkF m 21 #[.val (.ref a), .val (.ref o), .val (.int (4 : Int32))] [(.int ((8 : Int32) + (4 : Int32))), (.ref a)])) (fun t_ k_ => XS.iadd X2.here hx rfl (hb hby own_d_jdk_68_method_22_20) rfl k_) ?_
  rw [show ((8 : Int32) + (4 : Int32)) = (12 : Int32) from by decide]
  obtain ⟨cq3, q3, q3'⟩ := (Xa).cell
  obtain ⟨_, _, ⟨T3, Lu3, ku3, nu3⟩, -, X3, ⟨Lc3, hQ3, lu3, yu3, zu3⟩, st3⟩ := X2.privateBack hx (y := (⟨"java/lang/AbstractStringBuilder", "ensureCapacityInternal", "(I)V"⟩ : MethodName)) hown (mvT hZ (hw _ (List.mem_of_getElem? (i := 73) rfl))) (mvT hZ (hw _ (List.mem_of_getElem? (i := 74) rfl))) (own_selp (mvT hZ (hw _ (List.mem_of_getElem? (i := 76) rfl))) rfl (Cond.privateMethod_at (mvP hZ (hw _ (List.mem_of_getElem? (i := 75) rfl)) (args := #[]))) (mvT hZ (hw _ (List.mem_of_getElem? (i := 74) rfl))) (by decide)) (Cond.privateMethod_at (mvP hZ (hw _ (List.mem_of_getElem? (i := 75) rfl)) (args := #[]))) (mvT hZ (hw _ (List.mem_of_getElem? (i := 77) rfl))) (by decide) (backOf (W := 0) (rm_en3 l Z a0 hw [] (a) (b) (kv) h0 O Xa Va Ca Na Ab ga gb) hZ (hw _ (List.mem_of_getElem? (i := 77) rfl)) (hw _ (List.mem_of_getElem? (i := 14) rfl)) (by decide) (by decide)) (g := (mkF m 21 #[.val (.ref a), .val (.ref o), .val (.int (4 : Int32))] [(.int (12 : Int32)), (.ref a)])) rfl (by rw [hml]; rfl) (Steps.refl _) (a := a) (by rw [e2]; exact q3) q3' (argsL := [(.int (12 : Int32))]) (rest := []) (lenOf own_pd0 rfl) rfl (by show 2 * 0 + _ ≤ _; exact Nat.le_of_eq rfl) (hb hby own_d_jdk_68_method_22_21) (fun _ _ => ⟨rfl, e2, (by decide : 0 + 0 ≤ _), (by decide : 0 + 0 ≤ _)⟩)
  dsimp only [Pt.U, Pt.locs, Pt.cells, Pt.slots] at X3 lu3 yu3 zu3 st3 hQ3
  subst lu3 yu3 zu3
  obtain ⟨rfl, N3q, e3⟩ := hQ3
  have N3 := Fr.app N1 N3q
  refine own_go (T3.setTop (mkF m 24 #[.val (.ref a), .val (.ref o), .val (.int (4 : Int32))] [])) (fun t_ k_ => st3.trans k_) ?_
  refine own_go (T3.setTop (mkF m 25 #[.val (.ref a), .val (.ref o), .val (.int (4 : Int32))] [(.ref a)])) (fun t_ k_ => XS.aloadN X3.here hx rfl (hb hby own_d_jdk_68_method_22_24) rfl rfl k_) ?_
  refine own_go (T3.setTop (mkF m 26 #[.val (.ref a), .val (.ref o), .val (.int (4 : Int32))] [(.ref a), (.ref a)])) (fun t_ k_ => XS.aloadN X3.here hx rfl (hb hby own_d_jdk_68_method_22_25) rfl rfl k_) ?_
  obtain ⟨T4, X4, e4, st4⟩ := getF X3 hx hZ hown (host := "") (Or.inl (hw _ (List.mem_of_getElem? (i := 71) rfl))) Via.refl e3 Na (g := (mkF m 26 #[.val (.ref a), .val (.ref o), .val (.int (4 : Int32))] [(.ref a), (.ref a)])) rfl rfl (hb hby own_d_jdk_68_method_22_26)
  refine own_go (T4.setTop (mkF m 29 #[.val (.ref a), .val (.ref o), .val (.int (4 : Int32))] [(.int (8 : Int32)), (.ref a)])) (fun t_ k_ => st4 _ k_) ?_
  refine own_go (T4.setTop (mkF m 30 #[.val (.ref a), .val (.ref o), .val (.int (4 : Int32))] [(.ref o), (.int (8 : Int32)), (.ref a)])) (fun t_ k_ => XS.aloadN X4.here hx rfl (hb hby own_d_jdk_68_method_22_29) rfl rfl k_) ?_
  obtain ⟨cq5, q5, q5'⟩ := (Xa).cell
  obtain ⟨_, _, ⟨T5, Lu5, ku5, nu5⟩, -, X5, ⟨Lc5, hQ5, lu5, yu5, zu5⟩, st5⟩ := X4.privateBack hx (y := (⟨"java/lang/AbstractStringBuilder", "putStringAt", "(ILjava/lang/String;)V"⟩ : MethodName)) hown (mvT hZ (hw _ (List.mem_of_getElem? (i := 78) rfl))) (mvT hZ (hw _ (List.mem_of_getElem? (i := 79) rfl))) (own_selp (mvT hZ (hw _ (List.mem_of_getElem? (i := 76) rfl))) rfl (Cond.privateMethod_at (mvP hZ (hw _ (List.mem_of_getElem? (i := 80) rfl)) (args := #[]))) (mvT hZ (hw _ (List.mem_of_getElem? (i := 79) rfl))) (by decide)) (Cond.privateMethod_at (mvP hZ (hw _ (List.mem_of_getElem? (i := 80) rfl)) (args := #[]))) (mvT hZ (hw _ (List.mem_of_getElem? (i := 82) rfl))) (by decide) (backOf (W := 0) (rm_ps3 l Z a0 hw [] (a) (b) (kv) (o) (t1) (kb) (a__VALUES) (a_OUT) (a_INP) (a_TAKE_COMPLETE) (a_OUT_text) (a_INP_text) (a_TAKE_COMPLETE_text) (a_OUT_text_value) (a_INP_text_value) (a_TAKE_COMPLETE_text_value) (k__VALUES) (k_OUT_text_value) (k_INP_text_value) (k_TAKE_COMPLETE_text_value) (cs0) h0 O w Xa Va Ca Ab gb Xo Vo Co Ao) hZ (hw _ (List.mem_of_getElem? (i := 82) rfl)) (hw _ (List.mem_of_getElem? (i := 14) rfl)) (by decide) (by decide)) (g := (mkF m 30 #[.val (.ref a), .val (.ref o), .val (.int (4 : Int32))] [(.ref o), (.int (8 : Int32)), (.ref a)])) rfl (by rw [hml]; rfl) (Steps.refl _) (a := a) (by rw [e4]; exact q5) q5' (argsL := [(.int (8 : Int32)), (.ref o)]) (rest := []) (lenOf own_pd7 rfl) rfl (by show 2 * 0 + _ ≤ _; exact Nat.le_of_eq rfl) (hb hby own_d_jdk_68_method_22_30) (fun _ _ => ⟨rfl, e4, (by decide : 0 + 0 ≤ _), (by decide : 0 + 0 ≤ _)⟩)
  dsimp only [Pt.U, Pt.locs, Pt.cells, Pt.slots] at X5 lu5 yu5 zu5 st5 hQ5
  subst lu5 yu5 zu5
  obtain ⟨rfl, N5q, K5q, V5q⟩ := hQ5
  have N5 := Fr.app N3 N5q
  have O5 := own_extK O K5q (allS gb all0)
  have KK5 : Keep h0 T5.heap [a, b] := (Keep.refl h0 [a, b]).trans K5q (allS (Or.inl (List.mem_of_getElem? (i := 1) rfl)) all0)
  refine own_go (T5.setTop (mkF m 33 #[.val (.ref a), .val (.ref o), .val (.int (4 : Int32))] [])) (fun t_ k_ => st5.trans k_) ?_
  refine own_go (T5.setTop (mkF m 34 #[.val (.ref a), .val (.ref o), .val (.int (4 : Int32))] [(.ref a)])) (fun t_ k_ => XS.aloadN X5.here hx rfl (hb hby own_d_jdk_68_method_22_33) rfl rfl k_) ?_
  refine own_go (T5.setTop (mkF m 35 #[.val (.ref a), .val (.ref o), .val (.int (4 : Int32))] [(.ref a), (.ref a)])) (fun t_ k_ => XS.dup X5.here hx rfl (hb hby own_d_jdk_68_method_22_34) rfl rfl k_) ?_
  have Nz6 : a ≠ b := (Exa.neArv Xa Ab (hw _ (List.mem_of_getElem? (i := 5) rfl)))
  have Fz7 := (Na.keep K5q (ninS Nz6 nin0))
  obtain ⟨T8, X8, e8, st8⟩ := getF X5 hx hZ hown (host := "") (Or.inl (hw _ (List.mem_of_getElem? (i := 71) rfl))) Via.refl rfl Fz7 (g := (mkF m 35 #[.val (.ref a), .val (.ref o), .val (.int (4 : Int32))] [(.ref a), (.ref a)])) rfl rfl (hb hby own_d_jdk_68_method_22_35)
  refine own_go (T8.setTop (mkF m 38 #[.val (.ref a), .val (.ref o), .val (.int (4 : Int32))] [(.int (8 : Int32)), (.ref a)])) (fun t_ k_ => st8 _ k_) ?_
  refine own_go (T8.setTop (mkF m 39 #[.val (.ref a), .val (.ref o), .val (.int (4 : Int32))] [(.int (4 : Int32)), (.int (8 : Int32)), (.ref a)])) (fun t_ k_ => XS.iloadN X8.here hx rfl (hb hby own_d_jdk_68_method_22_38) rfl k_) ?_
  refine own_go (T8.setTop (mkF m 40 #[.val (.ref a), .val (.ref o), .val (.int (4 : Int32))] [(.int ((8 : Int32) + (4 : Int32))), (.ref a)])) (fun t_ k_ => XS.iadd X8.here hx rfl (hb hby own_d_jdk_68_method_22_39) rfl k_) ?_
  rw [show ((8 : Int32) + (4 : Int32)) = (12 : Int32) from by decide]
  have Fz9 := (Xa.keep K5q)
  obtain ⟨T10, h10, X10, e10, W10, st10⟩ := putF X8 hx hZ hown (host := "") (Or.inl (hw _ (List.mem_of_getElem? (i := 71) rfl))) Via.refl e8 Fz7 Fz9 (Or.inl (hw _ (List.mem_of_getElem? (i := 72) rfl))) (hw _ (List.mem_of_getElem? (i := 5) rfl)) (ty := .int) (by decide) rfl rfl (g := (mkF m 40 #[.val (.ref a), .val (.ref o), .val (.int (4 : Int32))] [(.int (12 : Int32)), (.ref a)])) rfl rfl (hb hby own_d_jdk_68_method_22_40)
  have Fw10 := Fz7.same W10
  have K10 : Keep h0 h10 [a, b] := KK5.wr W10 (Or.inl (List.mem_of_getElem? (i := 0) rfl))
  have N10 := Fr.snoc X10 N5 ga
  have O10 := own_extW O5 W10 ga
  refine own_go (T10.setTop (mkF m 43 #[.val (.ref a), .val (.ref o), .val (.int (4 : Int32))] [])) (fun t_ k_ => st10 _ k_) ?_
  refine own_go (T10.setTop (mkF m 44 #[.val (.ref a), .val (.ref o), .val (.int (4 : Int32))] [(.ref a)])) (fun t_ k_ => XS.aloadN X10.here hx rfl (hb hby own_d_jdk_68_method_22_43) rfl rfl k_) ?_
  obtain ⟨fs, hr, hrun, hended, hW, hsame⟩ := X10.leave (v := some (.ref a)) (fun h => by rw [Bd.returns] at h; cases h)
  refine ⟨_, _, Jvm.RoadKit.retOut X10 hx Bd.returns rfl (Or.inr (Or.inr (Or.inr (Or.inr ⟨rfl, rfl, rfl⟩)))) (hb hby own_d_jdk_68_method_22_44) hr, hrun, hended, _, _, rfl, ?_, ⟨_, rfl⟩, hW, hsame.mono (by decide) (by decide)⟩
  show Q_aa3 Z a b kv o t1 kb a__VALUES a_OUT a_INP a_TAKE_COMPLETE a_OUT_text a_INP_text a_TAKE_COMPLETE_text a_OUT_text_value a_INP_text_value a_TAKE_COMPLETE_text_value k__VALUES k_OUT_text_value k_INP_text_value k_TAKE_COMPLETE_text_value cs0 h0 _ T10.heap _
  have Fz11 := (Fz9.wr W10)
  have Fz12 := ((Va.keep K5q (ninS Nz6 nin0)).other W10 (Or.inr (slot_ne (a0 := a0) (Or.inl (hw _ (List.mem_of_getElem? (i := 23) rfl))) (Or.inl (hw _ (List.mem_of_getElem? (i := 72) rfl))) (by decide) (t := (.array .byte)) (t' := .int) (by decide) (by decide))))
  have Fz13 := ((Ca.keep K5q (ninS Nz6 nin0)).other W10 (Or.inr (slot_ne (a0 := a0) (Or.inl (hw _ (List.mem_of_getElem? (i := 25) rfl))) (Or.inl (hw _ (List.mem_of_getElem? (i := 72) rfl))) (by decide) (t := .byte) (t' := .int) (by decide) (by decide))))
  have Fz14 := (V5q.other W10 (Ne.symm Nz6))
  rw [show T10.heap = h10 from e10]
  exact ⟨_, _, rfl, N10, K10, gb, rfl, rfl, Fz11, Fz12, Fz13, Fw10, Fz14⟩
theorem own_ef_ap3 (m : MethodId) (a : Addr) (o : Addr) : entryFrame m #[(.ref a), (.ref o)] 2 = mkF m 0 #[.val (.ref a), .val (.ref o)] [] := by first | (simp [entryFrame, mkF, argsToLocals, Value.category]; done) | rfl
def Q_ap3 (Z : State) (a : Addr) (b : Addr) (kv : ClassId) (o : Addr) (t1 : Addr) (kb : ClassId) (a__VALUES : Addr) (a_OUT : Addr) (a_INP : Addr) (a_TAKE_COMPLETE : Addr) (a_OUT_text : Addr) (a_INP_text : Addr) (a_TAKE_COMPLETE_text : Addr) (a_OUT_text_value : Addr) (a_INP_text_value : Addr) (a_TAKE_COMPLETE_text_value : Addr) (k__VALUES : ClassId) (k_OUT_text_value : ClassId) (k_INP_text_value : ClassId) (k_TAKE_COMPLETE_text_value : ClassId) (cs0 : Int32) (h0 : Heap) (v_ : Option Value) (h : Heap) (L_ : List Loc) : Prop := ∃ (b2 : Addr), ∃ (k2 : ClassId), v_ = some (.ref a) ∧ Fr Z.heap.size L_ ∧ (Keep h0 h [a, b] ∧ Z.heap.size ≤ b2 ∧ b = b2 ∧ kv = k2 ∧ Exa Z h a "java/lang/StringBuilder" ∧ Fld Z h a "java/lang/AbstractStringBuilder" "value" "[B" (.ref b2) ∧ Fld Z h a "java/lang/AbstractStringBuilder" "coder" "B" (.int 0) ∧ Fld Z h a "java/lang/AbstractStringBuilder" "count" "I" (.int 12) ∧ Arv Z h b2 k2 .byte 16 [(.int (111 : Int32)), (.int (117 : Int32)), (.int (116 : Int32)), (.int (44 : Int32)), (.int (32 : Int32)), (.int (105 : Int32)), (.int (110 : Int32)), (.int (112 : Int32)), (.int (32 : Int32)), (.int (111 : Int32)), (.int (114 : Int32)), (.int (32 : Int32))] (.int 0))
set_option maxRecDepth 65536 in
set_option maxHeartbeats 40000000 in
theorem rm_ap3 (l : Launch) (Z : State) (a0 : Array Value) (hw : ∀ d ∈ tables_1, d.before a0 Z = true) (ws : List Jvm.Cond) (a : Addr) (b : Addr) (kv : ClassId) (o : Addr) (t1 : Addr) (kb : ClassId) (a__VALUES : Addr) (a_OUT : Addr) (a_INP : Addr) (a_TAKE_COMPLETE : Addr) (a_OUT_text : Addr) (a_INP_text : Addr) (a_TAKE_COMPLETE_text : Addr) (a_OUT_text_value : Addr) (a_INP_text_value : Addr) (a_TAKE_COMPLETE_text_value : Addr) (k__VALUES : ClassId) (k_OUT_text_value : ClassId) (k_INP_text_value : ClassId) (k_TAKE_COMPLETE_text_value : ClassId) (cs0 : Int32) (h0 : Heap) (O : Ext Z.heap h0) (w : own_W Z a__VALUES a_OUT a_INP a_TAKE_COMPLETE a_OUT_text a_INP_text a_TAKE_COMPLETE_text a_OUT_text_value a_INP_text_value a_TAKE_COMPLETE_text_value k__VALUES k_OUT_text_value k_INP_text_value k_TAKE_COMPLETE_text_value cs0) (Xa : Exa Z h0 a "java/lang/StringBuilder") (Va : Fld Z h0 a "java/lang/AbstractStringBuilder" "value" "[B" (.ref b)) (Ca : Fld Z h0 a "java/lang/AbstractStringBuilder" "coder" "B" (.int 0)) (Na : Fld Z h0 a "java/lang/AbstractStringBuilder" "count" "I" (.int 8)) (Ab : Arv Z h0 b kv .byte 16 [(.int (111 : Int32)), (.int (117 : Int32)), (.int (116 : Int32)), (.int (44 : Int32)), (.int (32 : Int32)), (.int (105 : Int32)), (.int (110 : Int32)), (.int (112 : Int32))] (.int 0)) (ga : Z.heap.size ≤ a) (gb : Z.heap.size ≤ b) (Xo : Exa Z h0 o "java/lang/String") (Vo : Fld Z h0 o "java/lang/String" "value" "[B" (.ref t1)) (Co : Fld Z h0 o "java/lang/String" "coder" "B" (.int 0)) (Ao : Arv Z h0 t1 kb .byte 4 [(.int (32 : Int32)), (.int (111 : Int32)), (.int (114 : Int32)), (.int (32 : Int32))] (.int 0)) (nt : t1 ≠ b) :
    MetFree l (⟨"java/lang/StringBuilder", "append", "(Ljava/lang/String;)Ljava/lang/StringBuilder;"⟩ : MethodName) (head1 (Jvm.Cond.code (⟨"java/lang/StringBuilder", "append", "(Ljava/lang/String;)Ljava/lang/StringBuilder;"⟩ : MethodName) jdk_67_method_7_code 2 (some (.object "java/lang/StringBuilder")) :: ws) ({ frames := 4, cells := 0, slots := 0, locals := 83 } : Room)) (fun a_ U_ => a_ = #[(.ref a), (.ref o)] ∧ Z.Warmed39 U_.vm ∧ U_.heap = h0) (fun _ _ _ _ _ => True) (fun _ U_ o_ U2_ => ∃ v_ L_, o_ = .returned v_ ∧ Q_ap3 Z a b kv o t1 kb a__VALUES a_OUT a_INP a_TAKE_COMPLETE a_OUT_text a_INP_text a_TAKE_COMPLETE_text a_OUT_text_value a_INP_text_value a_TAKE_COMPLETE_text_value k__VALUES k_OUT_text_value k_INP_text_value k_TAKE_COMPLETE_text_value cs0 h0 v_ U2_.heap L_ ∧ FrameEnd U_ o_ U2_ L_ ({ frames := 4, cells := 0, slots := 0, locals := 83 } : Room).cells ({ frames := 4, cells := 0, slots := 0, locals := 83 } : Room).slots) := by
  refine MetFree.of_bodySF (plainFor_of_name own_pn2) hisR ?_
  intro p e s m args below meth c s₁ Bd hml0 hP hK
  obtain ⟨rfl, hZ, hh⟩ := hP
  have hx := Bd.exec
  have hby := Bd.bytes
  have hml : c.maxLocals = 2 := hml0
  have hown : s.vm.findClass "java/lang/StringBuilder" = some m.cls := findClass_of_methodNamed Bd.named
  have hnm := (name_of_methodNamed Bd.named Bd.method).1
  have X0 : Stand p l e ({ frames := 4, cells := 0, slots := 0, locals := 83 } : Room) s m #[(.ref a), (.ref o)] below meth c s₁ [] 0 0 := Stand.of_body Bd
  have e0 : s₁.heap = h0 := by rw [← hh, Bd.state]; rfl
  have N0 := Fr.nil Z.heap.size
  show own_G p e below (fun o_ s₂ => ∃ v_ L_, o_ = .returned v_ ∧ Q_ap3 Z a b kv o t1 kb a__VALUES a_OUT a_INP a_TAKE_COMPLETE a_OUT_text a_INP_text a_TAKE_COMPLETE_text a_OUT_text_value a_INP_text_value a_TAKE_COMPLETE_text_value k__VALUES k_OUT_text_value k_INP_text_value k_TAKE_COMPLETE_text_value cs0 h0 v_ s₂.heap L_ ∧ FrameEnd s o_ s₂ L_ ({ frames := 4, cells := 0, slots := 0, locals := 83 } : Room).cells ({ frames := 4, cells := 0, slots := 0, locals := 83 } : Room).slots) (s₁.setTop (entryFrame m #[(.ref a), (.ref o)] 2))
  refine own_go (s₁.setTop (mkF m 0 #[.val (.ref a), .val (.ref o)] [])) (fun t_ k_ => castTop (own_ef_ap3 m a o) k_) ?_
  have w' := w
  obtain ⟨S__VALUES, X__VALUES, S_OUT, X_OUT, S_INP, X_INP, S_TAKE_COMPLETE, X_TAKE_COMPLETE, F_OUT_text, X_OUT_text, F_INP_text, X_INP_text, F_TAKE_COMPLETE_text, X_TAKE_COMPLETE_text, F_OUT_text_value, X_OUT_text_value, F_INP_text_value, X_INP_text_value, F_TAKE_COMPLETE_text_value, X_TAKE_COMPLETE_text_value, F_OUT_text_coder, F_INP_text_coder, F_TAKE_COMPLETE_text_coder, V__VALUES, V_OUT_text_value, V_INP_text_value, V_TAKE_COMPLETE_text_value, S_CS, n_CS⟩ := w'
  refine own_go (s₁.setTop (mkF m 1 #[.val (.ref a), .val (.ref o)] [(.ref a)])) (fun t_ k_ => XS.aloadN X0.here hx rfl (hb hby own_d_jdk_67_method_7_0) rfl rfl k_) ?_
  refine own_go (s₁.setTop (mkF m 2 #[.val (.ref a), .val (.ref o)] [(.ref o), (.ref a)])) (fun t_ k_ => XS.aloadN X0.here hx rfl (hb hby own_d_jdk_67_method_7_1) rfl rfl k_) ?_
  obtain ⟨_, _, ⟨T1, Lu1, ku1, nu1⟩, -, X1, ⟨Lc1, hQ1, lu1, yu1, zu1⟩, st1⟩ := superBack X0 hx hZ (y := (⟨"java/lang/AbstractStringBuilder", "append", "(Ljava/lang/String;)Ljava/lang/AbstractStringBuilder;"⟩ : MethodName)) hown (hw _ (List.mem_of_getElem? (i := 51) rfl)) (own_sameM (hw _ (List.mem_of_getElem? (i := 52) rfl)) (hw _ (List.mem_of_getElem? (i := 76) rfl)) rfl (by decide)) (hw _ (List.mem_of_getElem? (i := 52) rfl)) (hw _ (List.mem_of_getElem? (i := 53) rfl)) (by decide) (backOf (W := 0) (rm_aa3 l Z a0 hw [] (a) (b) (kv) (o) (t1) (kb) (a__VALUES) (a_OUT) (a_INP) (a_TAKE_COMPLETE) (a_OUT_text) (a_INP_text) (a_TAKE_COMPLETE_text) (a_OUT_text_value) (a_INP_text_value) (a_TAKE_COMPLETE_text_value) (k__VALUES) (k_OUT_text_value) (k_INP_text_value) (k_TAKE_COMPLETE_text_value) (cs0) h0 O w Xa Va Ca Na Ab ga gb Xo Vo Co Ao nt) hZ (hw _ (List.mem_of_getElem? (i := 55) rfl)) (hw _ (List.mem_of_getElem? (i := 14) rfl)) (by decide) (by decide)) e0 (Ins.self Xa) (g := (mkF m 2 #[.val (.ref a), .val (.ref o)] [(.ref o), (.ref a)])) rfl (by rw [hml]; rfl) (hw _ (List.mem_of_getElem? (i := 55) rfl)) (argsL := [(.ref o)]) (rest := []) (lenOf own_pd8 rfl) rfl (by show 2 * 0 + _ ≤ _; exact Nat.le_of_eq rfl) (hb hby own_d_jdk_67_method_7_2) (fun _ _ => ⟨rfl, e0, (by decide : 0 + 0 ≤ _), (by decide : 0 + 0 ≤ _)⟩)
  dsimp only [Pt.U, Pt.locs, Pt.cells, Pt.slots] at X1 lu1 yu1 zu1 st1 hQ1
  subst lu1 yu1 zu1
  obtain ⟨b1, kv1, rfl, N1q, K1q, u1_1, rfl, rfl, X1q, F1q, G1q, H1q, A1q⟩ := hQ1
  have N1 := Fr.app N0 N1q
  have O1 := own_extK O K1q (allS ga (allS gb all0))
  have KK1 : Keep h0 T1.heap [a, b] := (Keep.refl h0 [a, b]).trans K1q (allS (Or.inl (List.mem_of_getElem? (i := 0) rfl)) (allS (Or.inl (List.mem_of_getElem? (i := 1) rfl)) all0))
  refine own_go (T1.setTop (mkF m 5 #[.val (.ref a), .val (.ref o)] [(.ref a)])) (fun t_ k_ => st1.trans k_) ?_
  refine own_go (T1.setTop (mkF m 6 #[.val (.ref a), .val (.ref o)] [])) (fun t_ k_ => XS.pop X1.here hx rfl (hb hby own_d_jdk_67_method_7_5) rfl rfl k_) ?_
  refine own_go (T1.setTop (mkF m 7 #[.val (.ref a), .val (.ref o)] [(.ref a)])) (fun t_ k_ => XS.aloadN X1.here hx rfl (hb hby own_d_jdk_67_method_7_6) rfl rfl k_) ?_
  obtain ⟨fs, hr, hrun, hended, hW, hsame⟩ := X1.leave (v := some (.ref a)) (fun h => by rw [Bd.returns] at h; cases h)
  refine ⟨_, _, Jvm.RoadKit.retOut X1 hx Bd.returns rfl (Or.inr (Or.inr (Or.inr (Or.inr ⟨rfl, rfl, rfl⟩)))) (hb hby own_d_jdk_67_method_7_7) hr, hrun, hended, _, _, rfl, ?_, ⟨_, rfl⟩, hW, hsame.mono (by decide) (by decide)⟩
  show Q_ap3 Z a b kv o t1 kb a__VALUES a_OUT a_INP a_TAKE_COMPLETE a_OUT_text a_INP_text a_TAKE_COMPLETE_text a_OUT_text_value a_INP_text_value a_TAKE_COMPLETE_text_value k__VALUES k_OUT_text_value k_INP_text_value k_TAKE_COMPLETE_text_value cs0 h0 _ T1.heap _
  exact ⟨_, _, rfl, N1, KK1, gb, rfl, rfl, X1q, F1q, G1q, H1q, A1q⟩
theorem own_ef_en4 (m : MethodId) (a : Addr) : entryFrame m #[(.ref a), (.int (25 : Int32))] 3 = mkF m 0 #[.val (.ref a), .val (.int (25 : Int32)), .unset] [] := by first | (simp [entryFrame, mkF, argsToLocals, Value.category]; done) | rfl
theorem own_d_jdk_68_method_9_17 : decode jdk_68_method_9_code 17 = .ok (.aload_n 0, 1) := by decide +kernel
theorem own_d_jdk_68_method_9_18 : decode jdk_68_method_9_code 18 = .ok (.aload_n 0, 1) := by decide +kernel
theorem own_d_jdk_68_method_9_19 : decode jdk_68_method_9_code 19 = .ok (.getfield 15, 3) := by decide +kernel
theorem own_d_jdk_68_method_9_22 : decode jdk_68_method_9_code 22 = .ok (.aload_n 0, 1) := by decide +kernel
theorem own_d_jdk_68_method_9_23 : decode jdk_68_method_9_code 23 = .ok (.iload_n 1, 1) := by decide +kernel
theorem own_d_jdk_68_method_9_24 : decode jdk_68_method_9_code 24 = .ok (.invokevirtual 104, 3) := by decide +kernel
theorem own_pd9 : parseMethodDescriptor "(I)I" = some ⟨[.int], some .int⟩ := by decide +kernel
theorem own_d_jdk_68_method_9_27 : decode jdk_68_method_9_code 27 = .ok (.aload_n 0, 1) := by decide +kernel
theorem own_d_jdk_68_method_9_28 : decode jdk_68_method_9_code 28 = .ok (.getfield 22, 3) := by decide +kernel
theorem own_d_jdk_68_method_9_31 : decode jdk_68_method_9_code 31 = .ok (.ishl, 1) := by decide +kernel
theorem own_d_jdk_68_method_9_32 : decode jdk_68_method_9_code 32 = .ok (.invokestatic 108, 3) := by decide +kernel
theorem own_pd10 : parseMethodDescriptor "([BI)[B" = some ⟨[(.array .byte), .int], some (.array .byte)⟩ := by decide +kernel
theorem own_d_jdk_68_method_9_35 : decode jdk_68_method_9_code 35 = .ok (.putfield 15, 3) := by decide +kernel
def Q_en4 (Z : State) (a : Addr) (b : Addr) (kv : ClassId) (h0 : Heap) (v_ : Option Value) (h : Heap) (L_ : List Loc) : Prop := ∃ (b2 : Addr), ∃ (k2 : ClassId), v_ = none ∧ Fr Z.heap.size L_ ∧ (Keep h0 h [a] ∧ Z.heap.size ≤ b2 ∧ h0.size ≤ b2 ∧ Exa Z h a "java/lang/StringBuilder" ∧ Fld Z h a "java/lang/AbstractStringBuilder" "value" "[B" (.ref b2) ∧ Fld Z h a "java/lang/AbstractStringBuilder" "coder" "B" (.int 0) ∧ Fld Z h a "java/lang/AbstractStringBuilder" "count" "I" (.int 12) ∧ Arv Z h b2 k2 .byte 34 [(.int (111 : Int32)), (.int (117 : Int32)), (.int (116 : Int32)), (.int (44 : Int32)), (.int (32 : Int32)), (.int (105 : Int32)), (.int (110 : Int32)), (.int (112 : Int32)), (.int (32 : Int32)), (.int (111 : Int32)), (.int (114 : Int32)), (.int (32 : Int32)), (.int (0 : Int32)), (.int (0 : Int32)), (.int (0 : Int32)), (.int (0 : Int32)), (.int (0 : Int32)), (.int (0 : Int32)), (.int (0 : Int32)), (.int (0 : Int32)), (.int (0 : Int32)), (.int (0 : Int32)), (.int (0 : Int32)), (.int (0 : Int32)), (.int (0 : Int32)), (.int (0 : Int32)), (.int (0 : Int32)), (.int (0 : Int32)), (.int (0 : Int32)), (.int (0 : Int32)), (.int (0 : Int32)), (.int (0 : Int32)), (.int (0 : Int32)), (.int (0 : Int32))] (.int 0))
set_option maxRecDepth 65536 in
set_option maxHeartbeats 40000000 in
theorem rm_en4 (l : Launch) (Z : State) (a0 : Array Value) (hw : ∀ d ∈ tables_1, d.before a0 Z = true) (ws : List Jvm.Cond) (a : Addr) (b : Addr) (kv : ClassId) (h0 : Heap) (O : Ext Z.heap h0) (Xa : Exa Z h0 a "java/lang/StringBuilder") (Va : Fld Z h0 a "java/lang/AbstractStringBuilder" "value" "[B" (.ref b)) (Ca : Fld Z h0 a "java/lang/AbstractStringBuilder" "coder" "B" (.int 0)) (Na : Fld Z h0 a "java/lang/AbstractStringBuilder" "count" "I" (.int 12)) (Ab : Arv Z h0 b kv .byte 16 [(.int (111 : Int32)), (.int (117 : Int32)), (.int (116 : Int32)), (.int (44 : Int32)), (.int (32 : Int32)), (.int (105 : Int32)), (.int (110 : Int32)), (.int (112 : Int32)), (.int (32 : Int32)), (.int (111 : Int32)), (.int (114 : Int32)), (.int (32 : Int32))] (.int 0)) (ga : Z.heap.size ≤ a) (gb : Z.heap.size ≤ b) :
    MetFree l (⟨"java/lang/AbstractStringBuilder", "ensureCapacityInternal", "(I)V"⟩ : MethodName) (head1 (Jvm.Cond.code (⟨"java/lang/AbstractStringBuilder", "ensureCapacityInternal", "(I)V"⟩ : MethodName) jdk_68_method_9_code 3 none :: ws) ({ frames := 3, cells := 1, slots := 34, locals := 55 } : Room)) (fun a_ U_ => a_ = #[(.ref a), (.int (25 : Int32))] ∧ Z.Warmed39 U_.vm ∧ U_.heap = h0) (fun _ _ _ _ _ => True) (fun _ U_ o_ U2_ => ∃ v_ L_, o_ = .returned v_ ∧ Q_en4 Z a b kv h0 v_ U2_.heap L_ ∧ FrameEnd U_ o_ U2_ L_ ({ frames := 3, cells := 1, slots := 34, locals := 55 } : Room).cells ({ frames := 3, cells := 1, slots := 34, locals := 55 } : Room).slots) := by
  refine MetFree.of_bodySF (plainFor_of_name own_pn1) hisR ?_
  intro p e s m args below meth c s₁ Bd hml0 hP hK
  obtain ⟨rfl, hZ, hh⟩ := hP
  have hx := Bd.exec
  have hby := Bd.bytes
  have hml : c.maxLocals = 3 := hml0
  have hown : s.vm.findClass "java/lang/AbstractStringBuilder" = some m.cls := findClass_of_methodNamed Bd.named
  have hnm := (name_of_methodNamed Bd.named Bd.method).1
  have X0 : Stand p l e ({ frames := 3, cells := 1, slots := 34, locals := 55 } : Room) s m #[(.ref a), (.int (25 : Int32))] below meth c s₁ [] 0 0 := Stand.of_body Bd
  have e0 : s₁.heap = h0 := by rw [← hh, Bd.state]; rfl
  have N0 := Fr.nil Z.heap.size
  show own_G p e below (fun o_ s₂ => ∃ v_ L_, o_ = .returned v_ ∧ Q_en4 Z a b kv h0 v_ s₂.heap L_ ∧ FrameEnd s o_ s₂ L_ ({ frames := 3, cells := 1, slots := 34, locals := 55 } : Room).cells ({ frames := 3, cells := 1, slots := 34, locals := 55 } : Room).slots) (s₁.setTop (entryFrame m #[(.ref a), (.int (25 : Int32))] 3))
  refine own_go (s₁.setTop (mkF m 0 #[.val (.ref a), .val (.int (25 : Int32)), .unset] [])) (fun t_ k_ => castTop (own_ef_en4 m a) k_) ?_
  refine own_go (s₁.setTop (mkF m 1 #[.val (.ref a), .val (.int (25 : Int32)), .unset] [(.ref a)])) (fun t_ k_ => XS.aloadN X0.here hx rfl (hb hby own_d_jdk_68_method_9_0) rfl rfl k_) ?_
  obtain ⟨T1, X1, e1, st1⟩ := getF X0 hx hZ hown (host := "") (Or.inl (hw _ (List.mem_of_getElem? (i := 22) rfl))) Via.refl e0 Va (g := (mkF m 1 #[.val (.ref a), .val (.int (25 : Int32)), .unset] [(.ref a)])) rfl rfl (hb hby own_d_jdk_68_method_9_1)
  refine own_go (T1.setTop (mkF m 4 #[.val (.ref a), .val (.int (25 : Int32)), .unset] [(.ref b)])) (fun t_ k_ => st1 _ k_) ?_
  obtain ⟨cl2, Ar2, q2, Sz2, Nz2, Hz2, Gz2⟩ := id (Ab)
  refine own_go (T1.setTop (mkF m 5 #[.val (.ref a), .val (.int (25 : Int32)), .unset] [(.int (16 : Int32))])) (fun t_ k_ => X1.arraylength hx (by rw [e1]; exact Ar2.1) (State.isArrayOf_alike hZ.alike Ar2.2.1) (g := (mkF m 4 #[.val (.ref a), .val (.int (25 : Int32)), .unset] [(.ref b)])) rfl rfl (hb hby own_d_jdk_68_method_9_4) _ (by rw [len_of Sz2 Nz2]; exact k_)) ?_
  refine own_go (T1.setTop (mkF m 6 #[.val (.ref a), .val (.int (25 : Int32)), .unset] [(.ref a), (.int (16 : Int32))])) (fun t_ k_ => XS.aloadN X1.here hx rfl (hb hby own_d_jdk_68_method_9_5) rfl rfl k_) ?_
  obtain ⟨T3, X3, e3, st3⟩ := getF X1 hx hZ hown (host := "") (Or.inl (hw _ (List.mem_of_getElem? (i := 24) rfl))) Via.refl e1 Ca (g := (mkF m 6 #[.val (.ref a), .val (.int (25 : Int32)), .unset] [(.ref a), (.int (16 : Int32))])) rfl rfl (hb hby own_d_jdk_68_method_9_6)
  refine own_go (T3.setTop (mkF m 9 #[.val (.ref a), .val (.int (25 : Int32)), .unset] [(.int (0 : Int32)), (.int (16 : Int32))])) (fun t_ k_ => st3 _ k_) ?_
  refine own_go (T3.setTop (mkF m 10 #[.val (.ref a), .val (.int (25 : Int32)), .unset] [(.int ((16 : Int32) >>> ((0 : Int32) &&& 31)))])) (fun t_ k_ => XS.ishr X3.here hx rfl (hb hby own_d_jdk_68_method_9_9) rfl k_) ?_
  rw [show ((16 : Int32) >>> ((0 : Int32) &&& 31)) = (16 : Int32) from by decide]
  refine own_go (T3.setTop (mkF m 11 #[.val (.ref a), .val (.int (25 : Int32)), .val (.int (16 : Int32))] [])) (fun t_ k_ => XS.istoreN X3.here hx rfl (hb hby own_d_jdk_68_method_9_10) rfl (l' := #[.val (.ref a), .val (.int (25 : Int32)), .val (.int (16 : Int32))]) rfl k_) ?_
  refine own_go (T3.setTop (mkF m 12 #[.val (.ref a), .val (.int (25 : Int32)), .val (.int (16 : Int32))] [(.int (25 : Int32))])) (fun t_ k_ => XS.iloadN X3.here hx rfl (hb hby own_d_jdk_68_method_9_11) rfl k_) ?_
  refine own_go (T3.setTop (mkF m 13 #[.val (.ref a), .val (.int (25 : Int32)), .val (.int (16 : Int32))] [(.int (16 : Int32)), (.int (25 : Int32))])) (fun t_ k_ => XS.iloadN X3.here hx rfl (hb hby own_d_jdk_68_method_9_12) rfl k_) ?_
  refine own_go (T3.setTop (mkF m 14 #[.val (.ref a), .val (.int (25 : Int32)), .val (.int (16 : Int32))] [(.int ((25 : Int32) - (16 : Int32)))])) (fun t_ k_ => XS.isub X3.here hx rfl (hb hby own_d_jdk_68_method_9_13) rfl k_) ?_
  rw [show ((25 : Int32) - (16 : Int32)) = (9 : Int32) from by decide]
  refine own_go (T3.setTop (mkF m 17 #[.val (.ref a), .val (.int (25 : Int32)), .val (.int (16 : Int32))] [])) (fun t_ k_ => XS.ifNo X3.here hx rfl (hb hby own_d_jdk_68_method_9_14) rfl ((if0 _ _).trans (tlt (by decide : (0 : Int32) < (9 : Int32))).2.2.2) k_) ?_
  refine own_go (T3.setTop (mkF m 18 #[.val (.ref a), .val (.int (25 : Int32)), .val (.int (16 : Int32))] [(.ref a)])) (fun t_ k_ => XS.aloadN X3.here hx rfl (hb hby own_d_jdk_68_method_9_17) rfl rfl k_) ?_
  refine own_go (T3.setTop (mkF m 19 #[.val (.ref a), .val (.int (25 : Int32)), .val (.int (16 : Int32))] [(.ref a), (.ref a)])) (fun t_ k_ => XS.aloadN X3.here hx rfl (hb hby own_d_jdk_68_method_9_18) rfl rfl k_) ?_
  obtain ⟨T4, X4, e4, st4⟩ := getF X3 hx hZ hown (host := "") (Or.inl (hw _ (List.mem_of_getElem? (i := 22) rfl))) Via.refl e3 Va (g := (mkF m 19 #[.val (.ref a), .val (.int (25 : Int32)), .val (.int (16 : Int32))] [(.ref a), (.ref a)])) rfl rfl (hb hby own_d_jdk_68_method_9_19)
  refine own_go (T4.setTop (mkF m 22 #[.val (.ref a), .val (.int (25 : Int32)), .val (.int (16 : Int32))] [(.ref b), (.ref a)])) (fun t_ k_ => st4 _ k_) ?_
  refine own_go (T4.setTop (mkF m 23 #[.val (.ref a), .val (.int (25 : Int32)), .val (.int (16 : Int32))] [(.ref a), (.ref b), (.ref a)])) (fun t_ k_ => XS.aloadN X4.here hx rfl (hb hby own_d_jdk_68_method_9_22) rfl rfl k_) ?_
  refine own_go (T4.setTop (mkF m 24 #[.val (.ref a), .val (.int (25 : Int32)), .val (.int (16 : Int32))] [(.int (25 : Int32)), (.ref a), (.ref b), (.ref a)])) (fun t_ k_ => XS.iloadN X4.here hx rfl (hb hby own_d_jdk_68_method_9_23) rfl k_) ?_
  obtain ⟨cq5, q5, q5'⟩ := (Xa).cell
  obtain ⟨_, _, ⟨T5, Lu5, ku5, nu5⟩, -, X5, ⟨Lc5, hQ5, lu5, yu5, zu5⟩, st5⟩ := X4.privateBack hx (y := (⟨"java/lang/AbstractStringBuilder", "newCapacity", "(I)I"⟩ : MethodName)) hown (mvT hZ (hw _ (List.mem_of_getElem? (i := 103) rfl))) (mvT hZ (hw _ (List.mem_of_getElem? (i := 104) rfl))) (own_selp (mvT hZ (hw _ (List.mem_of_getElem? (i := 76) rfl))) rfl (Cond.privateMethod_at (mvP hZ (hw _ (List.mem_of_getElem? (i := 105) rfl)) (args := #[]))) (mvT hZ (hw _ (List.mem_of_getElem? (i := 104) rfl))) (by decide)) (Cond.privateMethod_at (mvP hZ (hw _ (List.mem_of_getElem? (i := 105) rfl)) (args := #[]))) (mvT hZ (hw _ (List.mem_of_getElem? (i := 107) rfl))) (by decide) (backOf (W := 2) (rm_nc l Z a0 hw [] (a) (b) (kv) h0 O Xa Va Ca Na Ab ga gb) hZ (hw _ (List.mem_of_getElem? (i := 107) rfl)) (hw _ (List.mem_of_getElem? (i := 14) rfl)) (by decide) (by decide)) (g := (mkF m 24 #[.val (.ref a), .val (.int (25 : Int32)), .val (.int (16 : Int32))] [(.int (25 : Int32)), (.ref a), (.ref b), (.ref a)])) rfl (by rw [hml]; rfl) (Steps.refl _) (a := a) (by rw [e4]; exact q5) q5' (argsL := [(.int (25 : Int32))]) (rest := [(.ref b), (.ref a)]) (lenOf own_pd9 rfl) rfl (by show 2 * 0 + _ ≤ _; exact Nat.le_of_eq rfl) (hb hby own_d_jdk_68_method_9_24) (fun _ _ => ⟨rfl, e4, (by decide : 0 + 0 ≤ _), (by decide : 0 + 0 ≤ _)⟩)
  dsimp only [Pt.U, Pt.locs, Pt.cells, Pt.slots] at X5 lu5 yu5 zu5 st5 hQ5
  subst lu5 yu5 zu5
  obtain ⟨rfl, N5q, e5⟩ := hQ5
  have N5 := Fr.app N0 N5q
  refine own_go (T5.setTop (mkF m 27 #[.val (.ref a), .val (.int (25 : Int32)), .val (.int (16 : Int32))] [(.int (34 : Int32)), (.ref b), (.ref a)])) (fun t_ k_ => st5.trans k_) ?_
  refine own_go (T5.setTop (mkF m 28 #[.val (.ref a), .val (.int (25 : Int32)), .val (.int (16 : Int32))] [(.ref a), (.int (34 : Int32)), (.ref b), (.ref a)])) (fun t_ k_ => XS.aloadN X5.here hx rfl (hb hby own_d_jdk_68_method_9_27) rfl rfl k_) ?_
  obtain ⟨T6, X6, e6, st6⟩ := getF X5 hx hZ hown (host := "") (Or.inl (hw _ (List.mem_of_getElem? (i := 24) rfl))) Via.refl e5 Ca (g := (mkF m 28 #[.val (.ref a), .val (.int (25 : Int32)), .val (.int (16 : Int32))] [(.ref a), (.int (34 : Int32)), (.ref b), (.ref a)])) rfl rfl (hb hby own_d_jdk_68_method_9_28)
  refine own_go (T6.setTop (mkF m 31 #[.val (.ref a), .val (.int (25 : Int32)), .val (.int (16 : Int32))] [(.int (0 : Int32)), (.int (34 : Int32)), (.ref b), (.ref a)])) (fun t_ k_ => st6 _ k_) ?_
  refine own_go (T6.setTop (mkF m 32 #[.val (.ref a), .val (.int (25 : Int32)), .val (.int (16 : Int32))] [(.int ((34 : Int32) <<< ((0 : Int32) &&& 31))), (.ref b), (.ref a)])) (fun t_ k_ => XS.ishl X6.here hx rfl (hb hby own_d_jdk_68_method_9_31) rfl k_) ?_
  rw [show ((34 : Int32) <<< ((0 : Int32) &&& 31)) = (34 : Int32) from by decide]
  obtain ⟨_, _, ⟨T7, Lu7, ku7, nu7⟩, -, X7, ⟨Lc7, hQ7, lu7, yu7, zu7⟩, st7⟩ := Jvm.LawKit.callS X6 hx (y := (⟨"java/util/Arrays", "copyOf", "([BI)[B"⟩ : MethodName)) hown (mvT hZ (hw _ (List.mem_of_getElem? (i := 118) rfl))) (mvT hZ (hw _ (List.mem_of_getElem? (i := 119) rfl))) (mvT hZ (hw _ (List.mem_of_getElem? (i := 120) rfl))) (mvT hZ (hw _ (List.mem_of_getElem? (i := 121) rfl))) (by decide) (backOf (W := 1) (rm_cp l Z a0 hw [] (b) (kv) h0 O Ab) hZ (hw _ (List.mem_of_getElem? (i := 121) rfl)) (hw _ (List.mem_of_getElem? (i := 120) rfl)) (by decide) (by decide)) (g := (mkF m 32 #[.val (.ref a), .val (.int (25 : Int32)), .val (.int (16 : Int32))] [(.int (34 : Int32)), (.ref b), (.ref a)])) rfl (by rw [hml]; rfl) (argsL := [(.ref b), (.int (34 : Int32))]) (rest := [(.ref a)]) (lenOf own_pd10 rfl) rfl (by show 2 * 0 + _ ≤ _; exact Nat.le_of_eq rfl) (hb hby own_d_jdk_68_method_9_32) (fun _ _ => ⟨rfl, e6, (by decide : 0 + 1 ≤ _), (by decide : 0 + 34 ≤ _)⟩)
  dsimp only [Pt.U, Pt.locs, Pt.cells, Pt.slots] at X7 lu7 yu7 zu7 st7 hQ7
  subst lu7 yu7 zu7
  obtain ⟨r7, kr7, rfl, N7q, K7q, u1_7, u2_7, V7q⟩ := hQ7
  have N7 := Fr.app N5 N7q
  have O7 := own_extK O K7q all0
  have KK7 : Keep h0 T7.heap [a] := (Keep.refl h0 [a]).trans K7q all0
  refine own_go (T7.setTop (mkF m 35 #[.val (.ref a), .val (.int (25 : Int32)), .val (.int (16 : Int32))] [(.ref r7), (.ref a)])) (fun t_ k_ => st7 _ k_) ?_
  have Fz8 := (Xa.keep K7q)
  have Fz9 := (Va.keep K7q nin0)
  obtain ⟨T10, h10, X10, e10, W10, st10⟩ := putF X7 hx hZ hown (host := "") (Or.inl (hw _ (List.mem_of_getElem? (i := 22) rfl))) Via.refl rfl Fz9 Fz8 (Or.inl (hw _ (List.mem_of_getElem? (i := 23) rfl))) (hw _ (List.mem_of_getElem? (i := 5) rfl)) (ty := (.array .byte)) (by decide) rfl rfl (g := (mkF m 35 #[.val (.ref a), .val (.int (25 : Int32)), .val (.int (16 : Int32))] [(.ref r7), (.ref a)])) rfl rfl (hb hby own_d_jdk_68_method_9_35)
  have Fw10 := Fz9.same W10
  have K10 : Keep h0 h10 [a] := KK7.wr W10 (Or.inl (List.mem_of_getElem? (i := 0) rfl))
  have N10 := Fr.snoc X10 N7 ga
  have O10 := own_extW O7 W10 ga
  refine own_go (T10.setTop (mkF m 38 #[.val (.ref a), .val (.int (25 : Int32)), .val (.int (16 : Int32))] [])) (fun t_ k_ => st10 _ k_) ?_
  obtain ⟨fs, hr, hrun, hended, hW, hsame⟩ := X10.leave (v := none) (fun _ => rfl)
  refine ⟨_, _, X10.returnOut hx Bd.returns (hb hby own_d_jdk_68_method_9_38) hr, hrun, hended, _, _, rfl, ?_, ⟨_, rfl⟩, hW, hsame.mono (by decide) (by decide)⟩
  show Q_en4 Z a b kv h0 _ T10.heap _
  have Fz11 := (Fz8.wr W10)
  have Fz12 := ((Ca.keep K7q nin0).other W10 (Or.inr (slot_ne (a0 := a0) (Or.inl (hw _ (List.mem_of_getElem? (i := 25) rfl))) (Or.inl (hw _ (List.mem_of_getElem? (i := 23) rfl))) (by decide) (t := .byte) (t' := (.array .byte)) (by decide) (by decide))))
  have Fz13 := ((Na.keep K7q nin0).other W10 (Or.inr (slot_ne (a0 := a0) (Or.inl (hw _ (List.mem_of_getElem? (i := 72) rfl))) (Or.inl (hw _ (List.mem_of_getElem? (i := 23) rfl))) (by decide) (t := .int) (t' := (.array .byte)) (by decide) (by decide))))
  have Nz14 : a ≠ r7 := (Nat.ne_of_lt (Nat.lt_of_lt_of_le Xa.lt u2_7))
  have Fz15 := (V7q.other W10 (Ne.symm Nz14))
  rw [show T10.heap = h10 from e10]
  exact ⟨_, _, rfl, N10, K10, u1_7, (Nat.le_trans (Keep.refl h0 [a]).1 u2_7), Fz11, Fw10, Fz12, Fz13, Fz15⟩
theorem own_ef_gb4 (m : MethodId) (o : Addr) (b : Addr) : entryFrame m #[(.ref o), (.ref b), (.int (12 : Int32)), (.int (0 : Int32))] 4 = mkF m 0 #[.val (.ref o), .val (.ref b), .val (.int (12 : Int32)), .val (.int (0 : Int32))] [] := by first | (simp [entryFrame, mkF, argsToLocals, Value.category]; done) | rfl
def Q_gb4 (Z : State) (o : Addr) (t1 : Addr) (kb : ClassId) (b : Addr) (kv : ClassId) (a__VALUES : Addr) (a_OUT : Addr) (a_INP : Addr) (a_TAKE_COMPLETE : Addr) (a_OUT_text : Addr) (a_INP_text : Addr) (a_TAKE_COMPLETE_text : Addr) (a_OUT_text_value : Addr) (a_INP_text_value : Addr) (a_TAKE_COMPLETE_text_value : Addr) (k__VALUES : ClassId) (k_OUT_text_value : ClassId) (k_INP_text_value : ClassId) (k_TAKE_COMPLETE_text_value : ClassId) (cs0 : Int32) (h0 : Heap) (v_ : Option Value) (h : Heap) (L_ : List Loc) : Prop := v_ = none ∧ Fr Z.heap.size L_ ∧ (Keep h0 h [b] ∧ Arv Z h b kv .byte 34 [(.int (111 : Int32)), (.int (117 : Int32)), (.int (116 : Int32)), (.int (44 : Int32)), (.int (32 : Int32)), (.int (105 : Int32)), (.int (110 : Int32)), (.int (112 : Int32)), (.int (32 : Int32)), (.int (111 : Int32)), (.int (114 : Int32)), (.int (32 : Int32)), (.int (116 : Int32)), (.int (97 : Int32)), (.int (107 : Int32)), (.int (101 : Int32)), (.int (45 : Int32)), (.int (99 : Int32)), (.int (111 : Int32)), (.int (109 : Int32)), (.int (112 : Int32)), (.int (108 : Int32)), (.int (101 : Int32)), (.int (116 : Int32)), (.int (101 : Int32)), (.int (0 : Int32)), (.int (0 : Int32)), (.int (0 : Int32)), (.int (0 : Int32)), (.int (0 : Int32)), (.int (0 : Int32)), (.int (0 : Int32)), (.int (0 : Int32)), (.int (0 : Int32))] (.int 0))
set_option maxRecDepth 65536 in
set_option maxHeartbeats 40000000 in
theorem rm_gb4 (l : Launch) (Z : State) (a0 : Array Value) (hw : ∀ d ∈ tables_1, d.before a0 Z = true) (ws : List Jvm.Cond) (o : Addr) (t1 : Addr) (kb : ClassId) (b : Addr) (kv : ClassId) (a__VALUES : Addr) (a_OUT : Addr) (a_INP : Addr) (a_TAKE_COMPLETE : Addr) (a_OUT_text : Addr) (a_INP_text : Addr) (a_TAKE_COMPLETE_text : Addr) (a_OUT_text_value : Addr) (a_INP_text_value : Addr) (a_TAKE_COMPLETE_text_value : Addr) (k__VALUES : ClassId) (k_OUT_text_value : ClassId) (k_INP_text_value : ClassId) (k_TAKE_COMPLETE_text_value : ClassId) (cs0 : Int32) (h0 : Heap) (O : Ext Z.heap h0) (w : own_W Z a__VALUES a_OUT a_INP a_TAKE_COMPLETE a_OUT_text a_INP_text a_TAKE_COMPLETE_text a_OUT_text_value a_INP_text_value a_TAKE_COMPLETE_text_value k__VALUES k_OUT_text_value k_INP_text_value k_TAKE_COMPLETE_text_value cs0) (Xo : Exa Z h0 o "java/lang/String") (Vo : Fld Z h0 o "java/lang/String" "value" "[B" (.ref t1)) (Co : Fld Z h0 o "java/lang/String" "coder" "B" (.int 0)) (Ao : Arv Z h0 t1 kb .byte 13 [(.int (116 : Int32)), (.int (97 : Int32)), (.int (107 : Int32)), (.int (101 : Int32)), (.int (45 : Int32)), (.int (99 : Int32)), (.int (111 : Int32)), (.int (109 : Int32)), (.int (112 : Int32)), (.int (108 : Int32)), (.int (101 : Int32)), (.int (116 : Int32)), (.int (101 : Int32))] (.int 0)) (Ab : Arv Z h0 b kv .byte 34 [(.int (111 : Int32)), (.int (117 : Int32)), (.int (116 : Int32)), (.int (44 : Int32)), (.int (32 : Int32)), (.int (105 : Int32)), (.int (110 : Int32)), (.int (112 : Int32)), (.int (32 : Int32)), (.int (111 : Int32)), (.int (114 : Int32)), (.int (32 : Int32)), (.int (0 : Int32)), (.int (0 : Int32)), (.int (0 : Int32)), (.int (0 : Int32)), (.int (0 : Int32)), (.int (0 : Int32)), (.int (0 : Int32)), (.int (0 : Int32)), (.int (0 : Int32)), (.int (0 : Int32)), (.int (0 : Int32)), (.int (0 : Int32)), (.int (0 : Int32)), (.int (0 : Int32)), (.int (0 : Int32)), (.int (0 : Int32)), (.int (0 : Int32)), (.int (0 : Int32)), (.int (0 : Int32)), (.int (0 : Int32)), (.int (0 : Int32)), (.int (0 : Int32))] (.int 0)) (gb : Z.heap.size ≤ b) :
    MetFree l (⟨"java/lang/String", "getBytes", "([BIB)V"⟩ : MethodName) (head1 (Jvm.Cond.code (⟨"java/lang/String", "getBytes", "([BIB)V"⟩ : MethodName) jdk_42_method_147_code 4 none :: ws) ({ frames := 1, cells := 0, slots := 0, locals := 40 } : Room)) (fun a_ U_ => a_ = #[(.ref o), (.ref b), (.int (12 : Int32)), (.int (0 : Int32))] ∧ Z.Warmed39 U_.vm ∧ U_.heap = h0) (fun _ _ _ _ _ => True) (fun _ U_ o_ U2_ => ∃ v_ L_, o_ = .returned v_ ∧ Q_gb4 Z o t1 kb b kv a__VALUES a_OUT a_INP a_TAKE_COMPLETE a_OUT_text a_INP_text a_TAKE_COMPLETE_text a_OUT_text_value a_INP_text_value a_TAKE_COMPLETE_text_value k__VALUES k_OUT_text_value k_INP_text_value k_TAKE_COMPLETE_text_value cs0 h0 v_ U2_.heap L_ ∧ FrameEnd U_ o_ U2_ L_ ({ frames := 1, cells := 0, slots := 0, locals := 40 } : Room).cells ({ frames := 1, cells := 0, slots := 0, locals := 40 } : Room).slots) := by
  refine MetFree.of_bodySF (plainFor_of_name own_pn0) hisR ?_
  intro p e s m args below meth c s₁ Bd hml0 hP hK
  obtain ⟨rfl, hZ, hh⟩ := hP
  have hx := Bd.exec
  have hby := Bd.bytes
  have hml : c.maxLocals = 4 := hml0
  have hown : s.vm.findClass "java/lang/String" = some m.cls := findClass_of_methodNamed Bd.named
  have hnm := (name_of_methodNamed Bd.named Bd.method).1
  have X0 : Stand p l e ({ frames := 1, cells := 0, slots := 0, locals := 40 } : Room) s m #[(.ref o), (.ref b), (.int (12 : Int32)), (.int (0 : Int32))] below meth c s₁ [] 0 0 := Stand.of_body Bd
  have e0 : s₁.heap = h0 := by rw [← hh, Bd.state]; rfl
  have N0 := Fr.nil Z.heap.size
  show own_G p e below (fun o_ s₂ => ∃ v_ L_, o_ = .returned v_ ∧ Q_gb4 Z o t1 kb b kv a__VALUES a_OUT a_INP a_TAKE_COMPLETE a_OUT_text a_INP_text a_TAKE_COMPLETE_text a_OUT_text_value a_INP_text_value a_TAKE_COMPLETE_text_value k__VALUES k_OUT_text_value k_INP_text_value k_TAKE_COMPLETE_text_value cs0 h0 v_ s₂.heap L_ ∧ FrameEnd s o_ s₂ L_ ({ frames := 1, cells := 0, slots := 0, locals := 40 } : Room).cells ({ frames := 1, cells := 0, slots := 0, locals := 40 } : Room).slots) (s₁.setTop (entryFrame m #[(.ref o), (.ref b), (.int (12 : Int32)), (.int (0 : Int32))] 4))
  refine own_go (s₁.setTop (mkF m 0 #[.val (.ref o), .val (.ref b), .val (.int (12 : Int32)), .val (.int (0 : Int32))] [])) (fun t_ k_ => castTop (own_ef_gb4 m o b) k_) ?_
  have w' := w
  obtain ⟨S__VALUES, X__VALUES, S_OUT, X_OUT, S_INP, X_INP, S_TAKE_COMPLETE, X_TAKE_COMPLETE, F_OUT_text, X_OUT_text, F_INP_text, X_INP_text, F_TAKE_COMPLETE_text, X_TAKE_COMPLETE_text, F_OUT_text_value, X_OUT_text_value, F_INP_text_value, X_INP_text_value, F_TAKE_COMPLETE_text_value, X_TAKE_COMPLETE_text_value, F_OUT_text_coder, F_INP_text_coder, F_TAKE_COMPLETE_text_coder, V__VALUES, V_OUT_text_value, V_INP_text_value, V_TAKE_COMPLETE_text_value, S_CS, n_CS⟩ := w'
  refine own_go (s₁.setTop (mkF m 1 #[.val (.ref o), .val (.ref b), .val (.int (12 : Int32)), .val (.int (0 : Int32))] [(.ref o)])) (fun t_ k_ => XS.aloadN X0.here hx rfl (hb hby own_d_jdk_42_method_147_0) rfl rfl k_) ?_
  obtain ⟨cq1, kq1, q1a, q1b, q1c⟩ := isOf hZ e0 Xo
  obtain ⟨_, _, ⟨T1, Lu1, ku1, nu1⟩, -, X1, ⟨Lc1, hQ1, lu1, yu1, zu1⟩, st1⟩ := X0.virtualBack hx (y := (⟨"java/lang/String", "coder", "()B"⟩ : MethodName)) (z := (⟨"java/lang/String", "coder", "()B"⟩ : MethodName)) hown (mvT hZ (hw _ (List.mem_of_getElem? (i := 63) rfl))) (mvT hZ (hw _ (List.mem_of_getElem? (i := 64) rfl))) (notFace_of_selects (args := #[]) (mvT hZ (hw _ (List.mem_of_getElem? (i := 66) rfl)))) (mvT hZ (hw _ (List.mem_of_getElem? (i := 66) rfl))) (mvT hZ (hw _ (List.mem_of_getElem? (i := 65) rfl))) (by decide) (backOf (W := 0) (rm_cdr l Z a0 hw [] (o) (a__VALUES) (a_OUT) (a_INP) (a_TAKE_COMPLETE) (a_OUT_text) (a_INP_text) (a_TAKE_COMPLETE_text) (a_OUT_text_value) (a_INP_text_value) (a_TAKE_COMPLETE_text_value) (k__VALUES) (k_OUT_text_value) (k_INP_text_value) (k_TAKE_COMPLETE_text_value) (cs0) h0 O w Co) hZ (hw _ (List.mem_of_getElem? (i := 67) rfl)) (hw _ (List.mem_of_getElem? (i := 20) rfl)) (by decide) (by decide)) q1a q1c (g := (mkF m 1 #[.val (.ref o), .val (.ref b), .val (.int (12 : Int32)), .val (.int (0 : Int32))] [(.ref o)])) rfl (by rw [hml]; rfl) (Steps.refl _) (argsL := []) (rest := []) (lenOf own_pd3 rfl) rfl (by show 2 * 0 + _ ≤ _; exact Nat.le_of_eq rfl) (hb hby own_d_jdk_42_method_147_1) (fun _ _ => ⟨rfl, e0, (by decide : 0 + 0 ≤ _), (by decide : 0 + 0 ≤ _)⟩)
  dsimp only [Pt.U, Pt.locs, Pt.cells, Pt.slots] at X1 lu1 yu1 zu1 st1 hQ1
  subst lu1 yu1 zu1
  obtain ⟨rfl, N1q, e1⟩ := hQ1
  have N1 := Fr.app N0 N1q
  refine own_go (T1.setTop (mkF m 4 #[.val (.ref o), .val (.ref b), .val (.int (12 : Int32)), .val (.int (0 : Int32))] [(.int (0 : Int32))])) (fun t_ k_ => st1.trans k_) ?_
  refine own_go (T1.setTop (mkF m 5 #[.val (.ref o), .val (.ref b), .val (.int (12 : Int32)), .val (.int (0 : Int32))] [(.int (0 : Int32)), (.int (0 : Int32))])) (fun t_ k_ => XS.iloadN X1.here hx rfl (hb hby own_d_jdk_42_method_147_4) rfl k_) ?_
  refine own_go (T1.setTop (mkF m 8 #[.val (.ref o), .val (.ref b), .val (.int (12 : Int32)), .val (.int (0 : Int32))] [])) (fun t_ k_ => XS.icmpNo X1.here hx rfl (hb hby own_d_jdk_42_method_147_5) rfl (teq (by decide : (0 : Int32) = (0 : Int32))).2 k_) ?_
  refine own_go (T1.setTop (mkF m 9 #[.val (.ref o), .val (.ref b), .val (.int (12 : Int32)), .val (.int (0 : Int32))] [(.ref o)])) (fun t_ k_ => XS.aloadN X1.here hx rfl (hb hby own_d_jdk_42_method_147_8) rfl rfl k_) ?_
  obtain ⟨T2, X2, e2, st2⟩ := getF X1 hx hZ hown (host := "") (Or.inl (hw _ (List.mem_of_getElem? (i := 61) rfl))) Via.refl e1 Vo (g := (mkF m 9 #[.val (.ref o), .val (.ref b), .val (.int (12 : Int32)), .val (.int (0 : Int32))] [(.ref o)])) rfl rfl (hb hby own_d_jdk_42_method_147_9)
  refine own_go (T2.setTop (mkF m 12 #[.val (.ref o), .val (.ref b), .val (.int (12 : Int32)), .val (.int (0 : Int32))] [(.ref t1)])) (fun t_ k_ => st2 _ k_) ?_
  refine own_go (T2.setTop (mkF m 13 #[.val (.ref o), .val (.ref b), .val (.int (12 : Int32)), .val (.int (0 : Int32))] [(.int (0 : Int32)), (.ref t1)])) (fun t_ k_ => XS.iconst X2.here hx rfl (hb hby own_d_jdk_42_method_147_12) k_) ?_
  refine own_go (T2.setTop (mkF m 14 #[.val (.ref o), .val (.ref b), .val (.int (12 : Int32)), .val (.int (0 : Int32))] [(.ref b), (.int (0 : Int32)), (.ref t1)])) (fun t_ k_ => XS.aloadN X2.here hx rfl (hb hby own_d_jdk_42_method_147_13) rfl rfl k_) ?_
  refine own_go (T2.setTop (mkF m 15 #[.val (.ref o), .val (.ref b), .val (.int (12 : Int32)), .val (.int (0 : Int32))] [(.int (12 : Int32)), (.ref b), (.int (0 : Int32)), (.ref t1)])) (fun t_ k_ => XS.iloadN X2.here hx rfl (hb hby own_d_jdk_42_method_147_14) rfl k_) ?_
  refine own_go (T2.setTop (mkF m 16 #[.val (.ref o), .val (.ref b), .val (.int (12 : Int32)), .val (.int (0 : Int32))] [(.int (0 : Int32)), (.int (12 : Int32)), (.ref b), (.int (0 : Int32)), (.ref t1)])) (fun t_ k_ => XS.iloadN X2.here hx rfl (hb hby own_d_jdk_42_method_147_15) rfl k_) ?_
  refine own_go (T2.setTop (mkF m 17 #[.val (.ref o), .val (.ref b), .val (.int (12 : Int32)), .val (.int (0 : Int32))] [(.int ((12 : Int32) <<< ((0 : Int32) &&& 31))), (.ref b), (.int (0 : Int32)), (.ref t1)])) (fun t_ k_ => XS.ishl X2.here hx rfl (hb hby own_d_jdk_42_method_147_16) rfl k_) ?_
  rw [show ((12 : Int32) <<< ((0 : Int32) &&& 31)) = (12 : Int32) from by decide]
  refine own_go (T2.setTop (mkF m 18 #[.val (.ref o), .val (.ref b), .val (.int (12 : Int32)), .val (.int (0 : Int32))] [(.ref o), (.int (12 : Int32)), (.ref b), (.int (0 : Int32)), (.ref t1)])) (fun t_ k_ => XS.aloadN X2.here hx rfl (hb hby own_d_jdk_42_method_147_17) rfl rfl k_) ?_
  obtain ⟨T3, X3, e3, st3⟩ := getF X2 hx hZ hown (host := "") (Or.inl (hw _ (List.mem_of_getElem? (i := 61) rfl))) Via.refl e2 Vo (g := (mkF m 18 #[.val (.ref o), .val (.ref b), .val (.int (12 : Int32)), .val (.int (0 : Int32))] [(.ref o), (.int (12 : Int32)), (.ref b), (.int (0 : Int32)), (.ref t1)])) rfl rfl (hb hby own_d_jdk_42_method_147_18)
  refine own_go (T3.setTop (mkF m 21 #[.val (.ref o), .val (.ref b), .val (.int (12 : Int32)), .val (.int (0 : Int32))] [(.ref t1), (.int (12 : Int32)), (.ref b), (.int (0 : Int32)), (.ref t1)])) (fun t_ k_ => st3 _ k_) ?_
  obtain ⟨cl4, Ar4, q4, Sz4, Nz4, Hz4, Gz4⟩ := id (Ao)
  refine own_go (T3.setTop (mkF m 22 #[.val (.ref o), .val (.ref b), .val (.int (12 : Int32)), .val (.int (0 : Int32))] [(.int (13 : Int32)), (.int (12 : Int32)), (.ref b), (.int (0 : Int32)), (.ref t1)])) (fun t_ k_ => X3.arraylength hx (by rw [e3]; exact Ar4.1) (State.isArrayOf_alike hZ.alike Ar4.2.1) (g := (mkF m 21 #[.val (.ref o), .val (.ref b), .val (.int (12 : Int32)), .val (.int (0 : Int32))] [(.ref t1), (.int (12 : Int32)), (.ref b), (.int (0 : Int32)), (.ref t1)])) rfl rfl (hb hby own_d_jdk_42_method_147_21) _ (by rw [len_of Sz4 Nz4]; exact k_)) ?_
  obtain ⟨T5, h5, L5, X5, e5, N5, Kc5, A5, st5⟩ := cpA X3 hx hZ hown (hw _ (List.mem_of_getElem? (i := 94) rfl)) (hw _ (List.mem_of_getElem? (i := 97) rfl)) (hw _ (List.mem_of_getElem? (i := 95) rfl)) (hw _ (List.mem_of_getElem? (i := 96) rfl)) e3 (us := [(.int (116 : Int32)), (.int (97 : Int32)), (.int (107 : Int32)), (.int (101 : Int32)), (.int (45 : Int32)), (.int (99 : Int32)), (.int (111 : Int32)), (.int (109 : Int32)), (.int (112 : Int32)), (.int (108 : Int32)), (.int (101 : Int32)), (.int (116 : Int32)), (.int (101 : Int32))]) Ao Ab (Or.inl ⟨rfl, rfl⟩) (by decide) (by decide) (by decide) (by decide) (by decide) rfl (Nat.le_of_ble_eq_true rfl) N1 gb (g := (mkF m 22 #[.val (.ref o), .val (.ref b), .val (.int (12 : Int32)), .val (.int (0 : Int32))] [(.int (13 : Int32)), (.int (12 : Int32)), (.ref b), (.int (0 : Int32)), (.ref t1)])) rfl (by rw [hml]; rfl) rfl (hb hby own_d_jdk_42_method_147_22) (by decide) (W := 0) (by show 2 * 0 + _ ≤ _; exact Nat.le_of_eq rfl) (by decide)
  have V5 : Arv Z h5 b kv .byte (34 : Int32) [(.int (111 : Int32)), (.int (117 : Int32)), (.int (116 : Int32)), (.int (44 : Int32)), (.int (32 : Int32)), (.int (105 : Int32)), (.int (110 : Int32)), (.int (112 : Int32)), (.int (32 : Int32)), (.int (111 : Int32)), (.int (114 : Int32)), (.int (32 : Int32)), (.int (116 : Int32)), (.int (97 : Int32)), (.int (107 : Int32)), (.int (101 : Int32)), (.int (45 : Int32)), (.int (99 : Int32)), (.int (111 : Int32)), (.int (109 : Int32)), (.int (112 : Int32)), (.int (108 : Int32)), (.int (101 : Int32)), (.int (116 : Int32)), (.int (101 : Int32)), (.int (0 : Int32)), (.int (0 : Int32)), (.int (0 : Int32)), (.int (0 : Int32)), (.int (0 : Int32)), (.int (0 : Int32)), (.int (0 : Int32)), (.int (0 : Int32)), (.int (0 : Int32))] (.int (0 : Int32)) := A5
  have O5 := own_extK O Kc5 (allS gb all0)
  have KK5 : Keep h0 h5 [b] := (Keep.refl h0 [b]).trans Kc5 (allS (Or.inl (List.mem_of_getElem? (i := 0) rfl)) all0)
  refine own_go (T5.setTop (mkF m 25 #[.val (.ref o), .val (.ref b), .val (.int (12 : Int32)), .val (.int (0 : Int32))] [])) (fun t_ k_ => st5 _ k_) ?_
  refine own_go (T5.setTop (mkF m 43 #[.val (.ref o), .val (.ref b), .val (.int (12 : Int32)), .val (.int (0 : Int32))] [])) (fun t_ k_ => XS.goto X5.here hx rfl (pc0 := 25) (pc' := 43) rfl (hb hby own_d_jdk_42_method_147_25) (by decide) (by decide) k_) ?_
  obtain ⟨fs, hr, hrun, hended, hW, hsame⟩ := X5.leave (v := none) (fun _ => rfl)
  refine ⟨_, _, X5.returnOut hx Bd.returns (hb hby own_d_jdk_42_method_147_43) hr, hrun, hended, _, _, rfl, ?_, ⟨_, rfl⟩, hW, hsame.mono (by decide) (by decide)⟩
  show Q_gb4 Z o t1 kb b kv a__VALUES a_OUT a_INP a_TAKE_COMPLETE a_OUT_text a_INP_text a_TAKE_COMPLETE_text a_OUT_text_value a_INP_text_value a_TAKE_COMPLETE_text_value k__VALUES k_OUT_text_value k_INP_text_value k_TAKE_COMPLETE_text_value cs0 h0 _ T5.heap _
  show Q_gb4 Z o t1 kb b kv a__VALUES a_OUT a_INP a_TAKE_COMPLETE a_OUT_text a_INP_text a_TAKE_COMPLETE_text a_OUT_text_value a_INP_text_value a_TAKE_COMPLETE_text_value k__VALUES k_OUT_text_value k_INP_text_value k_TAKE_COMPLETE_text_value cs0 h0 _ T5.heap _
  rw [show T5.heap = h5 from e5]
  exact ⟨rfl, N5, KK5, V5⟩
theorem own_ef_inf4 (m : MethodId) (a : Addr) (o : Addr) : entryFrame m #[(.ref a), (.ref o)] 2 = mkF m 0 #[.val (.ref a), .val (.ref o)] [] := by first | (simp [entryFrame, mkF, argsToLocals, Value.category]; done) | rfl
def Q_inf4 (Z : State) (a : Addr) (o : Addr) (a__VALUES : Addr) (a_OUT : Addr) (a_INP : Addr) (a_TAKE_COMPLETE : Addr) (a_OUT_text : Addr) (a_INP_text : Addr) (a_TAKE_COMPLETE_text : Addr) (a_OUT_text_value : Addr) (a_INP_text_value : Addr) (a_TAKE_COMPLETE_text_value : Addr) (k__VALUES : ClassId) (k_OUT_text_value : ClassId) (k_INP_text_value : ClassId) (k_TAKE_COMPLETE_text_value : ClassId) (cs0 : Int32) (h0 : Heap) (v_ : Option Value) (h : Heap) (L_ : List Loc) : Prop := v_ = none ∧ Fr Z.heap.size L_ ∧ (h = h0)
set_option maxRecDepth 65536 in
set_option maxHeartbeats 40000000 in
theorem rm_inf4 (l : Launch) (Z : State) (a0 : Array Value) (hw : ∀ d ∈ tables_1, d.before a0 Z = true) (ws : List Jvm.Cond) (a : Addr) (o : Addr) (a__VALUES : Addr) (a_OUT : Addr) (a_INP : Addr) (a_TAKE_COMPLETE : Addr) (a_OUT_text : Addr) (a_INP_text : Addr) (a_TAKE_COMPLETE_text : Addr) (a_OUT_text_value : Addr) (a_INP_text_value : Addr) (a_TAKE_COMPLETE_text_value : Addr) (k__VALUES : ClassId) (k_OUT_text_value : ClassId) (k_INP_text_value : ClassId) (k_TAKE_COMPLETE_text_value : ClassId) (cs0 : Int32) (h0 : Heap) (O : Ext Z.heap h0) (w : own_W Z a__VALUES a_OUT a_INP a_TAKE_COMPLETE a_OUT_text a_INP_text a_TAKE_COMPLETE_text a_OUT_text_value a_INP_text_value a_TAKE_COMPLETE_text_value k__VALUES k_OUT_text_value k_INP_text_value k_TAKE_COMPLETE_text_value cs0) (Ca : Fld Z h0 a "java/lang/AbstractStringBuilder" "coder" "B" (.int 0)) (Xo : Exa Z h0 o "java/lang/String") (Co : Fld Z h0 o "java/lang/String" "coder" "B" (.int 0)) :
    MetFree l (⟨"java/lang/AbstractStringBuilder", "inflateIfNeededFor", "(Ljava/lang/String;)V"⟩ : MethodName) (head1 (Jvm.Cond.code (⟨"java/lang/AbstractStringBuilder", "inflateIfNeededFor", "(Ljava/lang/String;)V"⟩ : MethodName) jdk_68_method_71_code 2 none :: ws) ({ frames := 1, cells := 0, slots := 0, locals := 13 } : Room)) (fun a_ U_ => a_ = #[(.ref a), (.ref o)] ∧ Z.Warmed39 U_.vm ∧ U_.heap = h0) (fun _ _ _ _ _ => True) (fun _ U_ o_ U2_ => ∃ v_ L_, o_ = .returned v_ ∧ Q_inf4 Z a o a__VALUES a_OUT a_INP a_TAKE_COMPLETE a_OUT_text a_INP_text a_TAKE_COMPLETE_text a_OUT_text_value a_INP_text_value a_TAKE_COMPLETE_text_value k__VALUES k_OUT_text_value k_INP_text_value k_TAKE_COMPLETE_text_value cs0 h0 v_ U2_.heap L_ ∧ FrameEnd U_ o_ U2_ L_ ({ frames := 1, cells := 0, slots := 0, locals := 13 } : Room).cells ({ frames := 1, cells := 0, slots := 0, locals := 13 } : Room).slots) := by
  refine MetFree.of_bodySF (plainFor_of_name own_pn1) hisR ?_
  intro p e s m args below meth c s₁ Bd hml0 hP hK
  obtain ⟨rfl, hZ, hh⟩ := hP
  have hx := Bd.exec
  have hby := Bd.bytes
  have hml : c.maxLocals = 2 := hml0
  have hown : s.vm.findClass "java/lang/AbstractStringBuilder" = some m.cls := findClass_of_methodNamed Bd.named
  have hnm := (name_of_methodNamed Bd.named Bd.method).1
  have X0 : Stand p l e ({ frames := 1, cells := 0, slots := 0, locals := 13 } : Room) s m #[(.ref a), (.ref o)] below meth c s₁ [] 0 0 := Stand.of_body Bd
  have e0 : s₁.heap = h0 := by rw [← hh, Bd.state]; rfl
  have N0 := Fr.nil Z.heap.size
  show own_G p e below (fun o_ s₂ => ∃ v_ L_, o_ = .returned v_ ∧ Q_inf4 Z a o a__VALUES a_OUT a_INP a_TAKE_COMPLETE a_OUT_text a_INP_text a_TAKE_COMPLETE_text a_OUT_text_value a_INP_text_value a_TAKE_COMPLETE_text_value k__VALUES k_OUT_text_value k_INP_text_value k_TAKE_COMPLETE_text_value cs0 h0 v_ s₂.heap L_ ∧ FrameEnd s o_ s₂ L_ ({ frames := 1, cells := 0, slots := 0, locals := 13 } : Room).cells ({ frames := 1, cells := 0, slots := 0, locals := 13 } : Room).slots) (s₁.setTop (entryFrame m #[(.ref a), (.ref o)] 2))
  refine own_go (s₁.setTop (mkF m 0 #[.val (.ref a), .val (.ref o)] [])) (fun t_ k_ => castTop (own_ef_inf4 m a o) k_) ?_
  have w' := w
  obtain ⟨S__VALUES, X__VALUES, S_OUT, X_OUT, S_INP, X_INP, S_TAKE_COMPLETE, X_TAKE_COMPLETE, F_OUT_text, X_OUT_text, F_INP_text, X_INP_text, F_TAKE_COMPLETE_text, X_TAKE_COMPLETE_text, F_OUT_text_value, X_OUT_text_value, F_INP_text_value, X_INP_text_value, F_TAKE_COMPLETE_text_value, X_TAKE_COMPLETE_text_value, F_OUT_text_coder, F_INP_text_coder, F_TAKE_COMPLETE_text_coder, V__VALUES, V_OUT_text_value, V_INP_text_value, V_TAKE_COMPLETE_text_value, S_CS, n_CS⟩ := w'
  obtain ⟨T1, X1, e1, st1⟩ := getS2 X0 hx hZ hown (host := "") (Or.inl (hw _ (List.mem_of_getElem? (i := 19) rfl))) Via.refl e0 (S_CS.ext O) (g := (mkF m 0 #[.val (.ref a), .val (.ref o)] [])) rfl (hb hby own_d_jdk_68_method_71_0)
  refine own_go (T1.setTop (mkF m 3 #[.val (.ref a), .val (.ref o)] [(.int cs0)])) (fun t_ k_ => st1 _ k_) ?_
  refine own_go (T1.setTop (mkF m 6 #[.val (.ref a), .val (.ref o)] [])) (fun t_ k_ => XS.ifNo X1.here hx rfl (hb hby own_d_jdk_68_method_71_3) rfl ((if0 _ _).trans (feq n_CS).1) k_) ?_
  refine own_go (T1.setTop (mkF m 7 #[.val (.ref a), .val (.ref o)] [(.ref a)])) (fun t_ k_ => XS.aloadN X1.here hx rfl (hb hby own_d_jdk_68_method_71_6) rfl rfl k_) ?_
  obtain ⟨T2, X2, e2, st2⟩ := getF X1 hx hZ hown (host := "") (Or.inl (hw _ (List.mem_of_getElem? (i := 24) rfl))) Via.refl e1 Ca (g := (mkF m 7 #[.val (.ref a), .val (.ref o)] [(.ref a)])) rfl rfl (hb hby own_d_jdk_68_method_71_7)
  refine own_go (T2.setTop (mkF m 10 #[.val (.ref a), .val (.ref o)] [(.int (0 : Int32))])) (fun t_ k_ => st2 _ k_) ?_
  refine own_go (T2.setTop (mkF m 11 #[.val (.ref a), .val (.ref o)] [(.ref o), (.int (0 : Int32))])) (fun t_ k_ => XS.aloadN X2.here hx rfl (hb hby own_d_jdk_68_method_71_10) rfl rfl k_) ?_
  obtain ⟨cq3, kq3, q3a, q3b, q3c⟩ := isOf hZ e2 Xo
  obtain ⟨_, _, ⟨T3, Lu3, ku3, nu3⟩, -, X3, ⟨Lc3, hQ3, lu3, yu3, zu3⟩, st3⟩ := X2.virtualBack hx (y := (⟨"java/lang/String", "coder", "()B"⟩ : MethodName)) (z := (⟨"java/lang/String", "coder", "()B"⟩ : MethodName)) hown (mvT hZ (hw _ (List.mem_of_getElem? (i := 88) rfl))) (mvT hZ (hw _ (List.mem_of_getElem? (i := 64) rfl))) (notFace_of_selects (args := #[]) (mvT hZ (hw _ (List.mem_of_getElem? (i := 66) rfl)))) (mvT hZ (hw _ (List.mem_of_getElem? (i := 66) rfl))) (mvT hZ (hw _ (List.mem_of_getElem? (i := 65) rfl))) (by decide) (backOf (W := 1) (rm_cdr l Z a0 hw [] (o) (a__VALUES) (a_OUT) (a_INP) (a_TAKE_COMPLETE) (a_OUT_text) (a_INP_text) (a_TAKE_COMPLETE_text) (a_OUT_text_value) (a_INP_text_value) (a_TAKE_COMPLETE_text_value) (k__VALUES) (k_OUT_text_value) (k_INP_text_value) (k_TAKE_COMPLETE_text_value) (cs0) h0 O w Co) hZ (hw _ (List.mem_of_getElem? (i := 67) rfl)) (hw _ (List.mem_of_getElem? (i := 20) rfl)) (by decide) (by decide)) q3a q3c (g := (mkF m 11 #[.val (.ref a), .val (.ref o)] [(.ref o), (.int (0 : Int32))])) rfl (by rw [hml]; rfl) (Steps.refl _) (argsL := []) (rest := [(.int (0 : Int32))]) (lenOf own_pd3 rfl) rfl (by show 2 * 0 + _ ≤ _; exact Nat.le_of_eq rfl) (hb hby own_d_jdk_68_method_71_11) (fun _ _ => ⟨rfl, e2, (by decide : 0 + 0 ≤ _), (by decide : 0 + 0 ≤ _)⟩)
  dsimp only [Pt.U, Pt.locs, Pt.cells, Pt.slots] at X3 lu3 yu3 zu3 st3 hQ3
  subst lu3 yu3 zu3
  obtain ⟨rfl, N3q, e3⟩ := hQ3
  have N3 := Fr.app N0 N3q
  refine own_go (T3.setTop (mkF m 14 #[.val (.ref a), .val (.ref o)] [(.int (0 : Int32)), (.int (0 : Int32))])) (fun t_ k_ => st3.trans k_) ?_
  refine own_go (T3.setTop (mkF m 21 #[.val (.ref a), .val (.ref o)] [])) (fun t_ k_ => XS.icmpYes X3.here hx rfl (pc0 := 14) (pc' := 21) rfl (hb hby own_d_jdk_68_method_71_14) rfl (teq (by decide : (0 : Int32) = (0 : Int32))).1 (by decide) (by decide) k_) ?_
  obtain ⟨fs, hr, hrun, hended, hW, hsame⟩ := X3.leave (v := none) (fun _ => rfl)
  refine ⟨_, _, X3.returnOut hx Bd.returns (hb hby own_d_jdk_68_method_71_21) hr, hrun, hended, _, _, rfl, ?_, ⟨_, rfl⟩, hW, hsame.mono (by decide) (by decide)⟩
  show Q_inf4 Z a o a__VALUES a_OUT a_INP a_TAKE_COMPLETE a_OUT_text a_INP_text a_TAKE_COMPLETE_text a_OUT_text_value a_INP_text_value a_TAKE_COMPLETE_text_value k__VALUES k_OUT_text_value k_INP_text_value k_TAKE_COMPLETE_text_value cs0 h0 _ T3.heap _
  exact ⟨rfl, N3, e3⟩
theorem own_ef_ps4 (m : MethodId) (a : Addr) (o : Addr) : entryFrame m #[(.ref a), (.int (12 : Int32)), (.ref o)] 3 = mkF m 0 #[.val (.ref a), .val (.int (12 : Int32)), .val (.ref o)] [] := by first | (simp [entryFrame, mkF, argsToLocals, Value.category]; done) | rfl
def Q_ps4 (Z : State) (a : Addr) (b : Addr) (kv : ClassId) (o : Addr) (t1 : Addr) (kb : ClassId) (a__VALUES : Addr) (a_OUT : Addr) (a_INP : Addr) (a_TAKE_COMPLETE : Addr) (a_OUT_text : Addr) (a_INP_text : Addr) (a_TAKE_COMPLETE_text : Addr) (a_OUT_text_value : Addr) (a_INP_text_value : Addr) (a_TAKE_COMPLETE_text_value : Addr) (k__VALUES : ClassId) (k_OUT_text_value : ClassId) (k_INP_text_value : ClassId) (k_TAKE_COMPLETE_text_value : ClassId) (cs0 : Int32) (h0 : Heap) (v_ : Option Value) (h : Heap) (L_ : List Loc) : Prop := v_ = none ∧ Fr Z.heap.size L_ ∧ (Keep h0 h [b] ∧ Arv Z h b kv .byte 34 [(.int (111 : Int32)), (.int (117 : Int32)), (.int (116 : Int32)), (.int (44 : Int32)), (.int (32 : Int32)), (.int (105 : Int32)), (.int (110 : Int32)), (.int (112 : Int32)), (.int (32 : Int32)), (.int (111 : Int32)), (.int (114 : Int32)), (.int (32 : Int32)), (.int (116 : Int32)), (.int (97 : Int32)), (.int (107 : Int32)), (.int (101 : Int32)), (.int (45 : Int32)), (.int (99 : Int32)), (.int (111 : Int32)), (.int (109 : Int32)), (.int (112 : Int32)), (.int (108 : Int32)), (.int (101 : Int32)), (.int (116 : Int32)), (.int (101 : Int32)), (.int (0 : Int32)), (.int (0 : Int32)), (.int (0 : Int32)), (.int (0 : Int32)), (.int (0 : Int32)), (.int (0 : Int32)), (.int (0 : Int32)), (.int (0 : Int32)), (.int (0 : Int32))] (.int 0))
set_option maxRecDepth 65536 in
set_option maxHeartbeats 40000000 in
theorem rm_ps4 (l : Launch) (Z : State) (a0 : Array Value) (hw : ∀ d ∈ tables_1, d.before a0 Z = true) (ws : List Jvm.Cond) (a : Addr) (b : Addr) (kv : ClassId) (o : Addr) (t1 : Addr) (kb : ClassId) (a__VALUES : Addr) (a_OUT : Addr) (a_INP : Addr) (a_TAKE_COMPLETE : Addr) (a_OUT_text : Addr) (a_INP_text : Addr) (a_TAKE_COMPLETE_text : Addr) (a_OUT_text_value : Addr) (a_INP_text_value : Addr) (a_TAKE_COMPLETE_text_value : Addr) (k__VALUES : ClassId) (k_OUT_text_value : ClassId) (k_INP_text_value : ClassId) (k_TAKE_COMPLETE_text_value : ClassId) (cs0 : Int32) (h0 : Heap) (O : Ext Z.heap h0) (w : own_W Z a__VALUES a_OUT a_INP a_TAKE_COMPLETE a_OUT_text a_INP_text a_TAKE_COMPLETE_text a_OUT_text_value a_INP_text_value a_TAKE_COMPLETE_text_value k__VALUES k_OUT_text_value k_INP_text_value k_TAKE_COMPLETE_text_value cs0) (Xa : Exa Z h0 a "java/lang/StringBuilder") (Va : Fld Z h0 a "java/lang/AbstractStringBuilder" "value" "[B" (.ref b)) (Ca : Fld Z h0 a "java/lang/AbstractStringBuilder" "coder" "B" (.int 0)) (Ab : Arv Z h0 b kv .byte 34 [(.int (111 : Int32)), (.int (117 : Int32)), (.int (116 : Int32)), (.int (44 : Int32)), (.int (32 : Int32)), (.int (105 : Int32)), (.int (110 : Int32)), (.int (112 : Int32)), (.int (32 : Int32)), (.int (111 : Int32)), (.int (114 : Int32)), (.int (32 : Int32)), (.int (0 : Int32)), (.int (0 : Int32)), (.int (0 : Int32)), (.int (0 : Int32)), (.int (0 : Int32)), (.int (0 : Int32)), (.int (0 : Int32)), (.int (0 : Int32)), (.int (0 : Int32)), (.int (0 : Int32)), (.int (0 : Int32)), (.int (0 : Int32)), (.int (0 : Int32)), (.int (0 : Int32)), (.int (0 : Int32)), (.int (0 : Int32)), (.int (0 : Int32)), (.int (0 : Int32)), (.int (0 : Int32)), (.int (0 : Int32)), (.int (0 : Int32)), (.int (0 : Int32))] (.int 0)) (gb : Z.heap.size ≤ b) (Xo : Exa Z h0 o "java/lang/String") (Vo : Fld Z h0 o "java/lang/String" "value" "[B" (.ref t1)) (Co : Fld Z h0 o "java/lang/String" "coder" "B" (.int 0)) (Ao : Arv Z h0 t1 kb .byte 13 [(.int (116 : Int32)), (.int (97 : Int32)), (.int (107 : Int32)), (.int (101 : Int32)), (.int (45 : Int32)), (.int (99 : Int32)), (.int (111 : Int32)), (.int (109 : Int32)), (.int (112 : Int32)), (.int (108 : Int32)), (.int (101 : Int32)), (.int (116 : Int32)), (.int (101 : Int32))] (.int 0)) :
    MetFree l (⟨"java/lang/AbstractStringBuilder", "putStringAt", "(ILjava/lang/String;)V"⟩ : MethodName) (head1 (Jvm.Cond.code (⟨"java/lang/AbstractStringBuilder", "putStringAt", "(ILjava/lang/String;)V"⟩ : MethodName) jdk_68_method_73_code 3 none :: ws) ({ frames := 2, cells := 0, slots := 0, locals := 55 } : Room)) (fun a_ U_ => a_ = #[(.ref a), (.int (12 : Int32)), (.ref o)] ∧ Z.Warmed39 U_.vm ∧ U_.heap = h0) (fun _ _ _ _ _ => True) (fun _ U_ o_ U2_ => ∃ v_ L_, o_ = .returned v_ ∧ Q_ps4 Z a b kv o t1 kb a__VALUES a_OUT a_INP a_TAKE_COMPLETE a_OUT_text a_INP_text a_TAKE_COMPLETE_text a_OUT_text_value a_INP_text_value a_TAKE_COMPLETE_text_value k__VALUES k_OUT_text_value k_INP_text_value k_TAKE_COMPLETE_text_value cs0 h0 v_ U2_.heap L_ ∧ FrameEnd U_ o_ U2_ L_ ({ frames := 2, cells := 0, slots := 0, locals := 55 } : Room).cells ({ frames := 2, cells := 0, slots := 0, locals := 55 } : Room).slots) := by
  refine MetFree.of_bodySF (plainFor_of_name own_pn1) hisR ?_
  intro p e s m args below meth c s₁ Bd hml0 hP hK
  obtain ⟨rfl, hZ, hh⟩ := hP
  have hx := Bd.exec
  have hby := Bd.bytes
  have hml : c.maxLocals = 3 := hml0
  have hown : s.vm.findClass "java/lang/AbstractStringBuilder" = some m.cls := findClass_of_methodNamed Bd.named
  have hnm := (name_of_methodNamed Bd.named Bd.method).1
  have X0 : Stand p l e ({ frames := 2, cells := 0, slots := 0, locals := 55 } : Room) s m #[(.ref a), (.int (12 : Int32)), (.ref o)] below meth c s₁ [] 0 0 := Stand.of_body Bd
  have e0 : s₁.heap = h0 := by rw [← hh, Bd.state]; rfl
  have N0 := Fr.nil Z.heap.size
  show own_G p e below (fun o_ s₂ => ∃ v_ L_, o_ = .returned v_ ∧ Q_ps4 Z a b kv o t1 kb a__VALUES a_OUT a_INP a_TAKE_COMPLETE a_OUT_text a_INP_text a_TAKE_COMPLETE_text a_OUT_text_value a_INP_text_value a_TAKE_COMPLETE_text_value k__VALUES k_OUT_text_value k_INP_text_value k_TAKE_COMPLETE_text_value cs0 h0 v_ s₂.heap L_ ∧ FrameEnd s o_ s₂ L_ ({ frames := 2, cells := 0, slots := 0, locals := 55 } : Room).cells ({ frames := 2, cells := 0, slots := 0, locals := 55 } : Room).slots) (s₁.setTop (entryFrame m #[(.ref a), (.int (12 : Int32)), (.ref o)] 3))
  refine own_go (s₁.setTop (mkF m 0 #[.val (.ref a), .val (.int (12 : Int32)), .val (.ref o)] [])) (fun t_ k_ => castTop (own_ef_ps4 m a o) k_) ?_
  have w' := w
  obtain ⟨S__VALUES, X__VALUES, S_OUT, X_OUT, S_INP, X_INP, S_TAKE_COMPLETE, X_TAKE_COMPLETE, F_OUT_text, X_OUT_text, F_INP_text, X_INP_text, F_TAKE_COMPLETE_text, X_TAKE_COMPLETE_text, F_OUT_text_value, X_OUT_text_value, F_INP_text_value, X_INP_text_value, F_TAKE_COMPLETE_text_value, X_TAKE_COMPLETE_text_value, F_OUT_text_coder, F_INP_text_coder, F_TAKE_COMPLETE_text_coder, V__VALUES, V_OUT_text_value, V_INP_text_value, V_TAKE_COMPLETE_text_value, S_CS, n_CS⟩ := w'
  refine own_go (s₁.setTop (mkF m 1 #[.val (.ref a), .val (.int (12 : Int32)), .val (.ref o)] [(.ref a)])) (fun t_ k_ => XS.aloadN X0.here hx rfl (hb hby own_d_jdk_68_method_73_0) rfl rfl k_) ?_
  refine own_go (s₁.setTop (mkF m 2 #[.val (.ref a), .val (.int (12 : Int32)), .val (.ref o)] [(.ref o), (.ref a)])) (fun t_ k_ => XS.aloadN X0.here hx rfl (hb hby own_d_jdk_68_method_73_1) rfl rfl k_) ?_
  obtain ⟨cq1, q1, q1'⟩ := (Xa).cell
  obtain ⟨_, _, ⟨T1, Lu1, ku1, nu1⟩, -, X1, ⟨Lc1, hQ1, lu1, yu1, zu1⟩, st1⟩ := X0.privateBack hx (y := (⟨"java/lang/AbstractStringBuilder", "inflateIfNeededFor", "(Ljava/lang/String;)V"⟩ : MethodName)) hown (mvT hZ (hw _ (List.mem_of_getElem? (i := 83) rfl))) (mvT hZ (hw _ (List.mem_of_getElem? (i := 84) rfl))) (own_selp (mvT hZ (hw _ (List.mem_of_getElem? (i := 76) rfl))) rfl (Cond.privateMethod_at (mvP hZ (hw _ (List.mem_of_getElem? (i := 85) rfl)) (args := #[]))) (mvT hZ (hw _ (List.mem_of_getElem? (i := 84) rfl))) (by decide)) (Cond.privateMethod_at (mvP hZ (hw _ (List.mem_of_getElem? (i := 85) rfl)) (args := #[]))) (mvT hZ (hw _ (List.mem_of_getElem? (i := 87) rfl))) (by decide) (backOf (W := 0) (rm_inf4 l Z a0 hw [] (a) (o) (a__VALUES) (a_OUT) (a_INP) (a_TAKE_COMPLETE) (a_OUT_text) (a_INP_text) (a_TAKE_COMPLETE_text) (a_OUT_text_value) (a_INP_text_value) (a_TAKE_COMPLETE_text_value) (k__VALUES) (k_OUT_text_value) (k_INP_text_value) (k_TAKE_COMPLETE_text_value) (cs0) h0 O w Ca Xo Co) hZ (hw _ (List.mem_of_getElem? (i := 87) rfl)) (hw _ (List.mem_of_getElem? (i := 14) rfl)) (by decide) (by decide)) (g := (mkF m 2 #[.val (.ref a), .val (.int (12 : Int32)), .val (.ref o)] [(.ref o), (.ref a)])) rfl (by rw [hml]; rfl) (Steps.refl _) (a := a) (by rw [e0]; exact q1) q1' (argsL := [(.ref o)]) (rest := []) (lenOf own_pd4 rfl) rfl (by show 2 * 0 + _ ≤ _; exact Nat.le_of_eq rfl) (hb hby own_d_jdk_68_method_73_2) (fun _ _ => ⟨rfl, e0, (by decide : 0 + 0 ≤ _), (by decide : 0 + 0 ≤ _)⟩)
  dsimp only [Pt.U, Pt.locs, Pt.cells, Pt.slots] at X1 lu1 yu1 zu1 st1 hQ1
  subst lu1 yu1 zu1
  obtain ⟨rfl, N1q, e1⟩ := hQ1
  have N1 := Fr.app N0 N1q
  refine own_go (T1.setTop (mkF m 5 #[.val (.ref a), .val (.int (12 : Int32)), .val (.ref o)] [])) (fun t_ k_ => st1.trans k_) ?_
  refine own_go (T1.setTop (mkF m 6 #[.val (.ref a), .val (.int (12 : Int32)), .val (.ref o)] [(.ref o)])) (fun t_ k_ => XS.aloadN X1.here hx rfl (hb hby own_d_jdk_68_method_73_5) rfl rfl k_) ?_
  refine own_go (T1.setTop (mkF m 7 #[.val (.ref a), .val (.int (12 : Int32)), .val (.ref o)] [(.ref a), (.ref o)])) (fun t_ k_ => XS.aloadN X1.here hx rfl (hb hby own_d_jdk_68_method_73_6) rfl rfl k_) ?_
  obtain ⟨T2, X2, e2, st2⟩ := getF X1 hx hZ hown (host := "") (Or.inl (hw _ (List.mem_of_getElem? (i := 22) rfl))) Via.refl e1 Va (g := (mkF m 7 #[.val (.ref a), .val (.int (12 : Int32)), .val (.ref o)] [(.ref a), (.ref o)])) rfl rfl (hb hby own_d_jdk_68_method_73_7)
  refine own_go (T2.setTop (mkF m 10 #[.val (.ref a), .val (.int (12 : Int32)), .val (.ref o)] [(.ref b), (.ref o)])) (fun t_ k_ => st2 _ k_) ?_
  refine own_go (T2.setTop (mkF m 11 #[.val (.ref a), .val (.int (12 : Int32)), .val (.ref o)] [(.int (12 : Int32)), (.ref b), (.ref o)])) (fun t_ k_ => XS.iloadN X2.here hx rfl (hb hby own_d_jdk_68_method_73_10) rfl k_) ?_
  refine own_go (T2.setTop (mkF m 12 #[.val (.ref a), .val (.int (12 : Int32)), .val (.ref o)] [(.ref a), (.int (12 : Int32)), (.ref b), (.ref o)])) (fun t_ k_ => XS.aloadN X2.here hx rfl (hb hby own_d_jdk_68_method_73_11) rfl rfl k_) ?_
  obtain ⟨T3, X3, e3, st3⟩ := getF X2 hx hZ hown (host := "") (Or.inl (hw _ (List.mem_of_getElem? (i := 24) rfl))) Via.refl e2 Ca (g := (mkF m 12 #[.val (.ref a), .val (.int (12 : Int32)), .val (.ref o)] [(.ref a), (.int (12 : Int32)), (.ref b), (.ref o)])) rfl rfl (hb hby own_d_jdk_68_method_73_12)
  refine own_go (T3.setTop (mkF m 15 #[.val (.ref a), .val (.int (12 : Int32)), .val (.ref o)] [(.int (0 : Int32)), (.int (12 : Int32)), (.ref b), (.ref o)])) (fun t_ k_ => st3 _ k_) ?_
  obtain ⟨cq4, kq4, q4a, q4b, q4c⟩ := isOf hZ e3 Xo
  obtain ⟨_, _, ⟨T4, Lu4, ku4, nu4⟩, -, X4, ⟨Lc4, hQ4, lu4, yu4, zu4⟩, st4⟩ := X3.virtualBack hx (y := (⟨"java/lang/String", "getBytes", "([BIB)V"⟩ : MethodName)) (z := (⟨"java/lang/String", "getBytes", "([BIB)V"⟩ : MethodName)) hown (mvT hZ (hw _ (List.mem_of_getElem? (i := 89) rfl))) (mvT hZ (hw _ (List.mem_of_getElem? (i := 90) rfl))) (notFace_of_selects (args := #[]) (mvT hZ (hw _ (List.mem_of_getElem? (i := 92) rfl)))) (mvT hZ (hw _ (List.mem_of_getElem? (i := 92) rfl))) (mvT hZ (hw _ (List.mem_of_getElem? (i := 91) rfl))) (by decide) (backOf (W := 0) (rm_gb4 l Z a0 hw [] (o) (t1) (kb) (b) (kv) (a__VALUES) (a_OUT) (a_INP) (a_TAKE_COMPLETE) (a_OUT_text) (a_INP_text) (a_TAKE_COMPLETE_text) (a_OUT_text_value) (a_INP_text_value) (a_TAKE_COMPLETE_text_value) (k__VALUES) (k_OUT_text_value) (k_INP_text_value) (k_TAKE_COMPLETE_text_value) (cs0) h0 O w Xo Vo Co Ao Ab gb) hZ (hw _ (List.mem_of_getElem? (i := 93) rfl)) (hw _ (List.mem_of_getElem? (i := 20) rfl)) (by decide) (by decide)) q4a q4c (g := (mkF m 15 #[.val (.ref a), .val (.int (12 : Int32)), .val (.ref o)] [(.int (0 : Int32)), (.int (12 : Int32)), (.ref b), (.ref o)])) rfl (by rw [hml]; rfl) (Steps.refl _) (argsL := [(.ref b), (.int (12 : Int32)), (.int (0 : Int32))]) (rest := []) (lenOf own_pd5 rfl) rfl (by show 2 * 0 + _ ≤ _; exact Nat.le_of_eq rfl) (hb hby own_d_jdk_68_method_73_15) (fun _ _ => ⟨rfl, e3, (by decide : 0 + 0 ≤ _), (by decide : 0 + 0 ≤ _)⟩)
  dsimp only [Pt.U, Pt.locs, Pt.cells, Pt.slots] at X4 lu4 yu4 zu4 st4 hQ4
  subst lu4 yu4 zu4
  obtain ⟨rfl, N4q, K4q, V4q⟩ := hQ4
  have N4 := Fr.app N1 N4q
  have O4 := own_extK O K4q (allS gb all0)
  have KK4 : Keep h0 T4.heap [b] := (Keep.refl h0 [b]).trans K4q (allS (Or.inl (List.mem_of_getElem? (i := 0) rfl)) all0)
  refine own_go (T4.setTop (mkF m 18 #[.val (.ref a), .val (.int (12 : Int32)), .val (.ref o)] [])) (fun t_ k_ => st4.trans k_) ?_
  obtain ⟨fs, hr, hrun, hended, hW, hsame⟩ := X4.leave (v := none) (fun _ => rfl)
  refine ⟨_, _, X4.returnOut hx Bd.returns (hb hby own_d_jdk_68_method_73_18) hr, hrun, hended, _, _, rfl, ?_, ⟨_, rfl⟩, hW, hsame.mono (by decide) (by decide)⟩
  show Q_ps4 Z a b kv o t1 kb a__VALUES a_OUT a_INP a_TAKE_COMPLETE a_OUT_text a_INP_text a_TAKE_COMPLETE_text a_OUT_text_value a_INP_text_value a_TAKE_COMPLETE_text_value k__VALUES k_OUT_text_value k_INP_text_value k_TAKE_COMPLETE_text_value cs0 h0 _ T4.heap _
  exact ⟨rfl, N4, KK4, V4q⟩
theorem own_ef_ln4 (m : MethodId) (o : Addr) : entryFrame m #[(.ref o)] 1 = mkF m 0 #[.val (.ref o)] [] := by first | (simp [entryFrame, mkF, argsToLocals, Value.category]; done) | rfl
def Q_ln4 (Z : State) (o : Addr) (t1 : Addr) (kb : ClassId) (a__VALUES : Addr) (a_OUT : Addr) (a_INP : Addr) (a_TAKE_COMPLETE : Addr) (a_OUT_text : Addr) (a_INP_text : Addr) (a_TAKE_COMPLETE_text : Addr) (a_OUT_text_value : Addr) (a_INP_text_value : Addr) (a_TAKE_COMPLETE_text_value : Addr) (k__VALUES : ClassId) (k_OUT_text_value : ClassId) (k_INP_text_value : ClassId) (k_TAKE_COMPLETE_text_value : ClassId) (cs0 : Int32) (h0 : Heap) (v_ : Option Value) (h : Heap) (L_ : List Loc) : Prop := v_ = some (.int 13) ∧ Fr Z.heap.size L_ ∧ (h = h0)
set_option maxRecDepth 65536 in
set_option maxHeartbeats 40000000 in
theorem rm_ln4 (l : Launch) (Z : State) (a0 : Array Value) (hw : ∀ d ∈ tables_1, d.before a0 Z = true) (ws : List Jvm.Cond) (o : Addr) (t1 : Addr) (kb : ClassId) (a__VALUES : Addr) (a_OUT : Addr) (a_INP : Addr) (a_TAKE_COMPLETE : Addr) (a_OUT_text : Addr) (a_INP_text : Addr) (a_TAKE_COMPLETE_text : Addr) (a_OUT_text_value : Addr) (a_INP_text_value : Addr) (a_TAKE_COMPLETE_text_value : Addr) (k__VALUES : ClassId) (k_OUT_text_value : ClassId) (k_INP_text_value : ClassId) (k_TAKE_COMPLETE_text_value : ClassId) (cs0 : Int32) (h0 : Heap) (O : Ext Z.heap h0) (w : own_W Z a__VALUES a_OUT a_INP a_TAKE_COMPLETE a_OUT_text a_INP_text a_TAKE_COMPLETE_text a_OUT_text_value a_INP_text_value a_TAKE_COMPLETE_text_value k__VALUES k_OUT_text_value k_INP_text_value k_TAKE_COMPLETE_text_value cs0) (Xo : Exa Z h0 o "java/lang/String") (Vo : Fld Z h0 o "java/lang/String" "value" "[B" (.ref t1)) (Co : Fld Z h0 o "java/lang/String" "coder" "B" (.int 0)) (Ao : Arv Z h0 t1 kb .byte 13 [(.int (116 : Int32)), (.int (97 : Int32)), (.int (107 : Int32)), (.int (101 : Int32)), (.int (45 : Int32)), (.int (99 : Int32)), (.int (111 : Int32)), (.int (109 : Int32)), (.int (112 : Int32)), (.int (108 : Int32)), (.int (101 : Int32)), (.int (116 : Int32)), (.int (101 : Int32))] (.int 0)) :
    MetFree l (⟨"java/lang/String", "length", "()I"⟩ : MethodName) (head1 (Jvm.Cond.code (⟨"java/lang/String", "length", "()I"⟩ : MethodName) jdk_42_method_54_code 1 (some .int) :: ws) ({ frames := 1, cells := 0, slots := 0, locals := 13 } : Room)) (fun a_ U_ => a_ = #[(.ref o)] ∧ Z.Warmed39 U_.vm ∧ U_.heap = h0) (fun _ _ _ _ _ => True) (fun _ U_ o_ U2_ => ∃ v_ L_, o_ = .returned v_ ∧ Q_ln4 Z o t1 kb a__VALUES a_OUT a_INP a_TAKE_COMPLETE a_OUT_text a_INP_text a_TAKE_COMPLETE_text a_OUT_text_value a_INP_text_value a_TAKE_COMPLETE_text_value k__VALUES k_OUT_text_value k_INP_text_value k_TAKE_COMPLETE_text_value cs0 h0 v_ U2_.heap L_ ∧ FrameEnd U_ o_ U2_ L_ ({ frames := 1, cells := 0, slots := 0, locals := 13 } : Room).cells ({ frames := 1, cells := 0, slots := 0, locals := 13 } : Room).slots) := by
  refine MetFree.of_bodySF (plainFor_of_name own_pn0) hisR ?_
  intro p e s m args below meth c s₁ Bd hml0 hP hK
  obtain ⟨rfl, hZ, hh⟩ := hP
  have hx := Bd.exec
  have hby := Bd.bytes
  have hml : c.maxLocals = 1 := hml0
  have hown : s.vm.findClass "java/lang/String" = some m.cls := findClass_of_methodNamed Bd.named
  have hnm := (name_of_methodNamed Bd.named Bd.method).1
  have X0 : Stand p l e ({ frames := 1, cells := 0, slots := 0, locals := 13 } : Room) s m #[(.ref o)] below meth c s₁ [] 0 0 := Stand.of_body Bd
  have e0 : s₁.heap = h0 := by rw [← hh, Bd.state]; rfl
  have N0 := Fr.nil Z.heap.size
  show own_G p e below (fun o_ s₂ => ∃ v_ L_, o_ = .returned v_ ∧ Q_ln4 Z o t1 kb a__VALUES a_OUT a_INP a_TAKE_COMPLETE a_OUT_text a_INP_text a_TAKE_COMPLETE_text a_OUT_text_value a_INP_text_value a_TAKE_COMPLETE_text_value k__VALUES k_OUT_text_value k_INP_text_value k_TAKE_COMPLETE_text_value cs0 h0 v_ s₂.heap L_ ∧ FrameEnd s o_ s₂ L_ ({ frames := 1, cells := 0, slots := 0, locals := 13 } : Room).cells ({ frames := 1, cells := 0, slots := 0, locals := 13 } : Room).slots) (s₁.setTop (entryFrame m #[(.ref o)] 1))
  refine own_go (s₁.setTop (mkF m 0 #[.val (.ref o)] [])) (fun t_ k_ => castTop (own_ef_ln4 m o) k_) ?_
  have w' := w
  obtain ⟨S__VALUES, X__VALUES, S_OUT, X_OUT, S_INP, X_INP, S_TAKE_COMPLETE, X_TAKE_COMPLETE, F_OUT_text, X_OUT_text, F_INP_text, X_INP_text, F_TAKE_COMPLETE_text, X_TAKE_COMPLETE_text, F_OUT_text_value, X_OUT_text_value, F_INP_text_value, X_INP_text_value, F_TAKE_COMPLETE_text_value, X_TAKE_COMPLETE_text_value, F_OUT_text_coder, F_INP_text_coder, F_TAKE_COMPLETE_text_coder, V__VALUES, V_OUT_text_value, V_INP_text_value, V_TAKE_COMPLETE_text_value, S_CS, n_CS⟩ := w'
  refine own_go (s₁.setTop (mkF m 1 #[.val (.ref o)] [(.ref o)])) (fun t_ k_ => XS.aloadN X0.here hx rfl (hb hby own_d_jdk_42_method_54_0) rfl rfl k_) ?_
  obtain ⟨T1, X1, e1, st1⟩ := getF X0 hx hZ hown (host := "") (Or.inl (hw _ (List.mem_of_getElem? (i := 61) rfl))) Via.refl e0 Vo (g := (mkF m 1 #[.val (.ref o)] [(.ref o)])) rfl rfl (hb hby own_d_jdk_42_method_54_1)
  refine own_go (T1.setTop (mkF m 4 #[.val (.ref o)] [(.ref t1)])) (fun t_ k_ => st1 _ k_) ?_
  obtain ⟨cl2, Ar2, q2, Sz2, Nz2, Hz2, Gz2⟩ := id (Ao)
  refine own_go (T1.setTop (mkF m 5 #[.val (.ref o)] [(.int (13 : Int32))])) (fun t_ k_ => X1.arraylength hx (by rw [e1]; exact Ar2.1) (State.isArrayOf_alike hZ.alike Ar2.2.1) (g := (mkF m 4 #[.val (.ref o)] [(.ref t1)])) rfl rfl (hb hby own_d_jdk_42_method_54_4) _ (by rw [len_of Sz2 Nz2]; exact k_)) ?_
  refine own_go (T1.setTop (mkF m 6 #[.val (.ref o)] [(.ref o), (.int (13 : Int32))])) (fun t_ k_ => XS.aloadN X1.here hx rfl (hb hby own_d_jdk_42_method_54_5) rfl rfl k_) ?_
  obtain ⟨cq3, kq3, q3a, q3b, q3c⟩ := isOf hZ e1 Xo
  obtain ⟨_, _, ⟨T3, Lu3, ku3, nu3⟩, -, X3, ⟨Lc3, hQ3, lu3, yu3, zu3⟩, st3⟩ := X1.virtualBack hx (y := (⟨"java/lang/String", "coder", "()B"⟩ : MethodName)) (z := (⟨"java/lang/String", "coder", "()B"⟩ : MethodName)) hown (mvT hZ (hw _ (List.mem_of_getElem? (i := 63) rfl))) (mvT hZ (hw _ (List.mem_of_getElem? (i := 64) rfl))) (notFace_of_selects (args := #[]) (mvT hZ (hw _ (List.mem_of_getElem? (i := 66) rfl)))) (mvT hZ (hw _ (List.mem_of_getElem? (i := 66) rfl))) (mvT hZ (hw _ (List.mem_of_getElem? (i := 65) rfl))) (by decide) (backOf (W := 1) (rm_cdr l Z a0 hw [] (o) (a__VALUES) (a_OUT) (a_INP) (a_TAKE_COMPLETE) (a_OUT_text) (a_INP_text) (a_TAKE_COMPLETE_text) (a_OUT_text_value) (a_INP_text_value) (a_TAKE_COMPLETE_text_value) (k__VALUES) (k_OUT_text_value) (k_INP_text_value) (k_TAKE_COMPLETE_text_value) (cs0) h0 O w Co) hZ (hw _ (List.mem_of_getElem? (i := 67) rfl)) (hw _ (List.mem_of_getElem? (i := 20) rfl)) (by decide) (by decide)) q3a q3c (g := (mkF m 6 #[.val (.ref o)] [(.ref o), (.int (13 : Int32))])) rfl (by rw [hml]; rfl) (Steps.refl _) (argsL := []) (rest := [(.int (13 : Int32))]) (lenOf own_pd3 rfl) rfl (by show 2 * 0 + _ ≤ _; exact Nat.le_of_eq rfl) (hb hby own_d_jdk_42_method_54_6) (fun _ _ => ⟨rfl, e1, (by decide : 0 + 0 ≤ _), (by decide : 0 + 0 ≤ _)⟩)
  dsimp only [Pt.U, Pt.locs, Pt.cells, Pt.slots] at X3 lu3 yu3 zu3 st3 hQ3
  subst lu3 yu3 zu3
  obtain ⟨rfl, N3q, e3⟩ := hQ3
  have N3 := Fr.app N0 N3q
  refine own_go (T3.setTop (mkF m 9 #[.val (.ref o)] [(.int (0 : Int32)), (.int (13 : Int32))])) (fun t_ k_ => st3.trans k_) ?_
  refine own_go (T3.setTop (mkF m 10 #[.val (.ref o)] [(.int ((13 : Int32) >>> ((0 : Int32) &&& 31)))])) (fun t_ k_ => XS.ishr X3.here hx rfl (hb hby own_d_jdk_42_method_54_9) rfl k_) ?_
  rw [show ((13 : Int32) >>> ((0 : Int32) &&& 31)) = (13 : Int32) from by decide]
  obtain ⟨fs, hr, hrun, hended, hW, hsame⟩ := X3.leave (v := some (.int (13 : Int32))) (fun h => by rw [Bd.returns] at h; cases h)
  refine ⟨_, _, retI X3 hx Bd.returns (hb hby own_d_jdk_42_method_54_10) hr, hrun, hended, _, _, rfl, ?_, ⟨_, rfl⟩, hW, hsame.mono (by decide) (by decide)⟩
  show Q_ln4 Z o t1 kb a__VALUES a_OUT a_INP a_TAKE_COMPLETE a_OUT_text a_INP_text a_TAKE_COMPLETE_text a_OUT_text_value a_INP_text_value a_TAKE_COMPLETE_text_value k__VALUES k_OUT_text_value k_INP_text_value k_TAKE_COMPLETE_text_value cs0 h0 _ T3.heap _
  exact ⟨rfl, N3, e3⟩
theorem own_ef_aa4 (m : MethodId) (a : Addr) (o : Addr) : entryFrame m #[(.ref a), (.ref o)] 3 = mkF m 0 #[.val (.ref a), .val (.ref o), .unset] [] := by first | (simp [entryFrame, mkF, argsToLocals, Value.category]; done) | rfl
def Q_aa4 (Z : State) (a : Addr) (b : Addr) (kv : ClassId) (o : Addr) (t1 : Addr) (kb : ClassId) (a__VALUES : Addr) (a_OUT : Addr) (a_INP : Addr) (a_TAKE_COMPLETE : Addr) (a_OUT_text : Addr) (a_INP_text : Addr) (a_TAKE_COMPLETE_text : Addr) (a_OUT_text_value : Addr) (a_INP_text_value : Addr) (a_TAKE_COMPLETE_text_value : Addr) (k__VALUES : ClassId) (k_OUT_text_value : ClassId) (k_INP_text_value : ClassId) (k_TAKE_COMPLETE_text_value : ClassId) (cs0 : Int32) (h0 : Heap) (v_ : Option Value) (h : Heap) (L_ : List Loc) : Prop := ∃ (b2 : Addr), ∃ (k2 : ClassId), v_ = some (.ref a) ∧ Fr Z.heap.size L_ ∧ (Keep h0 h [a] ∧ Z.heap.size ≤ b2 ∧ h0.size ≤ b2 ∧ Exa Z h a "java/lang/StringBuilder" ∧ Fld Z h a "java/lang/AbstractStringBuilder" "value" "[B" (.ref b2) ∧ Fld Z h a "java/lang/AbstractStringBuilder" "coder" "B" (.int 0) ∧ Fld Z h a "java/lang/AbstractStringBuilder" "count" "I" (.int 25) ∧ Arv Z h b2 k2 .byte 34 [(.int (111 : Int32)), (.int (117 : Int32)), (.int (116 : Int32)), (.int (44 : Int32)), (.int (32 : Int32)), (.int (105 : Int32)), (.int (110 : Int32)), (.int (112 : Int32)), (.int (32 : Int32)), (.int (111 : Int32)), (.int (114 : Int32)), (.int (32 : Int32)), (.int (116 : Int32)), (.int (97 : Int32)), (.int (107 : Int32)), (.int (101 : Int32)), (.int (45 : Int32)), (.int (99 : Int32)), (.int (111 : Int32)), (.int (109 : Int32)), (.int (112 : Int32)), (.int (108 : Int32)), (.int (101 : Int32)), (.int (116 : Int32)), (.int (101 : Int32)), (.int (0 : Int32)), (.int (0 : Int32)), (.int (0 : Int32)), (.int (0 : Int32)), (.int (0 : Int32)), (.int (0 : Int32)), (.int (0 : Int32)), (.int (0 : Int32)), (.int (0 : Int32))] (.int 0))
set_option maxRecDepth 65536 in
set_option maxHeartbeats 40000000 in
theorem rm_aa4 (l : Launch) (Z : State) (a0 : Array Value) (hw : ∀ d ∈ tables_1, d.before a0 Z = true) (ws : List Jvm.Cond) (a : Addr) (b : Addr) (kv : ClassId) (o : Addr) (t1 : Addr) (kb : ClassId) (a__VALUES : Addr) (a_OUT : Addr) (a_INP : Addr) (a_TAKE_COMPLETE : Addr) (a_OUT_text : Addr) (a_INP_text : Addr) (a_TAKE_COMPLETE_text : Addr) (a_OUT_text_value : Addr) (a_INP_text_value : Addr) (a_TAKE_COMPLETE_text_value : Addr) (k__VALUES : ClassId) (k_OUT_text_value : ClassId) (k_INP_text_value : ClassId) (k_TAKE_COMPLETE_text_value : ClassId) (cs0 : Int32) (h0 : Heap) (O : Ext Z.heap h0) (w : own_W Z a__VALUES a_OUT a_INP a_TAKE_COMPLETE a_OUT_text a_INP_text a_TAKE_COMPLETE_text a_OUT_text_value a_INP_text_value a_TAKE_COMPLETE_text_value k__VALUES k_OUT_text_value k_INP_text_value k_TAKE_COMPLETE_text_value cs0) (Xa : Exa Z h0 a "java/lang/StringBuilder") (Va : Fld Z h0 a "java/lang/AbstractStringBuilder" "value" "[B" (.ref b)) (Ca : Fld Z h0 a "java/lang/AbstractStringBuilder" "coder" "B" (.int 0)) (Na : Fld Z h0 a "java/lang/AbstractStringBuilder" "count" "I" (.int 12)) (Ab : Arv Z h0 b kv .byte 16 [(.int (111 : Int32)), (.int (117 : Int32)), (.int (116 : Int32)), (.int (44 : Int32)), (.int (32 : Int32)), (.int (105 : Int32)), (.int (110 : Int32)), (.int (112 : Int32)), (.int (32 : Int32)), (.int (111 : Int32)), (.int (114 : Int32)), (.int (32 : Int32))] (.int 0)) (ga : Z.heap.size ≤ a) (gb : Z.heap.size ≤ b) (Xo : Exa Z h0 o "java/lang/String") (Vo : Fld Z h0 o "java/lang/String" "value" "[B" (.ref t1)) (Co : Fld Z h0 o "java/lang/String" "coder" "B" (.int 0)) (Ao : Arv Z h0 t1 kb .byte 13 [(.int (116 : Int32)), (.int (97 : Int32)), (.int (107 : Int32)), (.int (101 : Int32)), (.int (45 : Int32)), (.int (99 : Int32)), (.int (111 : Int32)), (.int (109 : Int32)), (.int (112 : Int32)), (.int (108 : Int32)), (.int (101 : Int32)), (.int (116 : Int32)), (.int (101 : Int32))] (.int 0)) (nt : t1 ≠ b) :
    MetFree l (⟨"java/lang/AbstractStringBuilder", "append", "(Ljava/lang/String;)Ljava/lang/AbstractStringBuilder;"⟩ : MethodName) (head1 (Jvm.Cond.code (⟨"java/lang/AbstractStringBuilder", "append", "(Ljava/lang/String;)Ljava/lang/AbstractStringBuilder;"⟩ : MethodName) jdk_68_method_22_code 3 (some (.object "java/lang/AbstractStringBuilder")) :: ws) ({ frames := 4, cells := 1, slots := 34, locals := 69 } : Room)) (fun a_ U_ => a_ = #[(.ref a), (.ref o)] ∧ Z.Warmed39 U_.vm ∧ U_.heap = h0) (fun _ _ _ _ _ => True) (fun _ U_ o_ U2_ => ∃ v_ L_, o_ = .returned v_ ∧ Q_aa4 Z a b kv o t1 kb a__VALUES a_OUT a_INP a_TAKE_COMPLETE a_OUT_text a_INP_text a_TAKE_COMPLETE_text a_OUT_text_value a_INP_text_value a_TAKE_COMPLETE_text_value k__VALUES k_OUT_text_value k_INP_text_value k_TAKE_COMPLETE_text_value cs0 h0 v_ U2_.heap L_ ∧ FrameEnd U_ o_ U2_ L_ ({ frames := 4, cells := 1, slots := 34, locals := 69 } : Room).cells ({ frames := 4, cells := 1, slots := 34, locals := 69 } : Room).slots) := by
  refine MetFree.of_bodySF (plainFor_of_name own_pn1) hisR ?_
  intro p e s m args below meth c s₁ Bd hml0 hP hK
  obtain ⟨rfl, hZ, hh⟩ := hP
  have hx := Bd.exec
  have hby := Bd.bytes
  have hml : c.maxLocals = 3 := hml0
  have hown : s.vm.findClass "java/lang/AbstractStringBuilder" = some m.cls := findClass_of_methodNamed Bd.named
  have hnm := (name_of_methodNamed Bd.named Bd.method).1
  have X0 : Stand p l e ({ frames := 4, cells := 1, slots := 34, locals := 69 } : Room) s m #[(.ref a), (.ref o)] below meth c s₁ [] 0 0 := Stand.of_body Bd
  have e0 : s₁.heap = h0 := by rw [← hh, Bd.state]; rfl
  have N0 := Fr.nil Z.heap.size
  show own_G p e below (fun o_ s₂ => ∃ v_ L_, o_ = .returned v_ ∧ Q_aa4 Z a b kv o t1 kb a__VALUES a_OUT a_INP a_TAKE_COMPLETE a_OUT_text a_INP_text a_TAKE_COMPLETE_text a_OUT_text_value a_INP_text_value a_TAKE_COMPLETE_text_value k__VALUES k_OUT_text_value k_INP_text_value k_TAKE_COMPLETE_text_value cs0 h0 v_ s₂.heap L_ ∧ FrameEnd s o_ s₂ L_ ({ frames := 4, cells := 1, slots := 34, locals := 69 } : Room).cells ({ frames := 4, cells := 1, slots := 34, locals := 69 } : Room).slots) (s₁.setTop (entryFrame m #[(.ref a), (.ref o)] 3))
  refine own_go (s₁.setTop (mkF m 0 #[.val (.ref a), .val (.ref o), .unset] [])) (fun t_ k_ => castTop (own_ef_aa4 m a o) k_) ?_
  have w' := w
  obtain ⟨S__VALUES, X__VALUES, S_OUT, X_OUT, S_INP, X_INP, S_TAKE_COMPLETE, X_TAKE_COMPLETE, F_OUT_text, X_OUT_text, F_INP_text, X_INP_text, F_TAKE_COMPLETE_text, X_TAKE_COMPLETE_text, F_OUT_text_value, X_OUT_text_value, F_INP_text_value, X_INP_text_value, F_TAKE_COMPLETE_text_value, X_TAKE_COMPLETE_text_value, F_OUT_text_coder, F_INP_text_coder, F_TAKE_COMPLETE_text_coder, V__VALUES, V_OUT_text_value, V_INP_text_value, V_TAKE_COMPLETE_text_value, S_CS, n_CS⟩ := w'
  refine own_go (s₁.setTop (mkF m 1 #[.val (.ref a), .val (.ref o), .unset] [(.ref o)])) (fun t_ k_ => XS.aloadN X0.here hx rfl (hb hby own_d_jdk_68_method_22_0) rfl rfl k_) ?_
  refine own_go (s₁.setTop (mkF m 9 #[.val (.ref a), .val (.ref o), .unset] [])) (fun t_ k_ => XS.ifnonnullYes X0.here hx rfl (pc0 := 1) (pc' := 9) rfl (hb hby own_d_jdk_68_method_22_1) rfl (by decide) (by decide) k_) ?_
  refine own_go (s₁.setTop (mkF m 10 #[.val (.ref a), .val (.ref o), .unset] [(.ref o)])) (fun t_ k_ => XS.aloadN X0.here hx rfl (hb hby own_d_jdk_68_method_22_9) rfl rfl k_) ?_
  obtain ⟨cq1, kq1, q1a, q1b, q1c⟩ := isOf hZ e0 Xo
  obtain ⟨_, _, ⟨T1, Lu1, ku1, nu1⟩, -, X1, ⟨Lc1, hQ1, lu1, yu1, zu1⟩, st1⟩ := X0.virtualBack hx (y := (⟨"java/lang/String", "length", "()I"⟩ : MethodName)) (z := (⟨"java/lang/String", "length", "()I"⟩ : MethodName)) hown (mvT hZ (hw _ (List.mem_of_getElem? (i := 56) rfl))) (mvT hZ (hw _ (List.mem_of_getElem? (i := 57) rfl))) (notFace_of_selects (args := #[]) (mvT hZ (hw _ (List.mem_of_getElem? (i := 59) rfl)))) (mvT hZ (hw _ (List.mem_of_getElem? (i := 59) rfl))) (mvT hZ (hw _ (List.mem_of_getElem? (i := 58) rfl))) (by decide) (backOf (W := 0) (rm_ln4 l Z a0 hw [] (o) (t1) (kb) (a__VALUES) (a_OUT) (a_INP) (a_TAKE_COMPLETE) (a_OUT_text) (a_INP_text) (a_TAKE_COMPLETE_text) (a_OUT_text_value) (a_INP_text_value) (a_TAKE_COMPLETE_text_value) (k__VALUES) (k_OUT_text_value) (k_INP_text_value) (k_TAKE_COMPLETE_text_value) (cs0) h0 O w Xo Vo Co Ao) hZ (hw _ (List.mem_of_getElem? (i := 60) rfl)) (hw _ (List.mem_of_getElem? (i := 20) rfl)) (by decide) (by decide)) q1a q1c (g := (mkF m 10 #[.val (.ref a), .val (.ref o), .unset] [(.ref o)])) rfl (by rw [hml]; rfl) (Steps.refl _) (argsL := []) (rest := []) (lenOf own_pd6 rfl) rfl (by show 2 * 0 + _ ≤ _; exact Nat.le_of_eq rfl) (hb hby own_d_jdk_68_method_22_10) (fun _ _ => ⟨rfl, e0, (by decide : 0 + 0 ≤ _), (by decide : 0 + 0 ≤ _)⟩)
  dsimp only [Pt.U, Pt.locs, Pt.cells, Pt.slots] at X1 lu1 yu1 zu1 st1 hQ1
  subst lu1 yu1 zu1
  obtain ⟨rfl, N1q, e1⟩ := hQ1
  have N1 := Fr.app N0 N1q
  refine own_go (T1.setTop (mkF m 13 #[.val (.ref a), .val (.ref o), .unset] [(.int (13 : Int32))])) (fun t_ k_ => st1.trans k_) ?_
  refine own_go (T1.setTop (mkF m 14 #[.val (.ref a), .val (.ref o), .val (.int (13 : Int32))] [])) (fun t_ k_ => XS.istoreN X1.here hx rfl (hb hby own_d_jdk_68_method_22_13) rfl (l' := #[.val (.ref a), .val (.ref o), .val (.int (13 : Int32))]) rfl k_) ?_
  refine own_go (T1.setTop (mkF m 15 #[.val (.ref a), .val (.ref o), .val (.int (13 : Int32))] [(.ref a)])) (fun t_ k_ => XS.aloadN X1.here hx rfl (hb hby own_d_jdk_68_method_22_14) rfl rfl k_) ?_
  refine own_go (T1.setTop (mkF m 16 #[.val (.ref a), .val (.ref o), .val (.int (13 : Int32))] [(.ref a), (.ref a)])) (fun t_ k_ => XS.aloadN X1.here hx rfl (hb hby own_d_jdk_68_method_22_15) rfl rfl k_) ?_
  obtain ⟨T2, X2, e2, st2⟩ := getF X1 hx hZ hown (host := "") (Or.inl (hw _ (List.mem_of_getElem? (i := 71) rfl))) Via.refl e1 Na (g := (mkF m 16 #[.val (.ref a), .val (.ref o), .val (.int (13 : Int32))] [(.ref a), (.ref a)])) rfl rfl (hb hby own_d_jdk_68_method_22_16)
  refine own_go (T2.setTop (mkF m 19 #[.val (.ref a), .val (.ref o), .val (.int (13 : Int32))] [(.int (12 : Int32)), (.ref a)])) (fun t_ k_ => st2 _ k_) ?_
  refine own_go (T2.setTop (mkF m 20 #[.val (.ref a), .val (.ref o), .val (.int (13 : Int32))] [(.int (13 : Int32)), (.int (12 : Int32)), (.ref a)])) (fun t_ k_ => XS.iloadN X2.here hx rfl (hb hby own_d_jdk_68_method_22_19) rfl k_) ?_
  refine own_go (T2.setTop (mkF m 21 #[.val (.ref a), .val (.ref o), .val (.int (13 : Int32))] [(.int ((12 : Int32) + (13 : Int32))), (.ref a)])) (fun t_ k_ => XS.iadd X2.here hx rfl (hb hby own_d_jdk_68_method_22_20) rfl k_) ?_
  rw [show ((12 : Int32) + (13 : Int32)) = (25 : Int32) from by decide]
  obtain ⟨cq3, q3, q3'⟩ := (Xa).cell
  obtain ⟨_, _, ⟨T3, Lu3, ku3, nu3⟩, -, X3, ⟨Lc3, hQ3, lu3, yu3, zu3⟩, st3⟩ := X2.privateBack hx (y := (⟨"java/lang/AbstractStringBuilder", "ensureCapacityInternal", "(I)V"⟩ : MethodName)) hown (mvT hZ (hw _ (List.mem_of_getElem? (i := 73) rfl))) (mvT hZ (hw _ (List.mem_of_getElem? (i := 74) rfl))) (own_selp (mvT hZ (hw _ (List.mem_of_getElem? (i := 76) rfl))) rfl (Cond.privateMethod_at (mvP hZ (hw _ (List.mem_of_getElem? (i := 75) rfl)) (args := #[]))) (mvT hZ (hw _ (List.mem_of_getElem? (i := 74) rfl))) (by decide)) (Cond.privateMethod_at (mvP hZ (hw _ (List.mem_of_getElem? (i := 75) rfl)) (args := #[]))) (mvT hZ (hw _ (List.mem_of_getElem? (i := 77) rfl))) (by decide) (backOf (W := 0) (rm_en4 l Z a0 hw [] (a) (b) (kv) h0 O Xa Va Ca Na Ab ga gb) hZ (hw _ (List.mem_of_getElem? (i := 77) rfl)) (hw _ (List.mem_of_getElem? (i := 14) rfl)) (by decide) (by decide)) (g := (mkF m 21 #[.val (.ref a), .val (.ref o), .val (.int (13 : Int32))] [(.int (25 : Int32)), (.ref a)])) rfl (by rw [hml]; rfl) (Steps.refl _) (a := a) (by rw [e2]; exact q3) q3' (argsL := [(.int (25 : Int32))]) (rest := []) (lenOf own_pd0 rfl) rfl (by show 2 * 0 + _ ≤ _; exact Nat.le_of_eq rfl) (hb hby own_d_jdk_68_method_22_21) (fun _ _ => ⟨rfl, e2, (by decide : 0 + 1 ≤ _), (by decide : 0 + 34 ≤ _)⟩)
  dsimp only [Pt.U, Pt.locs, Pt.cells, Pt.slots] at X3 lu3 yu3 zu3 st3 hQ3
  subst lu3 yu3 zu3
  obtain ⟨b3, kv3, rfl, N3q, K3q, u1_3, u2_3, X3q, F3q, G3q, H3q, A3q⟩ := hQ3
  have N3 := Fr.app N1 N3q
  have O3 := own_extK O K3q (allS ga all0)
  have KK3 : Keep h0 T3.heap [a] := (Keep.refl h0 [a]).trans K3q (allS (Or.inl (List.mem_of_getElem? (i := 0) rfl)) all0)
  refine own_go (T3.setTop (mkF m 24 #[.val (.ref a), .val (.ref o), .val (.int (13 : Int32))] [])) (fun t_ k_ => st3.trans k_) ?_
  refine own_go (T3.setTop (mkF m 25 #[.val (.ref a), .val (.ref o), .val (.int (13 : Int32))] [(.ref a)])) (fun t_ k_ => XS.aloadN X3.here hx rfl (hb hby own_d_jdk_68_method_22_24) rfl rfl k_) ?_
  refine own_go (T3.setTop (mkF m 26 #[.val (.ref a), .val (.ref o), .val (.int (13 : Int32))] [(.ref a), (.ref a)])) (fun t_ k_ => XS.aloadN X3.here hx rfl (hb hby own_d_jdk_68_method_22_25) rfl rfl k_) ?_
  obtain ⟨T4, X4, e4, st4⟩ := getF X3 hx hZ hown (host := "") (Or.inl (hw _ (List.mem_of_getElem? (i := 71) rfl))) Via.refl rfl H3q (g := (mkF m 26 #[.val (.ref a), .val (.ref o), .val (.int (13 : Int32))] [(.ref a), (.ref a)])) rfl rfl (hb hby own_d_jdk_68_method_22_26)
  refine own_go (T4.setTop (mkF m 29 #[.val (.ref a), .val (.ref o), .val (.int (13 : Int32))] [(.int (12 : Int32)), (.ref a)])) (fun t_ k_ => st4 _ k_) ?_
  refine own_go (T4.setTop (mkF m 30 #[.val (.ref a), .val (.ref o), .val (.int (13 : Int32))] [(.ref o), (.int (12 : Int32)), (.ref a)])) (fun t_ k_ => XS.aloadN X4.here hx rfl (hb hby own_d_jdk_68_method_22_29) rfl rfl k_) ?_
  have Fz5 := (Xo.keep K3q)
  have Fz6 := (Vo.keep K3q (ninS (Exa.ne Xo Xa (by decide)) nin0))
  have Fz7 := (Co.keep K3q (ninS (Exa.ne Xo Xa (by decide)) nin0))
  have Nz8 : t1 ≠ a := (Ne.symm (Exa.neArv Xa Ao (hw _ (List.mem_of_getElem? (i := 5) rfl))))
  have Fz9 := (Ao.keep K3q (ninS Nz8 nin0))
  obtain ⟨cq10, q10, q10'⟩ := (X3q).cell
  obtain ⟨_, _, ⟨T10, Lu10, ku10, nu10⟩, -, X10, ⟨Lc10, hQ10, lu10, yu10, zu10⟩, st10⟩ := X4.privateBack hx (y := (⟨"java/lang/AbstractStringBuilder", "putStringAt", "(ILjava/lang/String;)V"⟩ : MethodName)) hown (mvT hZ (hw _ (List.mem_of_getElem? (i := 78) rfl))) (mvT hZ (hw _ (List.mem_of_getElem? (i := 79) rfl))) (own_selp (mvT hZ (hw _ (List.mem_of_getElem? (i := 76) rfl))) rfl (Cond.privateMethod_at (mvP hZ (hw _ (List.mem_of_getElem? (i := 80) rfl)) (args := #[]))) (mvT hZ (hw _ (List.mem_of_getElem? (i := 79) rfl))) (by decide)) (Cond.privateMethod_at (mvP hZ (hw _ (List.mem_of_getElem? (i := 80) rfl)) (args := #[]))) (mvT hZ (hw _ (List.mem_of_getElem? (i := 82) rfl))) (by decide) (backOf (W := 0) (rm_ps4 l Z a0 hw [] (a) (b3) (kv3) (o) (t1) (kb) (a__VALUES) (a_OUT) (a_INP) (a_TAKE_COMPLETE) (a_OUT_text) (a_INP_text) (a_TAKE_COMPLETE_text) (a_OUT_text_value) (a_INP_text_value) (a_TAKE_COMPLETE_text_value) (k__VALUES) (k_OUT_text_value) (k_INP_text_value) (k_TAKE_COMPLETE_text_value) (cs0) T3.heap O3 w X3q F3q G3q A3q u1_3 Fz5 Fz6 Fz7 Fz9) hZ (hw _ (List.mem_of_getElem? (i := 82) rfl)) (hw _ (List.mem_of_getElem? (i := 14) rfl)) (by decide) (by decide)) (g := (mkF m 30 #[.val (.ref a), .val (.ref o), .val (.int (13 : Int32))] [(.ref o), (.int (12 : Int32)), (.ref a)])) rfl (by rw [hml]; rfl) (Steps.refl _) (a := a) (by rw [e4]; exact q10) q10' (argsL := [(.int (12 : Int32)), (.ref o)]) (rest := []) (lenOf own_pd7 rfl) rfl (by show 2 * 0 + _ ≤ _; exact Nat.le_of_eq rfl) (hb hby own_d_jdk_68_method_22_30) (fun _ _ => ⟨rfl, e4, (by decide : 1 + 0 ≤ _), (by decide : 34 + 0 ≤ _)⟩)
  dsimp only [Pt.U, Pt.locs, Pt.cells, Pt.slots] at X10 lu10 yu10 zu10 st10 hQ10
  subst lu10 yu10 zu10
  obtain ⟨rfl, N10q, K10q, V10q⟩ := hQ10
  have N10 := Fr.app N3 N10q
  have O10 := own_extK O3 K10q (allS u1_3 all0)
  have KK10 : Keep h0 T10.heap [a] := KK3.trans K10q (allS (Or.inr (Nat.le_trans (Keep.refl h0 [a]).1 u2_3)) all0)
  refine own_go (T10.setTop (mkF m 33 #[.val (.ref a), .val (.ref o), .val (.int (13 : Int32))] [])) (fun t_ k_ => st10.trans k_) ?_
  refine own_go (T10.setTop (mkF m 34 #[.val (.ref a), .val (.ref o), .val (.int (13 : Int32))] [(.ref a)])) (fun t_ k_ => XS.aloadN X10.here hx rfl (hb hby own_d_jdk_68_method_22_33) rfl rfl k_) ?_
  refine own_go (T10.setTop (mkF m 35 #[.val (.ref a), .val (.ref o), .val (.int (13 : Int32))] [(.ref a), (.ref a)])) (fun t_ k_ => XS.dup X10.here hx rfl (hb hby own_d_jdk_68_method_22_34) rfl rfl k_) ?_
  have Nz11 : a ≠ b3 := (Nat.ne_of_lt (Nat.lt_of_lt_of_le Xa.lt u2_3))
  have Fz12 := (H3q.keep K10q (ninS Nz11 nin0))
  obtain ⟨T13, X13, e13, st13⟩ := getF X10 hx hZ hown (host := "") (Or.inl (hw _ (List.mem_of_getElem? (i := 71) rfl))) Via.refl rfl Fz12 (g := (mkF m 35 #[.val (.ref a), .val (.ref o), .val (.int (13 : Int32))] [(.ref a), (.ref a)])) rfl rfl (hb hby own_d_jdk_68_method_22_35)
  refine own_go (T13.setTop (mkF m 38 #[.val (.ref a), .val (.ref o), .val (.int (13 : Int32))] [(.int (12 : Int32)), (.ref a)])) (fun t_ k_ => st13 _ k_) ?_
  refine own_go (T13.setTop (mkF m 39 #[.val (.ref a), .val (.ref o), .val (.int (13 : Int32))] [(.int (13 : Int32)), (.int (12 : Int32)), (.ref a)])) (fun t_ k_ => XS.iloadN X13.here hx rfl (hb hby own_d_jdk_68_method_22_38) rfl k_) ?_
  refine own_go (T13.setTop (mkF m 40 #[.val (.ref a), .val (.ref o), .val (.int (13 : Int32))] [(.int ((12 : Int32) + (13 : Int32))), (.ref a)])) (fun t_ k_ => XS.iadd X13.here hx rfl (hb hby own_d_jdk_68_method_22_39) rfl k_) ?_
  rw [show ((12 : Int32) + (13 : Int32)) = (25 : Int32) from by decide]
  have Fz14 := (X3q.keep K10q)
  obtain ⟨T15, h15, X15, e15, W15, st15⟩ := putF X13 hx hZ hown (host := "") (Or.inl (hw _ (List.mem_of_getElem? (i := 71) rfl))) Via.refl e13 Fz12 Fz14 (Or.inl (hw _ (List.mem_of_getElem? (i := 72) rfl))) (hw _ (List.mem_of_getElem? (i := 5) rfl)) (ty := .int) (by decide) rfl rfl (g := (mkF m 40 #[.val (.ref a), .val (.ref o), .val (.int (13 : Int32))] [(.int (25 : Int32)), (.ref a)])) rfl rfl (hb hby own_d_jdk_68_method_22_40)
  have Fw15 := Fz12.same W15
  have K15 : Keep h0 h15 [a] := KK10.wr W15 (Or.inl (List.mem_of_getElem? (i := 0) rfl))
  have N15 := Fr.snoc X15 N10 ga
  have O15 := own_extW O10 W15 ga
  refine own_go (T15.setTop (mkF m 43 #[.val (.ref a), .val (.ref o), .val (.int (13 : Int32))] [])) (fun t_ k_ => st15 _ k_) ?_
  refine own_go (T15.setTop (mkF m 44 #[.val (.ref a), .val (.ref o), .val (.int (13 : Int32))] [(.ref a)])) (fun t_ k_ => XS.aloadN X15.here hx rfl (hb hby own_d_jdk_68_method_22_43) rfl rfl k_) ?_
  obtain ⟨fs, hr, hrun, hended, hW, hsame⟩ := X15.leave (v := some (.ref a)) (fun h => by rw [Bd.returns] at h; cases h)
  refine ⟨_, _, Jvm.RoadKit.retOut X15 hx Bd.returns rfl (Or.inr (Or.inr (Or.inr (Or.inr ⟨rfl, rfl, rfl⟩)))) (hb hby own_d_jdk_68_method_22_44) hr, hrun, hended, _, _, rfl, ?_, ⟨_, rfl⟩, hW, hsame.mono (by decide) (by decide)⟩
  show Q_aa4 Z a b kv o t1 kb a__VALUES a_OUT a_INP a_TAKE_COMPLETE a_OUT_text a_INP_text a_TAKE_COMPLETE_text a_OUT_text_value a_INP_text_value a_TAKE_COMPLETE_text_value k__VALUES k_OUT_text_value k_INP_text_value k_TAKE_COMPLETE_text_value cs0 h0 _ T15.heap _
  have Fz16 := (Fz14.wr W15)
  have Fz17 := ((F3q.keep K10q (ninS Nz11 nin0)).other W15 (Or.inr (slot_ne (a0 := a0) (Or.inl (hw _ (List.mem_of_getElem? (i := 23) rfl))) (Or.inl (hw _ (List.mem_of_getElem? (i := 72) rfl))) (by decide) (t := (.array .byte)) (t' := .int) (by decide) (by decide))))
  have Fz18 := ((G3q.keep K10q (ninS Nz11 nin0)).other W15 (Or.inr (slot_ne (a0 := a0) (Or.inl (hw _ (List.mem_of_getElem? (i := 25) rfl))) (Or.inl (hw _ (List.mem_of_getElem? (i := 72) rfl))) (by decide) (t := .byte) (t' := .int) (by decide) (by decide))))
  have Fz19 := (V10q.other W15 (Ne.symm Nz11))
  rw [show T15.heap = h15 from e15]
  exact ⟨_, _, rfl, N15, K15, u1_3, (Nat.le_trans (Keep.refl h0 [a]).1 u2_3), Fz16, Fz17, Fz18, Fw15, Fz19⟩
theorem own_ef_ap4 (m : MethodId) (a : Addr) (o : Addr) : entryFrame m #[(.ref a), (.ref o)] 2 = mkF m 0 #[.val (.ref a), .val (.ref o)] [] := by first | (simp [entryFrame, mkF, argsToLocals, Value.category]; done) | rfl
def Q_ap4 (Z : State) (a : Addr) (b : Addr) (kv : ClassId) (o : Addr) (t1 : Addr) (kb : ClassId) (a__VALUES : Addr) (a_OUT : Addr) (a_INP : Addr) (a_TAKE_COMPLETE : Addr) (a_OUT_text : Addr) (a_INP_text : Addr) (a_TAKE_COMPLETE_text : Addr) (a_OUT_text_value : Addr) (a_INP_text_value : Addr) (a_TAKE_COMPLETE_text_value : Addr) (k__VALUES : ClassId) (k_OUT_text_value : ClassId) (k_INP_text_value : ClassId) (k_TAKE_COMPLETE_text_value : ClassId) (cs0 : Int32) (h0 : Heap) (v_ : Option Value) (h : Heap) (L_ : List Loc) : Prop := ∃ (b2 : Addr), ∃ (k2 : ClassId), v_ = some (.ref a) ∧ Fr Z.heap.size L_ ∧ (Keep h0 h [a] ∧ Z.heap.size ≤ b2 ∧ h0.size ≤ b2 ∧ Exa Z h a "java/lang/StringBuilder" ∧ Fld Z h a "java/lang/AbstractStringBuilder" "value" "[B" (.ref b2) ∧ Fld Z h a "java/lang/AbstractStringBuilder" "coder" "B" (.int 0) ∧ Fld Z h a "java/lang/AbstractStringBuilder" "count" "I" (.int 25) ∧ Arv Z h b2 k2 .byte 34 [(.int (111 : Int32)), (.int (117 : Int32)), (.int (116 : Int32)), (.int (44 : Int32)), (.int (32 : Int32)), (.int (105 : Int32)), (.int (110 : Int32)), (.int (112 : Int32)), (.int (32 : Int32)), (.int (111 : Int32)), (.int (114 : Int32)), (.int (32 : Int32)), (.int (116 : Int32)), (.int (97 : Int32)), (.int (107 : Int32)), (.int (101 : Int32)), (.int (45 : Int32)), (.int (99 : Int32)), (.int (111 : Int32)), (.int (109 : Int32)), (.int (112 : Int32)), (.int (108 : Int32)), (.int (101 : Int32)), (.int (116 : Int32)), (.int (101 : Int32)), (.int (0 : Int32)), (.int (0 : Int32)), (.int (0 : Int32)), (.int (0 : Int32)), (.int (0 : Int32)), (.int (0 : Int32)), (.int (0 : Int32)), (.int (0 : Int32)), (.int (0 : Int32))] (.int 0))
set_option maxRecDepth 65536 in
set_option maxHeartbeats 40000000 in
theorem rm_ap4 (l : Launch) (Z : State) (a0 : Array Value) (hw : ∀ d ∈ tables_1, d.before a0 Z = true) (ws : List Jvm.Cond) (a : Addr) (b : Addr) (kv : ClassId) (o : Addr) (t1 : Addr) (kb : ClassId) (a__VALUES : Addr) (a_OUT : Addr) (a_INP : Addr) (a_TAKE_COMPLETE : Addr) (a_OUT_text : Addr) (a_INP_text : Addr) (a_TAKE_COMPLETE_text : Addr) (a_OUT_text_value : Addr) (a_INP_text_value : Addr) (a_TAKE_COMPLETE_text_value : Addr) (k__VALUES : ClassId) (k_OUT_text_value : ClassId) (k_INP_text_value : ClassId) (k_TAKE_COMPLETE_text_value : ClassId) (cs0 : Int32) (h0 : Heap) (O : Ext Z.heap h0) (w : own_W Z a__VALUES a_OUT a_INP a_TAKE_COMPLETE a_OUT_text a_INP_text a_TAKE_COMPLETE_text a_OUT_text_value a_INP_text_value a_TAKE_COMPLETE_text_value k__VALUES k_OUT_text_value k_INP_text_value k_TAKE_COMPLETE_text_value cs0) (Xa : Exa Z h0 a "java/lang/StringBuilder") (Va : Fld Z h0 a "java/lang/AbstractStringBuilder" "value" "[B" (.ref b)) (Ca : Fld Z h0 a "java/lang/AbstractStringBuilder" "coder" "B" (.int 0)) (Na : Fld Z h0 a "java/lang/AbstractStringBuilder" "count" "I" (.int 12)) (Ab : Arv Z h0 b kv .byte 16 [(.int (111 : Int32)), (.int (117 : Int32)), (.int (116 : Int32)), (.int (44 : Int32)), (.int (32 : Int32)), (.int (105 : Int32)), (.int (110 : Int32)), (.int (112 : Int32)), (.int (32 : Int32)), (.int (111 : Int32)), (.int (114 : Int32)), (.int (32 : Int32))] (.int 0)) (ga : Z.heap.size ≤ a) (gb : Z.heap.size ≤ b) (Xo : Exa Z h0 o "java/lang/String") (Vo : Fld Z h0 o "java/lang/String" "value" "[B" (.ref t1)) (Co : Fld Z h0 o "java/lang/String" "coder" "B" (.int 0)) (Ao : Arv Z h0 t1 kb .byte 13 [(.int (116 : Int32)), (.int (97 : Int32)), (.int (107 : Int32)), (.int (101 : Int32)), (.int (45 : Int32)), (.int (99 : Int32)), (.int (111 : Int32)), (.int (109 : Int32)), (.int (112 : Int32)), (.int (108 : Int32)), (.int (101 : Int32)), (.int (116 : Int32)), (.int (101 : Int32))] (.int 0)) (nt : t1 ≠ b) :
    MetFree l (⟨"java/lang/StringBuilder", "append", "(Ljava/lang/String;)Ljava/lang/StringBuilder;"⟩ : MethodName) (head1 (Jvm.Cond.code (⟨"java/lang/StringBuilder", "append", "(Ljava/lang/String;)Ljava/lang/StringBuilder;"⟩ : MethodName) jdk_67_method_7_code 2 (some (.object "java/lang/StringBuilder")) :: ws) ({ frames := 5, cells := 1, slots := 34, locals := 83 } : Room)) (fun a_ U_ => a_ = #[(.ref a), (.ref o)] ∧ Z.Warmed39 U_.vm ∧ U_.heap = h0) (fun _ _ _ _ _ => True) (fun _ U_ o_ U2_ => ∃ v_ L_, o_ = .returned v_ ∧ Q_ap4 Z a b kv o t1 kb a__VALUES a_OUT a_INP a_TAKE_COMPLETE a_OUT_text a_INP_text a_TAKE_COMPLETE_text a_OUT_text_value a_INP_text_value a_TAKE_COMPLETE_text_value k__VALUES k_OUT_text_value k_INP_text_value k_TAKE_COMPLETE_text_value cs0 h0 v_ U2_.heap L_ ∧ FrameEnd U_ o_ U2_ L_ ({ frames := 5, cells := 1, slots := 34, locals := 83 } : Room).cells ({ frames := 5, cells := 1, slots := 34, locals := 83 } : Room).slots) := by
  refine MetFree.of_bodySF (plainFor_of_name own_pn2) hisR ?_
  intro p e s m args below meth c s₁ Bd hml0 hP hK
  obtain ⟨rfl, hZ, hh⟩ := hP
  have hx := Bd.exec
  have hby := Bd.bytes
  have hml : c.maxLocals = 2 := hml0
  have hown : s.vm.findClass "java/lang/StringBuilder" = some m.cls := findClass_of_methodNamed Bd.named
  have hnm := (name_of_methodNamed Bd.named Bd.method).1
  have X0 : Stand p l e ({ frames := 5, cells := 1, slots := 34, locals := 83 } : Room) s m #[(.ref a), (.ref o)] below meth c s₁ [] 0 0 := Stand.of_body Bd
  have e0 : s₁.heap = h0 := by rw [← hh, Bd.state]; rfl
  have N0 := Fr.nil Z.heap.size
  show own_G p e below (fun o_ s₂ => ∃ v_ L_, o_ = .returned v_ ∧ Q_ap4 Z a b kv o t1 kb a__VALUES a_OUT a_INP a_TAKE_COMPLETE a_OUT_text a_INP_text a_TAKE_COMPLETE_text a_OUT_text_value a_INP_text_value a_TAKE_COMPLETE_text_value k__VALUES k_OUT_text_value k_INP_text_value k_TAKE_COMPLETE_text_value cs0 h0 v_ s₂.heap L_ ∧ FrameEnd s o_ s₂ L_ ({ frames := 5, cells := 1, slots := 34, locals := 83 } : Room).cells ({ frames := 5, cells := 1, slots := 34, locals := 83 } : Room).slots) (s₁.setTop (entryFrame m #[(.ref a), (.ref o)] 2))
  refine own_go (s₁.setTop (mkF m 0 #[.val (.ref a), .val (.ref o)] [])) (fun t_ k_ => castTop (own_ef_ap4 m a o) k_) ?_
  have w' := w
  obtain ⟨S__VALUES, X__VALUES, S_OUT, X_OUT, S_INP, X_INP, S_TAKE_COMPLETE, X_TAKE_COMPLETE, F_OUT_text, X_OUT_text, F_INP_text, X_INP_text, F_TAKE_COMPLETE_text, X_TAKE_COMPLETE_text, F_OUT_text_value, X_OUT_text_value, F_INP_text_value, X_INP_text_value, F_TAKE_COMPLETE_text_value, X_TAKE_COMPLETE_text_value, F_OUT_text_coder, F_INP_text_coder, F_TAKE_COMPLETE_text_coder, V__VALUES, V_OUT_text_value, V_INP_text_value, V_TAKE_COMPLETE_text_value, S_CS, n_CS⟩ := w'
  refine own_go (s₁.setTop (mkF m 1 #[.val (.ref a), .val (.ref o)] [(.ref a)])) (fun t_ k_ => XS.aloadN X0.here hx rfl (hb hby own_d_jdk_67_method_7_0) rfl rfl k_) ?_
  refine own_go (s₁.setTop (mkF m 2 #[.val (.ref a), .val (.ref o)] [(.ref o), (.ref a)])) (fun t_ k_ => XS.aloadN X0.here hx rfl (hb hby own_d_jdk_67_method_7_1) rfl rfl k_) ?_
  obtain ⟨_, _, ⟨T1, Lu1, ku1, nu1⟩, -, X1, ⟨Lc1, hQ1, lu1, yu1, zu1⟩, st1⟩ := superBack X0 hx hZ (y := (⟨"java/lang/AbstractStringBuilder", "append", "(Ljava/lang/String;)Ljava/lang/AbstractStringBuilder;"⟩ : MethodName)) hown (hw _ (List.mem_of_getElem? (i := 51) rfl)) (own_sameM (hw _ (List.mem_of_getElem? (i := 52) rfl)) (hw _ (List.mem_of_getElem? (i := 76) rfl)) rfl (by decide)) (hw _ (List.mem_of_getElem? (i := 52) rfl)) (hw _ (List.mem_of_getElem? (i := 53) rfl)) (by decide) (backOf (W := 0) (rm_aa4 l Z a0 hw [] (a) (b) (kv) (o) (t1) (kb) (a__VALUES) (a_OUT) (a_INP) (a_TAKE_COMPLETE) (a_OUT_text) (a_INP_text) (a_TAKE_COMPLETE_text) (a_OUT_text_value) (a_INP_text_value) (a_TAKE_COMPLETE_text_value) (k__VALUES) (k_OUT_text_value) (k_INP_text_value) (k_TAKE_COMPLETE_text_value) (cs0) h0 O w Xa Va Ca Na Ab ga gb Xo Vo Co Ao nt) hZ (hw _ (List.mem_of_getElem? (i := 55) rfl)) (hw _ (List.mem_of_getElem? (i := 14) rfl)) (by decide) (by decide)) e0 (Ins.self Xa) (g := (mkF m 2 #[.val (.ref a), .val (.ref o)] [(.ref o), (.ref a)])) rfl (by rw [hml]; rfl) (hw _ (List.mem_of_getElem? (i := 55) rfl)) (argsL := [(.ref o)]) (rest := []) (lenOf own_pd8 rfl) rfl (by show 2 * 0 + _ ≤ _; exact Nat.le_of_eq rfl) (hb hby own_d_jdk_67_method_7_2) (fun _ _ => ⟨rfl, e0, (by decide : 0 + 1 ≤ _), (by decide : 0 + 34 ≤ _)⟩)
  dsimp only [Pt.U, Pt.locs, Pt.cells, Pt.slots] at X1 lu1 yu1 zu1 st1 hQ1
  subst lu1 yu1 zu1
  obtain ⟨b1, kv1, rfl, N1q, K1q, u1_1, u2_1, X1q, F1q, G1q, H1q, A1q⟩ := hQ1
  have N1 := Fr.app N0 N1q
  have O1 := own_extK O K1q (allS ga all0)
  have KK1 : Keep h0 T1.heap [a] := (Keep.refl h0 [a]).trans K1q (allS (Or.inl (List.mem_of_getElem? (i := 0) rfl)) all0)
  refine own_go (T1.setTop (mkF m 5 #[.val (.ref a), .val (.ref o)] [(.ref a)])) (fun t_ k_ => st1.trans k_) ?_
  refine own_go (T1.setTop (mkF m 6 #[.val (.ref a), .val (.ref o)] [])) (fun t_ k_ => XS.pop X1.here hx rfl (hb hby own_d_jdk_67_method_7_5) rfl rfl k_) ?_
  refine own_go (T1.setTop (mkF m 7 #[.val (.ref a), .val (.ref o)] [(.ref a)])) (fun t_ k_ => XS.aloadN X1.here hx rfl (hb hby own_d_jdk_67_method_7_6) rfl rfl k_) ?_
  obtain ⟨fs, hr, hrun, hended, hW, hsame⟩ := X1.leave (v := some (.ref a)) (fun h => by rw [Bd.returns] at h; cases h)
  refine ⟨_, _, Jvm.RoadKit.retOut X1 hx Bd.returns rfl (Or.inr (Or.inr (Or.inr (Or.inr ⟨rfl, rfl, rfl⟩)))) (hb hby own_d_jdk_67_method_7_7) hr, hrun, hended, _, _, rfl, ?_, ⟨_, rfl⟩, hW, hsame.mono (by decide) (by decide)⟩
  show Q_ap4 Z a b kv o t1 kb a__VALUES a_OUT a_INP a_TAKE_COMPLETE a_OUT_text a_INP_text a_TAKE_COMPLETE_text a_OUT_text_value a_INP_text_value a_TAKE_COMPLETE_text_value k__VALUES k_OUT_text_value k_INP_text_value k_TAKE_COMPLETE_text_value cs0 h0 _ T1.heap _
  exact ⟨_, _, rfl, N1, KK1, u1_1, (Nat.le_trans (Keep.refl h0 [a]).1 u2_1), X1q, F1q, G1q, H1q, A1q⟩
theorem own_ef_gv (m : MethodId) (a : Addr) : entryFrame m #[(.ref a)] 1 = mkF m 0 #[.val (.ref a)] [] := by first | (simp [entryFrame, mkF, argsToLocals, Value.category]; done) | rfl
theorem own_d_jdk_68_method_64_0 : decode jdk_68_method_64_code 0 = .ok (.aload_n 0, 1) := by decide +kernel
theorem own_d_jdk_68_method_64_1 : decode jdk_68_method_64_code 1 = .ok (.getfield 15, 3) := by decide +kernel
theorem own_d_jdk_68_method_64_4 : decode jdk_68_method_64_code 4 = .ok (.areturn, 1) := by decide +kernel
def Q_gv (Z : State) (a : Addr) (b : Addr) (kv : ClassId) (h0 : Heap) (v_ : Option Value) (h : Heap) (L_ : List Loc) : Prop := v_ = some (.ref b) ∧ Fr Z.heap.size L_ ∧ (h = h0)
set_option maxRecDepth 65536 in
set_option maxHeartbeats 40000000 in
theorem rm_gv (l : Launch) (Z : State) (a0 : Array Value) (hw : ∀ d ∈ tables_1, d.before a0 Z = true) (ws : List Jvm.Cond) (a : Addr) (b : Addr) (kv : ClassId) (h0 : Heap) (O : Ext Z.heap h0) (Xa : Exa Z h0 a "java/lang/StringBuilder") (Va : Fld Z h0 a "java/lang/AbstractStringBuilder" "value" "[B" (.ref b)) (Ca : Fld Z h0 a "java/lang/AbstractStringBuilder" "coder" "B" (.int 0)) (Na : Fld Z h0 a "java/lang/AbstractStringBuilder" "count" "I" (.int 25)) (Ab : Arv Z h0 b kv .byte 34 [(.int (111 : Int32)), (.int (117 : Int32)), (.int (116 : Int32)), (.int (44 : Int32)), (.int (32 : Int32)), (.int (105 : Int32)), (.int (110 : Int32)), (.int (112 : Int32)), (.int (32 : Int32)), (.int (111 : Int32)), (.int (114 : Int32)), (.int (32 : Int32)), (.int (116 : Int32)), (.int (97 : Int32)), (.int (107 : Int32)), (.int (101 : Int32)), (.int (45 : Int32)), (.int (99 : Int32)), (.int (111 : Int32)), (.int (109 : Int32)), (.int (112 : Int32)), (.int (108 : Int32)), (.int (101 : Int32)), (.int (116 : Int32)), (.int (101 : Int32)), (.int (0 : Int32)), (.int (0 : Int32)), (.int (0 : Int32)), (.int (0 : Int32)), (.int (0 : Int32)), (.int (0 : Int32)), (.int (0 : Int32)), (.int (0 : Int32)), (.int (0 : Int32))] (.int 0)) :
    MetFree l (⟨"java/lang/AbstractStringBuilder", "getValue", "()[B"⟩ : MethodName) (head1 (Jvm.Cond.code (⟨"java/lang/AbstractStringBuilder", "getValue", "()[B"⟩ : MethodName) jdk_68_method_64_code 1 (some (.array .byte)) :: ws) ({ frames := 0, cells := 0, slots := 0, locals := 0 } : Room)) (fun a_ U_ => a_ = #[(.ref a)] ∧ Z.Warmed39 U_.vm ∧ U_.heap = h0) (fun _ _ _ _ _ => True) (fun _ U_ o_ U2_ => ∃ v_ L_, o_ = .returned v_ ∧ Q_gv Z a b kv h0 v_ U2_.heap L_ ∧ FrameEnd U_ o_ U2_ L_ ({ frames := 0, cells := 0, slots := 0, locals := 0 } : Room).cells ({ frames := 0, cells := 0, slots := 0, locals := 0 } : Room).slots) := by
  refine MetFree.of_bodySF (plainFor_of_name own_pn1) hisR ?_
  intro p e s m args below meth c s₁ Bd hml0 hP hK
  obtain ⟨rfl, hZ, hh⟩ := hP
  have hx := Bd.exec
  have hby := Bd.bytes
  have hml : c.maxLocals = 1 := hml0
  have hown : s.vm.findClass "java/lang/AbstractStringBuilder" = some m.cls := findClass_of_methodNamed Bd.named
  have hnm := (name_of_methodNamed Bd.named Bd.method).1
  have X0 : Stand p l e ({ frames := 0, cells := 0, slots := 0, locals := 0 } : Room) s m #[(.ref a)] below meth c s₁ [] 0 0 := Stand.of_body Bd
  have e0 : s₁.heap = h0 := by rw [← hh, Bd.state]; rfl
  have N0 := Fr.nil Z.heap.size
  show own_G p e below (fun o_ s₂ => ∃ v_ L_, o_ = .returned v_ ∧ Q_gv Z a b kv h0 v_ s₂.heap L_ ∧ FrameEnd s o_ s₂ L_ ({ frames := 0, cells := 0, slots := 0, locals := 0 } : Room).cells ({ frames := 0, cells := 0, slots := 0, locals := 0 } : Room).slots) (s₁.setTop (entryFrame m #[(.ref a)] 1))
  refine own_go (s₁.setTop (mkF m 0 #[.val (.ref a)] [])) (fun t_ k_ => castTop (own_ef_gv m a) k_) ?_
  refine own_go (s₁.setTop (mkF m 1 #[.val (.ref a)] [(.ref a)])) (fun t_ k_ => XS.aloadN X0.here hx rfl (hb hby own_d_jdk_68_method_64_0) rfl rfl k_) ?_
  obtain ⟨T1, X1, e1, st1⟩ := getF X0 hx hZ hown (host := "") (Or.inl (hw _ (List.mem_of_getElem? (i := 22) rfl))) Via.refl e0 Va (g := (mkF m 1 #[.val (.ref a)] [(.ref a)])) rfl rfl (hb hby own_d_jdk_68_method_64_1)
  refine own_go (T1.setTop (mkF m 4 #[.val (.ref a)] [(.ref b)])) (fun t_ k_ => st1 _ k_) ?_
  obtain ⟨fs, hr, hrun, hended, hW, hsame⟩ := X1.leave (v := some (.ref b)) (fun h => by rw [Bd.returns] at h; cases h)
  refine ⟨_, _, Jvm.RoadKit.retOut X1 hx Bd.returns rfl (Or.inr (Or.inr (Or.inr (Or.inr ⟨rfl, rfl, rfl⟩)))) (hb hby own_d_jdk_68_method_64_4) hr, hrun, hended, _, _, rfl, ?_, ⟨_, rfl⟩, hW, hsame.mono (by decide) (by decide)⟩
  show Q_gv Z a b kv h0 _ T1.heap _
  exact ⟨rfl, N0, e1⟩
theorem own_ef_lA (m : MethodId) (a : Addr) : entryFrame m #[(.ref a)] 1 = mkF m 0 #[.val (.ref a)] [] := by first | (simp [entryFrame, mkF, argsToLocals, Value.category]; done) | rfl
theorem own_d_jdk_68_method_6_0 : decode jdk_68_method_6_code 0 = .ok (.aload_n 0, 1) := by decide +kernel
theorem own_d_jdk_68_method_6_1 : decode jdk_68_method_6_code 1 = .ok (.getfield 79, 3) := by decide +kernel
theorem own_d_jdk_68_method_6_4 : decode jdk_68_method_6_code 4 = .ok (.ireturn, 1) := by decide +kernel
def Q_lA (Z : State) (a : Addr) (b : Addr) (kv : ClassId) (h0 : Heap) (v_ : Option Value) (h : Heap) (L_ : List Loc) : Prop := v_ = some (.int 25) ∧ Fr Z.heap.size L_ ∧ (h = h0)
set_option maxRecDepth 65536 in
set_option maxHeartbeats 40000000 in
theorem rm_lA (l : Launch) (Z : State) (a0 : Array Value) (hw : ∀ d ∈ tables_1, d.before a0 Z = true) (ws : List Jvm.Cond) (a : Addr) (b : Addr) (kv : ClassId) (h0 : Heap) (O : Ext Z.heap h0) (Xa : Exa Z h0 a "java/lang/StringBuilder") (Va : Fld Z h0 a "java/lang/AbstractStringBuilder" "value" "[B" (.ref b)) (Ca : Fld Z h0 a "java/lang/AbstractStringBuilder" "coder" "B" (.int 0)) (Na : Fld Z h0 a "java/lang/AbstractStringBuilder" "count" "I" (.int 25)) (Ab : Arv Z h0 b kv .byte 34 [(.int (111 : Int32)), (.int (117 : Int32)), (.int (116 : Int32)), (.int (44 : Int32)), (.int (32 : Int32)), (.int (105 : Int32)), (.int (110 : Int32)), (.int (112 : Int32)), (.int (32 : Int32)), (.int (111 : Int32)), (.int (114 : Int32)), (.int (32 : Int32)), (.int (116 : Int32)), (.int (97 : Int32)), (.int (107 : Int32)), (.int (101 : Int32)), (.int (45 : Int32)), (.int (99 : Int32)), (.int (111 : Int32)), (.int (109 : Int32)), (.int (112 : Int32)), (.int (108 : Int32)), (.int (101 : Int32)), (.int (116 : Int32)), (.int (101 : Int32)), (.int (0 : Int32)), (.int (0 : Int32)), (.int (0 : Int32)), (.int (0 : Int32)), (.int (0 : Int32)), (.int (0 : Int32)), (.int (0 : Int32)), (.int (0 : Int32)), (.int (0 : Int32))] (.int 0)) :
    MetFree l (⟨"java/lang/AbstractStringBuilder", "length", "()I"⟩ : MethodName) (head1 (Jvm.Cond.code (⟨"java/lang/AbstractStringBuilder", "length", "()I"⟩ : MethodName) jdk_68_method_6_code 1 (some .int) :: ws) ({ frames := 0, cells := 0, slots := 0, locals := 0 } : Room)) (fun a_ U_ => a_ = #[(.ref a)] ∧ Z.Warmed39 U_.vm ∧ U_.heap = h0) (fun _ _ _ _ _ => True) (fun _ U_ o_ U2_ => ∃ v_ L_, o_ = .returned v_ ∧ Q_lA Z a b kv h0 v_ U2_.heap L_ ∧ FrameEnd U_ o_ U2_ L_ ({ frames := 0, cells := 0, slots := 0, locals := 0 } : Room).cells ({ frames := 0, cells := 0, slots := 0, locals := 0 } : Room).slots) := by
  refine MetFree.of_bodySF (plainFor_of_name own_pn1) hisR ?_
  intro p e s m args below meth c s₁ Bd hml0 hP hK
  obtain ⟨rfl, hZ, hh⟩ := hP
  have hx := Bd.exec
  have hby := Bd.bytes
  have hml : c.maxLocals = 1 := hml0
  have hown : s.vm.findClass "java/lang/AbstractStringBuilder" = some m.cls := findClass_of_methodNamed Bd.named
  have hnm := (name_of_methodNamed Bd.named Bd.method).1
  have X0 : Stand p l e ({ frames := 0, cells := 0, slots := 0, locals := 0 } : Room) s m #[(.ref a)] below meth c s₁ [] 0 0 := Stand.of_body Bd
  have e0 : s₁.heap = h0 := by rw [← hh, Bd.state]; rfl
  have N0 := Fr.nil Z.heap.size
  show own_G p e below (fun o_ s₂ => ∃ v_ L_, o_ = .returned v_ ∧ Q_lA Z a b kv h0 v_ s₂.heap L_ ∧ FrameEnd s o_ s₂ L_ ({ frames := 0, cells := 0, slots := 0, locals := 0 } : Room).cells ({ frames := 0, cells := 0, slots := 0, locals := 0 } : Room).slots) (s₁.setTop (entryFrame m #[(.ref a)] 1))
  refine own_go (s₁.setTop (mkF m 0 #[.val (.ref a)] [])) (fun t_ k_ => castTop (own_ef_lA m a) k_) ?_
  refine own_go (s₁.setTop (mkF m 1 #[.val (.ref a)] [(.ref a)])) (fun t_ k_ => XS.aloadN X0.here hx rfl (hb hby own_d_jdk_68_method_6_0) rfl rfl k_) ?_
  obtain ⟨T1, X1, e1, st1⟩ := getF X0 hx hZ hown (host := "") (Or.inl (hw _ (List.mem_of_getElem? (i := 71) rfl))) Via.refl e0 Na (g := (mkF m 1 #[.val (.ref a)] [(.ref a)])) rfl rfl (hb hby own_d_jdk_68_method_6_1)
  refine own_go (T1.setTop (mkF m 4 #[.val (.ref a)] [(.int (25 : Int32))])) (fun t_ k_ => st1 _ k_) ?_
  obtain ⟨fs, hr, hrun, hended, hW, hsame⟩ := X1.leave (v := some (.int (25 : Int32))) (fun h => by rw [Bd.returns] at h; cases h)
  refine ⟨_, _, retI X1 hx Bd.returns (hb hby own_d_jdk_68_method_6_4) hr, hrun, hended, _, _, rfl, ?_, ⟨_, rfl⟩, hW, hsame.mono (by decide) (by decide)⟩
  show Q_lA Z a b kv h0 _ T1.heap _
  exact ⟨rfl, N0, e1⟩
theorem own_ef_lS (m : MethodId) (a : Addr) : entryFrame m #[(.ref a)] 1 = mkF m 0 #[.val (.ref a)] [] := by first | (simp [entryFrame, mkF, argsToLocals, Value.category]; done) | rfl
theorem own_d_jdk_67_method_93_0 : decode jdk_67_method_93_code 0 = .ok (.aload_n 0, 1) := by decide +kernel
theorem own_d_jdk_67_method_93_1 : decode jdk_67_method_93_code 1 = .ok (.invokespecial 343, 3) := by decide +kernel
theorem own_d_jdk_67_method_93_4 : decode jdk_67_method_93_code 4 = .ok (.ireturn, 1) := by decide +kernel
def Q_lS (Z : State) (a : Addr) (b : Addr) (kv : ClassId) (h0 : Heap) (v_ : Option Value) (h : Heap) (L_ : List Loc) : Prop := v_ = some (.int 25) ∧ Fr Z.heap.size L_ ∧ (h = h0)
set_option maxRecDepth 65536 in
set_option maxHeartbeats 40000000 in
theorem rm_lS (l : Launch) (Z : State) (a0 : Array Value) (hw : ∀ d ∈ tables_1, d.before a0 Z = true) (ws : List Jvm.Cond) (a : Addr) (b : Addr) (kv : ClassId) (h0 : Heap) (O : Ext Z.heap h0) (Xa : Exa Z h0 a "java/lang/StringBuilder") (Va : Fld Z h0 a "java/lang/AbstractStringBuilder" "value" "[B" (.ref b)) (Ca : Fld Z h0 a "java/lang/AbstractStringBuilder" "coder" "B" (.int 0)) (Na : Fld Z h0 a "java/lang/AbstractStringBuilder" "count" "I" (.int 25)) (Ab : Arv Z h0 b kv .byte 34 [(.int (111 : Int32)), (.int (117 : Int32)), (.int (116 : Int32)), (.int (44 : Int32)), (.int (32 : Int32)), (.int (105 : Int32)), (.int (110 : Int32)), (.int (112 : Int32)), (.int (32 : Int32)), (.int (111 : Int32)), (.int (114 : Int32)), (.int (32 : Int32)), (.int (116 : Int32)), (.int (97 : Int32)), (.int (107 : Int32)), (.int (101 : Int32)), (.int (45 : Int32)), (.int (99 : Int32)), (.int (111 : Int32)), (.int (109 : Int32)), (.int (112 : Int32)), (.int (108 : Int32)), (.int (101 : Int32)), (.int (116 : Int32)), (.int (101 : Int32)), (.int (0 : Int32)), (.int (0 : Int32)), (.int (0 : Int32)), (.int (0 : Int32)), (.int (0 : Int32)), (.int (0 : Int32)), (.int (0 : Int32)), (.int (0 : Int32)), (.int (0 : Int32))] (.int 0)) :
    MetFree l (⟨"java/lang/StringBuilder", "length", "()I"⟩ : MethodName) (head1 (Jvm.Cond.code (⟨"java/lang/StringBuilder", "length", "()I"⟩ : MethodName) jdk_67_method_93_code 1 (some .int) :: ws) ({ frames := 1, cells := 0, slots := 0, locals := 12 } : Room)) (fun a_ U_ => a_ = #[(.ref a)] ∧ Z.Warmed39 U_.vm ∧ U_.heap = h0) (fun _ _ _ _ _ => True) (fun _ U_ o_ U2_ => ∃ v_ L_, o_ = .returned v_ ∧ Q_lS Z a b kv h0 v_ U2_.heap L_ ∧ FrameEnd U_ o_ U2_ L_ ({ frames := 1, cells := 0, slots := 0, locals := 12 } : Room).cells ({ frames := 1, cells := 0, slots := 0, locals := 12 } : Room).slots) := by
  refine MetFree.of_bodySF (plainFor_of_name own_pn2) hisR ?_
  intro p e s m args below meth c s₁ Bd hml0 hP hK
  obtain ⟨rfl, hZ, hh⟩ := hP
  have hx := Bd.exec
  have hby := Bd.bytes
  have hml : c.maxLocals = 1 := hml0
  have hown : s.vm.findClass "java/lang/StringBuilder" = some m.cls := findClass_of_methodNamed Bd.named
  have hnm := (name_of_methodNamed Bd.named Bd.method).1
  have X0 : Stand p l e ({ frames := 1, cells := 0, slots := 0, locals := 12 } : Room) s m #[(.ref a)] below meth c s₁ [] 0 0 := Stand.of_body Bd
  have e0 : s₁.heap = h0 := by rw [← hh, Bd.state]; rfl
  have N0 := Fr.nil Z.heap.size
  show own_G p e below (fun o_ s₂ => ∃ v_ L_, o_ = .returned v_ ∧ Q_lS Z a b kv h0 v_ s₂.heap L_ ∧ FrameEnd s o_ s₂ L_ ({ frames := 1, cells := 0, slots := 0, locals := 12 } : Room).cells ({ frames := 1, cells := 0, slots := 0, locals := 12 } : Room).slots) (s₁.setTop (entryFrame m #[(.ref a)] 1))
  refine own_go (s₁.setTop (mkF m 0 #[.val (.ref a)] [])) (fun t_ k_ => castTop (own_ef_lS m a) k_) ?_
  refine own_go (s₁.setTop (mkF m 1 #[.val (.ref a)] [(.ref a)])) (fun t_ k_ => XS.aloadN X0.here hx rfl (hb hby own_d_jdk_67_method_93_0) rfl rfl k_) ?_
  obtain ⟨_, _, ⟨T1, Lu1, ku1, nu1⟩, -, X1, ⟨Lc1, hQ1, lu1, yu1, zu1⟩, st1⟩ := superBack X0 hx hZ (y := (⟨"java/lang/AbstractStringBuilder", "length", "()I"⟩ : MethodName)) hown (hw _ (List.mem_of_getElem? (i := 151) rfl)) (own_sameM (hw _ (List.mem_of_getElem? (i := 147) rfl)) (hw _ (List.mem_of_getElem? (i := 76) rfl)) rfl (by decide)) (hw _ (List.mem_of_getElem? (i := 147) rfl)) (hw _ (List.mem_of_getElem? (i := 53) rfl)) (by decide) (backOf (W := 0) (rm_lA l Z a0 hw [] (a) (b) (kv) h0 O Xa Va Ca Na Ab) hZ (hw _ (List.mem_of_getElem? (i := 152) rfl)) (hw _ (List.mem_of_getElem? (i := 14) rfl)) (by decide) (by decide)) e0 (Ins.self Xa) (g := (mkF m 1 #[.val (.ref a)] [(.ref a)])) rfl (by rw [hml]; rfl) (hw _ (List.mem_of_getElem? (i := 152) rfl)) (argsL := []) (rest := []) (lenOf own_pd6 rfl) rfl (by show 2 * 0 + _ ≤ _; exact Nat.le_of_eq rfl) (hb hby own_d_jdk_67_method_93_1) (fun _ _ => ⟨rfl, e0, (by decide : 0 + 0 ≤ _), (by decide : 0 + 0 ≤ _)⟩)
  dsimp only [Pt.U, Pt.locs, Pt.cells, Pt.slots] at X1 lu1 yu1 zu1 st1 hQ1
  subst lu1 yu1 zu1
  obtain ⟨rfl, N1q, e1⟩ := hQ1
  have N1 := Fr.app N0 N1q
  refine own_go (T1.setTop (mkF m 4 #[.val (.ref a)] [(.int (25 : Int32))])) (fun t_ k_ => st1.trans k_) ?_
  obtain ⟨fs, hr, hrun, hended, hW, hsame⟩ := X1.leave (v := some (.int (25 : Int32))) (fun h => by rw [Bd.returns] at h; cases h)
  refine ⟨_, _, retI X1 hx Bd.returns (hb hby own_d_jdk_67_method_93_4) hr, hrun, hended, _, _, rfl, ?_, ⟨_, rfl⟩, hW, hsame.mono (by decide) (by decide)⟩
  show Q_lS Z a b kv h0 _ T1.heap _
  exact ⟨rfl, N1, e1⟩
theorem own_ef_il (m : MethodId) (a : Addr) : entryFrame m #[(.ref a)] 1 = mkF m 0 #[.val (.ref a)] [] := by first | (simp [entryFrame, mkF, argsToLocals, Value.category]; done) | rfl
theorem own_d_jdk_68_method_68_0 : decode jdk_68_method_68_code 0 = .ok (.getstatic 18, 3) := by decide +kernel
theorem own_d_jdk_68_method_68_3 : decode jdk_68_method_68_code 3 = .ok (.ifCond .eq 14, 3) := by decide +kernel
theorem own_d_jdk_68_method_68_6 : decode jdk_68_method_68_code 6 = .ok (.aload_n 0, 1) := by decide +kernel
theorem own_d_jdk_68_method_68_7 : decode jdk_68_method_68_code 7 = .ok (.getfield 22, 3) := by decide +kernel
theorem own_d_jdk_68_method_68_10 : decode jdk_68_method_68_code 10 = .ok (.ifCond .ne 7, 3) := by decide +kernel
theorem own_d_jdk_68_method_68_13 : decode jdk_68_method_68_code 13 = .ok (.iconst 1, 1) := by decide +kernel
theorem own_d_jdk_68_method_68_14 : decode jdk_68_method_68_code 14 = .ok (.goto 4, 3) := by decide +kernel
theorem own_d_jdk_68_method_68_18 : decode jdk_68_method_68_code 18 = .ok (.ireturn, 1) := by decide +kernel
def Q_il (Z : State) (a : Addr) (b : Addr) (kv : ClassId) (a__VALUES : Addr) (a_OUT : Addr) (a_INP : Addr) (a_TAKE_COMPLETE : Addr) (a_OUT_text : Addr) (a_INP_text : Addr) (a_TAKE_COMPLETE_text : Addr) (a_OUT_text_value : Addr) (a_INP_text_value : Addr) (a_TAKE_COMPLETE_text_value : Addr) (k__VALUES : ClassId) (k_OUT_text_value : ClassId) (k_INP_text_value : ClassId) (k_TAKE_COMPLETE_text_value : ClassId) (cs0 : Int32) (h0 : Heap) (v_ : Option Value) (h : Heap) (L_ : List Loc) : Prop := v_ = some (.int 1) ∧ Fr Z.heap.size L_ ∧ (h = h0)
set_option maxRecDepth 65536 in
set_option maxHeartbeats 40000000 in
theorem rm_il (l : Launch) (Z : State) (a0 : Array Value) (hw : ∀ d ∈ tables_1, d.before a0 Z = true) (ws : List Jvm.Cond) (a : Addr) (b : Addr) (kv : ClassId) (a__VALUES : Addr) (a_OUT : Addr) (a_INP : Addr) (a_TAKE_COMPLETE : Addr) (a_OUT_text : Addr) (a_INP_text : Addr) (a_TAKE_COMPLETE_text : Addr) (a_OUT_text_value : Addr) (a_INP_text_value : Addr) (a_TAKE_COMPLETE_text_value : Addr) (k__VALUES : ClassId) (k_OUT_text_value : ClassId) (k_INP_text_value : ClassId) (k_TAKE_COMPLETE_text_value : ClassId) (cs0 : Int32) (h0 : Heap) (O : Ext Z.heap h0) (w : own_W Z a__VALUES a_OUT a_INP a_TAKE_COMPLETE a_OUT_text a_INP_text a_TAKE_COMPLETE_text a_OUT_text_value a_INP_text_value a_TAKE_COMPLETE_text_value k__VALUES k_OUT_text_value k_INP_text_value k_TAKE_COMPLETE_text_value cs0) (Xa : Exa Z h0 a "java/lang/StringBuilder") (Va : Fld Z h0 a "java/lang/AbstractStringBuilder" "value" "[B" (.ref b)) (Ca : Fld Z h0 a "java/lang/AbstractStringBuilder" "coder" "B" (.int 0)) (Na : Fld Z h0 a "java/lang/AbstractStringBuilder" "count" "I" (.int 25)) (Ab : Arv Z h0 b kv .byte 34 [(.int (111 : Int32)), (.int (117 : Int32)), (.int (116 : Int32)), (.int (44 : Int32)), (.int (32 : Int32)), (.int (105 : Int32)), (.int (110 : Int32)), (.int (112 : Int32)), (.int (32 : Int32)), (.int (111 : Int32)), (.int (114 : Int32)), (.int (32 : Int32)), (.int (116 : Int32)), (.int (97 : Int32)), (.int (107 : Int32)), (.int (101 : Int32)), (.int (45 : Int32)), (.int (99 : Int32)), (.int (111 : Int32)), (.int (109 : Int32)), (.int (112 : Int32)), (.int (108 : Int32)), (.int (101 : Int32)), (.int (116 : Int32)), (.int (101 : Int32)), (.int (0 : Int32)), (.int (0 : Int32)), (.int (0 : Int32)), (.int (0 : Int32)), (.int (0 : Int32)), (.int (0 : Int32)), (.int (0 : Int32)), (.int (0 : Int32)), (.int (0 : Int32))] (.int 0)) :
    MetFree l (⟨"java/lang/AbstractStringBuilder", "isLatin1", "()Z"⟩ : MethodName) (head1 (Jvm.Cond.code (⟨"java/lang/AbstractStringBuilder", "isLatin1", "()Z"⟩ : MethodName) jdk_68_method_68_code 1 (some .boolean) :: ws) ({ frames := 0, cells := 0, slots := 0, locals := 0 } : Room)) (fun a_ U_ => a_ = #[(.ref a)] ∧ Z.Warmed39 U_.vm ∧ U_.heap = h0) (fun _ _ _ _ _ => True) (fun _ U_ o_ U2_ => ∃ v_ L_, o_ = .returned v_ ∧ Q_il Z a b kv a__VALUES a_OUT a_INP a_TAKE_COMPLETE a_OUT_text a_INP_text a_TAKE_COMPLETE_text a_OUT_text_value a_INP_text_value a_TAKE_COMPLETE_text_value k__VALUES k_OUT_text_value k_INP_text_value k_TAKE_COMPLETE_text_value cs0 h0 v_ U2_.heap L_ ∧ FrameEnd U_ o_ U2_ L_ ({ frames := 0, cells := 0, slots := 0, locals := 0 } : Room).cells ({ frames := 0, cells := 0, slots := 0, locals := 0 } : Room).slots) := by
  refine MetFree.of_bodySF (plainFor_of_name own_pn1) hisR ?_
  intro p e s m args below meth c s₁ Bd hml0 hP hK
  obtain ⟨rfl, hZ, hh⟩ := hP
  have hx := Bd.exec
  have hby := Bd.bytes
  have hml : c.maxLocals = 1 := hml0
  have hown : s.vm.findClass "java/lang/AbstractStringBuilder" = some m.cls := findClass_of_methodNamed Bd.named
  have hnm := (name_of_methodNamed Bd.named Bd.method).1
  have X0 : Stand p l e ({ frames := 0, cells := 0, slots := 0, locals := 0 } : Room) s m #[(.ref a)] below meth c s₁ [] 0 0 := Stand.of_body Bd
  have e0 : s₁.heap = h0 := by rw [← hh, Bd.state]; rfl
  have N0 := Fr.nil Z.heap.size
  show own_G p e below (fun o_ s₂ => ∃ v_ L_, o_ = .returned v_ ∧ Q_il Z a b kv a__VALUES a_OUT a_INP a_TAKE_COMPLETE a_OUT_text a_INP_text a_TAKE_COMPLETE_text a_OUT_text_value a_INP_text_value a_TAKE_COMPLETE_text_value k__VALUES k_OUT_text_value k_INP_text_value k_TAKE_COMPLETE_text_value cs0 h0 v_ s₂.heap L_ ∧ FrameEnd s o_ s₂ L_ ({ frames := 0, cells := 0, slots := 0, locals := 0 } : Room).cells ({ frames := 0, cells := 0, slots := 0, locals := 0 } : Room).slots) (s₁.setTop (entryFrame m #[(.ref a)] 1))
  refine own_go (s₁.setTop (mkF m 0 #[.val (.ref a)] [])) (fun t_ k_ => castTop (own_ef_il m a) k_) ?_
  have w' := w
  obtain ⟨S__VALUES, X__VALUES, S_OUT, X_OUT, S_INP, X_INP, S_TAKE_COMPLETE, X_TAKE_COMPLETE, F_OUT_text, X_OUT_text, F_INP_text, X_INP_text, F_TAKE_COMPLETE_text, X_TAKE_COMPLETE_text, F_OUT_text_value, X_OUT_text_value, F_INP_text_value, X_INP_text_value, F_TAKE_COMPLETE_text_value, X_TAKE_COMPLETE_text_value, F_OUT_text_coder, F_INP_text_coder, F_TAKE_COMPLETE_text_coder, V__VALUES, V_OUT_text_value, V_INP_text_value, V_TAKE_COMPLETE_text_value, S_CS, n_CS⟩ := w'
  obtain ⟨T1, X1, e1, st1⟩ := getS2 X0 hx hZ hown (host := "") (Or.inl (hw _ (List.mem_of_getElem? (i := 19) rfl))) Via.refl e0 (S_CS.ext O) (g := (mkF m 0 #[.val (.ref a)] [])) rfl (hb hby own_d_jdk_68_method_68_0)
  refine own_go (T1.setTop (mkF m 3 #[.val (.ref a)] [(.int cs0)])) (fun t_ k_ => st1 _ k_) ?_
  refine own_go (T1.setTop (mkF m 6 #[.val (.ref a)] [])) (fun t_ k_ => XS.ifNo X1.here hx rfl (hb hby own_d_jdk_68_method_68_3) rfl ((if0 _ _).trans (feq n_CS).1) k_) ?_
  refine own_go (T1.setTop (mkF m 7 #[.val (.ref a)] [(.ref a)])) (fun t_ k_ => XS.aloadN X1.here hx rfl (hb hby own_d_jdk_68_method_68_6) rfl rfl k_) ?_
  obtain ⟨T2, X2, e2, st2⟩ := getF X1 hx hZ hown (host := "") (Or.inl (hw _ (List.mem_of_getElem? (i := 24) rfl))) Via.refl e1 Ca (g := (mkF m 7 #[.val (.ref a)] [(.ref a)])) rfl rfl (hb hby own_d_jdk_68_method_68_7)
  refine own_go (T2.setTop (mkF m 10 #[.val (.ref a)] [(.int (0 : Int32))])) (fun t_ k_ => st2 _ k_) ?_
  refine own_go (T2.setTop (mkF m 13 #[.val (.ref a)] [])) (fun t_ k_ => XS.ifNo X2.here hx rfl (hb hby own_d_jdk_68_method_68_10) rfl ((if0 _ _).trans (teq (by decide : (0 : Int32) = (0 : Int32))).2) k_) ?_
  refine own_go (T2.setTop (mkF m 14 #[.val (.ref a)] [(.int (1 : Int32))])) (fun t_ k_ => XS.iconst X2.here hx rfl (hb hby own_d_jdk_68_method_68_13) k_) ?_
  refine own_go (T2.setTop (mkF m 18 #[.val (.ref a)] [(.int (1 : Int32))])) (fun t_ k_ => XS.goto X2.here hx rfl (pc0 := 14) (pc' := 18) rfl (hb hby own_d_jdk_68_method_68_14) (by decide) (by decide) k_) ?_
  obtain ⟨fs, hr, hrun, hended, hW, hsame⟩ := X2.leave (v := some (.int (nar .boolean (1 : Int32)))) (fun h => by rw [Bd.returns] at h; cases h)
  refine ⟨_, _, retN X2 hx (t := .boolean) Bd.returns (by simp) (hb hby own_d_jdk_68_method_68_18) hr, hrun, hended, _, _, rfl, ?_, ⟨_, rfl⟩, hW, hsame.mono (by decide) (by decide)⟩
  show Q_il Z a b kv a__VALUES a_OUT a_INP a_TAKE_COMPLETE a_OUT_text a_INP_text a_TAKE_COMPLETE_text a_OUT_text_value a_INP_text_value a_TAKE_COMPLETE_text_value k__VALUES k_OUT_text_value k_INP_text_value k_TAKE_COMPLETE_text_value cs0 h0 _ T2.heap _
  exact ⟨rfl, N0, e2⟩
theorem own_ef_ck (m : MethodId)  : entryFrame m #[(.int (0 : Int32)), (.int (25 : Int32))] 2 = mkF m 0 #[.val (.int (0 : Int32)), .val (.int (25 : Int32))] [] := by first | (simp [entryFrame, mkF, argsToLocals, Value.category]; done) | rfl
theorem own_d_jdk_65_method_131_0 : decode jdk_65_method_131_code 0 = .ok (.iload_n 1, 1) := by decide +kernel
theorem own_d_jdk_65_method_131_1 : decode jdk_65_method_131_code 1 = .ok (.iload_n 0, 1) := by decide +kernel
theorem own_d_jdk_65_method_131_2 : decode jdk_65_method_131_code 2 = .ok (.if_icmp .ge 35, 3) := by decide +kernel
theorem own_d_jdk_65_method_131_37 : decode jdk_65_method_131_code 37 = .ok (.return_, 1) := by decide +kernel
def Q_ck (Z : State)  (h0 : Heap) (v_ : Option Value) (h : Heap) (L_ : List Loc) : Prop := v_ = none ∧ Fr Z.heap.size L_ ∧ (h = h0)
set_option maxRecDepth 65536 in
set_option maxHeartbeats 40000000 in
theorem rm_ck (l : Launch) (Z : State) (a0 : Array Value) (hw : ∀ d ∈ tables_1, d.before a0 Z = true) (ws : List Jvm.Cond)  (h0 : Heap) (O : Ext Z.heap h0) :
    MetFree l (⟨"java/util/Arrays", "checkLength", "(II)V"⟩ : MethodName) (head1 (Jvm.Cond.code (⟨"java/util/Arrays", "checkLength", "(II)V"⟩ : MethodName) jdk_65_method_131_code 2 none :: ws) ({ frames := 0, cells := 0, slots := 0, locals := 0 } : Room)) (fun a_ U_ => a_ = #[(.int (0 : Int32)), (.int (25 : Int32))] ∧ Z.Warmed39 U_.vm ∧ U_.heap = h0) (fun _ _ _ _ _ => True) (fun _ U_ o_ U2_ => ∃ v_ L_, o_ = .returned v_ ∧ Q_ck Z  h0 v_ U2_.heap L_ ∧ FrameEnd U_ o_ U2_ L_ ({ frames := 0, cells := 0, slots := 0, locals := 0 } : Room).cells ({ frames := 0, cells := 0, slots := 0, locals := 0 } : Room).slots) := by
  refine MetFree.of_bodySF (plainFor_of_name own_pn5) hisR ?_
  intro p e s m args below meth c s₁ Bd hml0 hP hK
  obtain ⟨rfl, hZ, hh⟩ := hP
  have hx := Bd.exec
  have hby := Bd.bytes
  have hml : c.maxLocals = 2 := hml0
  have hown : s.vm.findClass "java/util/Arrays" = some m.cls := findClass_of_methodNamed Bd.named
  have hnm := (name_of_methodNamed Bd.named Bd.method).1
  have X0 : Stand p l e ({ frames := 0, cells := 0, slots := 0, locals := 0 } : Room) s m #[(.int (0 : Int32)), (.int (25 : Int32))] below meth c s₁ [] 0 0 := Stand.of_body Bd
  have e0 : s₁.heap = h0 := by rw [← hh, Bd.state]; rfl
  have N0 := Fr.nil Z.heap.size
  show own_G p e below (fun o_ s₂ => ∃ v_ L_, o_ = .returned v_ ∧ Q_ck Z  h0 v_ s₂.heap L_ ∧ FrameEnd s o_ s₂ L_ ({ frames := 0, cells := 0, slots := 0, locals := 0 } : Room).cells ({ frames := 0, cells := 0, slots := 0, locals := 0 } : Room).slots) (s₁.setTop (entryFrame m #[(.int (0 : Int32)), (.int (25 : Int32))] 2))
  refine own_go (s₁.setTop (mkF m 0 #[.val (.int (0 : Int32)), .val (.int (25 : Int32))] [])) (fun t_ k_ => castTop (own_ef_ck m ) k_) ?_
  refine own_go (s₁.setTop (mkF m 1 #[.val (.int (0 : Int32)), .val (.int (25 : Int32))] [(.int (25 : Int32))])) (fun t_ k_ => XS.iloadN X0.here hx rfl (hb hby own_d_jdk_65_method_131_0) rfl k_) ?_
  refine own_go (s₁.setTop (mkF m 2 #[.val (.int (0 : Int32)), .val (.int (25 : Int32))] [(.int (0 : Int32)), (.int (25 : Int32))])) (fun t_ k_ => XS.iloadN X0.here hx rfl (hb hby own_d_jdk_65_method_131_1) rfl k_) ?_
  refine own_go (s₁.setTop (mkF m 37 #[.val (.int (0 : Int32)), .val (.int (25 : Int32))] [])) (fun t_ k_ => XS.icmpYes X0.here hx rfl (pc0 := 2) (pc' := 37) rfl (hb hby own_d_jdk_65_method_131_2) rfl (flt (by decide : ¬ ((25 : Int32) < (0 : Int32)))).2.1 (by decide) (by decide) k_) ?_
  obtain ⟨fs, hr, hrun, hended, hW, hsame⟩ := X0.leave (v := none) (fun _ => rfl)
  refine ⟨_, _, X0.returnOut hx Bd.returns (hb hby own_d_jdk_65_method_131_37) hr, hrun, hended, _, _, rfl, ?_, ⟨_, rfl⟩, hW, hsame.mono (by decide) (by decide)⟩
  show Q_ck Z  h0 _ s₁.heap _
  exact ⟨rfl, N0, e0⟩
theorem own_ef_cb (m : MethodId) (b : Addr) : entryFrame m #[(.ref b), (.int (0 : Int32)), (.int (25 : Int32))] 5 = mkF m 0 #[.val (.ref b), .val (.int (0 : Int32)), .val (.int (25 : Int32)), .unset, .unset] [] := by first | (simp [entryFrame, mkF, argsToLocals, Value.category]; done) | rfl
theorem own_d_jdk_65_method_133_0 : decode jdk_65_method_133_code 0 = .ok (.iload_n 1, 1) := by decide +kernel
theorem own_d_jdk_65_method_133_1 : decode jdk_65_method_133_code 1 = .ok (.iload_n 2, 1) := by decide +kernel
theorem own_d_jdk_65_method_133_2 : decode jdk_65_method_133_code 2 = .ok (.invokestatic 343, 3) := by decide +kernel
theorem own_pd11 : parseMethodDescriptor "(II)V" = some ⟨[.int, .int], none⟩ := by decide +kernel
theorem own_d_jdk_65_method_133_5 : decode jdk_65_method_133_code 5 = .ok (.iload_n 2, 1) := by decide +kernel
theorem own_d_jdk_65_method_133_6 : decode jdk_65_method_133_code 6 = .ok (.iload_n 1, 1) := by decide +kernel
theorem own_d_jdk_65_method_133_7 : decode jdk_65_method_133_code 7 = .ok (.isub, 1) := by decide +kernel
theorem own_d_jdk_65_method_133_8 : decode jdk_65_method_133_code 8 = .ok (.istore_n 3, 1) := by decide +kernel
theorem own_d_jdk_65_method_133_9 : decode jdk_65_method_133_code 9 = .ok (.iload_n 3, 1) := by decide +kernel
theorem own_d_jdk_65_method_133_10 : decode jdk_65_method_133_code 10 = .ok (.newarray .byte, 2) := by decide +kernel
theorem own_d_jdk_65_method_133_12 : decode jdk_65_method_133_code 12 = .ok (.astore 4, 2) := by decide +kernel
theorem own_d_jdk_65_method_133_14 : decode jdk_65_method_133_code 14 = .ok (.aload_n 0, 1) := by decide +kernel
theorem own_d_jdk_65_method_133_15 : decode jdk_65_method_133_code 15 = .ok (.iload_n 1, 1) := by decide +kernel
theorem own_d_jdk_65_method_133_16 : decode jdk_65_method_133_code 16 = .ok (.aload 4, 2) := by decide +kernel
theorem own_d_jdk_65_method_133_18 : decode jdk_65_method_133_code 18 = .ok (.iconst 0, 1) := by decide +kernel
theorem own_d_jdk_65_method_133_19 : decode jdk_65_method_133_code 19 = .ok (.aload_n 0, 1) := by decide +kernel
theorem own_d_jdk_65_method_133_20 : decode jdk_65_method_133_code 20 = .ok (.arraylength, 1) := by decide +kernel
theorem own_d_jdk_65_method_133_21 : decode jdk_65_method_133_code 21 = .ok (.iload_n 1, 1) := by decide +kernel
theorem own_d_jdk_65_method_133_22 : decode jdk_65_method_133_code 22 = .ok (.isub, 1) := by decide +kernel
theorem own_d_jdk_65_method_133_23 : decode jdk_65_method_133_code 23 = .ok (.iload_n 3, 1) := by decide +kernel
theorem own_d_jdk_65_method_133_24 : decode jdk_65_method_133_code 24 = .ok (.invokestatic 304, 3) := by decide +kernel
theorem own_d_jdk_65_method_133_27 : decode jdk_65_method_133_code 27 = .ok (.invokestatic 150, 3) := by decide +kernel
theorem own_d_jdk_65_method_133_30 : decode jdk_65_method_133_code 30 = .ok (.aload 4, 2) := by decide +kernel
theorem own_d_jdk_65_method_133_32 : decode jdk_65_method_133_code 32 = .ok (.areturn, 1) := by decide +kernel
def Q_cb (Z : State) (b : Addr) (kv : ClassId) (h0 : Heap) (v_ : Option Value) (h : Heap) (L_ : List Loc) : Prop := ∃ (r : Addr), ∃ (kr : ClassId), v_ = some (.ref r) ∧ Fr Z.heap.size L_ ∧ (Keep h0 h [] ∧ Z.heap.size ≤ r ∧ h0.size ≤ r ∧ Arv Z h r kr .byte 25 [(.int (111 : Int32)), (.int (117 : Int32)), (.int (116 : Int32)), (.int (44 : Int32)), (.int (32 : Int32)), (.int (105 : Int32)), (.int (110 : Int32)), (.int (112 : Int32)), (.int (32 : Int32)), (.int (111 : Int32)), (.int (114 : Int32)), (.int (32 : Int32)), (.int (116 : Int32)), (.int (97 : Int32)), (.int (107 : Int32)), (.int (101 : Int32)), (.int (45 : Int32)), (.int (99 : Int32)), (.int (111 : Int32)), (.int (109 : Int32)), (.int (112 : Int32)), (.int (108 : Int32)), (.int (101 : Int32)), (.int (116 : Int32)), (.int (101 : Int32))] (.int 0))
set_option maxRecDepth 65536 in
set_option maxHeartbeats 40000000 in
theorem rm_cb (l : Launch) (Z : State) (a0 : Array Value) (hw : ∀ d ∈ tables_1, d.before a0 Z = true) (ws : List Jvm.Cond) (b : Addr) (kv : ClassId) (h0 : Heap) (O : Ext Z.heap h0) (Ab : Arv Z h0 b kv .byte 34 [(.int (111 : Int32)), (.int (117 : Int32)), (.int (116 : Int32)), (.int (44 : Int32)), (.int (32 : Int32)), (.int (105 : Int32)), (.int (110 : Int32)), (.int (112 : Int32)), (.int (32 : Int32)), (.int (111 : Int32)), (.int (114 : Int32)), (.int (32 : Int32)), (.int (116 : Int32)), (.int (97 : Int32)), (.int (107 : Int32)), (.int (101 : Int32)), (.int (45 : Int32)), (.int (99 : Int32)), (.int (111 : Int32)), (.int (109 : Int32)), (.int (112 : Int32)), (.int (108 : Int32)), (.int (101 : Int32)), (.int (116 : Int32)), (.int (101 : Int32)), (.int (0 : Int32)), (.int (0 : Int32)), (.int (0 : Int32)), (.int (0 : Int32)), (.int (0 : Int32)), (.int (0 : Int32)), (.int (0 : Int32)), (.int (0 : Int32)), (.int (0 : Int32))] (.int 0)) :
    MetFree l (⟨"java/util/Arrays", "copyOfRangeByte", "([BII)[B"⟩ : MethodName) (head1 (Jvm.Cond.code (⟨"java/util/Arrays", "copyOfRangeByte", "([BII)[B"⟩ : MethodName) jdk_65_method_133_code 5 (some (.array .byte)) :: ws) ({ frames := 1, cells := 1, slots := 25, locals := 40 } : Room)) (fun a_ U_ => a_ = #[(.ref b), (.int (0 : Int32)), (.int (25 : Int32))] ∧ Z.Warmed39 U_.vm ∧ U_.heap = h0) (fun _ _ _ _ _ => True) (fun _ U_ o_ U2_ => ∃ v_ L_, o_ = .returned v_ ∧ Q_cb Z b kv h0 v_ U2_.heap L_ ∧ FrameEnd U_ o_ U2_ L_ ({ frames := 1, cells := 1, slots := 25, locals := 40 } : Room).cells ({ frames := 1, cells := 1, slots := 25, locals := 40 } : Room).slots) := by
  refine MetFree.of_bodySF (plainFor_of_name own_pn5) hisR ?_
  intro p e s m args below meth c s₁ Bd hml0 hP hK
  obtain ⟨rfl, hZ, hh⟩ := hP
  have hx := Bd.exec
  have hby := Bd.bytes
  have hml : c.maxLocals = 5 := hml0
  have hown : s.vm.findClass "java/util/Arrays" = some m.cls := findClass_of_methodNamed Bd.named
  have hnm := (name_of_methodNamed Bd.named Bd.method).1
  have X0 : Stand p l e ({ frames := 1, cells := 1, slots := 25, locals := 40 } : Room) s m #[(.ref b), (.int (0 : Int32)), (.int (25 : Int32))] below meth c s₁ [] 0 0 := Stand.of_body Bd
  have e0 : s₁.heap = h0 := by rw [← hh, Bd.state]; rfl
  have N0 := Fr.nil Z.heap.size
  show own_G p e below (fun o_ s₂ => ∃ v_ L_, o_ = .returned v_ ∧ Q_cb Z b kv h0 v_ s₂.heap L_ ∧ FrameEnd s o_ s₂ L_ ({ frames := 1, cells := 1, slots := 25, locals := 40 } : Room).cells ({ frames := 1, cells := 1, slots := 25, locals := 40 } : Room).slots) (s₁.setTop (entryFrame m #[(.ref b), (.int (0 : Int32)), (.int (25 : Int32))] 5))
  refine own_go (s₁.setTop (mkF m 0 #[.val (.ref b), .val (.int (0 : Int32)), .val (.int (25 : Int32)), .unset, .unset] [])) (fun t_ k_ => castTop (own_ef_cb m b) k_) ?_
  refine own_go (s₁.setTop (mkF m 1 #[.val (.ref b), .val (.int (0 : Int32)), .val (.int (25 : Int32)), .unset, .unset] [(.int (0 : Int32))])) (fun t_ k_ => XS.iloadN X0.here hx rfl (hb hby own_d_jdk_65_method_133_0) rfl k_) ?_
  refine own_go (s₁.setTop (mkF m 2 #[.val (.ref b), .val (.int (0 : Int32)), .val (.int (25 : Int32)), .unset, .unset] [(.int (25 : Int32)), (.int (0 : Int32))])) (fun t_ k_ => XS.iloadN X0.here hx rfl (hb hby own_d_jdk_65_method_133_1) rfl k_) ?_
  obtain ⟨_, _, ⟨T1, Lu1, ku1, nu1⟩, -, X1, ⟨Lc1, hQ1, lu1, yu1, zu1⟩, st1⟩ := Jvm.LawKit.callS X0 hx (y := (⟨"java/util/Arrays", "checkLength", "(II)V"⟩ : MethodName)) hown (mvT hZ (hw _ (List.mem_of_getElem? (i := 164) rfl))) (mvT hZ (hw _ (List.mem_of_getElem? (i := 165) rfl))) (mvT hZ (hw _ (List.mem_of_getElem? (i := 120) rfl))) (mvT hZ (hw _ (List.mem_of_getElem? (i := 166) rfl))) (by decide) (backOf (W := 0) (rm_ck l Z a0 hw []  h0 O ) hZ (hw _ (List.mem_of_getElem? (i := 166) rfl)) (hw _ (List.mem_of_getElem? (i := 120) rfl)) (by decide) (by decide)) (g := (mkF m 2 #[.val (.ref b), .val (.int (0 : Int32)), .val (.int (25 : Int32)), .unset, .unset] [(.int (25 : Int32)), (.int (0 : Int32))])) rfl (by rw [hml]; rfl) (argsL := [(.int (0 : Int32)), (.int (25 : Int32))]) (rest := []) (lenOf own_pd11 rfl) rfl (by show 2 * 0 + _ ≤ _; exact Nat.le_of_eq rfl) (hb hby own_d_jdk_65_method_133_2) (fun _ _ => ⟨rfl, e0, (by decide : 0 + 0 ≤ _), (by decide : 0 + 0 ≤ _)⟩)
  dsimp only [Pt.U, Pt.locs, Pt.cells, Pt.slots] at X1 lu1 yu1 zu1 st1 hQ1
  subst lu1 yu1 zu1
  obtain ⟨rfl, N1q, e1⟩ := hQ1
  have N1 := Fr.app N0 N1q
  refine own_go (T1.setTop (mkF m 5 #[.val (.ref b), .val (.int (0 : Int32)), .val (.int (25 : Int32)), .unset, .unset] [])) (fun t_ k_ => st1 _ k_) ?_
  refine own_go (T1.setTop (mkF m 6 #[.val (.ref b), .val (.int (0 : Int32)), .val (.int (25 : Int32)), .unset, .unset] [(.int (25 : Int32))])) (fun t_ k_ => XS.iloadN X1.here hx rfl (hb hby own_d_jdk_65_method_133_5) rfl k_) ?_
  refine own_go (T1.setTop (mkF m 7 #[.val (.ref b), .val (.int (0 : Int32)), .val (.int (25 : Int32)), .unset, .unset] [(.int (0 : Int32)), (.int (25 : Int32))])) (fun t_ k_ => XS.iloadN X1.here hx rfl (hb hby own_d_jdk_65_method_133_6) rfl k_) ?_
  refine own_go (T1.setTop (mkF m 8 #[.val (.ref b), .val (.int (0 : Int32)), .val (.int (25 : Int32)), .unset, .unset] [(.int ((25 : Int32) - (0 : Int32)))])) (fun t_ k_ => XS.isub X1.here hx rfl (hb hby own_d_jdk_65_method_133_7) rfl k_) ?_
  rw [show ((25 : Int32) - (0 : Int32)) = (25 : Int32) from by decide]
  refine own_go (T1.setTop (mkF m 9 #[.val (.ref b), .val (.int (0 : Int32)), .val (.int (25 : Int32)), .val (.int (25 : Int32)), .unset] [])) (fun t_ k_ => XS.istoreN X1.here hx rfl (hb hby own_d_jdk_65_method_133_8) rfl (l' := #[.val (.ref b), .val (.int (0 : Int32)), .val (.int (25 : Int32)), .val (.int (25 : Int32)), .unset]) rfl k_) ?_
  refine own_go (T1.setTop (mkF m 10 #[.val (.ref b), .val (.int (0 : Int32)), .val (.int (25 : Int32)), .val (.int (25 : Int32)), .unset] [(.int (25 : Int32))])) (fun t_ k_ => XS.iloadN X1.here hx rfl (hb hby own_d_jdk_65_method_133_9) rfl k_) ?_
  obtain ⟨T2, h2, k2, X2, e2, E2, A2, st2⟩ := newP X1 hx hZ (hw _ (List.mem_of_getElem? (i := 21) rfl)) e1 (g := (mkF m 10 #[.val (.ref b), .val (.int (0 : Int32)), .val (.int (25 : Int32)), .val (.int (25 : Int32)), .unset] [(.int (25 : Int32))])) rfl (hb hby own_d_jdk_65_method_133_10) rfl (by decide) (cap := 25) (by decide) (by decide) (by decide) (by decide)
  obtain ⟨b2, g2⟩ : ∃ z, z = h0.size := ⟨_, rfl⟩
  rw [← g2] at A2 st2
  have ge_b2 : Z.heap.size ≤ b2 := Nat.le_trans O.1 (Nat.le_of_eq g2.symm)
  have sz_b2 : h0.size ≤ b2 := Nat.le_trans (Keep.refl h0 []).1 (Nat.le_of_eq g2.symm)
  have K2 : Keep h0 h2 [] := (Keep.refl h0 []).ext E2
  have O2 := own_ext O E2
  have V2 : Arv Z h2 b2 k2 .byte (25 : Int32) [(.int (0 : Int32)), (.int (0 : Int32)), (.int (0 : Int32)), (.int (0 : Int32)), (.int (0 : Int32)), (.int (0 : Int32)), (.int (0 : Int32)), (.int (0 : Int32)), (.int (0 : Int32)), (.int (0 : Int32)), (.int (0 : Int32)), (.int (0 : Int32)), (.int (0 : Int32)), (.int (0 : Int32)), (.int (0 : Int32)), (.int (0 : Int32)), (.int (0 : Int32)), (.int (0 : Int32)), (.int (0 : Int32)), (.int (0 : Int32)), (.int (0 : Int32)), (.int (0 : Int32)), (.int (0 : Int32)), (.int (0 : Int32)), (.int (0 : Int32))] (.int (0 : Int32)) := (Arv.new A2 (by decide)).pad (pad_rep [] (.int (0 : Int32)) 25)
  refine own_go (T2.setTop (mkF m 12 #[.val (.ref b), .val (.int (0 : Int32)), .val (.int (25 : Int32)), .val (.int (25 : Int32)), .unset] [(.ref b2)])) (fun t_ k_ => st2 _ k_) ?_
  refine own_go (T2.setTop (mkF m 14 #[.val (.ref b), .val (.int (0 : Int32)), .val (.int (25 : Int32)), .val (.int (25 : Int32)), .val (.ref b2)] [])) (fun t_ k_ => XS.astore X2.here hx rfl (hb hby own_d_jdk_65_method_133_12) rfl rfl (l' := #[.val (.ref b), .val (.int (0 : Int32)), .val (.int (25 : Int32)), .val (.int (25 : Int32)), .val (.ref b2)]) rfl k_) ?_
  refine own_go (T2.setTop (mkF m 15 #[.val (.ref b), .val (.int (0 : Int32)), .val (.int (25 : Int32)), .val (.int (25 : Int32)), .val (.ref b2)] [(.ref b)])) (fun t_ k_ => XS.aloadN X2.here hx rfl (hb hby own_d_jdk_65_method_133_14) rfl rfl k_) ?_
  refine own_go (T2.setTop (mkF m 16 #[.val (.ref b), .val (.int (0 : Int32)), .val (.int (25 : Int32)), .val (.int (25 : Int32)), .val (.ref b2)] [(.int (0 : Int32)), (.ref b)])) (fun t_ k_ => XS.iloadN X2.here hx rfl (hb hby own_d_jdk_65_method_133_15) rfl k_) ?_
  refine own_go (T2.setTop (mkF m 18 #[.val (.ref b), .val (.int (0 : Int32)), .val (.int (25 : Int32)), .val (.int (25 : Int32)), .val (.ref b2)] [(.ref b2), (.int (0 : Int32)), (.ref b)])) (fun t_ k_ => XS.aload X2.here hx rfl (hb hby own_d_jdk_65_method_133_16) rfl rfl k_) ?_
  refine own_go (T2.setTop (mkF m 19 #[.val (.ref b), .val (.int (0 : Int32)), .val (.int (25 : Int32)), .val (.int (25 : Int32)), .val (.ref b2)] [(.int (0 : Int32)), (.ref b2), (.int (0 : Int32)), (.ref b)])) (fun t_ k_ => XS.iconst X2.here hx rfl (hb hby own_d_jdk_65_method_133_18) k_) ?_
  refine own_go (T2.setTop (mkF m 20 #[.val (.ref b), .val (.int (0 : Int32)), .val (.int (25 : Int32)), .val (.int (25 : Int32)), .val (.ref b2)] [(.ref b), (.int (0 : Int32)), (.ref b2), (.int (0 : Int32)), (.ref b)])) (fun t_ k_ => XS.aloadN X2.here hx rfl (hb hby own_d_jdk_65_method_133_19) rfl rfl k_) ?_
  have Fz4 := (Ab.ext E2)
  obtain ⟨cl3, Ar3, q3, Sz3, Nz3, Hz3, Gz3⟩ := id (Fz4)
  refine own_go (T2.setTop (mkF m 21 #[.val (.ref b), .val (.int (0 : Int32)), .val (.int (25 : Int32)), .val (.int (25 : Int32)), .val (.ref b2)] [(.int (34 : Int32)), (.int (0 : Int32)), (.ref b2), (.int (0 : Int32)), (.ref b)])) (fun t_ k_ => X2.arraylength hx (by rw [e2]; exact Ar3.1) (State.isArrayOf_alike hZ.alike Ar3.2.1) (g := (mkF m 20 #[.val (.ref b), .val (.int (0 : Int32)), .val (.int (25 : Int32)), .val (.int (25 : Int32)), .val (.ref b2)] [(.ref b), (.int (0 : Int32)), (.ref b2), (.int (0 : Int32)), (.ref b)])) rfl rfl (hb hby own_d_jdk_65_method_133_20) _ (by rw [len_of Sz3 Nz3]; exact k_)) ?_
  refine own_go (T2.setTop (mkF m 22 #[.val (.ref b), .val (.int (0 : Int32)), .val (.int (25 : Int32)), .val (.int (25 : Int32)), .val (.ref b2)] [(.int (0 : Int32)), (.int (34 : Int32)), (.int (0 : Int32)), (.ref b2), (.int (0 : Int32)), (.ref b)])) (fun t_ k_ => XS.iloadN X2.here hx rfl (hb hby own_d_jdk_65_method_133_21) rfl k_) ?_
  refine own_go (T2.setTop (mkF m 23 #[.val (.ref b), .val (.int (0 : Int32)), .val (.int (25 : Int32)), .val (.int (25 : Int32)), .val (.ref b2)] [(.int ((34 : Int32) - (0 : Int32))), (.int (0 : Int32)), (.ref b2), (.int (0 : Int32)), (.ref b)])) (fun t_ k_ => XS.isub X2.here hx rfl (hb hby own_d_jdk_65_method_133_22) rfl k_) ?_
  rw [show ((34 : Int32) - (0 : Int32)) = (34 : Int32) from by decide]
  refine own_go (T2.setTop (mkF m 24 #[.val (.ref b), .val (.int (0 : Int32)), .val (.int (25 : Int32)), .val (.int (25 : Int32)), .val (.ref b2)] [(.int (25 : Int32)), (.int (34 : Int32)), (.int (0 : Int32)), (.ref b2), (.int (0 : Int32)), (.ref b)])) (fun t_ k_ => XS.iloadN X2.here hx rfl (hb hby own_d_jdk_65_method_133_23) rfl k_) ?_
  obtain ⟨_, _, ⟨T5, Lu5, ku5, nu5⟩, -, X5, ⟨Lc5, hQ5, lu5, yu5, zu5⟩, st5⟩ := Jvm.LawKit.callS X2 hx (y := (⟨"java/lang/Math", "min", "(II)I"⟩ : MethodName)) hown (mvT hZ (hw _ (List.mem_of_getElem? (i := 122) rfl))) (mvT hZ (hw _ (List.mem_of_getElem? (i := 123) rfl))) (mvT hZ (hw _ (List.mem_of_getElem? (i := 114) rfl))) (mvT hZ (hw _ (List.mem_of_getElem? (i := 124) rfl))) (by decide) (backOf (W := 4) (rm_mi l Z a0 hw [] ((34 : Int32)) ((25 : Int32)) h2 O2 ) hZ (hw _ (List.mem_of_getElem? (i := 124) rfl)) (hw _ (List.mem_of_getElem? (i := 114) rfl)) (by decide) (by decide)) (g := (mkF m 24 #[.val (.ref b), .val (.int (0 : Int32)), .val (.int (25 : Int32)), .val (.int (25 : Int32)), .val (.ref b2)] [(.int (25 : Int32)), (.int (34 : Int32)), (.int (0 : Int32)), (.ref b2), (.int (0 : Int32)), (.ref b)])) rfl (by rw [hml]; rfl) (argsL := [(.int (34 : Int32)), (.int (25 : Int32))]) (rest := [(.int (0 : Int32)), (.ref b2), (.int (0 : Int32)), (.ref b)]) (lenOf own_pd1 rfl) rfl (by show 2 * 0 + _ ≤ _; exact Nat.le_of_eq rfl) (hb hby own_d_jdk_65_method_133_24) (fun _ _ => ⟨rfl, e2, (by decide : 1 + 0 ≤ _), (by decide : 25 + 0 ≤ _)⟩)
  dsimp only [Pt.U, Pt.locs, Pt.cells, Pt.slots] at X5 lu5 yu5 zu5 st5 hQ5
  subst lu5 yu5 zu5
  obtain ⟨rfl, N5q, e5⟩ := hQ5
  have N5 := Fr.app N1 N5q
  rw [show own_min (34 : Int32) (25 : Int32) = (25 : Int32) from by decide] at st5
  refine own_go (T5.setTop (mkF m 27 #[.val (.ref b), .val (.int (0 : Int32)), .val (.int (25 : Int32)), .val (.int (25 : Int32)), .val (.ref b2)] [(.int (25 : Int32)), (.int (0 : Int32)), (.ref b2), (.int (0 : Int32)), (.ref b)])) (fun t_ k_ => st5 _ k_) ?_
  obtain ⟨T6, h6, L6, X6, e6, N6, Kc6, A6, st6⟩ := cpA X5 hx hZ hown (hw _ (List.mem_of_getElem? (i := 125) rfl)) (hw _ (List.mem_of_getElem? (i := 97) rfl)) (hw _ (List.mem_of_getElem? (i := 95) rfl)) (hw _ (List.mem_of_getElem? (i := 96) rfl)) e5 (us := [(.int (111 : Int32)), (.int (117 : Int32)), (.int (116 : Int32)), (.int (44 : Int32)), (.int (32 : Int32)), (.int (105 : Int32)), (.int (110 : Int32)), (.int (112 : Int32)), (.int (32 : Int32)), (.int (111 : Int32)), (.int (114 : Int32)), (.int (32 : Int32)), (.int (116 : Int32)), (.int (97 : Int32)), (.int (107 : Int32)), (.int (101 : Int32)), (.int (45 : Int32)), (.int (99 : Int32)), (.int (111 : Int32)), (.int (109 : Int32)), (.int (112 : Int32)), (.int (108 : Int32)), (.int (101 : Int32)), (.int (116 : Int32)), (.int (101 : Int32))]) Fz4 V2 (Or.inl ⟨rfl, rfl⟩) (by decide) (by decide) (by decide) (by decide) (by decide) rfl (Nat.le_of_ble_eq_true rfl) N5 ge_b2 (g := (mkF m 27 #[.val (.ref b), .val (.int (0 : Int32)), .val (.int (25 : Int32)), .val (.int (25 : Int32)), .val (.ref b2)] [(.int (25 : Int32)), (.int (0 : Int32)), (.ref b2), (.int (0 : Int32)), (.ref b)])) rfl (by rw [hml]; rfl) rfl (hb hby own_d_jdk_65_method_133_27) (by decide) (W := 0) (by show 2 * 0 + _ ≤ _; exact Nat.le_of_eq rfl) (by decide)
  have V6 : Arv Z h6 b2 k2 .byte (25 : Int32) [(.int (111 : Int32)), (.int (117 : Int32)), (.int (116 : Int32)), (.int (44 : Int32)), (.int (32 : Int32)), (.int (105 : Int32)), (.int (110 : Int32)), (.int (112 : Int32)), (.int (32 : Int32)), (.int (111 : Int32)), (.int (114 : Int32)), (.int (32 : Int32)), (.int (116 : Int32)), (.int (97 : Int32)), (.int (107 : Int32)), (.int (101 : Int32)), (.int (45 : Int32)), (.int (99 : Int32)), (.int (111 : Int32)), (.int (109 : Int32)), (.int (112 : Int32)), (.int (108 : Int32)), (.int (101 : Int32)), (.int (116 : Int32)), (.int (101 : Int32))] (.int (0 : Int32)) := A6
  have O6 := own_extK O2 Kc6 (allS ge_b2 all0)
  have KK6 : Keep h0 h6 [] := K2.trans Kc6 (allS (Or.inr sz_b2) all0)
  refine own_go (T6.setTop (mkF m 30 #[.val (.ref b), .val (.int (0 : Int32)), .val (.int (25 : Int32)), .val (.int (25 : Int32)), .val (.ref b2)] [])) (fun t_ k_ => st6 _ k_) ?_
  refine own_go (T6.setTop (mkF m 32 #[.val (.ref b), .val (.int (0 : Int32)), .val (.int (25 : Int32)), .val (.int (25 : Int32)), .val (.ref b2)] [(.ref b2)])) (fun t_ k_ => XS.aload X6.here hx rfl (hb hby own_d_jdk_65_method_133_30) rfl rfl k_) ?_
  obtain ⟨fs, hr, hrun, hended, hW, hsame⟩ := X6.leave (v := some (.ref b2)) (fun h => by rw [Bd.returns] at h; cases h)
  refine ⟨_, _, Jvm.RoadKit.retOut X6 hx Bd.returns rfl (Or.inr (Or.inr (Or.inr (Or.inr ⟨rfl, rfl, rfl⟩)))) (hb hby own_d_jdk_65_method_133_32) hr, hrun, hended, _, _, rfl, ?_, ⟨_, rfl⟩, hW, hsame.mono (by decide) (by decide)⟩
  show Q_cb Z b kv h0 _ T6.heap _
  rw [show T6.heap = h6 from e6]
  exact ⟨_, _, rfl, N6, KK6, ge_b2, sz_b2, V6⟩
theorem own_ef_cr (m : MethodId) (b : Addr) : entryFrame m #[(.ref b), (.int (0 : Int32)), (.int (25 : Int32))] 3 = mkF m 0 #[.val (.ref b), .val (.int (0 : Int32)), .val (.int (25 : Int32))] [] := by first | (simp [entryFrame, mkF, argsToLocals, Value.category]; done) | rfl
theorem own_d_jdk_65_method_132_0 : decode jdk_65_method_132_code 0 = .ok (.iload_n 1, 1) := by decide +kernel
theorem own_d_jdk_65_method_132_1 : decode jdk_65_method_132_code 1 = .ok (.ifCond .ne 9, 3) := by decide +kernel
theorem own_d_jdk_65_method_132_4 : decode jdk_65_method_132_code 4 = .ok (.iload_n 2, 1) := by decide +kernel
theorem own_d_jdk_65_method_132_5 : decode jdk_65_method_132_code 5 = .ok (.aload_n 0, 1) := by decide +kernel
theorem own_d_jdk_65_method_132_6 : decode jdk_65_method_132_code 6 = .ok (.arraylength, 1) := by decide +kernel
theorem own_d_jdk_65_method_132_7 : decode jdk_65_method_132_code 7 = .ok (.if_icmp .eq 10, 3) := by decide +kernel
theorem own_d_jdk_65_method_132_10 : decode jdk_65_method_132_code 10 = .ok (.aload_n 0, 1) := by decide +kernel
theorem own_d_jdk_65_method_132_11 : decode jdk_65_method_132_code 11 = .ok (.iload_n 1, 1) := by decide +kernel
theorem own_d_jdk_65_method_132_12 : decode jdk_65_method_132_code 12 = .ok (.iload_n 2, 1) := by decide +kernel
theorem own_d_jdk_65_method_132_13 : decode jdk_65_method_132_code 13 = .ok (.invokestatic 339, 3) := by decide +kernel
theorem own_pd12 : parseMethodDescriptor "([BII)[B" = some ⟨[(.array .byte), .int, .int], some (.array .byte)⟩ := by decide +kernel
theorem own_d_jdk_65_method_132_16 : decode jdk_65_method_132_code 16 = .ok (.areturn, 1) := by decide +kernel
def Q_cr (Z : State) (b : Addr) (kv : ClassId) (h0 : Heap) (v_ : Option Value) (h : Heap) (L_ : List Loc) : Prop := ∃ (r : Addr), ∃ (kr : ClassId), v_ = some (.ref r) ∧ Fr Z.heap.size L_ ∧ (Keep h0 h [] ∧ Z.heap.size ≤ r ∧ h0.size ≤ r ∧ Arv Z h r kr .byte 25 [(.int (111 : Int32)), (.int (117 : Int32)), (.int (116 : Int32)), (.int (44 : Int32)), (.int (32 : Int32)), (.int (105 : Int32)), (.int (110 : Int32)), (.int (112 : Int32)), (.int (32 : Int32)), (.int (111 : Int32)), (.int (114 : Int32)), (.int (32 : Int32)), (.int (116 : Int32)), (.int (97 : Int32)), (.int (107 : Int32)), (.int (101 : Int32)), (.int (45 : Int32)), (.int (99 : Int32)), (.int (111 : Int32)), (.int (109 : Int32)), (.int (112 : Int32)), (.int (108 : Int32)), (.int (101 : Int32)), (.int (116 : Int32)), (.int (101 : Int32))] (.int 0))
set_option maxRecDepth 65536 in
set_option maxHeartbeats 40000000 in
theorem rm_cr (l : Launch) (Z : State) (a0 : Array Value) (hw : ∀ d ∈ tables_1, d.before a0 Z = true) (ws : List Jvm.Cond) (b : Addr) (kv : ClassId) (h0 : Heap) (O : Ext Z.heap h0) (Ab : Arv Z h0 b kv .byte 34 [(.int (111 : Int32)), (.int (117 : Int32)), (.int (116 : Int32)), (.int (44 : Int32)), (.int (32 : Int32)), (.int (105 : Int32)), (.int (110 : Int32)), (.int (112 : Int32)), (.int (32 : Int32)), (.int (111 : Int32)), (.int (114 : Int32)), (.int (32 : Int32)), (.int (116 : Int32)), (.int (97 : Int32)), (.int (107 : Int32)), (.int (101 : Int32)), (.int (45 : Int32)), (.int (99 : Int32)), (.int (111 : Int32)), (.int (109 : Int32)), (.int (112 : Int32)), (.int (108 : Int32)), (.int (101 : Int32)), (.int (116 : Int32)), (.int (101 : Int32)), (.int (0 : Int32)), (.int (0 : Int32)), (.int (0 : Int32)), (.int (0 : Int32)), (.int (0 : Int32)), (.int (0 : Int32)), (.int (0 : Int32)), (.int (0 : Int32)), (.int (0 : Int32))] (.int 0)) :
    MetFree l (⟨"java/util/Arrays", "copyOfRange", "([BII)[B"⟩ : MethodName) (head1 (Jvm.Cond.code (⟨"java/util/Arrays", "copyOfRange", "([BII)[B"⟩ : MethodName) jdk_65_method_132_code 3 (some (.array .byte)) :: ws) ({ frames := 2, cells := 1, slots := 25, locals := 56 } : Room)) (fun a_ U_ => a_ = #[(.ref b), (.int (0 : Int32)), (.int (25 : Int32))] ∧ Z.Warmed39 U_.vm ∧ U_.heap = h0) (fun _ _ _ _ _ => True) (fun _ U_ o_ U2_ => ∃ v_ L_, o_ = .returned v_ ∧ Q_cr Z b kv h0 v_ U2_.heap L_ ∧ FrameEnd U_ o_ U2_ L_ ({ frames := 2, cells := 1, slots := 25, locals := 56 } : Room).cells ({ frames := 2, cells := 1, slots := 25, locals := 56 } : Room).slots) := by
  refine MetFree.of_bodySF (plainFor_of_name own_pn5) hisR ?_
  intro p e s m args below meth c s₁ Bd hml0 hP hK
  obtain ⟨rfl, hZ, hh⟩ := hP
  have hx := Bd.exec
  have hby := Bd.bytes
  have hml : c.maxLocals = 3 := hml0
  have hown : s.vm.findClass "java/util/Arrays" = some m.cls := findClass_of_methodNamed Bd.named
  have hnm := (name_of_methodNamed Bd.named Bd.method).1
  have X0 : Stand p l e ({ frames := 2, cells := 1, slots := 25, locals := 56 } : Room) s m #[(.ref b), (.int (0 : Int32)), (.int (25 : Int32))] below meth c s₁ [] 0 0 := Stand.of_body Bd
  have e0 : s₁.heap = h0 := by rw [← hh, Bd.state]; rfl
  have N0 := Fr.nil Z.heap.size
  show own_G p e below (fun o_ s₂ => ∃ v_ L_, o_ = .returned v_ ∧ Q_cr Z b kv h0 v_ s₂.heap L_ ∧ FrameEnd s o_ s₂ L_ ({ frames := 2, cells := 1, slots := 25, locals := 56 } : Room).cells ({ frames := 2, cells := 1, slots := 25, locals := 56 } : Room).slots) (s₁.setTop (entryFrame m #[(.ref b), (.int (0 : Int32)), (.int (25 : Int32))] 3))
  refine own_go (s₁.setTop (mkF m 0 #[.val (.ref b), .val (.int (0 : Int32)), .val (.int (25 : Int32))] [])) (fun t_ k_ => castTop (own_ef_cr m b) k_) ?_
  refine own_go (s₁.setTop (mkF m 1 #[.val (.ref b), .val (.int (0 : Int32)), .val (.int (25 : Int32))] [(.int (0 : Int32))])) (fun t_ k_ => XS.iloadN X0.here hx rfl (hb hby own_d_jdk_65_method_132_0) rfl k_) ?_
  refine own_go (s₁.setTop (mkF m 4 #[.val (.ref b), .val (.int (0 : Int32)), .val (.int (25 : Int32))] [])) (fun t_ k_ => XS.ifNo X0.here hx rfl (hb hby own_d_jdk_65_method_132_1) rfl ((if0 _ _).trans (teq (by decide : (0 : Int32) = (0 : Int32))).2) k_) ?_
  refine own_go (s₁.setTop (mkF m 5 #[.val (.ref b), .val (.int (0 : Int32)), .val (.int (25 : Int32))] [(.int (25 : Int32))])) (fun t_ k_ => XS.iloadN X0.here hx rfl (hb hby own_d_jdk_65_method_132_4) rfl k_) ?_
  refine own_go (s₁.setTop (mkF m 6 #[.val (.ref b), .val (.int (0 : Int32)), .val (.int (25 : Int32))] [(.ref b), (.int (25 : Int32))])) (fun t_ k_ => XS.aloadN X0.here hx rfl (hb hby own_d_jdk_65_method_132_5) rfl rfl k_) ?_
  obtain ⟨cl1, Ar1, q1, Sz1, Nz1, Hz1, Gz1⟩ := id (Ab)
  refine own_go (s₁.setTop (mkF m 7 #[.val (.ref b), .val (.int (0 : Int32)), .val (.int (25 : Int32))] [(.int (34 : Int32)), (.int (25 : Int32))])) (fun t_ k_ => X0.arraylength hx (by rw [e0]; exact Ar1.1) (State.isArrayOf_alike hZ.alike Ar1.2.1) (g := (mkF m 6 #[.val (.ref b), .val (.int (0 : Int32)), .val (.int (25 : Int32))] [(.ref b), (.int (25 : Int32))])) rfl rfl (hb hby own_d_jdk_65_method_132_6) _ (by rw [len_of Sz1 Nz1]; exact k_)) ?_
  refine own_go (s₁.setTop (mkF m 10 #[.val (.ref b), .val (.int (0 : Int32)), .val (.int (25 : Int32))] [])) (fun t_ k_ => XS.icmpNo X0.here hx rfl (hb hby own_d_jdk_65_method_132_7) rfl (feq (by decide : ¬ ((25 : Int32) = (34 : Int32)))).1 k_) ?_
  refine own_go (s₁.setTop (mkF m 11 #[.val (.ref b), .val (.int (0 : Int32)), .val (.int (25 : Int32))] [(.ref b)])) (fun t_ k_ => XS.aloadN X0.here hx rfl (hb hby own_d_jdk_65_method_132_10) rfl rfl k_) ?_
  refine own_go (s₁.setTop (mkF m 12 #[.val (.ref b), .val (.int (0 : Int32)), .val (.int (25 : Int32))] [(.int (0 : Int32)), (.ref b)])) (fun t_ k_ => XS.iloadN X0.here hx rfl (hb hby own_d_jdk_65_method_132_11) rfl k_) ?_
  refine own_go (s₁.setTop (mkF m 13 #[.val (.ref b), .val (.int (0 : Int32)), .val (.int (25 : Int32))] [(.int (25 : Int32)), (.int (0 : Int32)), (.ref b)])) (fun t_ k_ => XS.iloadN X0.here hx rfl (hb hby own_d_jdk_65_method_132_12) rfl k_) ?_
  obtain ⟨_, _, ⟨T2, Lu2, ku2, nu2⟩, -, X2, ⟨Lc2, hQ2, lu2, yu2, zu2⟩, st2⟩ := Jvm.LawKit.callS X0 hx (y := (⟨"java/util/Arrays", "copyOfRangeByte", "([BII)[B"⟩ : MethodName)) hown (mvT hZ (hw _ (List.mem_of_getElem? (i := 161) rfl))) (mvT hZ (hw _ (List.mem_of_getElem? (i := 162) rfl))) (mvT hZ (hw _ (List.mem_of_getElem? (i := 120) rfl))) (mvT hZ (hw _ (List.mem_of_getElem? (i := 163) rfl))) (by decide) (backOf (W := 0) (rm_cb l Z a0 hw [] (b) (kv) h0 O Ab) hZ (hw _ (List.mem_of_getElem? (i := 163) rfl)) (hw _ (List.mem_of_getElem? (i := 120) rfl)) (by decide) (by decide)) (g := (mkF m 13 #[.val (.ref b), .val (.int (0 : Int32)), .val (.int (25 : Int32))] [(.int (25 : Int32)), (.int (0 : Int32)), (.ref b)])) rfl (by rw [hml]; rfl) (argsL := [(.ref b), (.int (0 : Int32)), (.int (25 : Int32))]) (rest := []) (lenOf own_pd12 rfl) rfl (by show 2 * 0 + _ ≤ _; exact Nat.le_of_eq rfl) (hb hby own_d_jdk_65_method_132_13) (fun _ _ => ⟨rfl, e0, (by decide : 0 + 1 ≤ _), (by decide : 0 + 25 ≤ _)⟩)
  dsimp only [Pt.U, Pt.locs, Pt.cells, Pt.slots] at X2 lu2 yu2 zu2 st2 hQ2
  subst lu2 yu2 zu2
  obtain ⟨r2, kr2, rfl, N2q, K2q, u1_2, u2_2, V2q⟩ := hQ2
  have N2 := Fr.app N0 N2q
  have O2 := own_extK O K2q all0
  have KK2 : Keep h0 T2.heap [] := (Keep.refl h0 []).trans K2q all0
  refine own_go (T2.setTop (mkF m 16 #[.val (.ref b), .val (.int (0 : Int32)), .val (.int (25 : Int32))] [(.ref r2)])) (fun t_ k_ => st2 _ k_) ?_
  obtain ⟨fs, hr, hrun, hended, hW, hsame⟩ := X2.leave (v := some (.ref r2)) (fun h => by rw [Bd.returns] at h; cases h)
  refine ⟨_, _, Jvm.RoadKit.retOut X2 hx Bd.returns rfl (Or.inr (Or.inr (Or.inr (Or.inr ⟨rfl, rfl, rfl⟩)))) (hb hby own_d_jdk_65_method_132_16) hr, hrun, hended, _, _, rfl, ?_, ⟨_, rfl⟩, hW, hsame.mono (by decide) (by decide)⟩
  show Q_cr Z b kv h0 _ T2.heap _
  exact ⟨_, _, rfl, N2, KK2, u1_2, (Nat.le_trans (Keep.refl h0 []).1 u2_2), V2q⟩
theorem own_ef_sv (m : MethodId) (o : Addr) (a : Addr) : entryFrame m #[(.ref o), (.ref a), .null] 5 = mkF m 0 #[.val (.ref o), .val (.ref a), .val .null, .unset, .unset] [] := by first | (simp [entryFrame, mkF, argsToLocals, Value.category]; done) | rfl
theorem own_d_jdk_42_method_150_0 : decode jdk_42_method_150_code 0 = .ok (.aload_n 0, 1) := by decide +kernel
theorem own_d_jdk_42_method_150_1 : decode jdk_42_method_150_code 1 = .ok (.invokespecial 1, 3) := by decide +kernel
theorem own_d_jdk_42_method_150_4 : decode jdk_42_method_150_code 4 = .ok (.aload_n 1, 1) := by decide +kernel
theorem own_d_jdk_42_method_150_5 : decode jdk_42_method_150_code 5 = .ok (.invokevirtual 552, 3) := by decide +kernel
theorem own_pd13 : parseMethodDescriptor "()[B" = some ⟨[], some (.array .byte)⟩ := by decide +kernel
theorem own_d_jdk_42_method_150_8 : decode jdk_42_method_150_code 8 = .ok (.astore_n 3, 1) := by decide +kernel
theorem own_d_jdk_42_method_150_9 : decode jdk_42_method_150_code 9 = .ok (.aload_n 1, 1) := by decide +kernel
theorem own_d_jdk_42_method_150_10 : decode jdk_42_method_150_code 10 = .ok (.invokevirtual 549, 3) := by decide +kernel
theorem own_d_jdk_42_method_150_13 : decode jdk_42_method_150_code 13 = .ok (.istore 4, 2) := by decide +kernel
theorem own_d_jdk_42_method_150_15 : decode jdk_42_method_150_code 15 = .ok (.aload_n 1, 1) := by decide +kernel
theorem own_d_jdk_42_method_150_16 : decode jdk_42_method_150_code 16 = .ok (.invokevirtual 1047, 3) := by decide +kernel
theorem own_pd14 : parseMethodDescriptor "()Z" = some ⟨[], some .boolean⟩ := by decide +kernel
theorem own_d_jdk_42_method_150_19 : decode jdk_42_method_150_code 19 = .ok (.ifCond .eq 22, 3) := by decide +kernel
theorem own_d_jdk_42_method_150_22 : decode jdk_42_method_150_code 22 = .ok (.aload_n 0, 1) := by decide +kernel
theorem own_d_jdk_42_method_150_23 : decode jdk_42_method_150_code 23 = .ok (.iconst 0, 1) := by decide +kernel
theorem own_d_jdk_42_method_150_24 : decode jdk_42_method_150_code 24 = .ok (.putfield 15, 3) := by decide +kernel
theorem own_d_jdk_42_method_150_27 : decode jdk_42_method_150_code 27 = .ok (.aload_n 0, 1) := by decide +kernel
theorem own_d_jdk_42_method_150_28 : decode jdk_42_method_150_code 28 = .ok (.aload_n 3, 1) := by decide +kernel
theorem own_d_jdk_42_method_150_29 : decode jdk_42_method_150_code 29 = .ok (.iconst 0, 1) := by decide +kernel
theorem own_d_jdk_42_method_150_30 : decode jdk_42_method_150_code 30 = .ok (.iload 4, 2) := by decide +kernel
theorem own_d_jdk_42_method_150_32 : decode jdk_42_method_150_code 32 = .ok (.invokestatic 54, 3) := by decide +kernel
theorem own_d_jdk_42_method_150_35 : decode jdk_42_method_150_code 35 = .ok (.putfield 9, 3) := by decide +kernel
theorem own_d_jdk_42_method_150_38 : decode jdk_42_method_150_code 38 = .ok (.goto 59, 3) := by decide +kernel
theorem own_d_jdk_42_method_150_97 : decode jdk_42_method_150_code 97 = .ok (.return_, 1) := by decide +kernel
def Q_sv (Z : State) (o : Addr) (a : Addr) (b : Addr) (kv : ClassId) (a__VALUES : Addr) (a_OUT : Addr) (a_INP : Addr) (a_TAKE_COMPLETE : Addr) (a_OUT_text : Addr) (a_INP_text : Addr) (a_TAKE_COMPLETE_text : Addr) (a_OUT_text_value : Addr) (a_INP_text_value : Addr) (a_TAKE_COMPLETE_text_value : Addr) (k__VALUES : ClassId) (k_OUT_text_value : ClassId) (k_INP_text_value : ClassId) (k_TAKE_COMPLETE_text_value : ClassId) (cs0 : Int32) (h0 : Heap) (v_ : Option Value) (h : Heap) (L_ : List Loc) : Prop := ∃ (r : Addr), ∃ (kr : ClassId), v_ = none ∧ Fr Z.heap.size L_ ∧ (Keep h0 h [o] ∧ Exa Z h o "java/lang/String" ∧ Fld Z h o "java/lang/String" "value" "[B" (.ref r) ∧ Fld Z h o "java/lang/String" "coder" "B" (.int 0) ∧ Arv Z h r kr .byte 25 [(.int (111 : Int32)), (.int (117 : Int32)), (.int (116 : Int32)), (.int (44 : Int32)), (.int (32 : Int32)), (.int (105 : Int32)), (.int (110 : Int32)), (.int (112 : Int32)), (.int (32 : Int32)), (.int (111 : Int32)), (.int (114 : Int32)), (.int (32 : Int32)), (.int (116 : Int32)), (.int (97 : Int32)), (.int (107 : Int32)), (.int (101 : Int32)), (.int (45 : Int32)), (.int (99 : Int32)), (.int (111 : Int32)), (.int (109 : Int32)), (.int (112 : Int32)), (.int (108 : Int32)), (.int (101 : Int32)), (.int (116 : Int32)), (.int (101 : Int32))] (.int 0))
set_option maxRecDepth 65536 in
set_option maxHeartbeats 40000000 in
theorem rm_sv (l : Launch) (Z : State) (a0 : Array Value) (hw : ∀ d ∈ tables_1, d.before a0 Z = true) (ws : List Jvm.Cond) (o : Addr) (a : Addr) (b : Addr) (kv : ClassId) (a__VALUES : Addr) (a_OUT : Addr) (a_INP : Addr) (a_TAKE_COMPLETE : Addr) (a_OUT_text : Addr) (a_INP_text : Addr) (a_TAKE_COMPLETE_text : Addr) (a_OUT_text_value : Addr) (a_INP_text_value : Addr) (a_TAKE_COMPLETE_text_value : Addr) (k__VALUES : ClassId) (k_OUT_text_value : ClassId) (k_INP_text_value : ClassId) (k_TAKE_COMPLETE_text_value : ClassId) (cs0 : Int32) (h0 : Heap) (O : Ext Z.heap h0) (w : own_W Z a__VALUES a_OUT a_INP a_TAKE_COMPLETE a_OUT_text a_INP_text a_TAKE_COMPLETE_text a_OUT_text_value a_INP_text_value a_TAKE_COMPLETE_text_value k__VALUES k_OUT_text_value k_INP_text_value k_TAKE_COMPLETE_text_value cs0) (Xa : Exa Z h0 a "java/lang/StringBuilder") (Va : Fld Z h0 a "java/lang/AbstractStringBuilder" "value" "[B" (.ref b)) (Ca : Fld Z h0 a "java/lang/AbstractStringBuilder" "coder" "B" (.int 0)) (Na : Fld Z h0 a "java/lang/AbstractStringBuilder" "count" "I" (.int 25)) (Ab : Arv Z h0 b kv .byte 34 [(.int (111 : Int32)), (.int (117 : Int32)), (.int (116 : Int32)), (.int (44 : Int32)), (.int (32 : Int32)), (.int (105 : Int32)), (.int (110 : Int32)), (.int (112 : Int32)), (.int (32 : Int32)), (.int (111 : Int32)), (.int (114 : Int32)), (.int (32 : Int32)), (.int (116 : Int32)), (.int (97 : Int32)), (.int (107 : Int32)), (.int (101 : Int32)), (.int (45 : Int32)), (.int (99 : Int32)), (.int (111 : Int32)), (.int (109 : Int32)), (.int (112 : Int32)), (.int (108 : Int32)), (.int (101 : Int32)), (.int (116 : Int32)), (.int (101 : Int32)), (.int (0 : Int32)), (.int (0 : Int32)), (.int (0 : Int32)), (.int (0 : Int32)), (.int (0 : Int32)), (.int (0 : Int32)), (.int (0 : Int32)), (.int (0 : Int32)), (.int (0 : Int32))] (.int 0)) (Xo : Exa Z h0 o "java/lang/String") (Vo : Fld Z h0 o "java/lang/String" "value" "[B" .null) (Co : Fld Z h0 o "java/lang/String" "coder" "B" (.int 0)) (go : Z.heap.size ≤ o) (no : b ≠ o) :
    MetFree l (⟨"java/lang/String", "<init>", "(Ljava/lang/AbstractStringBuilder;Ljava/lang/Void;)V"⟩ : MethodName) (head1 (Jvm.Cond.code (⟨"java/lang/String", "<init>", "(Ljava/lang/AbstractStringBuilder;Ljava/lang/Void;)V"⟩ : MethodName) jdk_42_method_150_code 5 none :: ws) ({ frames := 3, cells := 1, slots := 25, locals := 71 } : Room)) (fun a_ U_ => a_ = #[(.ref o), (.ref a), .null] ∧ Z.Warmed39 U_.vm ∧ U_.heap = h0) (fun _ _ _ _ _ => True) (fun _ U_ o_ U2_ => ∃ v_ L_, o_ = .returned v_ ∧ Q_sv Z o a b kv a__VALUES a_OUT a_INP a_TAKE_COMPLETE a_OUT_text a_INP_text a_TAKE_COMPLETE_text a_OUT_text_value a_INP_text_value a_TAKE_COMPLETE_text_value k__VALUES k_OUT_text_value k_INP_text_value k_TAKE_COMPLETE_text_value cs0 h0 v_ U2_.heap L_ ∧ FrameEnd U_ o_ U2_ L_ ({ frames := 3, cells := 1, slots := 25, locals := 71 } : Room).cells ({ frames := 3, cells := 1, slots := 25, locals := 71 } : Room).slots) := by
  refine MetFree.of_bodySF (plainFor_of_name own_pn0) hisR ?_
  intro p e s m args below meth c s₁ Bd hml0 hP hK
  obtain ⟨rfl, hZ, hh⟩ := hP
  have hx := Bd.exec
  have hby := Bd.bytes
  have hml : c.maxLocals = 5 := hml0
  have hown : s.vm.findClass "java/lang/String" = some m.cls := findClass_of_methodNamed Bd.named
  have hnm := (name_of_methodNamed Bd.named Bd.method).1
  have X0 : Stand p l e ({ frames := 3, cells := 1, slots := 25, locals := 71 } : Room) s m #[(.ref o), (.ref a), .null] below meth c s₁ [] 0 0 := Stand.of_body Bd
  have e0 : s₁.heap = h0 := by rw [← hh, Bd.state]; rfl
  have N0 := Fr.nil Z.heap.size
  show own_G p e below (fun o_ s₂ => ∃ v_ L_, o_ = .returned v_ ∧ Q_sv Z o a b kv a__VALUES a_OUT a_INP a_TAKE_COMPLETE a_OUT_text a_INP_text a_TAKE_COMPLETE_text a_OUT_text_value a_INP_text_value a_TAKE_COMPLETE_text_value k__VALUES k_OUT_text_value k_INP_text_value k_TAKE_COMPLETE_text_value cs0 h0 v_ s₂.heap L_ ∧ FrameEnd s o_ s₂ L_ ({ frames := 3, cells := 1, slots := 25, locals := 71 } : Room).cells ({ frames := 3, cells := 1, slots := 25, locals := 71 } : Room).slots) (s₁.setTop (entryFrame m #[(.ref o), (.ref a), .null] 5))
  refine own_go (s₁.setTop (mkF m 0 #[.val (.ref o), .val (.ref a), .val .null, .unset, .unset] [])) (fun t_ k_ => castTop (own_ef_sv m o a) k_) ?_
  have w' := w
  obtain ⟨S__VALUES, X__VALUES, S_OUT, X_OUT, S_INP, X_INP, S_TAKE_COMPLETE, X_TAKE_COMPLETE, F_OUT_text, X_OUT_text, F_INP_text, X_INP_text, F_TAKE_COMPLETE_text, X_TAKE_COMPLETE_text, F_OUT_text_value, X_OUT_text_value, F_INP_text_value, X_INP_text_value, F_TAKE_COMPLETE_text_value, X_TAKE_COMPLETE_text_value, F_OUT_text_coder, F_INP_text_coder, F_TAKE_COMPLETE_text_coder, V__VALUES, V_OUT_text_value, V_INP_text_value, V_TAKE_COMPLETE_text_value, S_CS, n_CS⟩ := w'
  refine own_go (s₁.setTop (mkF m 1 #[.val (.ref o), .val (.ref a), .val .null, .unset, .unset] [(.ref o)])) (fun t_ k_ => XS.aloadN X0.here hx rfl (hb hby own_d_jdk_42_method_150_0) rfl rfl k_) ?_
  obtain ⟨T1, X1, e1, st1⟩ := initO X0 hx hZ hown (hw _ (List.mem_of_getElem? (i := 139) rfl)) (hw _ (List.mem_of_getElem? (i := 17) rfl)) (hw _ (List.mem_of_getElem? (i := 18) rfl)) e0 (g := (mkF m 1 #[.val (.ref o), .val (.ref a), .val .null, .unset, .unset] [(.ref o)])) rfl (by rw [hml]; rfl) rfl (hb hby own_d_jdk_42_method_150_1) (by decide) (W := 0) (by show 2 * 0 + _ ≤ _; exact Nat.le_of_eq rfl) (by decide)
  refine own_go (T1.setTop (mkF m 4 #[.val (.ref o), .val (.ref a), .val .null, .unset, .unset] [])) (fun t_ k_ => st1 _ k_) ?_
  refine own_go (T1.setTop (mkF m 5 #[.val (.ref o), .val (.ref a), .val .null, .unset, .unset] [(.ref a)])) (fun t_ k_ => XS.aloadN X1.here hx rfl (hb hby own_d_jdk_42_method_150_4) rfl rfl k_) ?_
  obtain ⟨cq2, kq2, q2a, q2b, q2c⟩ := isOf hZ e1 Xa
  obtain ⟨_, _, ⟨T2, Lu2, ku2, nu2⟩, -, X2, ⟨Lc2, hQ2, lu2, yu2, zu2⟩, st2⟩ := X1.virtualBack hx (y := (⟨"java/lang/AbstractStringBuilder", "getValue", "()[B"⟩ : MethodName)) (z := (⟨"java/lang/AbstractStringBuilder", "getValue", "()[B"⟩ : MethodName)) hown (mvT hZ (hw _ (List.mem_of_getElem? (i := 140) rfl))) (mvT hZ (hw _ (List.mem_of_getElem? (i := 141) rfl))) (notFace_of_selects (args := #[]) (mvT hZ (hw _ (List.mem_of_getElem? (i := 143) rfl)))) (mvT hZ (hw _ (List.mem_of_getElem? (i := 143) rfl))) (mvT hZ (hw _ (List.mem_of_getElem? (i := 142) rfl))) (by decide) (backOf (W := 0) (rm_gv l Z a0 hw [] (a) (b) (kv) h0 O Xa Va Ca Na Ab) hZ (hw _ (List.mem_of_getElem? (i := 144) rfl)) (hw _ (List.mem_of_getElem? (i := 14) rfl)) (by decide) (by decide)) q2a q2c (g := (mkF m 5 #[.val (.ref o), .val (.ref a), .val .null, .unset, .unset] [(.ref a)])) rfl (by rw [hml]; rfl) (Steps.refl _) (argsL := []) (rest := []) (lenOf own_pd13 rfl) rfl (by show 2 * 0 + _ ≤ _; exact Nat.le_of_eq rfl) (hb hby own_d_jdk_42_method_150_5) (fun _ _ => ⟨rfl, e1, (by decide : 0 + 0 ≤ _), (by decide : 0 + 0 ≤ _)⟩)
  dsimp only [Pt.U, Pt.locs, Pt.cells, Pt.slots] at X2 lu2 yu2 zu2 st2 hQ2
  subst lu2 yu2 zu2
  obtain ⟨rfl, N2q, e2⟩ := hQ2
  have N2 := Fr.app N0 N2q
  refine own_go (T2.setTop (mkF m 8 #[.val (.ref o), .val (.ref a), .val .null, .unset, .unset] [(.ref b)])) (fun t_ k_ => st2.trans k_) ?_
  refine own_go (T2.setTop (mkF m 9 #[.val (.ref o), .val (.ref a), .val .null, .val (.ref b), .unset] [])) (fun t_ k_ => XS.astoreN X2.here hx rfl (hb hby own_d_jdk_42_method_150_8) rfl rfl (l' := #[.val (.ref o), .val (.ref a), .val .null, .val (.ref b), .unset]) rfl k_) ?_
  refine own_go (T2.setTop (mkF m 10 #[.val (.ref o), .val (.ref a), .val .null, .val (.ref b), .unset] [(.ref a)])) (fun t_ k_ => XS.aloadN X2.here hx rfl (hb hby own_d_jdk_42_method_150_9) rfl rfl k_) ?_
  obtain ⟨cq3, kq3, q3a, q3b, q3c⟩ := isOf hZ e2 Xa
  obtain ⟨_, _, ⟨T3, Lu3, ku3, nu3⟩, -, X3, ⟨Lc3, hQ3, lu3, yu3, zu3⟩, st3⟩ := X2.virtualBack hx (y := (⟨"java/lang/AbstractStringBuilder", "length", "()I"⟩ : MethodName)) (z := (⟨"java/lang/StringBuilder", "length", "()I"⟩ : MethodName)) hown (mvT hZ (hw _ (List.mem_of_getElem? (i := 145) rfl))) (mvT hZ (hw _ (List.mem_of_getElem? (i := 146) rfl))) (own_nf (args := #[]) (mvT hZ (hw _ (List.mem_of_getElem? (i := 76) rfl))) rfl) (mvT hZ (hw _ (List.mem_of_getElem? (i := 148) rfl))) (mvT hZ (hw _ (List.mem_of_getElem? (i := 149) rfl))) (by decide) (backOf (W := 0) (rm_lS l Z a0 hw [] (a) (b) (kv) h0 O Xa Va Ca Na Ab) hZ (hw _ (List.mem_of_getElem? (i := 150) rfl)) (hw _ (List.mem_of_getElem? (i := 6) rfl)) (by decide) (by decide)) q3a q3c (g := (mkF m 10 #[.val (.ref o), .val (.ref a), .val .null, .val (.ref b), .unset] [(.ref a)])) rfl (by rw [hml]; rfl) (Steps.refl _) (argsL := []) (rest := []) (lenOf own_pd6 rfl) rfl (by show 2 * 0 + _ ≤ _; exact Nat.le_of_eq rfl) (hb hby own_d_jdk_42_method_150_10) (fun _ _ => ⟨rfl, e2, (by decide : 0 + 0 ≤ _), (by decide : 0 + 0 ≤ _)⟩)
  dsimp only [Pt.U, Pt.locs, Pt.cells, Pt.slots] at X3 lu3 yu3 zu3 st3 hQ3
  subst lu3 yu3 zu3
  obtain ⟨rfl, N3q, e3⟩ := hQ3
  have N3 := Fr.app N2 N3q
  refine own_go (T3.setTop (mkF m 13 #[.val (.ref o), .val (.ref a), .val .null, .val (.ref b), .unset] [(.int (25 : Int32))])) (fun t_ k_ => st3.trans k_) ?_
  refine own_go (T3.setTop (mkF m 15 #[.val (.ref o), .val (.ref a), .val .null, .val (.ref b), .val (.int (25 : Int32))] [])) (fun t_ k_ => XS.istore X3.here hx rfl (hb hby own_d_jdk_42_method_150_13) rfl (l' := #[.val (.ref o), .val (.ref a), .val .null, .val (.ref b), .val (.int (25 : Int32))]) rfl k_) ?_
  refine own_go (T3.setTop (mkF m 16 #[.val (.ref o), .val (.ref a), .val .null, .val (.ref b), .val (.int (25 : Int32))] [(.ref a)])) (fun t_ k_ => XS.aloadN X3.here hx rfl (hb hby own_d_jdk_42_method_150_15) rfl rfl k_) ?_
  obtain ⟨cq4, kq4, q4a, q4b, q4c⟩ := isOf hZ e3 Xa
  obtain ⟨_, _, ⟨T4, Lu4, ku4, nu4⟩, -, X4, ⟨Lc4, hQ4, lu4, yu4, zu4⟩, st4⟩ := X3.virtualBack hx (y := (⟨"java/lang/AbstractStringBuilder", "isLatin1", "()Z"⟩ : MethodName)) (z := (⟨"java/lang/AbstractStringBuilder", "isLatin1", "()Z"⟩ : MethodName)) hown (mvT hZ (hw _ (List.mem_of_getElem? (i := 153) rfl))) (mvT hZ (hw _ (List.mem_of_getElem? (i := 154) rfl))) (notFace_of_selects (args := #[]) (mvT hZ (hw _ (List.mem_of_getElem? (i := 156) rfl)))) (mvT hZ (hw _ (List.mem_of_getElem? (i := 156) rfl))) (mvT hZ (hw _ (List.mem_of_getElem? (i := 155) rfl))) (by decide) (backOf (W := 0) (rm_il l Z a0 hw [] (a) (b) (kv) (a__VALUES) (a_OUT) (a_INP) (a_TAKE_COMPLETE) (a_OUT_text) (a_INP_text) (a_TAKE_COMPLETE_text) (a_OUT_text_value) (a_INP_text_value) (a_TAKE_COMPLETE_text_value) (k__VALUES) (k_OUT_text_value) (k_INP_text_value) (k_TAKE_COMPLETE_text_value) (cs0) h0 O w Xa Va Ca Na Ab) hZ (hw _ (List.mem_of_getElem? (i := 157) rfl)) (hw _ (List.mem_of_getElem? (i := 14) rfl)) (by decide) (by decide)) q4a q4c (g := (mkF m 16 #[.val (.ref o), .val (.ref a), .val .null, .val (.ref b), .val (.int (25 : Int32))] [(.ref a)])) rfl (by rw [hml]; rfl) (Steps.refl _) (argsL := []) (rest := []) (lenOf own_pd14 rfl) rfl (by show 2 * 0 + _ ≤ _; exact Nat.le_of_eq rfl) (hb hby own_d_jdk_42_method_150_16) (fun _ _ => ⟨rfl, e3, (by decide : 0 + 0 ≤ _), (by decide : 0 + 0 ≤ _)⟩)
  dsimp only [Pt.U, Pt.locs, Pt.cells, Pt.slots] at X4 lu4 yu4 zu4 st4 hQ4
  subst lu4 yu4 zu4
  obtain ⟨rfl, N4q, e4⟩ := hQ4
  have N4 := Fr.app N3 N4q
  refine own_go (T4.setTop (mkF m 19 #[.val (.ref o), .val (.ref a), .val .null, .val (.ref b), .val (.int (25 : Int32))] [(.int (1 : Int32))])) (fun t_ k_ => st4.trans k_) ?_
  refine own_go (T4.setTop (mkF m 22 #[.val (.ref o), .val (.ref a), .val .null, .val (.ref b), .val (.int (25 : Int32))] [])) (fun t_ k_ => XS.ifNo X4.here hx rfl (hb hby own_d_jdk_42_method_150_19) rfl ((if0 _ _).trans (feq (by decide : ¬ ((1 : Int32) = (0 : Int32)))).1) k_) ?_
  refine own_go (T4.setTop (mkF m 23 #[.val (.ref o), .val (.ref a), .val .null, .val (.ref b), .val (.int (25 : Int32))] [(.ref o)])) (fun t_ k_ => XS.aloadN X4.here hx rfl (hb hby own_d_jdk_42_method_150_22) rfl rfl k_) ?_
  refine own_go (T4.setTop (mkF m 24 #[.val (.ref o), .val (.ref a), .val .null, .val (.ref b), .val (.int (25 : Int32))] [(.int (0 : Int32)), (.ref o)])) (fun t_ k_ => XS.iconst X4.here hx rfl (hb hby own_d_jdk_42_method_150_23) k_) ?_
  obtain ⟨T5, h5, X5, e5, W5, st5⟩ := putFN X4 hx hZ hown (hw _ (List.mem_of_getElem? (i := 69) rfl)) Via.refl e4 Co Xo (Or.inr ⟨(hw _ (List.mem_of_getElem? (i := 70) rfl)), rfl, hnm⟩) (hw _ (List.mem_of_getElem? (i := 99) rfl)) (ty := .byte) (v' := (.int (0 : Int32))) (by decide) rfl (by decide) (g := (mkF m 24 #[.val (.ref o), .val (.ref a), .val .null, .val (.ref b), .val (.int (25 : Int32))] [(.int (0 : Int32)), (.ref o)])) rfl rfl (hb hby own_d_jdk_42_method_150_24)
  have Fw5 := Co.same W5
  have K5 : Keep h0 h5 [o] := (Keep.refl h0 [o]).wr W5 (Or.inl (List.mem_of_getElem? (i := 0) rfl))
  have N5 := Fr.snoc X5 N4 go
  have O5 := own_extW O W5 go
  refine own_go (T5.setTop (mkF m 27 #[.val (.ref o), .val (.ref a), .val .null, .val (.ref b), .val (.int (25 : Int32))] [])) (fun t_ k_ => st5 _ k_) ?_
  refine own_go (T5.setTop (mkF m 28 #[.val (.ref o), .val (.ref a), .val .null, .val (.ref b), .val (.int (25 : Int32))] [(.ref o)])) (fun t_ k_ => XS.aloadN X5.here hx rfl (hb hby own_d_jdk_42_method_150_27) rfl rfl k_) ?_
  refine own_go (T5.setTop (mkF m 29 #[.val (.ref o), .val (.ref a), .val .null, .val (.ref b), .val (.int (25 : Int32))] [(.ref b), (.ref o)])) (fun t_ k_ => XS.aloadN X5.here hx rfl (hb hby own_d_jdk_42_method_150_28) rfl rfl k_) ?_
  refine own_go (T5.setTop (mkF m 30 #[.val (.ref o), .val (.ref a), .val .null, .val (.ref b), .val (.int (25 : Int32))] [(.int (0 : Int32)), (.ref b), (.ref o)])) (fun t_ k_ => XS.iconst X5.here hx rfl (hb hby own_d_jdk_42_method_150_29) k_) ?_
  refine own_go (T5.setTop (mkF m 32 #[.val (.ref o), .val (.ref a), .val .null, .val (.ref b), .val (.int (25 : Int32))] [(.int (25 : Int32)), (.int (0 : Int32)), (.ref b), (.ref o)])) (fun t_ k_ => XS.iload X5.here hx rfl (hb hby own_d_jdk_42_method_150_30) rfl k_) ?_
  have Fz6 := (Ab.other W5 no)
  obtain ⟨_, _, ⟨T7, Lu7, ku7, nu7⟩, -, X7, ⟨Lc7, hQ7, lu7, yu7, zu7⟩, st7⟩ := Jvm.LawKit.callS X5 hx (y := (⟨"java/util/Arrays", "copyOfRange", "([BII)[B"⟩ : MethodName)) hown (mvT hZ (hw _ (List.mem_of_getElem? (i := 158) rfl))) (mvT hZ (hw _ (List.mem_of_getElem? (i := 159) rfl))) (mvT hZ (hw _ (List.mem_of_getElem? (i := 120) rfl))) (mvT hZ (hw _ (List.mem_of_getElem? (i := 160) rfl))) (by decide) (backOf (W := 1) (rm_cr l Z a0 hw [] (b) (kv) h5 O5 Fz6) hZ (hw _ (List.mem_of_getElem? (i := 160) rfl)) (hw _ (List.mem_of_getElem? (i := 120) rfl)) (by decide) (by decide)) (g := (mkF m 32 #[.val (.ref o), .val (.ref a), .val .null, .val (.ref b), .val (.int (25 : Int32))] [(.int (25 : Int32)), (.int (0 : Int32)), (.ref b), (.ref o)])) rfl (by rw [hml]; rfl) (argsL := [(.ref b), (.int (0 : Int32)), (.int (25 : Int32))]) (rest := [(.ref o)]) (lenOf own_pd12 rfl) rfl (by show 2 * 0 + _ ≤ _; exact Nat.le_of_eq rfl) (hb hby own_d_jdk_42_method_150_32) (fun _ _ => ⟨rfl, e5, (by decide : 0 + 1 ≤ _), (by decide : 0 + 25 ≤ _)⟩)
  dsimp only [Pt.U, Pt.locs, Pt.cells, Pt.slots] at X7 lu7 yu7 zu7 st7 hQ7
  subst lu7 yu7 zu7
  obtain ⟨r7, kr7, rfl, N7q, K7q, u1_7, u2_7, V7q⟩ := hQ7
  have N7 := Fr.app N5 N7q
  have O7 := own_extK O5 K7q all0
  have KK7 : Keep h0 T7.heap [o] := K5.trans K7q all0
  refine own_go (T7.setTop (mkF m 35 #[.val (.ref o), .val (.ref a), .val .null, .val (.ref b), .val (.int (25 : Int32))] [(.ref r7), (.ref o)])) (fun t_ k_ => st7 _ k_) ?_
  have Fz8 := ((Xo.wr W5).keep K7q)
  have Fz9 := ((Vo.other W5 (Or.inr (slot_ne (a0 := a0) (Or.inr (hw _ (List.mem_of_getElem? (i := 62) rfl))) (Or.inr (hw _ (List.mem_of_getElem? (i := 70) rfl))) (by decide) (t := (.array .byte)) (t' := .byte) (by decide) (by decide)))).keep K7q nin0)
  obtain ⟨T10, h10, X10, e10, W10, st10⟩ := putF X7 hx hZ hown (host := "") (Or.inl (hw _ (List.mem_of_getElem? (i := 61) rfl))) Via.refl rfl Fz9 Fz8 (Or.inr ⟨(hw _ (List.mem_of_getElem? (i := 62) rfl)), rfl, hnm⟩) (hw _ (List.mem_of_getElem? (i := 99) rfl)) (ty := (.array .byte)) (by decide) rfl rfl (g := (mkF m 35 #[.val (.ref o), .val (.ref a), .val .null, .val (.ref b), .val (.int (25 : Int32))] [(.ref r7), (.ref o)])) rfl rfl (hb hby own_d_jdk_42_method_150_35)
  have Fw10 := Fz9.same W10
  have K10 : Keep h0 h10 [o] := KK7.wr W10 (Or.inl (List.mem_of_getElem? (i := 0) rfl))
  have N10 := Fr.snoc X10 N7 go
  have O10 := own_extW O7 W10 go
  refine own_go (T10.setTop (mkF m 38 #[.val (.ref o), .val (.ref a), .val .null, .val (.ref b), .val (.int (25 : Int32))] [])) (fun t_ k_ => st10 _ k_) ?_
  refine own_go (T10.setTop (mkF m 97 #[.val (.ref o), .val (.ref a), .val .null, .val (.ref b), .val (.int (25 : Int32))] [])) (fun t_ k_ => XS.goto X10.here hx rfl (pc0 := 38) (pc' := 97) rfl (hb hby own_d_jdk_42_method_150_38) (by decide) (by decide) k_) ?_
  obtain ⟨fs, hr, hrun, hended, hW, hsame⟩ := X10.leave (v := none) (fun _ => rfl)
  refine ⟨_, _, X10.returnOut hx Bd.returns (hb hby own_d_jdk_42_method_150_97) hr, hrun, hended, _, _, rfl, ?_, ⟨_, rfl⟩, hW, hsame.mono (by decide) (by decide)⟩
  show Q_sv Z o a b kv a__VALUES a_OUT a_INP a_TAKE_COMPLETE a_OUT_text a_INP_text a_TAKE_COMPLETE_text a_OUT_text_value a_INP_text_value a_TAKE_COMPLETE_text_value k__VALUES k_OUT_text_value k_INP_text_value k_TAKE_COMPLETE_text_value cs0 h0 _ T10.heap _
  have Fz11 := (Fz8.wr W10)
  have Fz12 := ((Fw5.keep K7q nin0).other W10 (Or.inr (slot_ne (a0 := a0) (Or.inr (hw _ (List.mem_of_getElem? (i := 70) rfl))) (Or.inr (hw _ (List.mem_of_getElem? (i := 62) rfl))) (by decide) (t := .byte) (t' := (.array .byte)) (by decide) (by decide))))
  have Nz13 : o ≠ r7 := (Nat.ne_of_lt (Nat.lt_of_lt_of_le (Xo.wr W5).lt u2_7))
  have Fz14 := (V7q.other W10 (Ne.symm Nz13))
  rw [show T10.heap = h10 from e10]
  exact ⟨_, _, rfl, N10, K10, Fz11, Fw10, Fz12, Fz14⟩
theorem own_ef_s1 (m : MethodId) (o : Addr) (a : Addr) : entryFrame m #[(.ref o), (.ref a)] 2 = mkF m 0 #[.val (.ref o), .val (.ref a)] [] := by first | (simp [entryFrame, mkF, argsToLocals, Value.category]; done) | rfl
theorem own_d_jdk_42_method_53_0 : decode jdk_42_method_53_code 0 = .ok (.aload_n 0, 1) := by decide +kernel
theorem own_d_jdk_42_method_53_1 : decode jdk_42_method_53_code 1 = .ok (.aload_n 1, 1) := by decide +kernel
theorem own_d_jdk_42_method_53_2 : decode jdk_42_method_53_code 2 = .ok (.aconst_null, 1) := by decide +kernel
theorem own_d_jdk_42_method_53_3 : decode jdk_42_method_53_code 3 = .ok (.invokespecial 489, 3) := by decide +kernel
theorem own_pd15 : parseMethodDescriptor "(Ljava/lang/AbstractStringBuilder;Ljava/lang/Void;)V" = some ⟨[(.object "java/lang/AbstractStringBuilder"), (.object "java/lang/Void")], none⟩ := by decide +kernel
theorem own_d_jdk_42_method_53_6 : decode jdk_42_method_53_code 6 = .ok (.return_, 1) := by decide +kernel
def Q_s1 (Z : State) (o : Addr) (a : Addr) (b : Addr) (kv : ClassId) (a__VALUES : Addr) (a_OUT : Addr) (a_INP : Addr) (a_TAKE_COMPLETE : Addr) (a_OUT_text : Addr) (a_INP_text : Addr) (a_TAKE_COMPLETE_text : Addr) (a_OUT_text_value : Addr) (a_INP_text_value : Addr) (a_TAKE_COMPLETE_text_value : Addr) (k__VALUES : ClassId) (k_OUT_text_value : ClassId) (k_INP_text_value : ClassId) (k_TAKE_COMPLETE_text_value : ClassId) (cs0 : Int32) (h0 : Heap) (v_ : Option Value) (h : Heap) (L_ : List Loc) : Prop := ∃ (r : Addr), ∃ (kr : ClassId), v_ = none ∧ Fr Z.heap.size L_ ∧ (Keep h0 h [o] ∧ Exa Z h o "java/lang/String" ∧ Fld Z h o "java/lang/String" "value" "[B" (.ref r) ∧ Fld Z h o "java/lang/String" "coder" "B" (.int 0) ∧ Arv Z h r kr .byte 25 [(.int (111 : Int32)), (.int (117 : Int32)), (.int (116 : Int32)), (.int (44 : Int32)), (.int (32 : Int32)), (.int (105 : Int32)), (.int (110 : Int32)), (.int (112 : Int32)), (.int (32 : Int32)), (.int (111 : Int32)), (.int (114 : Int32)), (.int (32 : Int32)), (.int (116 : Int32)), (.int (97 : Int32)), (.int (107 : Int32)), (.int (101 : Int32)), (.int (45 : Int32)), (.int (99 : Int32)), (.int (111 : Int32)), (.int (109 : Int32)), (.int (112 : Int32)), (.int (108 : Int32)), (.int (101 : Int32)), (.int (116 : Int32)), (.int (101 : Int32))] (.int 0))
set_option maxRecDepth 65536 in
set_option maxHeartbeats 40000000 in
theorem rm_s1 (l : Launch) (Z : State) (a0 : Array Value) (hw : ∀ d ∈ tables_1, d.before a0 Z = true) (ws : List Jvm.Cond) (o : Addr) (a : Addr) (b : Addr) (kv : ClassId) (a__VALUES : Addr) (a_OUT : Addr) (a_INP : Addr) (a_TAKE_COMPLETE : Addr) (a_OUT_text : Addr) (a_INP_text : Addr) (a_TAKE_COMPLETE_text : Addr) (a_OUT_text_value : Addr) (a_INP_text_value : Addr) (a_TAKE_COMPLETE_text_value : Addr) (k__VALUES : ClassId) (k_OUT_text_value : ClassId) (k_INP_text_value : ClassId) (k_TAKE_COMPLETE_text_value : ClassId) (cs0 : Int32) (h0 : Heap) (O : Ext Z.heap h0) (w : own_W Z a__VALUES a_OUT a_INP a_TAKE_COMPLETE a_OUT_text a_INP_text a_TAKE_COMPLETE_text a_OUT_text_value a_INP_text_value a_TAKE_COMPLETE_text_value k__VALUES k_OUT_text_value k_INP_text_value k_TAKE_COMPLETE_text_value cs0) (Xa : Exa Z h0 a "java/lang/StringBuilder") (Va : Fld Z h0 a "java/lang/AbstractStringBuilder" "value" "[B" (.ref b)) (Ca : Fld Z h0 a "java/lang/AbstractStringBuilder" "coder" "B" (.int 0)) (Na : Fld Z h0 a "java/lang/AbstractStringBuilder" "count" "I" (.int 25)) (Ab : Arv Z h0 b kv .byte 34 [(.int (111 : Int32)), (.int (117 : Int32)), (.int (116 : Int32)), (.int (44 : Int32)), (.int (32 : Int32)), (.int (105 : Int32)), (.int (110 : Int32)), (.int (112 : Int32)), (.int (32 : Int32)), (.int (111 : Int32)), (.int (114 : Int32)), (.int (32 : Int32)), (.int (116 : Int32)), (.int (97 : Int32)), (.int (107 : Int32)), (.int (101 : Int32)), (.int (45 : Int32)), (.int (99 : Int32)), (.int (111 : Int32)), (.int (109 : Int32)), (.int (112 : Int32)), (.int (108 : Int32)), (.int (101 : Int32)), (.int (116 : Int32)), (.int (101 : Int32)), (.int (0 : Int32)), (.int (0 : Int32)), (.int (0 : Int32)), (.int (0 : Int32)), (.int (0 : Int32)), (.int (0 : Int32)), (.int (0 : Int32)), (.int (0 : Int32)), (.int (0 : Int32))] (.int 0)) (Xo : Exa Z h0 o "java/lang/String") (Vo : Fld Z h0 o "java/lang/String" "value" "[B" .null) (Co : Fld Z h0 o "java/lang/String" "coder" "B" (.int 0)) (go : Z.heap.size ≤ o) (no : b ≠ o) :
    MetFree l (⟨"java/lang/String", "<init>", "(Ljava/lang/StringBuilder;)V"⟩ : MethodName) (head1 (Jvm.Cond.code (⟨"java/lang/String", "<init>", "(Ljava/lang/StringBuilder;)V"⟩ : MethodName) jdk_42_method_53_code 2 none :: ws) ({ frames := 4, cells := 1, slots := 25, locals := 87 } : Room)) (fun a_ U_ => a_ = #[(.ref o), (.ref a)] ∧ Z.Warmed39 U_.vm ∧ U_.heap = h0) (fun _ _ _ _ _ => True) (fun _ U_ o_ U2_ => ∃ v_ L_, o_ = .returned v_ ∧ Q_s1 Z o a b kv a__VALUES a_OUT a_INP a_TAKE_COMPLETE a_OUT_text a_INP_text a_TAKE_COMPLETE_text a_OUT_text_value a_INP_text_value a_TAKE_COMPLETE_text_value k__VALUES k_OUT_text_value k_INP_text_value k_TAKE_COMPLETE_text_value cs0 h0 v_ U2_.heap L_ ∧ FrameEnd U_ o_ U2_ L_ ({ frames := 4, cells := 1, slots := 25, locals := 87 } : Room).cells ({ frames := 4, cells := 1, slots := 25, locals := 87 } : Room).slots) := by
  refine MetFree.of_bodySF (plainFor_of_name own_pn0) hisR ?_
  intro p e s m args below meth c s₁ Bd hml0 hP hK
  obtain ⟨rfl, hZ, hh⟩ := hP
  have hx := Bd.exec
  have hby := Bd.bytes
  have hml : c.maxLocals = 2 := hml0
  have hown : s.vm.findClass "java/lang/String" = some m.cls := findClass_of_methodNamed Bd.named
  have hnm := (name_of_methodNamed Bd.named Bd.method).1
  have X0 : Stand p l e ({ frames := 4, cells := 1, slots := 25, locals := 87 } : Room) s m #[(.ref o), (.ref a)] below meth c s₁ [] 0 0 := Stand.of_body Bd
  have e0 : s₁.heap = h0 := by rw [← hh, Bd.state]; rfl
  have N0 := Fr.nil Z.heap.size
  show own_G p e below (fun o_ s₂ => ∃ v_ L_, o_ = .returned v_ ∧ Q_s1 Z o a b kv a__VALUES a_OUT a_INP a_TAKE_COMPLETE a_OUT_text a_INP_text a_TAKE_COMPLETE_text a_OUT_text_value a_INP_text_value a_TAKE_COMPLETE_text_value k__VALUES k_OUT_text_value k_INP_text_value k_TAKE_COMPLETE_text_value cs0 h0 v_ s₂.heap L_ ∧ FrameEnd s o_ s₂ L_ ({ frames := 4, cells := 1, slots := 25, locals := 87 } : Room).cells ({ frames := 4, cells := 1, slots := 25, locals := 87 } : Room).slots) (s₁.setTop (entryFrame m #[(.ref o), (.ref a)] 2))
  refine own_go (s₁.setTop (mkF m 0 #[.val (.ref o), .val (.ref a)] [])) (fun t_ k_ => castTop (own_ef_s1 m o a) k_) ?_
  have w' := w
  obtain ⟨S__VALUES, X__VALUES, S_OUT, X_OUT, S_INP, X_INP, S_TAKE_COMPLETE, X_TAKE_COMPLETE, F_OUT_text, X_OUT_text, F_INP_text, X_INP_text, F_TAKE_COMPLETE_text, X_TAKE_COMPLETE_text, F_OUT_text_value, X_OUT_text_value, F_INP_text_value, X_INP_text_value, F_TAKE_COMPLETE_text_value, X_TAKE_COMPLETE_text_value, F_OUT_text_coder, F_INP_text_coder, F_TAKE_COMPLETE_text_coder, V__VALUES, V_OUT_text_value, V_INP_text_value, V_TAKE_COMPLETE_text_value, S_CS, n_CS⟩ := w'
  refine own_go (s₁.setTop (mkF m 1 #[.val (.ref o), .val (.ref a)] [(.ref o)])) (fun t_ k_ => XS.aloadN X0.here hx rfl (hb hby own_d_jdk_42_method_53_0) rfl rfl k_) ?_
  refine own_go (s₁.setTop (mkF m 2 #[.val (.ref o), .val (.ref a)] [(.ref a), (.ref o)])) (fun t_ k_ => XS.aloadN X0.here hx rfl (hb hby own_d_jdk_42_method_53_1) rfl rfl k_) ?_
  refine own_go (s₁.setTop (mkF m 3 #[.val (.ref o), .val (.ref a)] [.null, (.ref a), (.ref o)])) (fun t_ k_ => XS.aconstNull X0.here hx rfl (hb hby own_d_jdk_42_method_53_2) k_) ?_
  obtain ⟨_, _, ⟨T1, Lu1, ku1, nu1⟩, -, X1, ⟨Lc1, hQ1, lu1, yu1, zu1⟩, st1⟩ := X0.specialBack hx (y := (⟨"java/lang/String", "<init>", "(Ljava/lang/AbstractStringBuilder;Ljava/lang/Void;)V"⟩ : MethodName)) rfl hown (mvT hZ (hw _ (List.mem_of_getElem? (i := 136) rfl))) (mvT hZ (hw _ (List.mem_of_getElem? (i := 137) rfl))) (mvT hZ (hw _ (List.mem_of_getElem? (i := 138) rfl))) (by decide) (backOf (W := 0) (rm_sv l Z a0 hw [] (o) (a) (b) (kv) (a__VALUES) (a_OUT) (a_INP) (a_TAKE_COMPLETE) (a_OUT_text) (a_INP_text) (a_TAKE_COMPLETE_text) (a_OUT_text_value) (a_INP_text_value) (a_TAKE_COMPLETE_text_value) (k__VALUES) (k_OUT_text_value) (k_INP_text_value) (k_TAKE_COMPLETE_text_value) (cs0) h0 O w Xa Va Ca Na Ab Xo Vo Co go no) hZ (hw _ (List.mem_of_getElem? (i := 138) rfl)) (hw _ (List.mem_of_getElem? (i := 20) rfl)) (by decide) (by decide)) (g := (mkF m 3 #[.val (.ref o), .val (.ref a)] [.null, (.ref a), (.ref o)])) rfl (by rw [hml]; rfl) (Steps.refl _) (a := o) (argsL := [(.ref a), .null]) (rest := []) (lenOf own_pd15 rfl) rfl (by show 2 * 0 + _ ≤ _; exact Nat.le_of_eq rfl) (hb hby own_d_jdk_42_method_53_3) (fun _ _ => ⟨rfl, e0, (by decide : 0 + 1 ≤ _), (by decide : 0 + 25 ≤ _)⟩)
  dsimp only [Pt.U, Pt.locs, Pt.cells, Pt.slots] at X1 lu1 yu1 zu1 st1 hQ1
  subst lu1 yu1 zu1
  obtain ⟨r1, kr1, rfl, N1q, K1q, X1q, F1q, G1q, A1q⟩ := hQ1
  have N1 := Fr.app N0 N1q
  have O1 := own_extK O K1q (allS go all0)
  have KK1 : Keep h0 T1.heap [o] := (Keep.refl h0 [o]).trans K1q (allS (Or.inl (List.mem_of_getElem? (i := 0) rfl)) all0)
  refine own_go (T1.setTop (mkF m 6 #[.val (.ref o), .val (.ref a)] [])) (fun t_ k_ => st1.trans k_) ?_
  obtain ⟨fs, hr, hrun, hended, hW, hsame⟩ := X1.leave (v := none) (fun _ => rfl)
  refine ⟨_, _, X1.returnOut hx Bd.returns (hb hby own_d_jdk_42_method_53_6) hr, hrun, hended, _, _, rfl, ?_, ⟨_, rfl⟩, hW, hsame.mono (by decide) (by decide)⟩
  show Q_s1 Z o a b kv a__VALUES a_OUT a_INP a_TAKE_COMPLETE a_OUT_text a_INP_text a_TAKE_COMPLETE_text a_OUT_text_value a_INP_text_value a_TAKE_COMPLETE_text_value k__VALUES k_OUT_text_value k_INP_text_value k_TAKE_COMPLETE_text_value cs0 h0 _ T1.heap _
  exact ⟨_, _, rfl, N1, KK1, X1q, F1q, G1q, A1q⟩
theorem own_ef_ts (m : MethodId) (a : Addr) : entryFrame m #[(.ref a)] 1 = mkF m 0 #[.val (.ref a)] [] := by first | (simp [entryFrame, mkF, argsToLocals, Value.category]; done) | rfl
theorem own_d_jdk_67_method_42_0 : decode jdk_67_method_42_code 0 = .ok (.new 18, 3) := by decide +kernel
theorem own_d_jdk_67_method_42_3 : decode jdk_67_method_42_code 3 = .ok (.dup, 1) := by decide +kernel
theorem own_d_jdk_67_method_42_4 : decode jdk_67_method_42_code 4 = .ok (.aload_n 0, 1) := by decide +kernel
theorem own_d_jdk_67_method_42_5 : decode jdk_67_method_42_code 5 = .ok (.invokespecial 137, 3) := by decide +kernel
theorem own_pd16 : parseMethodDescriptor "(Ljava/lang/StringBuilder;)V" = some ⟨[(.object "java/lang/StringBuilder")], none⟩ := by decide +kernel
theorem own_d_jdk_67_method_42_8 : decode jdk_67_method_42_code 8 = .ok (.areturn, 1) := by decide +kernel
def Q_ts (Z : State) (a : Addr) (b : Addr) (kv : ClassId) (a__VALUES : Addr) (a_OUT : Addr) (a_INP : Addr) (a_TAKE_COMPLETE : Addr) (a_OUT_text : Addr) (a_INP_text : Addr) (a_TAKE_COMPLETE_text : Addr) (a_OUT_text_value : Addr) (a_INP_text_value : Addr) (a_TAKE_COMPLETE_text_value : Addr) (k__VALUES : ClassId) (k_OUT_text_value : ClassId) (k_INP_text_value : ClassId) (k_TAKE_COMPLETE_text_value : ClassId) (cs0 : Int32) (h0 : Heap) (v_ : Option Value) (h : Heap) (L_ : List Loc) : Prop := ∃ (o : Addr), ∃ (r : Addr), ∃ (kr : ClassId), v_ = some (.ref o) ∧ Fr Z.heap.size L_ ∧ (Keep h0 h [] ∧ Exa Z h o "java/lang/String" ∧ Fld Z h o "java/lang/String" "value" "[B" (.ref r) ∧ Fld Z h o "java/lang/String" "coder" "B" (.int 0) ∧ Arv Z h r kr .byte 25 [(.int (111 : Int32)), (.int (117 : Int32)), (.int (116 : Int32)), (.int (44 : Int32)), (.int (32 : Int32)), (.int (105 : Int32)), (.int (110 : Int32)), (.int (112 : Int32)), (.int (32 : Int32)), (.int (111 : Int32)), (.int (114 : Int32)), (.int (32 : Int32)), (.int (116 : Int32)), (.int (97 : Int32)), (.int (107 : Int32)), (.int (101 : Int32)), (.int (45 : Int32)), (.int (99 : Int32)), (.int (111 : Int32)), (.int (109 : Int32)), (.int (112 : Int32)), (.int (108 : Int32)), (.int (101 : Int32)), (.int (116 : Int32)), (.int (101 : Int32))] (.int 0))
set_option maxRecDepth 65536 in
set_option maxHeartbeats 40000000 in
theorem rm_ts (l : Launch) (Z : State) (a0 : Array Value) (hw : ∀ d ∈ tables_1, d.before a0 Z = true) (ws : List Jvm.Cond) (a : Addr) (b : Addr) (kv : ClassId) (a__VALUES : Addr) (a_OUT : Addr) (a_INP : Addr) (a_TAKE_COMPLETE : Addr) (a_OUT_text : Addr) (a_INP_text : Addr) (a_TAKE_COMPLETE_text : Addr) (a_OUT_text_value : Addr) (a_INP_text_value : Addr) (a_TAKE_COMPLETE_text_value : Addr) (k__VALUES : ClassId) (k_OUT_text_value : ClassId) (k_INP_text_value : ClassId) (k_TAKE_COMPLETE_text_value : ClassId) (cs0 : Int32) (h0 : Heap) (O : Ext Z.heap h0) (w : own_W Z a__VALUES a_OUT a_INP a_TAKE_COMPLETE a_OUT_text a_INP_text a_TAKE_COMPLETE_text a_OUT_text_value a_INP_text_value a_TAKE_COMPLETE_text_value k__VALUES k_OUT_text_value k_INP_text_value k_TAKE_COMPLETE_text_value cs0) (Xa : Exa Z h0 a "java/lang/StringBuilder") (Va : Fld Z h0 a "java/lang/AbstractStringBuilder" "value" "[B" (.ref b)) (Ca : Fld Z h0 a "java/lang/AbstractStringBuilder" "coder" "B" (.int 0)) (Na : Fld Z h0 a "java/lang/AbstractStringBuilder" "count" "I" (.int 25)) (Ab : Arv Z h0 b kv .byte 34 [(.int (111 : Int32)), (.int (117 : Int32)), (.int (116 : Int32)), (.int (44 : Int32)), (.int (32 : Int32)), (.int (105 : Int32)), (.int (110 : Int32)), (.int (112 : Int32)), (.int (32 : Int32)), (.int (111 : Int32)), (.int (114 : Int32)), (.int (32 : Int32)), (.int (116 : Int32)), (.int (97 : Int32)), (.int (107 : Int32)), (.int (101 : Int32)), (.int (45 : Int32)), (.int (99 : Int32)), (.int (111 : Int32)), (.int (109 : Int32)), (.int (112 : Int32)), (.int (108 : Int32)), (.int (101 : Int32)), (.int (116 : Int32)), (.int (101 : Int32)), (.int (0 : Int32)), (.int (0 : Int32)), (.int (0 : Int32)), (.int (0 : Int32)), (.int (0 : Int32)), (.int (0 : Int32)), (.int (0 : Int32)), (.int (0 : Int32)), (.int (0 : Int32))] (.int 0)) :
    MetFree l (⟨"java/lang/StringBuilder", "toString", "()Ljava/lang/String;"⟩ : MethodName) (head1 (Jvm.Cond.code (⟨"java/lang/StringBuilder", "toString", "()Ljava/lang/String;"⟩ : MethodName) jdk_67_method_42_code 1 (some (.object "java/lang/String")) :: ws) ({ frames := 5, cells := 2, slots := 29, locals := 101 } : Room)) (fun a_ U_ => a_ = #[(.ref a)] ∧ Z.Warmed39 U_.vm ∧ U_.heap = h0) (fun _ _ _ _ _ => True) (fun _ U_ o_ U2_ => ∃ v_ L_, o_ = .returned v_ ∧ Q_ts Z a b kv a__VALUES a_OUT a_INP a_TAKE_COMPLETE a_OUT_text a_INP_text a_TAKE_COMPLETE_text a_OUT_text_value a_INP_text_value a_TAKE_COMPLETE_text_value k__VALUES k_OUT_text_value k_INP_text_value k_TAKE_COMPLETE_text_value cs0 h0 v_ U2_.heap L_ ∧ FrameEnd U_ o_ U2_ L_ ({ frames := 5, cells := 2, slots := 29, locals := 101 } : Room).cells ({ frames := 5, cells := 2, slots := 29, locals := 101 } : Room).slots) := by
  refine MetFree.of_bodySF (plainFor_of_name own_pn2) hisR ?_
  intro p e s m args below meth c s₁ Bd hml0 hP hK
  obtain ⟨rfl, hZ, hh⟩ := hP
  have hx := Bd.exec
  have hby := Bd.bytes
  have hml : c.maxLocals = 1 := hml0
  have hown : s.vm.findClass "java/lang/StringBuilder" = some m.cls := findClass_of_methodNamed Bd.named
  have hnm := (name_of_methodNamed Bd.named Bd.method).1
  have X0 : Stand p l e ({ frames := 5, cells := 2, slots := 29, locals := 101 } : Room) s m #[(.ref a)] below meth c s₁ [] 0 0 := Stand.of_body Bd
  have e0 : s₁.heap = h0 := by rw [← hh, Bd.state]; rfl
  have N0 := Fr.nil Z.heap.size
  show own_G p e below (fun o_ s₂ => ∃ v_ L_, o_ = .returned v_ ∧ Q_ts Z a b kv a__VALUES a_OUT a_INP a_TAKE_COMPLETE a_OUT_text a_INP_text a_TAKE_COMPLETE_text a_OUT_text_value a_INP_text_value a_TAKE_COMPLETE_text_value k__VALUES k_OUT_text_value k_INP_text_value k_TAKE_COMPLETE_text_value cs0 h0 v_ s₂.heap L_ ∧ FrameEnd s o_ s₂ L_ ({ frames := 5, cells := 2, slots := 29, locals := 101 } : Room).cells ({ frames := 5, cells := 2, slots := 29, locals := 101 } : Room).slots) (s₁.setTop (entryFrame m #[(.ref a)] 1))
  refine own_go (s₁.setTop (mkF m 0 #[.val (.ref a)] [])) (fun t_ k_ => castTop (own_ef_ts m a) k_) ?_
  have w' := w
  obtain ⟨S__VALUES, X__VALUES, S_OUT, X_OUT, S_INP, X_INP, S_TAKE_COMPLETE, X_TAKE_COMPLETE, F_OUT_text, X_OUT_text, F_INP_text, X_INP_text, F_TAKE_COMPLETE_text, X_TAKE_COMPLETE_text, F_OUT_text_value, X_OUT_text_value, F_INP_text_value, X_INP_text_value, F_TAKE_COMPLETE_text_value, X_TAKE_COMPLETE_text_value, F_OUT_text_coder, F_INP_text_coder, F_TAKE_COMPLETE_text_coder, V__VALUES, V_OUT_text_value, V_INP_text_value, V_TAKE_COMPLETE_text_value, S_CS, n_CS⟩ := w'
  obtain ⟨T1, h1, X1, e1, E1, A1, D1, U1, st1⟩ := newO X0 hx hZ hown (hw _ (List.mem_of_getElem? (i := 131) rfl)) (hw _ (List.mem_of_getElem? (i := 99) rfl)) (hw _ (List.mem_of_getElem? (i := 20) rfl)) e0 (g := (mkF m 0 #[.val (.ref a)] [])) rfl (hb hby own_d_jdk_67_method_42_0) (by decide) (by decide)
  obtain ⟨b1, g1⟩ : ∃ z, z = h0.size := ⟨_, rfl⟩
  rw [← g1] at A1 D1 U1 st1
  have ge_b1 : Z.heap.size ≤ b1 := Nat.le_trans O.1 (Nat.le_of_eq g1.symm)
  have sz_b1 : h0.size ≤ b1 := Nat.le_trans (Keep.refl h0 []).1 (Nat.le_of_eq g1.symm)
  have K1 : Keep h0 h1 [] := (Keep.refl h0 []).ext E1
  have O1 := own_ext O E1
  have Fvalue_1 : Fld Z h1 b1 "java/lang/String" "value" "[B" .null := D1 (Or.inr (hw _ (List.mem_of_getElem? (i := 62) rfl))) (ty := (.array .byte)) (by decide)
  have Fcoder_1 : Fld Z h1 b1 "java/lang/String" "coder" "B" (.int (0 : Int32)) := D1 (Or.inr (hw _ (List.mem_of_getElem? (i := 70) rfl))) (ty := .byte) (by decide)
  refine own_go (T1.setTop (mkF m 3 #[.val (.ref a)] [(.ref b1)])) (fun t_ k_ => st1 _ k_) ?_
  refine own_go (T1.setTop (mkF m 4 #[.val (.ref a)] [(.ref b1), (.ref b1)])) (fun t_ k_ => XS.dup X1.here hx rfl (hb hby own_d_jdk_67_method_42_3) rfl rfl k_) ?_
  refine own_go (T1.setTop (mkF m 5 #[.val (.ref a)] [(.ref a), (.ref b1), (.ref b1)])) (fun t_ k_ => XS.aloadN X1.here hx rfl (hb hby own_d_jdk_67_method_42_4) rfl rfl k_) ?_
  have Fz2 := (Xa.ext E1)
  have Fz3 := (Va.ext E1)
  have Fz4 := (Ca.ext E1)
  have Fz5 := (Na.ext E1)
  have Fz6 := (Ab.ext E1)
  have Nz7 : b ≠ b1 := (Nat.ne_of_lt (Nat.lt_of_lt_of_le Ab.lt (Nat.le_of_eq g1.symm)))
  obtain ⟨_, _, ⟨T8, Lu8, ku8, nu8⟩, -, X8, ⟨Lc8, hQ8, lu8, yu8, zu8⟩, st8⟩ := X1.specialBack hx (y := (⟨"java/lang/String", "<init>", "(Ljava/lang/StringBuilder;)V"⟩ : MethodName)) rfl hown (mvT hZ (hw _ (List.mem_of_getElem? (i := 132) rfl))) (mvT hZ (hw _ (List.mem_of_getElem? (i := 133) rfl))) (mvT hZ (hw _ (List.mem_of_getElem? (i := 135) rfl))) (by decide) (backOf (W := 1) (rm_s1 l Z a0 hw [] (b1) (a) (b) (kv) (a__VALUES) (a_OUT) (a_INP) (a_TAKE_COMPLETE) (a_OUT_text) (a_INP_text) (a_TAKE_COMPLETE_text) (a_OUT_text_value) (a_INP_text_value) (a_TAKE_COMPLETE_text_value) (k__VALUES) (k_OUT_text_value) (k_INP_text_value) (k_TAKE_COMPLETE_text_value) (cs0) h1 O1 w Fz2 Fz3 Fz4 Fz5 Fz6 A1 Fvalue_1 Fcoder_1 ge_b1 Nz7) hZ (hw _ (List.mem_of_getElem? (i := 135) rfl)) (hw _ (List.mem_of_getElem? (i := 20) rfl)) (by decide) (by decide)) (g := (mkF m 5 #[.val (.ref a)] [(.ref a), (.ref b1), (.ref b1)])) rfl (by rw [hml]; rfl) (Steps.refl _) (a := b1) (argsL := [(.ref a)]) (rest := [(.ref b1)]) (lenOf own_pd16 rfl) rfl (by show 2 * 0 + _ ≤ _; exact Nat.le_of_eq rfl) (hb hby own_d_jdk_67_method_42_5) (fun _ _ => ⟨rfl, e1, (by decide : 1 + 1 ≤ _), (by decide : 4 + 25 ≤ _)⟩)
  dsimp only [Pt.U, Pt.locs, Pt.cells, Pt.slots] at X8 lu8 yu8 zu8 st8 hQ8
  subst lu8 yu8 zu8
  obtain ⟨r8, kr8, rfl, N8q, K8q, X8q, F8q, G8q, A8q⟩ := hQ8
  have N8 := Fr.app N0 N8q
  have O8 := own_extK O1 K8q (allS ge_b1 all0)
  have KK8 : Keep h0 T8.heap [] := K1.trans K8q (allS (Or.inr sz_b1) all0)
  refine own_go (T8.setTop (mkF m 8 #[.val (.ref a)] [(.ref b1)])) (fun t_ k_ => st8.trans k_) ?_
  obtain ⟨fs, hr, hrun, hended, hW, hsame⟩ := X8.leave (v := some (.ref b1)) (fun h => by rw [Bd.returns] at h; cases h)
  refine ⟨_, _, Jvm.RoadKit.retOut X8 hx Bd.returns rfl (Or.inr (Or.inr (Or.inr (Or.inr ⟨rfl, rfl, rfl⟩)))) (hb hby own_d_jdk_67_method_42_8) hr, hrun, hended, _, _, rfl, ?_, ⟨_, rfl⟩, hW, hsame.mono (by decide) (by decide)⟩
  show Q_ts Z a b kv a__VALUES a_OUT a_INP a_TAKE_COMPLETE a_OUT_text a_INP_text a_TAKE_COMPLETE_text a_OUT_text_value a_INP_text_value a_TAKE_COMPLETE_text_value k__VALUES k_OUT_text_value k_INP_text_value k_TAKE_COMPLETE_text_value cs0 h0 _ T8.heap _
  exact ⟨_, _, _, rfl, N8, KK8, X8q, F8q, G8q, A8q⟩
theorem own_tx_2c20 : ((([44, 32] : List Int32).map (fun c => c.toInt8.toInt32)).map Value.int) = [(.int (44 : Int32)), (.int (32 : Int32))] := by decide +kernel
theorem own_tx_206f7220 : ((([32, 111, 114, 32] : List Int32).map (fun c => c.toInt8.toInt32)).map Value.int) = [(.int (32 : Int32)), (.int (111 : Int32)), (.int (114 : Int32)), (.int (32 : Int32))] := by decide +kernel
theorem own_tx_6f75742c20696e70206f722074616b652d636f6d706c657465 : ((([111, 117, 116, 44, 32, 105, 110, 112, 32, 111, 114, 32, 116, 97, 107, 101, 45, 99, 111, 109, 112, 108, 101, 116, 101] : List Int32).map (fun c => c.toInt8.toInt32)).map Value.int) = [(.int (111 : Int32)), (.int (117 : Int32)), (.int (116 : Int32)), (.int (44 : Int32)), (.int (32 : Int32)), (.int (105 : Int32)), (.int (110 : Int32)), (.int (112 : Int32)), (.int (32 : Int32)), (.int (111 : Int32)), (.int (114 : Int32)), (.int (32 : Int32)), (.int (116 : Int32)), (.int (97 : Int32)), (.int (107 : Int32)), (.int (101 : Int32)), (.int (45 : Int32)), (.int (99 : Int32)), (.int (111 : Int32)), (.int (109 : Int32)), (.int (112 : Int32)), (.int (108 : Int32)), (.int (101 : Int32)), (.int (116 : Int32)), (.int (101 : Int32))] := by decide +kernel
theorem own_ef_names (m : MethodId)  : entryFrame m #[] 3 = mkF m 0 #[.unset, .unset, .unset] [] := by first | (simp [entryFrame, mkF, argsToLocals, Value.category]; done) | rfl
theorem own_d_prog_9_method_5_0 : decode prog_9_method_5_code 0 = .ok (.new 56, 3) := by decide +kernel
theorem own_d_prog_9_method_5_3 : decode prog_9_method_5_code 3 = .ok (.dup, 1) := by decide +kernel
theorem own_d_prog_9_method_5_4 : decode prog_9_method_5_code 4 = .ok (.invokespecial 58, 3) := by decide +kernel
theorem own_pd17 : parseMethodDescriptor "()V" = some ⟨[], none⟩ := by decide +kernel
theorem own_d_prog_9_method_5_7 : decode prog_9_method_5_code 7 = .ok (.astore_n 0, 1) := by decide +kernel
theorem own_d_prog_9_method_5_8 : decode prog_9_method_5_code 8 = .ok (.invokestatic 42, 3) := by decide +kernel
theorem own_pd18 : parseMethodDescriptor "()[Lcom/example/tuplebag/tuplebag/bench/Workload;" = some ⟨[], some (.array (.object "com/example/tuplebag/tuplebag/bench/Workload"))⟩ := by decide +kernel
theorem own_d_prog_9_method_5_11 : decode prog_9_method_5_code 11 = .ok (.astore_n 1, 1) := by decide +kernel
theorem own_d_prog_9_method_5_12 : decode prog_9_method_5_code 12 = .ok (.iconst 0, 1) := by decide +kernel
theorem own_d_prog_9_method_5_13 : decode prog_9_method_5_code 13 = .ok (.istore_n 2, 1) := by decide +kernel
theorem own_d_prog_9_method_5_14 : decode prog_9_method_5_code 14 = .ok (.iload_n 2, 1) := by decide +kernel
theorem own_d_prog_9_method_5_15 : decode prog_9_method_5_code 15 = .ok (.aload_n 1, 1) := by decide +kernel
theorem own_d_prog_9_method_5_16 : decode prog_9_method_5_code 16 = .ok (.arraylength, 1) := by decide +kernel
theorem own_d_prog_9_method_5_17 : decode prog_9_method_5_code 17 = .ok (.if_icmp .ge 44, 3) := by decide +kernel
theorem own_d_prog_9_method_5_20 : decode prog_9_method_5_code 20 = .ok (.iload_n 2, 1) := by decide +kernel
theorem own_d_prog_9_method_5_21 : decode prog_9_method_5_code 21 = .ok (.ifCond .le 23, 3) := by decide +kernel
theorem own_d_prog_9_method_5_44 : decode prog_9_method_5_code 44 = .ok (.aload_n 0, 1) := by decide +kernel
theorem own_d_prog_9_method_5_45 : decode prog_9_method_5_code 45 = .ok (.aload_n 1, 1) := by decide +kernel
theorem own_d_prog_9_method_5_46 : decode prog_9_method_5_code 46 = .ok (.iload_n 2, 1) := by decide +kernel
theorem own_d_prog_9_method_5_47 : decode prog_9_method_5_code 47 = .ok (.aaload, 1) := by decide +kernel
theorem own_d_prog_9_method_5_48 : decode prog_9_method_5_code 48 = .ok (.getfield 32, 3) := by decide +kernel
theorem own_d_prog_9_method_5_51 : decode prog_9_method_5_code 51 = .ok (.invokevirtual 65, 3) := by decide +kernel
theorem own_pd19 : parseMethodDescriptor "(Ljava/lang/String;)Ljava/lang/StringBuilder;" = some ⟨[(.object "java/lang/String")], some (.object "java/lang/StringBuilder")⟩ := by decide +kernel
theorem own_d_prog_9_method_5_54 : decode prog_9_method_5_code 54 = .ok (.pop, 1) := by decide +kernel
theorem own_d_prog_9_method_5_55 : decode prog_9_method_5_code 55 = .ok (.iinc 2 1, 3) := by decide +kernel
theorem own_d_prog_9_method_5_58 : decode prog_9_method_5_code 58 = .ok (.goto (-44), 3) := by decide +kernel
theorem own_d_prog_9_method_5_24 : decode prog_9_method_5_code 24 = .ok (.aload_n 0, 1) := by decide +kernel
theorem own_d_prog_9_method_5_25 : decode prog_9_method_5_code 25 = .ok (.iload_n 2, 1) := by decide +kernel
theorem own_d_prog_9_method_5_26 : decode prog_9_method_5_code 26 = .ok (.aload_n 1, 1) := by decide +kernel
theorem own_d_prog_9_method_5_27 : decode prog_9_method_5_code 27 = .ok (.arraylength, 1) := by decide +kernel
theorem own_d_prog_9_method_5_28 : decode prog_9_method_5_code 28 = .ok (.iconst 1, 1) := by decide +kernel
theorem own_d_prog_9_method_5_29 : decode prog_9_method_5_code 29 = .ok (.isub, 1) := by decide +kernel
theorem own_d_prog_9_method_5_30 : decode prog_9_method_5_code 30 = .ok (.if_icmp .ne 8, 3) := by decide +kernel
theorem own_d_prog_9_method_5_38 : decode prog_9_method_5_code 38 = .ok (.ldc 63, 2) := by decide +kernel
theorem own_lit_Workload_63 : ∀ c ∈ ([44, 32] : List Int32), ¬ c < 0 ∧ ¬ (255 : Int32) < c := by decide +kernel
theorem own_d_prog_9_method_5_40 : decode prog_9_method_5_code 40 = .ok (.invokevirtual 65, 3) := by decide +kernel
theorem own_d_prog_9_method_5_43 : decode prog_9_method_5_code 43 = .ok (.pop, 1) := by decide +kernel
theorem own_d_prog_9_method_5_33 : decode prog_9_method_5_code 33 = .ok (.ldc 61, 2) := by decide +kernel
theorem own_lit_Workload_61 : ∀ c ∈ ([32, 111, 114, 32] : List Int32), ¬ c < 0 ∧ ¬ (255 : Int32) < c := by decide +kernel
theorem own_d_prog_9_method_5_35 : decode prog_9_method_5_code 35 = .ok (.goto 5, 3) := by decide +kernel
theorem own_d_prog_9_method_5_61 : decode prog_9_method_5_code 61 = .ok (.aload_n 0, 1) := by decide +kernel
theorem own_d_prog_9_method_5_62 : decode prog_9_method_5_code 62 = .ok (.invokevirtual 69, 3) := by decide +kernel
theorem own_pd20 : parseMethodDescriptor "()Ljava/lang/String;" = some ⟨[], some (.object "java/lang/String")⟩ := by decide +kernel
theorem own_d_prog_9_method_5_65 : decode prog_9_method_5_code 65 = .ok (.areturn, 1) := by decide +kernel
def Q_names (Z : State) (a__VALUES : Addr) (a_OUT : Addr) (a_INP : Addr) (a_TAKE_COMPLETE : Addr) (a_OUT_text : Addr) (a_INP_text : Addr) (a_TAKE_COMPLETE_text : Addr) (a_OUT_text_value : Addr) (a_INP_text_value : Addr) (a_TAKE_COMPLETE_text_value : Addr) (k__VALUES : ClassId) (k_OUT_text_value : ClassId) (k_INP_text_value : ClassId) (k_TAKE_COMPLETE_text_value : ClassId) (cs0 : Int32) (h0 : Heap) (v_ : Option Value) (h : Heap) (L_ : List Loc) : Prop := ∃ (o : Addr), ∃ (r : Addr), ∃ (kr : ClassId), v_ = some (.ref o) ∧ Fr Z.heap.size L_ ∧ (Keep h0 h [] ∧ Exa Z h o "java/lang/String" ∧ Fld Z h o "java/lang/String" "value" "[B" (.ref r) ∧ Fld Z h o "java/lang/String" "coder" "B" (.int 0) ∧ Arv Z h r kr .byte 25 [(.int (111 : Int32)), (.int (117 : Int32)), (.int (116 : Int32)), (.int (44 : Int32)), (.int (32 : Int32)), (.int (105 : Int32)), (.int (110 : Int32)), (.int (112 : Int32)), (.int (32 : Int32)), (.int (111 : Int32)), (.int (114 : Int32)), (.int (32 : Int32)), (.int (116 : Int32)), (.int (97 : Int32)), (.int (107 : Int32)), (.int (101 : Int32)), (.int (45 : Int32)), (.int (99 : Int32)), (.int (111 : Int32)), (.int (109 : Int32)), (.int (112 : Int32)), (.int (108 : Int32)), (.int (101 : Int32)), (.int (116 : Int32)), (.int (101 : Int32))] (.int 0))
set_option maxRecDepth 65536 in
set_option maxHeartbeats 40000000 in
theorem rm_names (l : Launch) (Z : State) (a0 : Array Value) (hw : ∀ d ∈ tables_1, d.before a0 Z = true) (ws : List Jvm.Cond) (a__VALUES : Addr) (a_OUT : Addr) (a_INP : Addr) (a_TAKE_COMPLETE : Addr) (a_OUT_text : Addr) (a_INP_text : Addr) (a_TAKE_COMPLETE_text : Addr) (a_OUT_text_value : Addr) (a_INP_text_value : Addr) (a_TAKE_COMPLETE_text_value : Addr) (k__VALUES : ClassId) (k_OUT_text_value : ClassId) (k_INP_text_value : ClassId) (k_TAKE_COMPLETE_text_value : ClassId) (cs0 : Int32) (h0 : Heap) (O : Ext Z.heap h0) (w : own_W Z a__VALUES a_OUT a_INP a_TAKE_COMPLETE a_OUT_text a_INP_text a_TAKE_COMPLETE_text a_OUT_text_value a_INP_text_value a_TAKE_COMPLETE_text_value k__VALUES k_OUT_text_value k_INP_text_value k_TAKE_COMPLETE_text_value cs0) :
    MetFree l (⟨"com/example/tuplebag/tuplebag/bench/Workload", "names", "()Ljava/lang/String;"⟩ : MethodName) (head1 (Jvm.Cond.code (⟨"com/example/tuplebag/tuplebag/bench/Workload", "names", "()Ljava/lang/String;"⟩ : MethodName) prog_9_method_5_code 3 (some (.object "java/lang/String")) :: ws) ({ frames := 6, cells := 10, slots := 118, locals := 113 } : Room)) (fun a_ U_ => a_ = #[] ∧ Z.Warmed39 U_.vm ∧ U_.heap = h0 ∧ CHv Z consts_1 U_.vm h0) (fun _ _ _ _ _ => True) (fun _ U_ o_ U2_ => ∃ v_ L_, o_ = .returned v_ ∧ Q_names Z a__VALUES a_OUT a_INP a_TAKE_COMPLETE a_OUT_text a_INP_text a_TAKE_COMPLETE_text a_OUT_text_value a_INP_text_value a_TAKE_COMPLETE_text_value k__VALUES k_OUT_text_value k_INP_text_value k_TAKE_COMPLETE_text_value cs0 h0 v_ U2_.heap L_ ∧ CHr Z consts_1 U_.vm U_.heap U2_.vm U2_.heap ∧ ReturnedEndW U_ o_ U2_ L_ ({ frames := 6, cells := 10, slots := 118, locals := 113 } : Room).cells ({ frames := 6, cells := 10, slots := 118, locals := 113 } : Room).slots) := by
  refine MetFree.of_bodySF (plainFor_of_name own_pn3) hisR ?_
  intro p e s m args below meth c s₁ Bd hml0 hP hK
  obtain ⟨rfl, hZ, hh, hCH⟩ := hP
  have hx := Bd.exec
  have hby := Bd.bytes
  have hml : c.maxLocals = 3 := hml0
  have hown : s.vm.findClass "com/example/tuplebag/tuplebag/bench/Workload" = some m.cls := findClass_of_methodNamed Bd.named
  have hnm := (name_of_methodNamed Bd.named Bd.method).1
  have X0 : Stand p l e ({ frames := 6, cells := 10, slots := 118, locals := 113 } : Room) (s.setVm s.vm) m #[] below meth c s₁ [] 0 0 := Stand.of_body Bd
  have e0 : s₁.heap = h0 := by rw [← hh, Bd.state]; rfl
  have N0 := Fr.nil Z.heap.size
  have hS : s.Since s.vm s.heap.size := (State.WarmedH.refl _).since _
  have hk : s.heap.size ≤ h0.size := Nat.le_of_eq (congrArg Array.size hh)
  have hZ : Z.Warmed39 (s.setVm s.vm).vm := hZ
  have hown : (s.setVm s.vm).vm.findClass "com/example/tuplebag/tuplebag/bench/Workload" = some m.cls := hown
  show own_G p e below (fun o_ s₂ => ∃ v_ L_, o_ = .returned v_ ∧ Q_names Z a__VALUES a_OUT a_INP a_TAKE_COMPLETE a_OUT_text a_INP_text a_TAKE_COMPLETE_text a_OUT_text_value a_INP_text_value a_TAKE_COMPLETE_text_value k__VALUES k_OUT_text_value k_INP_text_value k_TAKE_COMPLETE_text_value cs0 h0 v_ s₂.heap L_ ∧ CHr Z consts_1 s.vm s.heap s₂.vm s₂.heap ∧ ReturnedEndW s o_ s₂ L_ ({ frames := 6, cells := 10, slots := 118, locals := 113 } : Room).cells ({ frames := 6, cells := 10, slots := 118, locals := 113 } : Room).slots) (s₁.setTop (entryFrame m #[] 3))
  refine own_go (s₁.setTop (mkF m 0 #[.unset, .unset, .unset] [])) (fun t_ k_ => castTop (own_ef_names m ) k_) ?_
  have R0 := CHr.refl hCH
  have hEW : EW Z a0 consts_1 := own_EW hw
  have w' := w
  obtain ⟨S__VALUES, X__VALUES, S_OUT, X_OUT, S_INP, X_INP, S_TAKE_COMPLETE, X_TAKE_COMPLETE, F_OUT_text, X_OUT_text, F_INP_text, X_INP_text, F_TAKE_COMPLETE_text, X_TAKE_COMPLETE_text, F_OUT_text_value, X_OUT_text_value, F_INP_text_value, X_INP_text_value, F_TAKE_COMPLETE_text_value, X_TAKE_COMPLETE_text_value, F_OUT_text_coder, F_INP_text_coder, F_TAKE_COMPLETE_text_coder, V__VALUES, V_OUT_text_value, V_INP_text_value, V_TAKE_COMPLETE_text_value, S_CS, n_CS⟩ := w'
  obtain ⟨T1, h1, X1, e1, E1, A1, D1, U1, st1⟩ := newO X0 hx hZ hown (hw _ (List.mem_of_getElem? (i := 4) rfl)) (hw _ (List.mem_of_getElem? (i := 5) rfl)) (hw _ (List.mem_of_getElem? (i := 6) rfl)) e0 (g := (mkF m 0 #[.unset, .unset, .unset] [])) rfl (hb hby own_d_prog_9_method_5_0) (by decide) (by decide)
  obtain ⟨b1, g1⟩ : ∃ z, z = h0.size := ⟨_, rfl⟩
  rw [← g1] at A1 D1 U1 st1
  have ge_b1 : Z.heap.size ≤ b1 := Nat.le_trans O.1 (Nat.le_of_eq g1.symm)
  have sz_b1 : h0.size ≤ b1 := Nat.le_trans (Keep.refl h0 []).1 (Nat.le_of_eq g1.symm)
  have R1 := R0.trans (CHr.ext E1 R0.1)
  have Sf1 := Safe.ext (x := b1) E1 R0.1 (Safe.new (Nat.le_of_eq g1.symm))
  have K1 : Keep h0 h1 [] := (Keep.refl h0 []).ext E1
  have O1 := own_ext O E1
  have Fvalue_1 : Fld Z h1 b1 "java/lang/AbstractStringBuilder" "value" "[B" .null := D1 (Or.inl (hw _ (List.mem_of_getElem? (i := 23) rfl))) (ty := (.array .byte)) (by decide)
  have Fcoder_1 : Fld Z h1 b1 "java/lang/AbstractStringBuilder" "coder" "B" (.int (0 : Int32)) := D1 (Or.inl (hw _ (List.mem_of_getElem? (i := 25) rfl))) (ty := .byte) (by decide)
  have Fcount_1 : Fld Z h1 b1 "java/lang/AbstractStringBuilder" "count" "I" (.int (0 : Int32)) := D1 (Or.inl (hw _ (List.mem_of_getElem? (i := 72) rfl))) (ty := .int) (by decide)
  refine own_go (T1.setTop (mkF m 3 #[.unset, .unset, .unset] [(.ref b1)])) (fun t_ k_ => st1 _ k_) ?_
  refine own_go (T1.setTop (mkF m 4 #[.unset, .unset, .unset] [(.ref b1), (.ref b1)])) (fun t_ k_ => XS.dup X1.here hx rfl (hb hby own_d_prog_9_method_5_3) rfl rfl k_) ?_
  obtain ⟨_, _, ⟨T2, Lu2, ku2, nu2⟩, -, X2, ⟨Lc2, hQ2, lu2, yu2, zu2⟩, st2⟩ := X1.specialBack hx (y := (⟨"java/lang/StringBuilder", "<init>", "()V"⟩ : MethodName)) rfl hown (mvT hZ (hw _ (List.mem_of_getElem? (i := 7) rfl))) (mvT hZ (hw _ (List.mem_of_getElem? (i := 8) rfl))) (mvT hZ (hw _ (List.mem_of_getElem? (i := 9) rfl))) (by decide) (backOf (W := 1) (rm_si l Z a0 hw [] (b1) (a__VALUES) (a_OUT) (a_INP) (a_TAKE_COMPLETE) (a_OUT_text) (a_INP_text) (a_TAKE_COMPLETE_text) (a_OUT_text_value) (a_INP_text_value) (a_TAKE_COMPLETE_text_value) (k__VALUES) (k_OUT_text_value) (k_INP_text_value) (k_TAKE_COMPLETE_text_value) (cs0) h1 O1 w A1 Fvalue_1 Fcoder_1 Fcount_1 ge_b1) hZ (hw _ (List.mem_of_getElem? (i := 9) rfl)) (hw _ (List.mem_of_getElem? (i := 6) rfl)) (by decide) (by decide)) (g := (mkF m 4 #[.unset, .unset, .unset] [(.ref b1), (.ref b1)])) rfl (by rw [hml]; rfl) (Steps.refl _) (a := b1) (argsL := []) (rest := [(.ref b1)]) (lenOf own_pd17 rfl) rfl (by show 2 * 0 + _ ≤ _; exact Nat.le_of_eq rfl) (hb hby own_d_prog_9_method_5_4) (fun _ _ => ⟨rfl, e1, (by decide : 1 + 1 ≤ _), (by decide : 4 + 16 ≤ _)⟩)
  dsimp only [Pt.U, Pt.locs, Pt.cells, Pt.slots] at X2 lu2 yu2 zu2 st2 hQ2
  subst lu2 yu2 zu2
  obtain ⟨b2, kv2, rfl, N2q, K2q, u1_2, u2_2, X2q, F2q, G2q, H2q, A2q⟩ := hQ2
  have N2 := Fr.app N0 N2q
  have Sn2 := own_snew R1.1 u2_2
  have O2 := own_extK O1 K2q (allS ge_b1 all0)
  have KK2 : Keep h0 T2.heap [] := K1.trans K2q (allS (Or.inr sz_b1) all0)
  have R2 := R1.trans (CHr.keep K2q (allS Sf1 all0) R1.1)
  refine own_go (T2.setTop (mkF m 7 #[.unset, .unset, .unset] [(.ref b1)])) (fun t_ k_ => st2.trans k_) ?_
  refine own_go (T2.setTop (mkF m 8 #[.val (.ref b1), .unset, .unset] [])) (fun t_ k_ => XS.astoreN X2.here hx rfl (hb hby own_d_prog_9_method_5_7) rfl rfl (l' := #[.val (.ref b1), .unset, .unset]) rfl k_) ?_
  obtain ⟨_, _, ⟨T3, Lu3, ku3, nu3⟩, -, X3, ⟨Lc3, hQ3, lu3, yu3, zu3⟩, st3⟩ := Jvm.LawKit.callS X2 hx (y := (⟨"com/example/tuplebag/tuplebag/bench/Workload", "values", "()[Lcom/example/tuplebag/tuplebag/bench/Workload;"⟩ : MethodName)) hown (mvT hZ (hw _ (List.mem_of_getElem? (i := 26) rfl))) (mvT hZ (hw _ (List.mem_of_getElem? (i := 27) rfl))) (mvT hZ (hw _ (List.mem_of_getElem? (i := 2) rfl))) (mvT hZ (hw _ (List.mem_of_getElem? (i := 28) rfl))) (by decide) (backOf (W := 0) (rm_va l Z a0 hw [] (a__VALUES) (a_OUT) (a_INP) (a_TAKE_COMPLETE) (a_OUT_text) (a_INP_text) (a_TAKE_COMPLETE_text) (a_OUT_text_value) (a_INP_text_value) (a_TAKE_COMPLETE_text_value) (k__VALUES) (k_OUT_text_value) (k_INP_text_value) (k_TAKE_COMPLETE_text_value) (cs0) T2.heap O2 w) hZ (hw _ (List.mem_of_getElem? (i := 28) rfl)) (hw _ (List.mem_of_getElem? (i := 2) rfl)) (by decide) (by decide)) (g := (mkF m 8 #[.val (.ref b1), .unset, .unset] [])) rfl (by rw [hml]; rfl) (argsL := []) (rest := []) (lenOf own_pd18 rfl) rfl (by show 2 * 0 + _ ≤ _; exact Nat.le_of_eq rfl) (hb hby own_d_prog_9_method_5_8) (fun _ _ => ⟨rfl, rfl, (by decide : 2 + 1 ≤ _), (by decide : 20 + 3 ≤ _)⟩)
  dsimp only [Pt.U, Pt.locs, Pt.cells, Pt.slots] at X3 lu3 yu3 zu3 st3 hQ3
  subst lu3 yu3 zu3
  obtain ⟨r3, rfl, N3q, K3q, u2_3, V3q⟩ := hQ3
  have N3 := Fr.app N2 N3q
  have O3 := own_extK O2 K3q all0
  have KK3 : Keep h0 T3.heap [] := KK2.trans K3q all0
  have R3 := R2.trans (CHr.keep K3q all0 R2.1)
  refine own_go (T3.setTop (mkF m 11 #[.val (.ref b1), .unset, .unset] [(.ref r3)])) (fun t_ k_ => st3 _ k_) ?_
  refine own_go (T3.setTop (mkF m 12 #[.val (.ref b1), .val (.ref r3), .unset] [])) (fun t_ k_ => XS.astoreN X3.here hx rfl (hb hby own_d_prog_9_method_5_11) rfl rfl (l' := #[.val (.ref b1), .val (.ref r3), .unset]) rfl k_) ?_
  refine own_go (T3.setTop (mkF m 13 #[.val (.ref b1), .val (.ref r3), .unset] [(.int (0 : Int32))])) (fun t_ k_ => XS.iconst X3.here hx rfl (hb hby own_d_prog_9_method_5_12) k_) ?_
  refine own_go (T3.setTop (mkF m 14 #[.val (.ref b1), .val (.ref r3), .val (.int (0 : Int32))] [])) (fun t_ k_ => XS.istoreN X3.here hx rfl (hb hby own_d_prog_9_method_5_13) rfl (l' := #[.val (.ref b1), .val (.ref r3), .val (.int (0 : Int32))]) rfl k_) ?_
  refine own_go (T3.setTop (mkF m 15 #[.val (.ref b1), .val (.ref r3), .val (.int (0 : Int32))] [(.int (0 : Int32))])) (fun t_ k_ => XS.iloadN X3.here hx rfl (hb hby own_d_prog_9_method_5_14) rfl k_) ?_
  refine own_go (T3.setTop (mkF m 16 #[.val (.ref b1), .val (.ref r3), .val (.int (0 : Int32))] [(.ref r3), (.int (0 : Int32))])) (fun t_ k_ => XS.aloadN X3.here hx rfl (hb hby own_d_prog_9_method_5_15) rfl rfl k_) ?_
  obtain ⟨cl4, Ar4, q4, Sz4, Nz4, Hz4, Gz4⟩ := id (V3q)
  refine own_go (T3.setTop (mkF m 17 #[.val (.ref b1), .val (.ref r3), .val (.int (0 : Int32))] [(.int (3 : Int32)), (.int (0 : Int32))])) (fun t_ k_ => X3.arraylength hx Ar4.1 (State.isArrayOf_alike hZ.alike Ar4.2.1) (g := (mkF m 16 #[.val (.ref b1), .val (.ref r3), .val (.int (0 : Int32))] [(.ref r3), (.int (0 : Int32))])) rfl rfl (hb hby own_d_prog_9_method_5_16) _ (by rw [len_of Sz4 Nz4]; exact k_)) ?_
  refine own_go (T3.setTop (mkF m 20 #[.val (.ref b1), .val (.ref r3), .val (.int (0 : Int32))] [])) (fun t_ k_ => XS.icmpNo X3.here hx rfl (hb hby own_d_prog_9_method_5_17) rfl (tlt (by decide : (0 : Int32) < (3 : Int32))).2.1 k_) ?_
  refine own_go (T3.setTop (mkF m 21 #[.val (.ref b1), .val (.ref r3), .val (.int (0 : Int32))] [(.int (0 : Int32))])) (fun t_ k_ => XS.iloadN X3.here hx rfl (hb hby own_d_prog_9_method_5_20) rfl k_) ?_
  refine own_go (T3.setTop (mkF m 44 #[.val (.ref b1), .val (.ref r3), .val (.int (0 : Int32))] [])) (fun t_ k_ => XS.ifYes X3.here hx rfl (pc0 := 21) (pc' := 44) rfl (hb hby own_d_prog_9_method_5_21) rfl ((if0 _ _).trans (flt (by decide : ¬ ((0 : Int32) < (0 : Int32)))).2.2.2) (by decide) (by decide) k_) ?_
  refine own_go (T3.setTop (mkF m 45 #[.val (.ref b1), .val (.ref r3), .val (.int (0 : Int32))] [(.ref b1)])) (fun t_ k_ => XS.aloadN X3.here hx rfl (hb hby own_d_prog_9_method_5_44) rfl rfl k_) ?_
  refine own_go (T3.setTop (mkF m 46 #[.val (.ref b1), .val (.ref r3), .val (.int (0 : Int32))] [(.ref r3), (.ref b1)])) (fun t_ k_ => XS.aloadN X3.here hx rfl (hb hby own_d_prog_9_method_5_45) rfl rfl k_) ?_
  refine own_go (T3.setTop (mkF m 47 #[.val (.ref b1), .val (.ref r3), .val (.int (0 : Int32))] [(.int (0 : Int32)), (.ref r3), (.ref b1)])) (fun t_ k_ => XS.iloadN X3.here hx rfl (hb hby own_d_prog_9_method_5_46) rfl k_) ?_
  obtain ⟨cl5, Ar5, q5, Sz5, Nz5, Hz5, Gz5⟩ := id (V3q)
  have hin5 : ¬ ((0 : Int32) < 0 ∨ cl5.slots.size ≤ ((0 : Int32)).toNatClampNeg) := inb_of Sz5 ⟨by decide, by decide⟩
  have hat5 : cl5.slots[((0 : Int32)).toNatClampNeg]? = some (.ref a_OUT) := Hz5.at hin5 rfl
  refine own_go (T3.setTop (mkF m 48 #[.val (.ref b1), .val (.ref r3), .val (.int (0 : Int32))] [(.ref a_OUT), (.ref b1)])) (fun t_ k_ => X3.aaload hx (j := (0 : Int32)) (v := (.ref a_OUT)) Ar5.1 (State.isArrayOf_alike hZ.alike Ar5.2.1) rfl Ar5.2.2 hin5 hat5 (g := (mkF m 47 #[.val (.ref b1), .val (.ref r3), .val (.int (0 : Int32))] [(.int (0 : Int32)), (.ref r3), (.ref b1)])) rfl rfl (hb hby own_d_prog_9_method_5_47) _ k_) ?_
  obtain ⟨T6, X6, e6, st6⟩ := getF X3 hx hZ hown (host := "") (Or.inl (hw _ (List.mem_of_getElem? (i := 44) rfl))) Via.refl rfl (F_OUT_text.ext O3) (g := (mkF m 48 #[.val (.ref b1), .val (.ref r3), .val (.int (0 : Int32))] [(.ref a_OUT), (.ref b1)])) rfl rfl (hb hby own_d_prog_9_method_5_48)
  refine own_go (T6.setTop (mkF m 51 #[.val (.ref b1), .val (.ref r3), .val (.int (0 : Int32))] [(.ref a_OUT_text), (.ref b1)])) (fun t_ k_ => st6 _ k_) ?_
  have Fz7 := (X2q.keep K3q)
  have Fz8 := (F2q.keep K3q nin0)
  have Fz9 := (G2q.keep K3q nin0)
  have Fz10 := (H2q.keep K3q nin0)
  have Fz11 := (A2q.keep K3q nin0)
  have Nz12 : a_OUT_text_value ≠ b2 := (Nat.ne_of_lt (Nat.lt_of_lt_of_le X_OUT_text_value.lt u1_2))
  obtain ⟨cq13, kq13, q13a, q13b, q13c⟩ := isOf hZ e6 Fz7
  obtain ⟨_, _, ⟨T13, Lu13, ku13, nu13⟩, -, X13, ⟨Lc13, hQ13, lu13, yu13, zu13⟩, st13⟩ := X6.virtualBack hx (y := (⟨"java/lang/StringBuilder", "append", "(Ljava/lang/String;)Ljava/lang/StringBuilder;"⟩ : MethodName)) (z := (⟨"java/lang/StringBuilder", "append", "(Ljava/lang/String;)Ljava/lang/StringBuilder;"⟩ : MethodName)) hown (mvT hZ (hw _ (List.mem_of_getElem? (i := 46) rfl))) (mvT hZ (hw _ (List.mem_of_getElem? (i := 47) rfl))) (notFace_of_selects (args := #[]) (mvT hZ (hw _ (List.mem_of_getElem? (i := 49) rfl)))) (mvT hZ (hw _ (List.mem_of_getElem? (i := 49) rfl))) (mvT hZ (hw _ (List.mem_of_getElem? (i := 48) rfl))) (by decide) (backOf (W := 0) (rm_ap0 l Z a0 hw [] (b1) (b2) (kv2) (a_OUT_text) (a_OUT_text_value) (k_OUT_text_value) (a__VALUES) (a_OUT) (a_INP) (a_TAKE_COMPLETE) (a_OUT_text) (a_INP_text) (a_TAKE_COMPLETE_text) (a_OUT_text_value) (a_INP_text_value) (a_TAKE_COMPLETE_text_value) (k__VALUES) (k_OUT_text_value) (k_INP_text_value) (k_TAKE_COMPLETE_text_value) (cs0) T3.heap O3 w Fz7 Fz8 Fz9 Fz10 Fz11 ge_b1 u1_2 (X_OUT_text.ext O3) (F_OUT_text_value.ext O3) (F_OUT_text_coder.ext O3) (V_OUT_text_value.ext O3) Nz12) hZ (hw _ (List.mem_of_getElem? (i := 50) rfl)) (hw _ (List.mem_of_getElem? (i := 6) rfl)) (by decide) (by decide)) q13a q13c (g := (mkF m 51 #[.val (.ref b1), .val (.ref r3), .val (.int (0 : Int32))] [(.ref a_OUT_text), (.ref b1)])) rfl (by rw [hml]; rfl) (Steps.refl _) (argsL := [(.ref a_OUT_text)]) (rest := []) (lenOf own_pd19 rfl) rfl (by show 2 * 0 + _ ≤ _; exact Nat.le_of_eq rfl) (hb hby own_d_prog_9_method_5_51) (fun _ _ => ⟨rfl, e6, (by decide : 3 + 0 ≤ _), (by decide : 23 + 0 ≤ _)⟩)
  dsimp only [Pt.U, Pt.locs, Pt.cells, Pt.slots] at X13 lu13 yu13 zu13 st13 hQ13
  subst lu13 yu13 zu13
  obtain ⟨b13, kv13, rfl, N13q, K13q, u1_13, rfl, rfl, X13q, F13q, G13q, H13q, A13q⟩ := hQ13
  have N13 := Fr.app N3 N13q
  have O13 := own_extK O3 K13q (allS ge_b1 (allS u1_2 all0))
  have KK13 : Keep h0 T13.heap [] := KK3.trans K13q (allS (Or.inr sz_b1) (allS (Or.inr (Nat.le_trans K1.1 u2_2)) all0))
  have Fz14 := (Safe.keep K3q all0 R2.1 (Safe.keep K2q (allS Sf1 all0) R1.1 Sn2))
  have Fz15 := (Safe.keep K3q all0 R2.1 (Safe.keep K2q (allS Sf1 all0) R1.1 Sf1))
  have R13 := R3.trans (CHr.keep K13q (allS Fz15 (allS Fz14 all0)) R3.1)
  refine own_go (T13.setTop (mkF m 54 #[.val (.ref b1), .val (.ref r3), .val (.int (0 : Int32))] [(.ref b1)])) (fun t_ k_ => st13.trans k_) ?_
  refine own_go (T13.setTop (mkF m 55 #[.val (.ref b1), .val (.ref r3), .val (.int (0 : Int32))] [])) (fun t_ k_ => XS.pop X13.here hx rfl (hb hby own_d_prog_9_method_5_54) rfl rfl k_) ?_
  refine own_go (T13.setTop (mkF m 58 #[.val (.ref b1), .val (.ref r3), .val (.int ((0 : Int32) + (1 : Int32)))] [])) (fun t_ k_ => XS.iinc X13.here hx rfl (hb hby own_d_prog_9_method_5_55) rfl (l' := #[.val (.ref b1), .val (.ref r3), .val (.int ((0 : Int32) + (1 : Int32)))]) rfl k_) ?_
  rw [show ((0 : Int32) + (1 : Int32)) = (1 : Int32) from by decide]
  refine own_go (T13.setTop (mkF m 14 #[.val (.ref b1), .val (.ref r3), .val (.int (1 : Int32))] [])) (fun t_ k_ => XS.goto X13.here hx rfl (pc0 := 58) (pc' := 14) rfl (hb hby own_d_prog_9_method_5_58) (by decide) (by decide) k_) ?_
  refine own_go (T13.setTop (mkF m 15 #[.val (.ref b1), .val (.ref r3), .val (.int (1 : Int32))] [(.int (1 : Int32))])) (fun t_ k_ => XS.iloadN X13.here hx rfl (hb hby own_d_prog_9_method_5_14) rfl k_) ?_
  refine own_go (T13.setTop (mkF m 16 #[.val (.ref b1), .val (.ref r3), .val (.int (1 : Int32))] [(.ref r3), (.int (1 : Int32))])) (fun t_ k_ => XS.aloadN X13.here hx rfl (hb hby own_d_prog_9_method_5_15) rfl rfl k_) ?_
  have Nz17 : b2 ≠ r3 := (Nat.ne_of_lt (Nat.lt_of_lt_of_le A2q.lt u2_3))
  have Nz18 : b1 ≠ r3 := (Nat.ne_of_lt (Nat.lt_of_lt_of_le X2q.lt u2_3))
  have Fz19 := (V3q.keep K13q (ninS (Ne.symm Nz18) (ninS (Ne.symm Nz17) nin0)))
  obtain ⟨cl16, Ar16, q16, Sz16, Nz16, Hz16, Gz16⟩ := id (Fz19)
  refine own_go (T13.setTop (mkF m 17 #[.val (.ref b1), .val (.ref r3), .val (.int (1 : Int32))] [(.int (3 : Int32)), (.int (1 : Int32))])) (fun t_ k_ => X13.arraylength hx Ar16.1 (State.isArrayOf_alike hZ.alike Ar16.2.1) (g := (mkF m 16 #[.val (.ref b1), .val (.ref r3), .val (.int (1 : Int32))] [(.ref r3), (.int (1 : Int32))])) rfl rfl (hb hby own_d_prog_9_method_5_16) _ (by rw [len_of Sz16 Nz16]; exact k_)) ?_
  refine own_go (T13.setTop (mkF m 20 #[.val (.ref b1), .val (.ref r3), .val (.int (1 : Int32))] [])) (fun t_ k_ => XS.icmpNo X13.here hx rfl (hb hby own_d_prog_9_method_5_17) rfl (tlt (by decide : (1 : Int32) < (3 : Int32))).2.1 k_) ?_
  refine own_go (T13.setTop (mkF m 21 #[.val (.ref b1), .val (.ref r3), .val (.int (1 : Int32))] [(.int (1 : Int32))])) (fun t_ k_ => XS.iloadN X13.here hx rfl (hb hby own_d_prog_9_method_5_20) rfl k_) ?_
  refine own_go (T13.setTop (mkF m 24 #[.val (.ref b1), .val (.ref r3), .val (.int (1 : Int32))] [])) (fun t_ k_ => XS.ifNo X13.here hx rfl (hb hby own_d_prog_9_method_5_21) rfl ((if0 _ _).trans (tlt (by decide : (0 : Int32) < (1 : Int32))).2.2.2) k_) ?_
  refine own_go (T13.setTop (mkF m 25 #[.val (.ref b1), .val (.ref r3), .val (.int (1 : Int32))] [(.ref b1)])) (fun t_ k_ => XS.aloadN X13.here hx rfl (hb hby own_d_prog_9_method_5_24) rfl rfl k_) ?_
  refine own_go (T13.setTop (mkF m 26 #[.val (.ref b1), .val (.ref r3), .val (.int (1 : Int32))] [(.int (1 : Int32)), (.ref b1)])) (fun t_ k_ => XS.iloadN X13.here hx rfl (hb hby own_d_prog_9_method_5_25) rfl k_) ?_
  refine own_go (T13.setTop (mkF m 27 #[.val (.ref b1), .val (.ref r3), .val (.int (1 : Int32))] [(.ref r3), (.int (1 : Int32)), (.ref b1)])) (fun t_ k_ => XS.aloadN X13.here hx rfl (hb hby own_d_prog_9_method_5_26) rfl rfl k_) ?_
  obtain ⟨cl20, Ar20, q20, Sz20, Nz20, Hz20, Gz20⟩ := id (Fz19)
  refine own_go (T13.setTop (mkF m 28 #[.val (.ref b1), .val (.ref r3), .val (.int (1 : Int32))] [(.int (3 : Int32)), (.int (1 : Int32)), (.ref b1)])) (fun t_ k_ => X13.arraylength hx Ar20.1 (State.isArrayOf_alike hZ.alike Ar20.2.1) (g := (mkF m 27 #[.val (.ref b1), .val (.ref r3), .val (.int (1 : Int32))] [(.ref r3), (.int (1 : Int32)), (.ref b1)])) rfl rfl (hb hby own_d_prog_9_method_5_27) _ (by rw [len_of Sz20 Nz20]; exact k_)) ?_
  refine own_go (T13.setTop (mkF m 29 #[.val (.ref b1), .val (.ref r3), .val (.int (1 : Int32))] [(.int (1 : Int32)), (.int (3 : Int32)), (.int (1 : Int32)), (.ref b1)])) (fun t_ k_ => XS.iconst X13.here hx rfl (hb hby own_d_prog_9_method_5_28) k_) ?_
  refine own_go (T13.setTop (mkF m 30 #[.val (.ref b1), .val (.ref r3), .val (.int (1 : Int32))] [(.int ((3 : Int32) - (1 : Int32))), (.int (1 : Int32)), (.ref b1)])) (fun t_ k_ => XS.isub X13.here hx rfl (hb hby own_d_prog_9_method_5_29) rfl k_) ?_
  rw [show ((3 : Int32) - (1 : Int32)) = (2 : Int32) from by decide]
  refine own_go (T13.setTop (mkF m 38 #[.val (.ref b1), .val (.ref r3), .val (.int (1 : Int32))] [(.ref b1)])) (fun t_ k_ => XS.icmpYes X13.here hx rfl (pc0 := 30) (pc' := 38) rfl (hb hby own_d_prog_9_method_5_30) rfl (feq (by decide : ¬ ((1 : Int32) = (2 : Int32)))).2 (by decide) (by decide) k_) ?_
  obtain ⟨a21, T21, h21, k21, t21, kb21, X21, e21, E21, hS, hk, hZ, hown, A21, C21, V21, B21, lt21, ltb21, CC21, Li21, ne21, st21⟩ := ldcCH (EL := consts_1) X13 hx hZ hown (hw _ (List.mem_of_getElem? (i := 98) rfl)) (fun d hd => hw d (own_sA d hd)) rfl hS (Nat.le_trans (Nat.le_trans (Nat.le_trans (Nat.le_trans hk E1.1) K2q.1) K3q.1) K13q.1) hEW (List.mem_of_getElem? (i := 1) rfl) R13.1 (vs := (([44, 32] : List Int32).map (fun c => c.toInt8.toInt32)).map Value.int) (z := 2) (by exact ⟨by decide, by rfl⟩) (by decide) (by rfl) (g := (mkF m 38 #[.val (.ref b1), .val (.ref r3), .val (.int (1 : Int32))] [(.ref b1)])) rfl (hb hby own_d_prog_9_method_5_38) (n := 8) (by decide) (by decide) (by decide) (by decide)
  have K21 : Keep h0 h21 [] := KK13.ext E21
  have O21 := own_ext O13 E21
  have R21 := R13.trans CC21
  refine own_go (T21.setTop (mkF m 40 #[.val (.ref b1), .val (.ref r3), .val (.int (1 : Int32))] [(.ref a21), (.ref b1)])) (fun t_ k_ => st21 _ k_) ?_
  rw [own_tx_2c20] at B21
  have Fz22 := (X13q.ext E21)
  have Fz23 := (F13q.ext E21)
  have Fz24 := (G13q.ext E21)
  have Fz25 := (H13q.ext E21)
  have Fz26 := (A13q.ext E21)
  have Nz27 : t21 ≠ b2 := (Ne.symm (ne21 b2 (CC21.safe A13q.lt (Safe.keep K13q (allS Fz15 (allS Fz14 all0)) R3.1 Fz14))).2)
  obtain ⟨cq28, kq28, q28a, q28b, q28c⟩ := isOf hZ e21 Fz22
  obtain ⟨_, _, ⟨T28, Lu28, ku28, nu28⟩, -, X28, ⟨Lc28, hQ28, lu28, yu28, zu28⟩, st28⟩ := X21.virtualBack hx (y := (⟨"java/lang/StringBuilder", "append", "(Ljava/lang/String;)Ljava/lang/StringBuilder;"⟩ : MethodName)) (z := (⟨"java/lang/StringBuilder", "append", "(Ljava/lang/String;)Ljava/lang/StringBuilder;"⟩ : MethodName)) hown (mvT hZ (hw _ (List.mem_of_getElem? (i := 46) rfl))) (mvT hZ (hw _ (List.mem_of_getElem? (i := 47) rfl))) (notFace_of_selects (args := #[]) (mvT hZ (hw _ (List.mem_of_getElem? (i := 49) rfl)))) (mvT hZ (hw _ (List.mem_of_getElem? (i := 49) rfl))) (mvT hZ (hw _ (List.mem_of_getElem? (i := 48) rfl))) (by decide) (backOf (W := 0) (rm_ap1 l Z a0 hw [] (b1) (b2) (kv2) (a21) (t21) (kb21) (a__VALUES) (a_OUT) (a_INP) (a_TAKE_COMPLETE) (a_OUT_text) (a_INP_text) (a_TAKE_COMPLETE_text) (a_OUT_text_value) (a_INP_text_value) (a_TAKE_COMPLETE_text_value) (k__VALUES) (k_OUT_text_value) (k_INP_text_value) (k_TAKE_COMPLETE_text_value) (cs0) h21 O21 w Fz22 Fz23 Fz24 Fz25 Fz26 ge_b1 u1_2 A21 V21 C21 B21 Nz27) hZ (hw _ (List.mem_of_getElem? (i := 50) rfl)) (hw _ (List.mem_of_getElem? (i := 6) rfl)) (by decide) (by decide)) q28a q28c (g := (mkF m 40 #[.val (.ref b1), .val (.ref r3), .val (.int (1 : Int32))] [(.ref a21), (.ref b1)])) rfl (by rw [hml]; rfl) (Steps.refl _) (argsL := [(.ref a21)]) (rest := []) (lenOf own_pd19 rfl) rfl (by show 2 * 0 + _ ≤ _; exact Nat.le_of_eq rfl) (hb hby own_d_prog_9_method_5_40) (fun _ _ => ⟨rfl, e21, (by decide : 5 + 0 ≤ _), (by decide : 35 + 0 ≤ _)⟩)
  dsimp only [Pt.U, Pt.locs, Pt.cells, Pt.slots] at X28 lu28 yu28 zu28 st28 hQ28
  subst lu28 yu28 zu28
  obtain ⟨b28, kv28, rfl, N28q, K28q, u1_28, rfl, rfl, X28q, F28q, G28q, H28q, A28q⟩ := hQ28
  have N28 := Fr.app N13 N28q
  have O28 := own_extK O21 K28q (allS ge_b1 (allS u1_2 all0))
  have KK28 : Keep h0 T28.heap [] := K21.trans K28q (allS (Or.inr sz_b1) (allS (Or.inr (Nat.le_trans K1.1 u2_2)) all0))
  have Fz29 := (CC21.safe A13q.lt (Safe.keep K13q (allS Fz15 (allS Fz14 all0)) R3.1 Fz14))
  have Fz30 := (CC21.safe X13q.lt (Safe.keep K13q (allS Fz15 (allS Fz14 all0)) R3.1 Fz15))
  have R28 := R21.trans (CHr.keep K28q (allS Fz30 (allS Fz29 all0)) R21.1)
  refine own_go (T28.setTop (mkF m 43 #[.val (.ref b1), .val (.ref r3), .val (.int (1 : Int32))] [(.ref b1)])) (fun t_ k_ => st28.trans k_) ?_
  refine own_go (T28.setTop (mkF m 44 #[.val (.ref b1), .val (.ref r3), .val (.int (1 : Int32))] [])) (fun t_ k_ => XS.pop X28.here hx rfl (hb hby own_d_prog_9_method_5_43) rfl rfl k_) ?_
  refine own_go (T28.setTop (mkF m 45 #[.val (.ref b1), .val (.ref r3), .val (.int (1 : Int32))] [(.ref b1)])) (fun t_ k_ => XS.aloadN X28.here hx rfl (hb hby own_d_prog_9_method_5_44) rfl rfl k_) ?_
  refine own_go (T28.setTop (mkF m 46 #[.val (.ref b1), .val (.ref r3), .val (.int (1 : Int32))] [(.ref r3), (.ref b1)])) (fun t_ k_ => XS.aloadN X28.here hx rfl (hb hby own_d_prog_9_method_5_45) rfl rfl k_) ?_
  refine own_go (T28.setTop (mkF m 47 #[.val (.ref b1), .val (.ref r3), .val (.int (1 : Int32))] [(.int (1 : Int32)), (.ref r3), (.ref b1)])) (fun t_ k_ => XS.iloadN X28.here hx rfl (hb hby own_d_prog_9_method_5_46) rfl k_) ?_
  have Fz32 := ((Fz19.ext E21).keep K28q (ninS (Ne.symm Nz18) (ninS (Ne.symm Nz17) nin0)))
  obtain ⟨cl31, Ar31, q31, Sz31, Nz31, Hz31, Gz31⟩ := id (Fz32)
  have hin31 : ¬ ((1 : Int32) < 0 ∨ cl31.slots.size ≤ ((1 : Int32)).toNatClampNeg) := inb_of Sz31 ⟨by decide, by decide⟩
  have hat31 : cl31.slots[((1 : Int32)).toNatClampNeg]? = some (.ref a_INP) := Hz31.at hin31 rfl
  refine own_go (T28.setTop (mkF m 48 #[.val (.ref b1), .val (.ref r3), .val (.int (1 : Int32))] [(.ref a_INP), (.ref b1)])) (fun t_ k_ => X28.aaload hx (j := (1 : Int32)) (v := (.ref a_INP)) Ar31.1 (State.isArrayOf_alike hZ.alike Ar31.2.1) rfl Ar31.2.2 hin31 hat31 (g := (mkF m 47 #[.val (.ref b1), .val (.ref r3), .val (.int (1 : Int32))] [(.int (1 : Int32)), (.ref r3), (.ref b1)])) rfl rfl (hb hby own_d_prog_9_method_5_47) _ k_) ?_
  obtain ⟨T33, X33, e33, st33⟩ := getF X28 hx hZ hown (host := "") (Or.inl (hw _ (List.mem_of_getElem? (i := 44) rfl))) Via.refl rfl (F_INP_text.ext O28) (g := (mkF m 48 #[.val (.ref b1), .val (.ref r3), .val (.int (1 : Int32))] [(.ref a_INP), (.ref b1)])) rfl rfl (hb hby own_d_prog_9_method_5_48)
  refine own_go (T33.setTop (mkF m 51 #[.val (.ref b1), .val (.ref r3), .val (.int (1 : Int32))] [(.ref a_INP_text), (.ref b1)])) (fun t_ k_ => st33 _ k_) ?_
  have Nz34 : a_INP_text_value ≠ b2 := (Nat.ne_of_lt (Nat.lt_of_lt_of_le X_INP_text_value.lt u1_2))
  obtain ⟨cq35, kq35, q35a, q35b, q35c⟩ := isOf hZ e33 X28q
  obtain ⟨_, _, ⟨T35, Lu35, ku35, nu35⟩, -, X35, ⟨Lc35, hQ35, lu35, yu35, zu35⟩, st35⟩ := X33.virtualBack hx (y := (⟨"java/lang/StringBuilder", "append", "(Ljava/lang/String;)Ljava/lang/StringBuilder;"⟩ : MethodName)) (z := (⟨"java/lang/StringBuilder", "append", "(Ljava/lang/String;)Ljava/lang/StringBuilder;"⟩ : MethodName)) hown (mvT hZ (hw _ (List.mem_of_getElem? (i := 46) rfl))) (mvT hZ (hw _ (List.mem_of_getElem? (i := 47) rfl))) (notFace_of_selects (args := #[]) (mvT hZ (hw _ (List.mem_of_getElem? (i := 49) rfl)))) (mvT hZ (hw _ (List.mem_of_getElem? (i := 49) rfl))) (mvT hZ (hw _ (List.mem_of_getElem? (i := 48) rfl))) (by decide) (backOf (W := 0) (rm_ap2 l Z a0 hw [] (b1) (b2) (kv2) (a_INP_text) (a_INP_text_value) (k_INP_text_value) (a__VALUES) (a_OUT) (a_INP) (a_TAKE_COMPLETE) (a_OUT_text) (a_INP_text) (a_TAKE_COMPLETE_text) (a_OUT_text_value) (a_INP_text_value) (a_TAKE_COMPLETE_text_value) (k__VALUES) (k_OUT_text_value) (k_INP_text_value) (k_TAKE_COMPLETE_text_value) (cs0) T28.heap O28 w X28q F28q G28q H28q A28q ge_b1 u1_2 (X_INP_text.ext O28) (F_INP_text_value.ext O28) (F_INP_text_coder.ext O28) (V_INP_text_value.ext O28) Nz34) hZ (hw _ (List.mem_of_getElem? (i := 50) rfl)) (hw _ (List.mem_of_getElem? (i := 6) rfl)) (by decide) (by decide)) q35a q35c (g := (mkF m 51 #[.val (.ref b1), .val (.ref r3), .val (.int (1 : Int32))] [(.ref a_INP_text), (.ref b1)])) rfl (by rw [hml]; rfl) (Steps.refl _) (argsL := [(.ref a_INP_text)]) (rest := []) (lenOf own_pd19 rfl) rfl (by show 2 * 0 + _ ≤ _; exact Nat.le_of_eq rfl) (hb hby own_d_prog_9_method_5_51) (fun _ _ => ⟨rfl, e33, (by decide : 5 + 0 ≤ _), (by decide : 35 + 0 ≤ _)⟩)
  dsimp only [Pt.U, Pt.locs, Pt.cells, Pt.slots] at X35 lu35 yu35 zu35 st35 hQ35
  subst lu35 yu35 zu35
  obtain ⟨b35, kv35, rfl, N35q, K35q, u1_35, rfl, rfl, X35q, F35q, G35q, H35q, A35q⟩ := hQ35
  have N35 := Fr.app N28 N35q
  have O35 := own_extK O28 K35q (allS ge_b1 (allS u1_2 all0))
  have KK35 : Keep h0 T35.heap [] := KK28.trans K35q (allS (Or.inr sz_b1) (allS (Or.inr (Nat.le_trans K1.1 u2_2)) all0))
  have Fz36 := (Safe.keep K28q (allS Fz30 (allS Fz29 all0)) R21.1 Fz29)
  have Fz37 := (Safe.keep K28q (allS Fz30 (allS Fz29 all0)) R21.1 Fz30)
  have R35 := R28.trans (CHr.keep K35q (allS Fz37 (allS Fz36 all0)) R28.1)
  refine own_go (T35.setTop (mkF m 54 #[.val (.ref b1), .val (.ref r3), .val (.int (1 : Int32))] [(.ref b1)])) (fun t_ k_ => st35.trans k_) ?_
  refine own_go (T35.setTop (mkF m 55 #[.val (.ref b1), .val (.ref r3), .val (.int (1 : Int32))] [])) (fun t_ k_ => XS.pop X35.here hx rfl (hb hby own_d_prog_9_method_5_54) rfl rfl k_) ?_
  refine own_go (T35.setTop (mkF m 58 #[.val (.ref b1), .val (.ref r3), .val (.int ((1 : Int32) + (1 : Int32)))] [])) (fun t_ k_ => XS.iinc X35.here hx rfl (hb hby own_d_prog_9_method_5_55) rfl (l' := #[.val (.ref b1), .val (.ref r3), .val (.int ((1 : Int32) + (1 : Int32)))]) rfl k_) ?_
  rw [show ((1 : Int32) + (1 : Int32)) = (2 : Int32) from by decide]
  refine own_go (T35.setTop (mkF m 14 #[.val (.ref b1), .val (.ref r3), .val (.int (2 : Int32))] [])) (fun t_ k_ => XS.goto X35.here hx rfl (pc0 := 58) (pc' := 14) rfl (hb hby own_d_prog_9_method_5_58) (by decide) (by decide) k_) ?_
  refine own_go (T35.setTop (mkF m 15 #[.val (.ref b1), .val (.ref r3), .val (.int (2 : Int32))] [(.int (2 : Int32))])) (fun t_ k_ => XS.iloadN X35.here hx rfl (hb hby own_d_prog_9_method_5_14) rfl k_) ?_
  refine own_go (T35.setTop (mkF m 16 #[.val (.ref b1), .val (.ref r3), .val (.int (2 : Int32))] [(.ref r3), (.int (2 : Int32))])) (fun t_ k_ => XS.aloadN X35.here hx rfl (hb hby own_d_prog_9_method_5_15) rfl rfl k_) ?_
  have Fz39 := (Fz32.keep K35q (ninS (Ne.symm Nz18) (ninS (Ne.symm Nz17) nin0)))
  obtain ⟨cl38, Ar38, q38, Sz38, Nz38, Hz38, Gz38⟩ := id (Fz39)
  refine own_go (T35.setTop (mkF m 17 #[.val (.ref b1), .val (.ref r3), .val (.int (2 : Int32))] [(.int (3 : Int32)), (.int (2 : Int32))])) (fun t_ k_ => X35.arraylength hx Ar38.1 (State.isArrayOf_alike hZ.alike Ar38.2.1) (g := (mkF m 16 #[.val (.ref b1), .val (.ref r3), .val (.int (2 : Int32))] [(.ref r3), (.int (2 : Int32))])) rfl rfl (hb hby own_d_prog_9_method_5_16) _ (by rw [len_of Sz38 Nz38]; exact k_)) ?_
  refine own_go (T35.setTop (mkF m 20 #[.val (.ref b1), .val (.ref r3), .val (.int (2 : Int32))] [])) (fun t_ k_ => XS.icmpNo X35.here hx rfl (hb hby own_d_prog_9_method_5_17) rfl (tlt (by decide : (2 : Int32) < (3 : Int32))).2.1 k_) ?_
  refine own_go (T35.setTop (mkF m 21 #[.val (.ref b1), .val (.ref r3), .val (.int (2 : Int32))] [(.int (2 : Int32))])) (fun t_ k_ => XS.iloadN X35.here hx rfl (hb hby own_d_prog_9_method_5_20) rfl k_) ?_
  refine own_go (T35.setTop (mkF m 24 #[.val (.ref b1), .val (.ref r3), .val (.int (2 : Int32))] [])) (fun t_ k_ => XS.ifNo X35.here hx rfl (hb hby own_d_prog_9_method_5_21) rfl ((if0 _ _).trans (tlt (by decide : (0 : Int32) < (2 : Int32))).2.2.2) k_) ?_
  refine own_go (T35.setTop (mkF m 25 #[.val (.ref b1), .val (.ref r3), .val (.int (2 : Int32))] [(.ref b1)])) (fun t_ k_ => XS.aloadN X35.here hx rfl (hb hby own_d_prog_9_method_5_24) rfl rfl k_) ?_
  refine own_go (T35.setTop (mkF m 26 #[.val (.ref b1), .val (.ref r3), .val (.int (2 : Int32))] [(.int (2 : Int32)), (.ref b1)])) (fun t_ k_ => XS.iloadN X35.here hx rfl (hb hby own_d_prog_9_method_5_25) rfl k_) ?_
  refine own_go (T35.setTop (mkF m 27 #[.val (.ref b1), .val (.ref r3), .val (.int (2 : Int32))] [(.ref r3), (.int (2 : Int32)), (.ref b1)])) (fun t_ k_ => XS.aloadN X35.here hx rfl (hb hby own_d_prog_9_method_5_26) rfl rfl k_) ?_
  obtain ⟨cl40, Ar40, q40, Sz40, Nz40, Hz40, Gz40⟩ := id (Fz39)
  refine own_go (T35.setTop (mkF m 28 #[.val (.ref b1), .val (.ref r3), .val (.int (2 : Int32))] [(.int (3 : Int32)), (.int (2 : Int32)), (.ref b1)])) (fun t_ k_ => X35.arraylength hx Ar40.1 (State.isArrayOf_alike hZ.alike Ar40.2.1) (g := (mkF m 27 #[.val (.ref b1), .val (.ref r3), .val (.int (2 : Int32))] [(.ref r3), (.int (2 : Int32)), (.ref b1)])) rfl rfl (hb hby own_d_prog_9_method_5_27) _ (by rw [len_of Sz40 Nz40]; exact k_)) ?_
  refine own_go (T35.setTop (mkF m 29 #[.val (.ref b1), .val (.ref r3), .val (.int (2 : Int32))] [(.int (1 : Int32)), (.int (3 : Int32)), (.int (2 : Int32)), (.ref b1)])) (fun t_ k_ => XS.iconst X35.here hx rfl (hb hby own_d_prog_9_method_5_28) k_) ?_
  refine own_go (T35.setTop (mkF m 30 #[.val (.ref b1), .val (.ref r3), .val (.int (2 : Int32))] [(.int ((3 : Int32) - (1 : Int32))), (.int (2 : Int32)), (.ref b1)])) (fun t_ k_ => XS.isub X35.here hx rfl (hb hby own_d_prog_9_method_5_29) rfl k_) ?_
  rw [show ((3 : Int32) - (1 : Int32)) = (2 : Int32) from by decide]
  refine own_go (T35.setTop (mkF m 33 #[.val (.ref b1), .val (.ref r3), .val (.int (2 : Int32))] [(.ref b1)])) (fun t_ k_ => XS.icmpNo X35.here hx rfl (hb hby own_d_prog_9_method_5_30) rfl (teq (by decide : (2 : Int32) = (2 : Int32))).2 k_) ?_
  obtain ⟨a41, T41, h41, k41, t41, kb41, X41, e41, E41, hS, hk, hZ, hown, A41, C41, V41, B41, lt41, ltb41, CC41, Li41, ne41, st41⟩ := ldcCH (EL := consts_1) X35 hx hZ hown (hw _ (List.mem_of_getElem? (i := 102) rfl)) (fun d hd => hw d (own_sA d hd)) rfl hS (Nat.le_trans (Nat.le_trans hk K28q.1) K35q.1) hEW (List.mem_of_getElem? (i := 0) rfl) R35.1 (vs := (([32, 111, 114, 32] : List Int32).map (fun c => c.toInt8.toInt32)).map Value.int) (z := 4) (by exact ⟨by decide, by rfl⟩) (by decide) (by rfl) (g := (mkF m 33 #[.val (.ref b1), .val (.ref r3), .val (.int (2 : Int32))] [(.ref b1)])) rfl (hb hby own_d_prog_9_method_5_33) (n := 16) (by decide) (by decide) (by decide) (by decide)
  have K41 : Keep h0 h41 [] := KK35.ext E41
  have O41 := own_ext O35 E41
  have R41 := R35.trans CC41
  refine own_go (T41.setTop (mkF m 35 #[.val (.ref b1), .val (.ref r3), .val (.int (2 : Int32))] [(.ref a41), (.ref b1)])) (fun t_ k_ => st41 _ k_) ?_
  rw [own_tx_206f7220] at B41
  refine own_go (T41.setTop (mkF m 40 #[.val (.ref b1), .val (.ref r3), .val (.int (2 : Int32))] [(.ref a41), (.ref b1)])) (fun t_ k_ => XS.goto X41.here hx rfl (pc0 := 35) (pc' := 40) rfl (hb hby own_d_prog_9_method_5_35) (by decide) (by decide) k_) ?_
  have Fz42 := (X35q.ext E41)
  have Fz43 := (F35q.ext E41)
  have Fz44 := (G35q.ext E41)
  have Fz45 := (H35q.ext E41)
  have Fz46 := (A35q.ext E41)
  have Nz47 : t41 ≠ b2 := (Ne.symm (ne41 b2 (CC41.safe A35q.lt (Safe.keep K35q (allS Fz37 (allS Fz36 all0)) R28.1 Fz36))).2)
  obtain ⟨cq48, kq48, q48a, q48b, q48c⟩ := isOf hZ e41 Fz42
  obtain ⟨_, _, ⟨T48, Lu48, ku48, nu48⟩, -, X48, ⟨Lc48, hQ48, lu48, yu48, zu48⟩, st48⟩ := X41.virtualBack hx (y := (⟨"java/lang/StringBuilder", "append", "(Ljava/lang/String;)Ljava/lang/StringBuilder;"⟩ : MethodName)) (z := (⟨"java/lang/StringBuilder", "append", "(Ljava/lang/String;)Ljava/lang/StringBuilder;"⟩ : MethodName)) hown (mvT hZ (hw _ (List.mem_of_getElem? (i := 46) rfl))) (mvT hZ (hw _ (List.mem_of_getElem? (i := 47) rfl))) (notFace_of_selects (args := #[]) (mvT hZ (hw _ (List.mem_of_getElem? (i := 49) rfl)))) (mvT hZ (hw _ (List.mem_of_getElem? (i := 49) rfl))) (mvT hZ (hw _ (List.mem_of_getElem? (i := 48) rfl))) (by decide) (backOf (W := 0) (rm_ap3 l Z a0 hw [] (b1) (b2) (kv2) (a41) (t41) (kb41) (a__VALUES) (a_OUT) (a_INP) (a_TAKE_COMPLETE) (a_OUT_text) (a_INP_text) (a_TAKE_COMPLETE_text) (a_OUT_text_value) (a_INP_text_value) (a_TAKE_COMPLETE_text_value) (k__VALUES) (k_OUT_text_value) (k_INP_text_value) (k_TAKE_COMPLETE_text_value) (cs0) h41 O41 w Fz42 Fz43 Fz44 Fz45 Fz46 ge_b1 u1_2 A41 V41 C41 B41 Nz47) hZ (hw _ (List.mem_of_getElem? (i := 50) rfl)) (hw _ (List.mem_of_getElem? (i := 6) rfl)) (by decide) (by decide)) q48a q48c (g := (mkF m 40 #[.val (.ref b1), .val (.ref r3), .val (.int (2 : Int32))] [(.ref a41), (.ref b1)])) rfl (by rw [hml]; rfl) (Steps.refl _) (argsL := [(.ref a41)]) (rest := []) (lenOf own_pd19 rfl) rfl (by show 2 * 0 + _ ≤ _; exact Nat.le_of_eq rfl) (hb hby own_d_prog_9_method_5_40) (fun _ _ => ⟨rfl, e41, (by decide : 7 + 0 ≤ _), (by decide : 55 + 0 ≤ _)⟩)
  dsimp only [Pt.U, Pt.locs, Pt.cells, Pt.slots] at X48 lu48 yu48 zu48 st48 hQ48
  subst lu48 yu48 zu48
  obtain ⟨b48, kv48, rfl, N48q, K48q, u1_48, rfl, rfl, X48q, F48q, G48q, H48q, A48q⟩ := hQ48
  have N48 := Fr.app N35 N48q
  have O48 := own_extK O41 K48q (allS ge_b1 (allS u1_2 all0))
  have KK48 : Keep h0 T48.heap [] := K41.trans K48q (allS (Or.inr sz_b1) (allS (Or.inr (Nat.le_trans K1.1 u2_2)) all0))
  have Fz49 := (CC41.safe A35q.lt (Safe.keep K35q (allS Fz37 (allS Fz36 all0)) R28.1 Fz36))
  have Fz50 := (CC41.safe X35q.lt (Safe.keep K35q (allS Fz37 (allS Fz36 all0)) R28.1 Fz37))
  have R48 := R41.trans (CHr.keep K48q (allS Fz50 (allS Fz49 all0)) R41.1)
  refine own_go (T48.setTop (mkF m 43 #[.val (.ref b1), .val (.ref r3), .val (.int (2 : Int32))] [(.ref b1)])) (fun t_ k_ => st48.trans k_) ?_
  refine own_go (T48.setTop (mkF m 44 #[.val (.ref b1), .val (.ref r3), .val (.int (2 : Int32))] [])) (fun t_ k_ => XS.pop X48.here hx rfl (hb hby own_d_prog_9_method_5_43) rfl rfl k_) ?_
  refine own_go (T48.setTop (mkF m 45 #[.val (.ref b1), .val (.ref r3), .val (.int (2 : Int32))] [(.ref b1)])) (fun t_ k_ => XS.aloadN X48.here hx rfl (hb hby own_d_prog_9_method_5_44) rfl rfl k_) ?_
  refine own_go (T48.setTop (mkF m 46 #[.val (.ref b1), .val (.ref r3), .val (.int (2 : Int32))] [(.ref r3), (.ref b1)])) (fun t_ k_ => XS.aloadN X48.here hx rfl (hb hby own_d_prog_9_method_5_45) rfl rfl k_) ?_
  refine own_go (T48.setTop (mkF m 47 #[.val (.ref b1), .val (.ref r3), .val (.int (2 : Int32))] [(.int (2 : Int32)), (.ref r3), (.ref b1)])) (fun t_ k_ => XS.iloadN X48.here hx rfl (hb hby own_d_prog_9_method_5_46) rfl k_) ?_
  have Fz52 := ((Fz39.ext E41).keep K48q (ninS (Ne.symm Nz18) (ninS (Ne.symm Nz17) nin0)))
  obtain ⟨cl51, Ar51, q51, Sz51, Nz51, Hz51, Gz51⟩ := id (Fz52)
  have hin51 : ¬ ((2 : Int32) < 0 ∨ cl51.slots.size ≤ ((2 : Int32)).toNatClampNeg) := inb_of Sz51 ⟨by decide, by decide⟩
  have hat51 : cl51.slots[((2 : Int32)).toNatClampNeg]? = some (.ref a_TAKE_COMPLETE) := Hz51.at hin51 rfl
  refine own_go (T48.setTop (mkF m 48 #[.val (.ref b1), .val (.ref r3), .val (.int (2 : Int32))] [(.ref a_TAKE_COMPLETE), (.ref b1)])) (fun t_ k_ => X48.aaload hx (j := (2 : Int32)) (v := (.ref a_TAKE_COMPLETE)) Ar51.1 (State.isArrayOf_alike hZ.alike Ar51.2.1) rfl Ar51.2.2 hin51 hat51 (g := (mkF m 47 #[.val (.ref b1), .val (.ref r3), .val (.int (2 : Int32))] [(.int (2 : Int32)), (.ref r3), (.ref b1)])) rfl rfl (hb hby own_d_prog_9_method_5_47) _ k_) ?_
  obtain ⟨T53, X53, e53, st53⟩ := getF X48 hx hZ hown (host := "") (Or.inl (hw _ (List.mem_of_getElem? (i := 44) rfl))) Via.refl rfl (F_TAKE_COMPLETE_text.ext O48) (g := (mkF m 48 #[.val (.ref b1), .val (.ref r3), .val (.int (2 : Int32))] [(.ref a_TAKE_COMPLETE), (.ref b1)])) rfl rfl (hb hby own_d_prog_9_method_5_48)
  refine own_go (T53.setTop (mkF m 51 #[.val (.ref b1), .val (.ref r3), .val (.int (2 : Int32))] [(.ref a_TAKE_COMPLETE_text), (.ref b1)])) (fun t_ k_ => st53 _ k_) ?_
  have Nz54 : a_TAKE_COMPLETE_text_value ≠ b2 := (Nat.ne_of_lt (Nat.lt_of_lt_of_le X_TAKE_COMPLETE_text_value.lt u1_2))
  obtain ⟨cq55, kq55, q55a, q55b, q55c⟩ := isOf hZ e53 X48q
  obtain ⟨_, _, ⟨T55, Lu55, ku55, nu55⟩, -, X55, ⟨Lc55, hQ55, lu55, yu55, zu55⟩, st55⟩ := X53.virtualBack hx (y := (⟨"java/lang/StringBuilder", "append", "(Ljava/lang/String;)Ljava/lang/StringBuilder;"⟩ : MethodName)) (z := (⟨"java/lang/StringBuilder", "append", "(Ljava/lang/String;)Ljava/lang/StringBuilder;"⟩ : MethodName)) hown (mvT hZ (hw _ (List.mem_of_getElem? (i := 46) rfl))) (mvT hZ (hw _ (List.mem_of_getElem? (i := 47) rfl))) (notFace_of_selects (args := #[]) (mvT hZ (hw _ (List.mem_of_getElem? (i := 49) rfl)))) (mvT hZ (hw _ (List.mem_of_getElem? (i := 49) rfl))) (mvT hZ (hw _ (List.mem_of_getElem? (i := 48) rfl))) (by decide) (backOf (W := 0) (rm_ap4 l Z a0 hw [] (b1) (b2) (kv2) (a_TAKE_COMPLETE_text) (a_TAKE_COMPLETE_text_value) (k_TAKE_COMPLETE_text_value) (a__VALUES) (a_OUT) (a_INP) (a_TAKE_COMPLETE) (a_OUT_text) (a_INP_text) (a_TAKE_COMPLETE_text) (a_OUT_text_value) (a_INP_text_value) (a_TAKE_COMPLETE_text_value) (k__VALUES) (k_OUT_text_value) (k_INP_text_value) (k_TAKE_COMPLETE_text_value) (cs0) T48.heap O48 w X48q F48q G48q H48q A48q ge_b1 u1_2 (X_TAKE_COMPLETE_text.ext O48) (F_TAKE_COMPLETE_text_value.ext O48) (F_TAKE_COMPLETE_text_coder.ext O48) (V_TAKE_COMPLETE_text_value.ext O48) Nz54) hZ (hw _ (List.mem_of_getElem? (i := 50) rfl)) (hw _ (List.mem_of_getElem? (i := 6) rfl)) (by decide) (by decide)) q55a q55c (g := (mkF m 51 #[.val (.ref b1), .val (.ref r3), .val (.int (2 : Int32))] [(.ref a_TAKE_COMPLETE_text), (.ref b1)])) rfl (by rw [hml]; rfl) (Steps.refl _) (argsL := [(.ref a_TAKE_COMPLETE_text)]) (rest := []) (lenOf own_pd19 rfl) rfl (by show 2 * 0 + _ ≤ _; exact Nat.le_of_eq rfl) (hb hby own_d_prog_9_method_5_51) (fun _ _ => ⟨rfl, e53, (by decide : 7 + 1 ≤ _), (by decide : 55 + 34 ≤ _)⟩)
  dsimp only [Pt.U, Pt.locs, Pt.cells, Pt.slots] at X55 lu55 yu55 zu55 st55 hQ55
  subst lu55 yu55 zu55
  obtain ⟨b55, kv55, rfl, N55q, K55q, u1_55, u2_55, X55q, F55q, G55q, H55q, A55q⟩ := hQ55
  have N55 := Fr.app N48 N55q
  have Sn55 := own_snew R48.1 u2_55
  have O55 := own_extK O48 K55q (allS ge_b1 all0)
  have KK55 : Keep h0 T55.heap [] := KK48.trans K55q (allS (Or.inr sz_b1) all0)
  have Fz56 := (Safe.keep K48q (allS Fz50 (allS Fz49 all0)) R41.1 Fz50)
  have R55 := R48.trans (CHr.keep K55q (allS Fz56 all0) R48.1)
  refine own_go (T55.setTop (mkF m 54 #[.val (.ref b1), .val (.ref r3), .val (.int (2 : Int32))] [(.ref b1)])) (fun t_ k_ => st55.trans k_) ?_
  refine own_go (T55.setTop (mkF m 55 #[.val (.ref b1), .val (.ref r3), .val (.int (2 : Int32))] [])) (fun t_ k_ => XS.pop X55.here hx rfl (hb hby own_d_prog_9_method_5_54) rfl rfl k_) ?_
  refine own_go (T55.setTop (mkF m 58 #[.val (.ref b1), .val (.ref r3), .val (.int ((2 : Int32) + (1 : Int32)))] [])) (fun t_ k_ => XS.iinc X55.here hx rfl (hb hby own_d_prog_9_method_5_55) rfl (l' := #[.val (.ref b1), .val (.ref r3), .val (.int ((2 : Int32) + (1 : Int32)))]) rfl k_) ?_
  rw [show ((2 : Int32) + (1 : Int32)) = (3 : Int32) from by decide]
  refine own_go (T55.setTop (mkF m 14 #[.val (.ref b1), .val (.ref r3), .val (.int (3 : Int32))] [])) (fun t_ k_ => XS.goto X55.here hx rfl (pc0 := 58) (pc' := 14) rfl (hb hby own_d_prog_9_method_5_58) (by decide) (by decide) k_) ?_
  refine own_go (T55.setTop (mkF m 15 #[.val (.ref b1), .val (.ref r3), .val (.int (3 : Int32))] [(.int (3 : Int32))])) (fun t_ k_ => XS.iloadN X55.here hx rfl (hb hby own_d_prog_9_method_5_14) rfl k_) ?_
  refine own_go (T55.setTop (mkF m 16 #[.val (.ref b1), .val (.ref r3), .val (.int (3 : Int32))] [(.ref r3), (.int (3 : Int32))])) (fun t_ k_ => XS.aloadN X55.here hx rfl (hb hby own_d_prog_9_method_5_15) rfl rfl k_) ?_
  have Fz58 := (Fz52.keep K55q (ninS (Ne.symm Nz18) nin0))
  obtain ⟨cl57, Ar57, q57, Sz57, Nz57, Hz57, Gz57⟩ := id (Fz58)
  refine own_go (T55.setTop (mkF m 17 #[.val (.ref b1), .val (.ref r3), .val (.int (3 : Int32))] [(.int (3 : Int32)), (.int (3 : Int32))])) (fun t_ k_ => X55.arraylength hx Ar57.1 (State.isArrayOf_alike hZ.alike Ar57.2.1) (g := (mkF m 16 #[.val (.ref b1), .val (.ref r3), .val (.int (3 : Int32))] [(.ref r3), (.int (3 : Int32))])) rfl rfl (hb hby own_d_prog_9_method_5_16) _ (by rw [len_of Sz57 Nz57]; exact k_)) ?_
  refine own_go (T55.setTop (mkF m 61 #[.val (.ref b1), .val (.ref r3), .val (.int (3 : Int32))] [])) (fun t_ k_ => XS.icmpYes X55.here hx rfl (pc0 := 17) (pc' := 61) rfl (hb hby own_d_prog_9_method_5_17) rfl (flt (by decide : ¬ ((3 : Int32) < (3 : Int32)))).2.1 (by decide) (by decide) k_) ?_
  refine own_go (T55.setTop (mkF m 62 #[.val (.ref b1), .val (.ref r3), .val (.int (3 : Int32))] [(.ref b1)])) (fun t_ k_ => XS.aloadN X55.here hx rfl (hb hby own_d_prog_9_method_5_61) rfl rfl k_) ?_
  obtain ⟨cq59, kq59, q59a, q59b, q59c⟩ := isOf hZ rfl X55q
  obtain ⟨_, _, ⟨T59, Lu59, ku59, nu59⟩, -, X59, ⟨Lc59, hQ59, lu59, yu59, zu59⟩, st59⟩ := X55.virtualBack hx (y := (⟨"java/lang/StringBuilder", "toString", "()Ljava/lang/String;"⟩ : MethodName)) (z := (⟨"java/lang/StringBuilder", "toString", "()Ljava/lang/String;"⟩ : MethodName)) hown (mvT hZ (hw _ (List.mem_of_getElem? (i := 126) rfl))) (mvT hZ (hw _ (List.mem_of_getElem? (i := 127) rfl))) (notFace_of_selects (args := #[]) (mvT hZ (hw _ (List.mem_of_getElem? (i := 129) rfl)))) (mvT hZ (hw _ (List.mem_of_getElem? (i := 129) rfl))) (mvT hZ (hw _ (List.mem_of_getElem? (i := 128) rfl))) (by decide) (backOf (W := 0) (rm_ts l Z a0 hw [] (b1) (b55) (kv55) (a__VALUES) (a_OUT) (a_INP) (a_TAKE_COMPLETE) (a_OUT_text) (a_INP_text) (a_TAKE_COMPLETE_text) (a_OUT_text_value) (a_INP_text_value) (a_TAKE_COMPLETE_text_value) (k__VALUES) (k_OUT_text_value) (k_INP_text_value) (k_TAKE_COMPLETE_text_value) (cs0) T55.heap O55 w X55q F55q G55q H55q A55q) hZ (hw _ (List.mem_of_getElem? (i := 130) rfl)) (hw _ (List.mem_of_getElem? (i := 6) rfl)) (by decide) (by decide)) q59a q59c (g := (mkF m 62 #[.val (.ref b1), .val (.ref r3), .val (.int (3 : Int32))] [(.ref b1)])) rfl (by rw [hml]; rfl) (Steps.refl _) (argsL := []) (rest := []) (lenOf own_pd20 rfl) rfl (by show 2 * 0 + _ ≤ _; exact Nat.le_of_eq rfl) (hb hby own_d_prog_9_method_5_62) (fun _ _ => ⟨rfl, rfl, (by decide : 8 + 2 ≤ _), (by decide : 89 + 29 ≤ _)⟩)
  dsimp only [Pt.U, Pt.locs, Pt.cells, Pt.slots] at X59 lu59 yu59 zu59 st59 hQ59
  subst lu59 yu59 zu59
  obtain ⟨o59, r59, kr59, rfl, N59q, K59q, X59q, F59q, G59q, A59q⟩ := hQ59
  have N59 := Fr.app N55 N59q
  have O59 := own_extK O55 K59q all0
  have KK59 : Keep h0 T59.heap [] := KK55.trans K59q all0
  have R59 := R55.trans (CHr.keep K59q all0 R55.1)
  refine own_go (T59.setTop (mkF m 65 #[.val (.ref b1), .val (.ref r3), .val (.int (3 : Int32))] [(.ref o59)])) (fun t_ k_ => st59.trans k_) ?_
  obtain ⟨fs, hr, hrun, hended, hRW⟩ := X59.leaveW hS (by rw [show T59.heap = T59.heap from rfl]; exact (Nat.le_trans (Nat.le_trans (Nat.le_trans hk K48q.1) K55q.1) K59q.1)) (v := some (.ref o59)) (fun h => by rw [Bd.returns] at h; cases h)
  refine ⟨_, _, Jvm.RoadKit.retOut X59 hx Bd.returns rfl (Or.inr (Or.inr (Or.inr (Or.inr ⟨rfl, rfl, rfl⟩)))) (hb hby own_d_prog_9_method_5_65) hr, hrun, hended, _, _, rfl, ?_, (by rw [hh]; show CHr Z consts_1 s.vm h0 T59.vm T59.heap; rw [show T59.heap = T59.heap from rfl]; exact R59.trans (CHv.at X59 hZ hEW R59.1)), hRW.1, hRW.2.1, hRW.2.2.1, hRW.2.2.2.mono (by decide) (by decide)⟩
  show Q_names Z a__VALUES a_OUT a_INP a_TAKE_COMPLETE a_OUT_text a_INP_text a_TAKE_COMPLETE_text a_OUT_text_value a_INP_text_value a_TAKE_COMPLETE_text_value k__VALUES k_OUT_text_value k_INP_text_value k_TAKE_COMPLETE_text_value cs0 h0 _ T59.heap _
  exact ⟨_, _, _, rfl, N59, KK59, X59q, F59q, G59q, A59q⟩
theorem own_ef_lnl (m : MethodId) (o : Addr) : entryFrame m #[(.ref o)] 1 = mkF m 0 #[.val (.ref o)] [] := by first | (simp [entryFrame, mkF, argsToLocals, Value.category]; done) | rfl
def Q_lnl (Z : State) (o : Addr) (t1 : Addr) (kb : ClassId) (a__VALUES : Addr) (a_OUT : Addr) (a_INP : Addr) (a_TAKE_COMPLETE : Addr) (a_OUT_text : Addr) (a_INP_text : Addr) (a_TAKE_COMPLETE_text : Addr) (a_OUT_text_value : Addr) (a_INP_text_value : Addr) (a_TAKE_COMPLETE_text_value : Addr) (k__VALUES : ClassId) (k_OUT_text_value : ClassId) (k_INP_text_value : ClassId) (k_TAKE_COMPLETE_text_value : ClassId) (cs0 : Int32) (h0 : Heap) (v_ : Option Value) (h : Heap) (L_ : List Loc) : Prop := v_ = some (.int 25) ∧ Fr Z.heap.size L_ ∧ (h = h0)
set_option maxRecDepth 65536 in
set_option maxHeartbeats 40000000 in
theorem rm_lnl (l : Launch) (Z : State) (a0 : Array Value) (hw : ∀ d ∈ tables_1, d.before a0 Z = true) (ws : List Jvm.Cond) (o : Addr) (t1 : Addr) (kb : ClassId) (a__VALUES : Addr) (a_OUT : Addr) (a_INP : Addr) (a_TAKE_COMPLETE : Addr) (a_OUT_text : Addr) (a_INP_text : Addr) (a_TAKE_COMPLETE_text : Addr) (a_OUT_text_value : Addr) (a_INP_text_value : Addr) (a_TAKE_COMPLETE_text_value : Addr) (k__VALUES : ClassId) (k_OUT_text_value : ClassId) (k_INP_text_value : ClassId) (k_TAKE_COMPLETE_text_value : ClassId) (cs0 : Int32) (h0 : Heap) (O : Ext Z.heap h0) (w : own_W Z a__VALUES a_OUT a_INP a_TAKE_COMPLETE a_OUT_text a_INP_text a_TAKE_COMPLETE_text a_OUT_text_value a_INP_text_value a_TAKE_COMPLETE_text_value k__VALUES k_OUT_text_value k_INP_text_value k_TAKE_COMPLETE_text_value cs0) (Xo : Exa Z h0 o "java/lang/String") (Vo : Fld Z h0 o "java/lang/String" "value" "[B" (.ref t1)) (Co : Fld Z h0 o "java/lang/String" "coder" "B" (.int 0)) (Ao : Arv Z h0 t1 kb .byte 25 [(.int (111 : Int32)), (.int (117 : Int32)), (.int (116 : Int32)), (.int (44 : Int32)), (.int (32 : Int32)), (.int (105 : Int32)), (.int (110 : Int32)), (.int (112 : Int32)), (.int (32 : Int32)), (.int (111 : Int32)), (.int (114 : Int32)), (.int (32 : Int32)), (.int (116 : Int32)), (.int (97 : Int32)), (.int (107 : Int32)), (.int (101 : Int32)), (.int (45 : Int32)), (.int (99 : Int32)), (.int (111 : Int32)), (.int (109 : Int32)), (.int (112 : Int32)), (.int (108 : Int32)), (.int (101 : Int32)), (.int (116 : Int32)), (.int (101 : Int32))] (.int 0)) :
    MetFree l (⟨"java/lang/String", "length", "()I"⟩ : MethodName) (head1 (Jvm.Cond.code (⟨"java/lang/String", "length", "()I"⟩ : MethodName) jdk_42_method_54_code 1 (some .int) :: ws) ({ frames := 1, cells := 0, slots := 0, locals := 13 } : Room)) (fun a_ U_ => a_ = #[(.ref o)] ∧ Z.Warmed39 U_.vm ∧ U_.heap = h0) (fun _ _ _ _ _ => True) (fun _ U_ o_ U2_ => ∃ v_ L_, o_ = .returned v_ ∧ Q_lnl Z o t1 kb a__VALUES a_OUT a_INP a_TAKE_COMPLETE a_OUT_text a_INP_text a_TAKE_COMPLETE_text a_OUT_text_value a_INP_text_value a_TAKE_COMPLETE_text_value k__VALUES k_OUT_text_value k_INP_text_value k_TAKE_COMPLETE_text_value cs0 h0 v_ U2_.heap L_ ∧ FrameEnd U_ o_ U2_ L_ ({ frames := 1, cells := 0, slots := 0, locals := 13 } : Room).cells ({ frames := 1, cells := 0, slots := 0, locals := 13 } : Room).slots) := by
  refine MetFree.of_bodySF (plainFor_of_name own_pn0) hisR ?_
  intro p e s m args below meth c s₁ Bd hml0 hP hK
  obtain ⟨rfl, hZ, hh⟩ := hP
  have hx := Bd.exec
  have hby := Bd.bytes
  have hml : c.maxLocals = 1 := hml0
  have hown : s.vm.findClass "java/lang/String" = some m.cls := findClass_of_methodNamed Bd.named
  have hnm := (name_of_methodNamed Bd.named Bd.method).1
  have X0 : Stand p l e ({ frames := 1, cells := 0, slots := 0, locals := 13 } : Room) s m #[(.ref o)] below meth c s₁ [] 0 0 := Stand.of_body Bd
  have e0 : s₁.heap = h0 := by rw [← hh, Bd.state]; rfl
  have N0 := Fr.nil Z.heap.size
  show own_G p e below (fun o_ s₂ => ∃ v_ L_, o_ = .returned v_ ∧ Q_lnl Z o t1 kb a__VALUES a_OUT a_INP a_TAKE_COMPLETE a_OUT_text a_INP_text a_TAKE_COMPLETE_text a_OUT_text_value a_INP_text_value a_TAKE_COMPLETE_text_value k__VALUES k_OUT_text_value k_INP_text_value k_TAKE_COMPLETE_text_value cs0 h0 v_ s₂.heap L_ ∧ FrameEnd s o_ s₂ L_ ({ frames := 1, cells := 0, slots := 0, locals := 13 } : Room).cells ({ frames := 1, cells := 0, slots := 0, locals := 13 } : Room).slots) (s₁.setTop (entryFrame m #[(.ref o)] 1))
  refine own_go (s₁.setTop (mkF m 0 #[.val (.ref o)] [])) (fun t_ k_ => castTop (own_ef_lnl m o) k_) ?_
  have w' := w
  obtain ⟨S__VALUES, X__VALUES, S_OUT, X_OUT, S_INP, X_INP, S_TAKE_COMPLETE, X_TAKE_COMPLETE, F_OUT_text, X_OUT_text, F_INP_text, X_INP_text, F_TAKE_COMPLETE_text, X_TAKE_COMPLETE_text, F_OUT_text_value, X_OUT_text_value, F_INP_text_value, X_INP_text_value, F_TAKE_COMPLETE_text_value, X_TAKE_COMPLETE_text_value, F_OUT_text_coder, F_INP_text_coder, F_TAKE_COMPLETE_text_coder, V__VALUES, V_OUT_text_value, V_INP_text_value, V_TAKE_COMPLETE_text_value, S_CS, n_CS⟩ := w'
  refine own_go (s₁.setTop (mkF m 1 #[.val (.ref o)] [(.ref o)])) (fun t_ k_ => XS.aloadN X0.here hx rfl (hb hby own_d_jdk_42_method_54_0) rfl rfl k_) ?_
  obtain ⟨T1, X1, e1, st1⟩ := getF X0 hx hZ hown (host := "") (Or.inl (hw _ (List.mem_of_getElem? (i := 61) rfl))) Via.refl e0 Vo (g := (mkF m 1 #[.val (.ref o)] [(.ref o)])) rfl rfl (hb hby own_d_jdk_42_method_54_1)
  refine own_go (T1.setTop (mkF m 4 #[.val (.ref o)] [(.ref t1)])) (fun t_ k_ => st1 _ k_) ?_
  obtain ⟨cl2, Ar2, q2, Sz2, Nz2, Hz2, Gz2⟩ := id (Ao)
  refine own_go (T1.setTop (mkF m 5 #[.val (.ref o)] [(.int (25 : Int32))])) (fun t_ k_ => X1.arraylength hx (by rw [e1]; exact Ar2.1) (State.isArrayOf_alike hZ.alike Ar2.2.1) (g := (mkF m 4 #[.val (.ref o)] [(.ref t1)])) rfl rfl (hb hby own_d_jdk_42_method_54_4) _ (by rw [len_of Sz2 Nz2]; exact k_)) ?_
  refine own_go (T1.setTop (mkF m 6 #[.val (.ref o)] [(.ref o), (.int (25 : Int32))])) (fun t_ k_ => XS.aloadN X1.here hx rfl (hb hby own_d_jdk_42_method_54_5) rfl rfl k_) ?_
  obtain ⟨cq3, kq3, q3a, q3b, q3c⟩ := isOf hZ e1 Xo
  obtain ⟨_, _, ⟨T3, Lu3, ku3, nu3⟩, -, X3, ⟨Lc3, hQ3, lu3, yu3, zu3⟩, st3⟩ := X1.virtualBack hx (y := (⟨"java/lang/String", "coder", "()B"⟩ : MethodName)) (z := (⟨"java/lang/String", "coder", "()B"⟩ : MethodName)) hown (mvT hZ (hw _ (List.mem_of_getElem? (i := 63) rfl))) (mvT hZ (hw _ (List.mem_of_getElem? (i := 64) rfl))) (notFace_of_selects (args := #[]) (mvT hZ (hw _ (List.mem_of_getElem? (i := 66) rfl)))) (mvT hZ (hw _ (List.mem_of_getElem? (i := 66) rfl))) (mvT hZ (hw _ (List.mem_of_getElem? (i := 65) rfl))) (by decide) (backOf (W := 1) (rm_cdr l Z a0 hw [] (o) (a__VALUES) (a_OUT) (a_INP) (a_TAKE_COMPLETE) (a_OUT_text) (a_INP_text) (a_TAKE_COMPLETE_text) (a_OUT_text_value) (a_INP_text_value) (a_TAKE_COMPLETE_text_value) (k__VALUES) (k_OUT_text_value) (k_INP_text_value) (k_TAKE_COMPLETE_text_value) (cs0) h0 O w Co) hZ (hw _ (List.mem_of_getElem? (i := 67) rfl)) (hw _ (List.mem_of_getElem? (i := 20) rfl)) (by decide) (by decide)) q3a q3c (g := (mkF m 6 #[.val (.ref o)] [(.ref o), (.int (25 : Int32))])) rfl (by rw [hml]; rfl) (Steps.refl _) (argsL := []) (rest := [(.int (25 : Int32))]) (lenOf own_pd3 rfl) rfl (by show 2 * 0 + _ ≤ _; exact Nat.le_of_eq rfl) (hb hby own_d_jdk_42_method_54_6) (fun _ _ => ⟨rfl, e1, (by decide : 0 + 0 ≤ _), (by decide : 0 + 0 ≤ _)⟩)
  dsimp only [Pt.U, Pt.locs, Pt.cells, Pt.slots] at X3 lu3 yu3 zu3 st3 hQ3
  subst lu3 yu3 zu3
  obtain ⟨rfl, N3q, e3⟩ := hQ3
  have N3 := Fr.app N0 N3q
  refine own_go (T3.setTop (mkF m 9 #[.val (.ref o)] [(.int (0 : Int32)), (.int (25 : Int32))])) (fun t_ k_ => st3.trans k_) ?_
  refine own_go (T3.setTop (mkF m 10 #[.val (.ref o)] [(.int ((25 : Int32) >>> ((0 : Int32) &&& 31)))])) (fun t_ k_ => XS.ishr X3.here hx rfl (hb hby own_d_jdk_42_method_54_9) rfl k_) ?_
  rw [show ((25 : Int32) >>> ((0 : Int32) &&& 31)) = (25 : Int32) from by decide]
  obtain ⟨fs, hr, hrun, hended, hW, hsame⟩ := X3.leave (v := some (.int (25 : Int32))) (fun h => by rw [Bd.returns] at h; cases h)
  refine ⟨_, _, retI X3 hx Bd.returns (hb hby own_d_jdk_42_method_54_10) hr, hrun, hended, _, _, rfl, ?_, ⟨_, rfl⟩, hW, hsame.mono (by decide) (by decide)⟩
  show Q_lnl Z o t1 kb a__VALUES a_OUT a_INP a_TAKE_COMPLETE a_OUT_text a_INP_text a_TAKE_COMPLETE_text a_OUT_text_value a_INP_text_value a_TAKE_COMPLETE_text_value k__VALUES k_OUT_text_value k_INP_text_value k_TAKE_COMPLETE_text_value cs0 h0 _ T3.heap _
  exact ⟨rfl, N3, e3⟩
theorem own_pn6 : plainName "java/lang/StringLatin1" = true := by first | (simp [plainName, overriddenIn]; done) | decide +kernel
theorem own_ef_le (m : MethodId) (t1 : Addr) (t2 : Addr) : entryFrame m #[(.ref t1), (.ref t2)] 3 = mkF m 0 #[.val (.ref t1), .val (.ref t2), .unset] [] := by first | (simp [entryFrame, mkF, argsToLocals, Value.category]; done) | rfl
theorem own_d_jdk_43_method_13_0 : decode jdk_43_method_13_code 0 = .ok (.aload_n 0, 1) := by decide +kernel
theorem own_d_jdk_43_method_13_1 : decode jdk_43_method_13_code 1 = .ok (.arraylength, 1) := by decide +kernel
theorem own_d_jdk_43_method_13_2 : decode jdk_43_method_13_code 2 = .ok (.aload_n 1, 1) := by decide +kernel
theorem own_d_jdk_43_method_13_3 : decode jdk_43_method_13_code 3 = .ok (.arraylength, 1) := by decide +kernel
theorem own_d_jdk_43_method_13_4 : decode jdk_43_method_13_code 4 = .ok (.if_icmp .ne 30, 3) := by decide +kernel
theorem own_d_jdk_43_method_13_7 : decode jdk_43_method_13_code 7 = .ok (.iconst 0, 1) := by decide +kernel
theorem own_d_jdk_43_method_13_8 : decode jdk_43_method_13_code 8 = .ok (.istore_n 2, 1) := by decide +kernel
theorem own_d_jdk_43_method_13_9 : decode jdk_43_method_13_code 9 = .ok (.iload_n 2, 1) := by decide +kernel
theorem own_d_jdk_43_method_13_10 : decode jdk_43_method_13_code 10 = .ok (.aload_n 0, 1) := by decide +kernel
theorem own_d_jdk_43_method_13_11 : decode jdk_43_method_13_code 11 = .ok (.arraylength, 1) := by decide +kernel
theorem own_d_jdk_43_method_13_12 : decode jdk_43_method_13_code 12 = .ok (.if_icmp .ge 20, 3) := by decide +kernel
theorem own_d_jdk_43_method_13_15 : decode jdk_43_method_13_code 15 = .ok (.aload_n 0, 1) := by decide +kernel
theorem own_d_jdk_43_method_13_16 : decode jdk_43_method_13_code 16 = .ok (.iload_n 2, 1) := by decide +kernel
theorem own_d_jdk_43_method_13_17 : decode jdk_43_method_13_code 17 = .ok (.baload, 1) := by decide +kernel
theorem own_d_jdk_43_method_13_18 : decode jdk_43_method_13_code 18 = .ok (.aload_n 1, 1) := by decide +kernel
theorem own_d_jdk_43_method_13_19 : decode jdk_43_method_13_code 19 = .ok (.iload_n 2, 1) := by decide +kernel
theorem own_d_jdk_43_method_13_20 : decode jdk_43_method_13_code 20 = .ok (.baload, 1) := by decide +kernel
theorem own_d_jdk_43_method_13_21 : decode jdk_43_method_13_code 21 = .ok (.if_icmp .eq 5, 3) := by decide +kernel
theorem own_d_jdk_43_method_13_26 : decode jdk_43_method_13_code 26 = .ok (.iinc 2 1, 3) := by decide +kernel
theorem own_d_jdk_43_method_13_29 : decode jdk_43_method_13_code 29 = .ok (.goto (-20), 3) := by decide +kernel
theorem own_d_jdk_43_method_13_32 : decode jdk_43_method_13_code 32 = .ok (.iconst 1, 1) := by decide +kernel
theorem own_d_jdk_43_method_13_33 : decode jdk_43_method_13_code 33 = .ok (.ireturn, 1) := by decide +kernel
def Q_le (Z : State) (t1 : Addr) (kb : ClassId) (t2 : Addr) (k2 : ClassId) (h0 : Heap) (v_ : Option Value) (h : Heap) (L_ : List Loc) : Prop := v_ = some (.int 1) ∧ Fr Z.heap.size L_ ∧ (h = h0)
set_option maxRecDepth 65536 in
set_option maxHeartbeats 40000000 in
theorem rm_le (l : Launch) (Z : State) (a0 : Array Value) (hw : ∀ d ∈ tables_1, d.before a0 Z = true) (ws : List Jvm.Cond) (t1 : Addr) (kb : ClassId) (t2 : Addr) (k2 : ClassId) (h0 : Heap) (O : Ext Z.heap h0) (A1 : Arv Z h0 t1 kb .byte 25 [(.int (111 : Int32)), (.int (117 : Int32)), (.int (116 : Int32)), (.int (44 : Int32)), (.int (32 : Int32)), (.int (105 : Int32)), (.int (110 : Int32)), (.int (112 : Int32)), (.int (32 : Int32)), (.int (111 : Int32)), (.int (114 : Int32)), (.int (32 : Int32)), (.int (116 : Int32)), (.int (97 : Int32)), (.int (107 : Int32)), (.int (101 : Int32)), (.int (45 : Int32)), (.int (99 : Int32)), (.int (111 : Int32)), (.int (109 : Int32)), (.int (112 : Int32)), (.int (108 : Int32)), (.int (101 : Int32)), (.int (116 : Int32)), (.int (101 : Int32))] (.int 0)) (A2 : Arv Z h0 t2 k2 .byte 25 [(.int (111 : Int32)), (.int (117 : Int32)), (.int (116 : Int32)), (.int (44 : Int32)), (.int (32 : Int32)), (.int (105 : Int32)), (.int (110 : Int32)), (.int (112 : Int32)), (.int (32 : Int32)), (.int (111 : Int32)), (.int (114 : Int32)), (.int (32 : Int32)), (.int (116 : Int32)), (.int (97 : Int32)), (.int (107 : Int32)), (.int (101 : Int32)), (.int (45 : Int32)), (.int (99 : Int32)), (.int (111 : Int32)), (.int (109 : Int32)), (.int (112 : Int32)), (.int (108 : Int32)), (.int (101 : Int32)), (.int (116 : Int32)), (.int (101 : Int32))] (.int 0)) :
    MetFree l (⟨"java/lang/StringLatin1", "equals", "([B[B)Z"⟩ : MethodName) (head1 (Jvm.Cond.code (⟨"java/lang/StringLatin1", "equals", "([B[B)Z"⟩ : MethodName) jdk_43_method_13_code 3 (some .boolean) :: ws) ({ frames := 0, cells := 0, slots := 0, locals := 0 } : Room)) (fun a_ U_ => a_ = #[(.ref t1), (.ref t2)] ∧ Z.Warmed39 U_.vm ∧ U_.heap = h0) (fun _ _ _ _ _ => True) (fun _ U_ o_ U2_ => ∃ v_ L_, o_ = .returned v_ ∧ Q_le Z t1 kb t2 k2 h0 v_ U2_.heap L_ ∧ FrameEnd U_ o_ U2_ L_ ({ frames := 0, cells := 0, slots := 0, locals := 0 } : Room).cells ({ frames := 0, cells := 0, slots := 0, locals := 0 } : Room).slots) := by
  refine MetFree.of_bodySF (plainFor_of_name own_pn6) hisR ?_
  intro p e s m args below meth c s₁ Bd hml0 hP hK
  obtain ⟨rfl, hZ, hh⟩ := hP
  have hx := Bd.exec
  have hby := Bd.bytes
  have hml : c.maxLocals = 3 := hml0
  have hown : s.vm.findClass "java/lang/StringLatin1" = some m.cls := findClass_of_methodNamed Bd.named
  have hnm := (name_of_methodNamed Bd.named Bd.method).1
  have X0 : Stand p l e ({ frames := 0, cells := 0, slots := 0, locals := 0 } : Room) s m #[(.ref t1), (.ref t2)] below meth c s₁ [] 0 0 := Stand.of_body Bd
  have e0 : s₁.heap = h0 := by rw [← hh, Bd.state]; rfl
  have N0 := Fr.nil Z.heap.size
  show own_G p e below (fun o_ s₂ => ∃ v_ L_, o_ = .returned v_ ∧ Q_le Z t1 kb t2 k2 h0 v_ s₂.heap L_ ∧ FrameEnd s o_ s₂ L_ ({ frames := 0, cells := 0, slots := 0, locals := 0 } : Room).cells ({ frames := 0, cells := 0, slots := 0, locals := 0 } : Room).slots) (s₁.setTop (entryFrame m #[(.ref t1), (.ref t2)] 3))
  refine own_go (s₁.setTop (mkF m 0 #[.val (.ref t1), .val (.ref t2), .unset] [])) (fun t_ k_ => castTop (own_ef_le m t1 t2) k_) ?_
  refine own_go (s₁.setTop (mkF m 1 #[.val (.ref t1), .val (.ref t2), .unset] [(.ref t1)])) (fun t_ k_ => XS.aloadN X0.here hx rfl (hb hby own_d_jdk_43_method_13_0) rfl rfl k_) ?_
  obtain ⟨cl1, Ar1, q1, Sz1, Nz1, Hz1, Gz1⟩ := id (A1)
  refine own_go (s₁.setTop (mkF m 2 #[.val (.ref t1), .val (.ref t2), .unset] [(.int (25 : Int32))])) (fun t_ k_ => X0.arraylength hx (by rw [e0]; exact Ar1.1) (State.isArrayOf_alike hZ.alike Ar1.2.1) (g := (mkF m 1 #[.val (.ref t1), .val (.ref t2), .unset] [(.ref t1)])) rfl rfl (hb hby own_d_jdk_43_method_13_1) _ (by rw [len_of Sz1 Nz1]; exact k_)) ?_
  refine own_go (s₁.setTop (mkF m 3 #[.val (.ref t1), .val (.ref t2), .unset] [(.ref t2), (.int (25 : Int32))])) (fun t_ k_ => XS.aloadN X0.here hx rfl (hb hby own_d_jdk_43_method_13_2) rfl rfl k_) ?_
  obtain ⟨cl2, Ar2, q2, Sz2, Nz2, Hz2, Gz2⟩ := id (A2)
  refine own_go (s₁.setTop (mkF m 4 #[.val (.ref t1), .val (.ref t2), .unset] [(.int (25 : Int32)), (.int (25 : Int32))])) (fun t_ k_ => X0.arraylength hx (by rw [e0]; exact Ar2.1) (State.isArrayOf_alike hZ.alike Ar2.2.1) (g := (mkF m 3 #[.val (.ref t1), .val (.ref t2), .unset] [(.ref t2), (.int (25 : Int32))])) rfl rfl (hb hby own_d_jdk_43_method_13_3) _ (by rw [len_of Sz2 Nz2]; exact k_)) ?_
  refine own_go (s₁.setTop (mkF m 7 #[.val (.ref t1), .val (.ref t2), .unset] [])) (fun t_ k_ => XS.icmpNo X0.here hx rfl (hb hby own_d_jdk_43_method_13_4) rfl (teq (by decide : (25 : Int32) = (25 : Int32))).2 k_) ?_
  refine own_go (s₁.setTop (mkF m 8 #[.val (.ref t1), .val (.ref t2), .unset] [(.int (0 : Int32))])) (fun t_ k_ => XS.iconst X0.here hx rfl (hb hby own_d_jdk_43_method_13_7) k_) ?_
  refine own_go (s₁.setTop (mkF m 9 #[.val (.ref t1), .val (.ref t2), .val (.int (0 : Int32))] [])) (fun t_ k_ => XS.istoreN X0.here hx rfl (hb hby own_d_jdk_43_method_13_8) rfl (l' := #[.val (.ref t1), .val (.ref t2), .val (.int (0 : Int32))]) rfl k_) ?_
  refine own_go (s₁.setTop (mkF m 10 #[.val (.ref t1), .val (.ref t2), .val (.int (0 : Int32))] [(.int (0 : Int32))])) (fun t_ k_ => XS.iloadN X0.here hx rfl (hb hby own_d_jdk_43_method_13_9) rfl k_) ?_
  refine own_go (s₁.setTop (mkF m 11 #[.val (.ref t1), .val (.ref t2), .val (.int (0 : Int32))] [(.ref t1), (.int (0 : Int32))])) (fun t_ k_ => XS.aloadN X0.here hx rfl (hb hby own_d_jdk_43_method_13_10) rfl rfl k_) ?_
  obtain ⟨cl3, Ar3, q3, Sz3, Nz3, Hz3, Gz3⟩ := id (A1)
  refine own_go (s₁.setTop (mkF m 12 #[.val (.ref t1), .val (.ref t2), .val (.int (0 : Int32))] [(.int (25 : Int32)), (.int (0 : Int32))])) (fun t_ k_ => X0.arraylength hx (by rw [e0]; exact Ar3.1) (State.isArrayOf_alike hZ.alike Ar3.2.1) (g := (mkF m 11 #[.val (.ref t1), .val (.ref t2), .val (.int (0 : Int32))] [(.ref t1), (.int (0 : Int32))])) rfl rfl (hb hby own_d_jdk_43_method_13_11) _ (by rw [len_of Sz3 Nz3]; exact k_)) ?_
  refine own_go (s₁.setTop (mkF m 15 #[.val (.ref t1), .val (.ref t2), .val (.int (0 : Int32))] [])) (fun t_ k_ => XS.icmpNo X0.here hx rfl (hb hby own_d_jdk_43_method_13_12) rfl (tlt (by decide : (0 : Int32) < (25 : Int32))).2.1 k_) ?_
  refine own_go (s₁.setTop (mkF m 16 #[.val (.ref t1), .val (.ref t2), .val (.int (0 : Int32))] [(.ref t1)])) (fun t_ k_ => XS.aloadN X0.here hx rfl (hb hby own_d_jdk_43_method_13_15) rfl rfl k_) ?_
  refine own_go (s₁.setTop (mkF m 17 #[.val (.ref t1), .val (.ref t2), .val (.int (0 : Int32))] [(.int (0 : Int32)), (.ref t1)])) (fun t_ k_ => XS.iloadN X0.here hx rfl (hb hby own_d_jdk_43_method_13_16) rfl k_) ?_
  obtain ⟨cl4, Ar4, q4, Sz4, Nz4, Hz4, Gz4⟩ := id (A1)
  have hin4 : ¬ ((0 : Int32) < 0 ∨ cl4.slots.size ≤ ((0 : Int32)).toNatClampNeg) := inb_of Sz4 ⟨by decide, by decide⟩
  have hat4 : cl4.slots[((0 : Int32)).toNatClampNeg]? = some (.int (111 : Int32)) := Hz4.at hin4 rfl
  refine own_go (s₁.setTop (mkF m 18 #[.val (.ref t1), .val (.ref t2), .val (.int (0 : Int32))] [(.int (111 : Int32))])) (fun t_ k_ => X0.baloadBytes hx (j := (0 : Int32)) (v := (.int (111 : Int32))) (by rw [e0]; exact Ar4.1) (State.isArrayOf_alike hZ.alike Ar4.2.1) Ar4.2.2 hin4 hat4 (g := (mkF m 17 #[.val (.ref t1), .val (.ref t2), .val (.int (0 : Int32))] [(.int (0 : Int32)), (.ref t1)])) rfl rfl (hb hby own_d_jdk_43_method_13_17) _ k_) ?_
  refine own_go (s₁.setTop (mkF m 19 #[.val (.ref t1), .val (.ref t2), .val (.int (0 : Int32))] [(.ref t2), (.int (111 : Int32))])) (fun t_ k_ => XS.aloadN X0.here hx rfl (hb hby own_d_jdk_43_method_13_18) rfl rfl k_) ?_
  refine own_go (s₁.setTop (mkF m 20 #[.val (.ref t1), .val (.ref t2), .val (.int (0 : Int32))] [(.int (0 : Int32)), (.ref t2), (.int (111 : Int32))])) (fun t_ k_ => XS.iloadN X0.here hx rfl (hb hby own_d_jdk_43_method_13_19) rfl k_) ?_
  obtain ⟨cl5, Ar5, q5, Sz5, Nz5, Hz5, Gz5⟩ := id (A2)
  have hin5 : ¬ ((0 : Int32) < 0 ∨ cl5.slots.size ≤ ((0 : Int32)).toNatClampNeg) := inb_of Sz5 ⟨by decide, by decide⟩
  have hat5 : cl5.slots[((0 : Int32)).toNatClampNeg]? = some (.int (111 : Int32)) := Hz5.at hin5 rfl
  refine own_go (s₁.setTop (mkF m 21 #[.val (.ref t1), .val (.ref t2), .val (.int (0 : Int32))] [(.int (111 : Int32)), (.int (111 : Int32))])) (fun t_ k_ => X0.baloadBytes hx (j := (0 : Int32)) (v := (.int (111 : Int32))) (by rw [e0]; exact Ar5.1) (State.isArrayOf_alike hZ.alike Ar5.2.1) Ar5.2.2 hin5 hat5 (g := (mkF m 20 #[.val (.ref t1), .val (.ref t2), .val (.int (0 : Int32))] [(.int (0 : Int32)), (.ref t2), (.int (111 : Int32))])) rfl rfl (hb hby own_d_jdk_43_method_13_20) _ k_) ?_
  refine own_go (s₁.setTop (mkF m 26 #[.val (.ref t1), .val (.ref t2), .val (.int (0 : Int32))] [])) (fun t_ k_ => XS.icmpYes X0.here hx rfl (pc0 := 21) (pc' := 26) rfl (hb hby own_d_jdk_43_method_13_21) rfl (teq (by decide : (111 : Int32) = (111 : Int32))).1 (by decide) (by decide) k_) ?_
  refine own_go (s₁.setTop (mkF m 29 #[.val (.ref t1), .val (.ref t2), .val (.int ((0 : Int32) + (1 : Int32)))] [])) (fun t_ k_ => XS.iinc X0.here hx rfl (hb hby own_d_jdk_43_method_13_26) rfl (l' := #[.val (.ref t1), .val (.ref t2), .val (.int ((0 : Int32) + (1 : Int32)))]) rfl k_) ?_
  rw [show ((0 : Int32) + (1 : Int32)) = (1 : Int32) from by decide]
  refine own_go (s₁.setTop (mkF m 9 #[.val (.ref t1), .val (.ref t2), .val (.int (1 : Int32))] [])) (fun t_ k_ => XS.goto X0.here hx rfl (pc0 := 29) (pc' := 9) rfl (hb hby own_d_jdk_43_method_13_29) (by decide) (by decide) k_) ?_
  refine own_go (s₁.setTop (mkF m 10 #[.val (.ref t1), .val (.ref t2), .val (.int (1 : Int32))] [(.int (1 : Int32))])) (fun t_ k_ => XS.iloadN X0.here hx rfl (hb hby own_d_jdk_43_method_13_9) rfl k_) ?_
  refine own_go (s₁.setTop (mkF m 11 #[.val (.ref t1), .val (.ref t2), .val (.int (1 : Int32))] [(.ref t1), (.int (1 : Int32))])) (fun t_ k_ => XS.aloadN X0.here hx rfl (hb hby own_d_jdk_43_method_13_10) rfl rfl k_) ?_
  obtain ⟨cl6, Ar6, q6, Sz6, Nz6, Hz6, Gz6⟩ := id (A1)
  refine own_go (s₁.setTop (mkF m 12 #[.val (.ref t1), .val (.ref t2), .val (.int (1 : Int32))] [(.int (25 : Int32)), (.int (1 : Int32))])) (fun t_ k_ => X0.arraylength hx (by rw [e0]; exact Ar6.1) (State.isArrayOf_alike hZ.alike Ar6.2.1) (g := (mkF m 11 #[.val (.ref t1), .val (.ref t2), .val (.int (1 : Int32))] [(.ref t1), (.int (1 : Int32))])) rfl rfl (hb hby own_d_jdk_43_method_13_11) _ (by rw [len_of Sz6 Nz6]; exact k_)) ?_
  refine own_go (s₁.setTop (mkF m 15 #[.val (.ref t1), .val (.ref t2), .val (.int (1 : Int32))] [])) (fun t_ k_ => XS.icmpNo X0.here hx rfl (hb hby own_d_jdk_43_method_13_12) rfl (tlt (by decide : (1 : Int32) < (25 : Int32))).2.1 k_) ?_
  refine own_go (s₁.setTop (mkF m 16 #[.val (.ref t1), .val (.ref t2), .val (.int (1 : Int32))] [(.ref t1)])) (fun t_ k_ => XS.aloadN X0.here hx rfl (hb hby own_d_jdk_43_method_13_15) rfl rfl k_) ?_
  refine own_go (s₁.setTop (mkF m 17 #[.val (.ref t1), .val (.ref t2), .val (.int (1 : Int32))] [(.int (1 : Int32)), (.ref t1)])) (fun t_ k_ => XS.iloadN X0.here hx rfl (hb hby own_d_jdk_43_method_13_16) rfl k_) ?_
  obtain ⟨cl7, Ar7, q7, Sz7, Nz7, Hz7, Gz7⟩ := id (A1)
  have hin7 : ¬ ((1 : Int32) < 0 ∨ cl7.slots.size ≤ ((1 : Int32)).toNatClampNeg) := inb_of Sz7 ⟨by decide, by decide⟩
  have hat7 : cl7.slots[((1 : Int32)).toNatClampNeg]? = some (.int (117 : Int32)) := Hz7.at hin7 rfl
  refine own_go (s₁.setTop (mkF m 18 #[.val (.ref t1), .val (.ref t2), .val (.int (1 : Int32))] [(.int (117 : Int32))])) (fun t_ k_ => X0.baloadBytes hx (j := (1 : Int32)) (v := (.int (117 : Int32))) (by rw [e0]; exact Ar7.1) (State.isArrayOf_alike hZ.alike Ar7.2.1) Ar7.2.2 hin7 hat7 (g := (mkF m 17 #[.val (.ref t1), .val (.ref t2), .val (.int (1 : Int32))] [(.int (1 : Int32)), (.ref t1)])) rfl rfl (hb hby own_d_jdk_43_method_13_17) _ k_) ?_
  refine own_go (s₁.setTop (mkF m 19 #[.val (.ref t1), .val (.ref t2), .val (.int (1 : Int32))] [(.ref t2), (.int (117 : Int32))])) (fun t_ k_ => XS.aloadN X0.here hx rfl (hb hby own_d_jdk_43_method_13_18) rfl rfl k_) ?_
  refine own_go (s₁.setTop (mkF m 20 #[.val (.ref t1), .val (.ref t2), .val (.int (1 : Int32))] [(.int (1 : Int32)), (.ref t2), (.int (117 : Int32))])) (fun t_ k_ => XS.iloadN X0.here hx rfl (hb hby own_d_jdk_43_method_13_19) rfl k_) ?_
  obtain ⟨cl8, Ar8, q8, Sz8, Nz8, Hz8, Gz8⟩ := id (A2)
  have hin8 : ¬ ((1 : Int32) < 0 ∨ cl8.slots.size ≤ ((1 : Int32)).toNatClampNeg) := inb_of Sz8 ⟨by decide, by decide⟩
  have hat8 : cl8.slots[((1 : Int32)).toNatClampNeg]? = some (.int (117 : Int32)) := Hz8.at hin8 rfl
  refine own_go (s₁.setTop (mkF m 21 #[.val (.ref t1), .val (.ref t2), .val (.int (1 : Int32))] [(.int (117 : Int32)), (.int (117 : Int32))])) (fun t_ k_ => X0.baloadBytes hx (j := (1 : Int32)) (v := (.int (117 : Int32))) (by rw [e0]; exact Ar8.1) (State.isArrayOf_alike hZ.alike Ar8.2.1) Ar8.2.2 hin8 hat8 (g := (mkF m 20 #[.val (.ref t1), .val (.ref t2), .val (.int (1 : Int32))] [(.int (1 : Int32)), (.ref t2), (.int (117 : Int32))])) rfl rfl (hb hby own_d_jdk_43_method_13_20) _ k_) ?_
  refine own_go (s₁.setTop (mkF m 26 #[.val (.ref t1), .val (.ref t2), .val (.int (1 : Int32))] [])) (fun t_ k_ => XS.icmpYes X0.here hx rfl (pc0 := 21) (pc' := 26) rfl (hb hby own_d_jdk_43_method_13_21) rfl (teq (by decide : (117 : Int32) = (117 : Int32))).1 (by decide) (by decide) k_) ?_
  refine own_go (s₁.setTop (mkF m 29 #[.val (.ref t1), .val (.ref t2), .val (.int ((1 : Int32) + (1 : Int32)))] [])) (fun t_ k_ => XS.iinc X0.here hx rfl (hb hby own_d_jdk_43_method_13_26) rfl (l' := #[.val (.ref t1), .val (.ref t2), .val (.int ((1 : Int32) + (1 : Int32)))]) rfl k_) ?_
  rw [show ((1 : Int32) + (1 : Int32)) = (2 : Int32) from by decide]
  refine own_go (s₁.setTop (mkF m 9 #[.val (.ref t1), .val (.ref t2), .val (.int (2 : Int32))] [])) (fun t_ k_ => XS.goto X0.here hx rfl (pc0 := 29) (pc' := 9) rfl (hb hby own_d_jdk_43_method_13_29) (by decide) (by decide) k_) ?_
  refine own_go (s₁.setTop (mkF m 10 #[.val (.ref t1), .val (.ref t2), .val (.int (2 : Int32))] [(.int (2 : Int32))])) (fun t_ k_ => XS.iloadN X0.here hx rfl (hb hby own_d_jdk_43_method_13_9) rfl k_) ?_
  refine own_go (s₁.setTop (mkF m 11 #[.val (.ref t1), .val (.ref t2), .val (.int (2 : Int32))] [(.ref t1), (.int (2 : Int32))])) (fun t_ k_ => XS.aloadN X0.here hx rfl (hb hby own_d_jdk_43_method_13_10) rfl rfl k_) ?_
  obtain ⟨cl9, Ar9, q9, Sz9, Nz9, Hz9, Gz9⟩ := id (A1)
  refine own_go (s₁.setTop (mkF m 12 #[.val (.ref t1), .val (.ref t2), .val (.int (2 : Int32))] [(.int (25 : Int32)), (.int (2 : Int32))])) (fun t_ k_ => X0.arraylength hx (by rw [e0]; exact Ar9.1) (State.isArrayOf_alike hZ.alike Ar9.2.1) (g := (mkF m 11 #[.val (.ref t1), .val (.ref t2), .val (.int (2 : Int32))] [(.ref t1), (.int (2 : Int32))])) rfl rfl (hb hby own_d_jdk_43_method_13_11) _ (by rw [len_of Sz9 Nz9]; exact k_)) ?_
  refine own_go (s₁.setTop (mkF m 15 #[.val (.ref t1), .val (.ref t2), .val (.int (2 : Int32))] [])) (fun t_ k_ => XS.icmpNo X0.here hx rfl (hb hby own_d_jdk_43_method_13_12) rfl (tlt (by decide : (2 : Int32) < (25 : Int32))).2.1 k_) ?_
  refine own_go (s₁.setTop (mkF m 16 #[.val (.ref t1), .val (.ref t2), .val (.int (2 : Int32))] [(.ref t1)])) (fun t_ k_ => XS.aloadN X0.here hx rfl (hb hby own_d_jdk_43_method_13_15) rfl rfl k_) ?_
  refine own_go (s₁.setTop (mkF m 17 #[.val (.ref t1), .val (.ref t2), .val (.int (2 : Int32))] [(.int (2 : Int32)), (.ref t1)])) (fun t_ k_ => XS.iloadN X0.here hx rfl (hb hby own_d_jdk_43_method_13_16) rfl k_) ?_
  obtain ⟨cl10, Ar10, q10, Sz10, Nz10, Hz10, Gz10⟩ := id (A1)
  have hin10 : ¬ ((2 : Int32) < 0 ∨ cl10.slots.size ≤ ((2 : Int32)).toNatClampNeg) := inb_of Sz10 ⟨by decide, by decide⟩
  have hat10 : cl10.slots[((2 : Int32)).toNatClampNeg]? = some (.int (116 : Int32)) := Hz10.at hin10 rfl
  refine own_go (s₁.setTop (mkF m 18 #[.val (.ref t1), .val (.ref t2), .val (.int (2 : Int32))] [(.int (116 : Int32))])) (fun t_ k_ => X0.baloadBytes hx (j := (2 : Int32)) (v := (.int (116 : Int32))) (by rw [e0]; exact Ar10.1) (State.isArrayOf_alike hZ.alike Ar10.2.1) Ar10.2.2 hin10 hat10 (g := (mkF m 17 #[.val (.ref t1), .val (.ref t2), .val (.int (2 : Int32))] [(.int (2 : Int32)), (.ref t1)])) rfl rfl (hb hby own_d_jdk_43_method_13_17) _ k_) ?_
  refine own_go (s₁.setTop (mkF m 19 #[.val (.ref t1), .val (.ref t2), .val (.int (2 : Int32))] [(.ref t2), (.int (116 : Int32))])) (fun t_ k_ => XS.aloadN X0.here hx rfl (hb hby own_d_jdk_43_method_13_18) rfl rfl k_) ?_
  refine own_go (s₁.setTop (mkF m 20 #[.val (.ref t1), .val (.ref t2), .val (.int (2 : Int32))] [(.int (2 : Int32)), (.ref t2), (.int (116 : Int32))])) (fun t_ k_ => XS.iloadN X0.here hx rfl (hb hby own_d_jdk_43_method_13_19) rfl k_) ?_
  obtain ⟨cl11, Ar11, q11, Sz11, Nz11, Hz11, Gz11⟩ := id (A2)
  have hin11 : ¬ ((2 : Int32) < 0 ∨ cl11.slots.size ≤ ((2 : Int32)).toNatClampNeg) := inb_of Sz11 ⟨by decide, by decide⟩
  have hat11 : cl11.slots[((2 : Int32)).toNatClampNeg]? = some (.int (116 : Int32)) := Hz11.at hin11 rfl
  refine own_go (s₁.setTop (mkF m 21 #[.val (.ref t1), .val (.ref t2), .val (.int (2 : Int32))] [(.int (116 : Int32)), (.int (116 : Int32))])) (fun t_ k_ => X0.baloadBytes hx (j := (2 : Int32)) (v := (.int (116 : Int32))) (by rw [e0]; exact Ar11.1) (State.isArrayOf_alike hZ.alike Ar11.2.1) Ar11.2.2 hin11 hat11 (g := (mkF m 20 #[.val (.ref t1), .val (.ref t2), .val (.int (2 : Int32))] [(.int (2 : Int32)), (.ref t2), (.int (116 : Int32))])) rfl rfl (hb hby own_d_jdk_43_method_13_20) _ k_) ?_
  refine own_go (s₁.setTop (mkF m 26 #[.val (.ref t1), .val (.ref t2), .val (.int (2 : Int32))] [])) (fun t_ k_ => XS.icmpYes X0.here hx rfl (pc0 := 21) (pc' := 26) rfl (hb hby own_d_jdk_43_method_13_21) rfl (teq (by decide : (116 : Int32) = (116 : Int32))).1 (by decide) (by decide) k_) ?_
  refine own_go (s₁.setTop (mkF m 29 #[.val (.ref t1), .val (.ref t2), .val (.int ((2 : Int32) + (1 : Int32)))] [])) (fun t_ k_ => XS.iinc X0.here hx rfl (hb hby own_d_jdk_43_method_13_26) rfl (l' := #[.val (.ref t1), .val (.ref t2), .val (.int ((2 : Int32) + (1 : Int32)))]) rfl k_) ?_
  rw [show ((2 : Int32) + (1 : Int32)) = (3 : Int32) from by decide]
  refine own_go (s₁.setTop (mkF m 9 #[.val (.ref t1), .val (.ref t2), .val (.int (3 : Int32))] [])) (fun t_ k_ => XS.goto X0.here hx rfl (pc0 := 29) (pc' := 9) rfl (hb hby own_d_jdk_43_method_13_29) (by decide) (by decide) k_) ?_
  refine own_go (s₁.setTop (mkF m 10 #[.val (.ref t1), .val (.ref t2), .val (.int (3 : Int32))] [(.int (3 : Int32))])) (fun t_ k_ => XS.iloadN X0.here hx rfl (hb hby own_d_jdk_43_method_13_9) rfl k_) ?_
  refine own_go (s₁.setTop (mkF m 11 #[.val (.ref t1), .val (.ref t2), .val (.int (3 : Int32))] [(.ref t1), (.int (3 : Int32))])) (fun t_ k_ => XS.aloadN X0.here hx rfl (hb hby own_d_jdk_43_method_13_10) rfl rfl k_) ?_
  obtain ⟨cl12, Ar12, q12, Sz12, Nz12, Hz12, Gz12⟩ := id (A1)
  refine own_go (s₁.setTop (mkF m 12 #[.val (.ref t1), .val (.ref t2), .val (.int (3 : Int32))] [(.int (25 : Int32)), (.int (3 : Int32))])) (fun t_ k_ => X0.arraylength hx (by rw [e0]; exact Ar12.1) (State.isArrayOf_alike hZ.alike Ar12.2.1) (g := (mkF m 11 #[.val (.ref t1), .val (.ref t2), .val (.int (3 : Int32))] [(.ref t1), (.int (3 : Int32))])) rfl rfl (hb hby own_d_jdk_43_method_13_11) _ (by rw [len_of Sz12 Nz12]; exact k_)) ?_
  refine own_go (s₁.setTop (mkF m 15 #[.val (.ref t1), .val (.ref t2), .val (.int (3 : Int32))] [])) (fun t_ k_ => XS.icmpNo X0.here hx rfl (hb hby own_d_jdk_43_method_13_12) rfl (tlt (by decide : (3 : Int32) < (25 : Int32))).2.1 k_) ?_
  refine own_go (s₁.setTop (mkF m 16 #[.val (.ref t1), .val (.ref t2), .val (.int (3 : Int32))] [(.ref t1)])) (fun t_ k_ => XS.aloadN X0.here hx rfl (hb hby own_d_jdk_43_method_13_15) rfl rfl k_) ?_
  refine own_go (s₁.setTop (mkF m 17 #[.val (.ref t1), .val (.ref t2), .val (.int (3 : Int32))] [(.int (3 : Int32)), (.ref t1)])) (fun t_ k_ => XS.iloadN X0.here hx rfl (hb hby own_d_jdk_43_method_13_16) rfl k_) ?_
  obtain ⟨cl13, Ar13, q13, Sz13, Nz13, Hz13, Gz13⟩ := id (A1)
  have hin13 : ¬ ((3 : Int32) < 0 ∨ cl13.slots.size ≤ ((3 : Int32)).toNatClampNeg) := inb_of Sz13 ⟨by decide, by decide⟩
  have hat13 : cl13.slots[((3 : Int32)).toNatClampNeg]? = some (.int (44 : Int32)) := Hz13.at hin13 rfl
  refine own_go (s₁.setTop (mkF m 18 #[.val (.ref t1), .val (.ref t2), .val (.int (3 : Int32))] [(.int (44 : Int32))])) (fun t_ k_ => X0.baloadBytes hx (j := (3 : Int32)) (v := (.int (44 : Int32))) (by rw [e0]; exact Ar13.1) (State.isArrayOf_alike hZ.alike Ar13.2.1) Ar13.2.2 hin13 hat13 (g := (mkF m 17 #[.val (.ref t1), .val (.ref t2), .val (.int (3 : Int32))] [(.int (3 : Int32)), (.ref t1)])) rfl rfl (hb hby own_d_jdk_43_method_13_17) _ k_) ?_
  refine own_go (s₁.setTop (mkF m 19 #[.val (.ref t1), .val (.ref t2), .val (.int (3 : Int32))] [(.ref t2), (.int (44 : Int32))])) (fun t_ k_ => XS.aloadN X0.here hx rfl (hb hby own_d_jdk_43_method_13_18) rfl rfl k_) ?_
  refine own_go (s₁.setTop (mkF m 20 #[.val (.ref t1), .val (.ref t2), .val (.int (3 : Int32))] [(.int (3 : Int32)), (.ref t2), (.int (44 : Int32))])) (fun t_ k_ => XS.iloadN X0.here hx rfl (hb hby own_d_jdk_43_method_13_19) rfl k_) ?_
  obtain ⟨cl14, Ar14, q14, Sz14, Nz14, Hz14, Gz14⟩ := id (A2)
  have hin14 : ¬ ((3 : Int32) < 0 ∨ cl14.slots.size ≤ ((3 : Int32)).toNatClampNeg) := inb_of Sz14 ⟨by decide, by decide⟩
  have hat14 : cl14.slots[((3 : Int32)).toNatClampNeg]? = some (.int (44 : Int32)) := Hz14.at hin14 rfl
  refine own_go (s₁.setTop (mkF m 21 #[.val (.ref t1), .val (.ref t2), .val (.int (3 : Int32))] [(.int (44 : Int32)), (.int (44 : Int32))])) (fun t_ k_ => X0.baloadBytes hx (j := (3 : Int32)) (v := (.int (44 : Int32))) (by rw [e0]; exact Ar14.1) (State.isArrayOf_alike hZ.alike Ar14.2.1) Ar14.2.2 hin14 hat14 (g := (mkF m 20 #[.val (.ref t1), .val (.ref t2), .val (.int (3 : Int32))] [(.int (3 : Int32)), (.ref t2), (.int (44 : Int32))])) rfl rfl (hb hby own_d_jdk_43_method_13_20) _ k_) ?_
  refine own_go (s₁.setTop (mkF m 26 #[.val (.ref t1), .val (.ref t2), .val (.int (3 : Int32))] [])) (fun t_ k_ => XS.icmpYes X0.here hx rfl (pc0 := 21) (pc' := 26) rfl (hb hby own_d_jdk_43_method_13_21) rfl (teq (by decide : (44 : Int32) = (44 : Int32))).1 (by decide) (by decide) k_) ?_
  refine own_go (s₁.setTop (mkF m 29 #[.val (.ref t1), .val (.ref t2), .val (.int ((3 : Int32) + (1 : Int32)))] [])) (fun t_ k_ => XS.iinc X0.here hx rfl (hb hby own_d_jdk_43_method_13_26) rfl (l' := #[.val (.ref t1), .val (.ref t2), .val (.int ((3 : Int32) + (1 : Int32)))]) rfl k_) ?_
  rw [show ((3 : Int32) + (1 : Int32)) = (4 : Int32) from by decide]
  refine own_go (s₁.setTop (mkF m 9 #[.val (.ref t1), .val (.ref t2), .val (.int (4 : Int32))] [])) (fun t_ k_ => XS.goto X0.here hx rfl (pc0 := 29) (pc' := 9) rfl (hb hby own_d_jdk_43_method_13_29) (by decide) (by decide) k_) ?_
  refine own_go (s₁.setTop (mkF m 10 #[.val (.ref t1), .val (.ref t2), .val (.int (4 : Int32))] [(.int (4 : Int32))])) (fun t_ k_ => XS.iloadN X0.here hx rfl (hb hby own_d_jdk_43_method_13_9) rfl k_) ?_
  refine own_go (s₁.setTop (mkF m 11 #[.val (.ref t1), .val (.ref t2), .val (.int (4 : Int32))] [(.ref t1), (.int (4 : Int32))])) (fun t_ k_ => XS.aloadN X0.here hx rfl (hb hby own_d_jdk_43_method_13_10) rfl rfl k_) ?_
  obtain ⟨cl15, Ar15, q15, Sz15, Nz15, Hz15, Gz15⟩ := id (A1)
  refine own_go (s₁.setTop (mkF m 12 #[.val (.ref t1), .val (.ref t2), .val (.int (4 : Int32))] [(.int (25 : Int32)), (.int (4 : Int32))])) (fun t_ k_ => X0.arraylength hx (by rw [e0]; exact Ar15.1) (State.isArrayOf_alike hZ.alike Ar15.2.1) (g := (mkF m 11 #[.val (.ref t1), .val (.ref t2), .val (.int (4 : Int32))] [(.ref t1), (.int (4 : Int32))])) rfl rfl (hb hby own_d_jdk_43_method_13_11) _ (by rw [len_of Sz15 Nz15]; exact k_)) ?_
  refine own_go (s₁.setTop (mkF m 15 #[.val (.ref t1), .val (.ref t2), .val (.int (4 : Int32))] [])) (fun t_ k_ => XS.icmpNo X0.here hx rfl (hb hby own_d_jdk_43_method_13_12) rfl (tlt (by decide : (4 : Int32) < (25 : Int32))).2.1 k_) ?_
  refine own_go (s₁.setTop (mkF m 16 #[.val (.ref t1), .val (.ref t2), .val (.int (4 : Int32))] [(.ref t1)])) (fun t_ k_ => XS.aloadN X0.here hx rfl (hb hby own_d_jdk_43_method_13_15) rfl rfl k_) ?_
  refine own_go (s₁.setTop (mkF m 17 #[.val (.ref t1), .val (.ref t2), .val (.int (4 : Int32))] [(.int (4 : Int32)), (.ref t1)])) (fun t_ k_ => XS.iloadN X0.here hx rfl (hb hby own_d_jdk_43_method_13_16) rfl k_) ?_
  obtain ⟨cl16, Ar16, q16, Sz16, Nz16, Hz16, Gz16⟩ := id (A1)
  have hin16 : ¬ ((4 : Int32) < 0 ∨ cl16.slots.size ≤ ((4 : Int32)).toNatClampNeg) := inb_of Sz16 ⟨by decide, by decide⟩
  have hat16 : cl16.slots[((4 : Int32)).toNatClampNeg]? = some (.int (32 : Int32)) := Hz16.at hin16 rfl
  refine own_go (s₁.setTop (mkF m 18 #[.val (.ref t1), .val (.ref t2), .val (.int (4 : Int32))] [(.int (32 : Int32))])) (fun t_ k_ => X0.baloadBytes hx (j := (4 : Int32)) (v := (.int (32 : Int32))) (by rw [e0]; exact Ar16.1) (State.isArrayOf_alike hZ.alike Ar16.2.1) Ar16.2.2 hin16 hat16 (g := (mkF m 17 #[.val (.ref t1), .val (.ref t2), .val (.int (4 : Int32))] [(.int (4 : Int32)), (.ref t1)])) rfl rfl (hb hby own_d_jdk_43_method_13_17) _ k_) ?_
  refine own_go (s₁.setTop (mkF m 19 #[.val (.ref t1), .val (.ref t2), .val (.int (4 : Int32))] [(.ref t2), (.int (32 : Int32))])) (fun t_ k_ => XS.aloadN X0.here hx rfl (hb hby own_d_jdk_43_method_13_18) rfl rfl k_) ?_
  refine own_go (s₁.setTop (mkF m 20 #[.val (.ref t1), .val (.ref t2), .val (.int (4 : Int32))] [(.int (4 : Int32)), (.ref t2), (.int (32 : Int32))])) (fun t_ k_ => XS.iloadN X0.here hx rfl (hb hby own_d_jdk_43_method_13_19) rfl k_) ?_
  obtain ⟨cl17, Ar17, q17, Sz17, Nz17, Hz17, Gz17⟩ := id (A2)
  have hin17 : ¬ ((4 : Int32) < 0 ∨ cl17.slots.size ≤ ((4 : Int32)).toNatClampNeg) := inb_of Sz17 ⟨by decide, by decide⟩
  have hat17 : cl17.slots[((4 : Int32)).toNatClampNeg]? = some (.int (32 : Int32)) := Hz17.at hin17 rfl
  refine own_go (s₁.setTop (mkF m 21 #[.val (.ref t1), .val (.ref t2), .val (.int (4 : Int32))] [(.int (32 : Int32)), (.int (32 : Int32))])) (fun t_ k_ => X0.baloadBytes hx (j := (4 : Int32)) (v := (.int (32 : Int32))) (by rw [e0]; exact Ar17.1) (State.isArrayOf_alike hZ.alike Ar17.2.1) Ar17.2.2 hin17 hat17 (g := (mkF m 20 #[.val (.ref t1), .val (.ref t2), .val (.int (4 : Int32))] [(.int (4 : Int32)), (.ref t2), (.int (32 : Int32))])) rfl rfl (hb hby own_d_jdk_43_method_13_20) _ k_) ?_
  refine own_go (s₁.setTop (mkF m 26 #[.val (.ref t1), .val (.ref t2), .val (.int (4 : Int32))] [])) (fun t_ k_ => XS.icmpYes X0.here hx rfl (pc0 := 21) (pc' := 26) rfl (hb hby own_d_jdk_43_method_13_21) rfl (teq (by decide : (32 : Int32) = (32 : Int32))).1 (by decide) (by decide) k_) ?_
  refine own_go (s₁.setTop (mkF m 29 #[.val (.ref t1), .val (.ref t2), .val (.int ((4 : Int32) + (1 : Int32)))] [])) (fun t_ k_ => XS.iinc X0.here hx rfl (hb hby own_d_jdk_43_method_13_26) rfl (l' := #[.val (.ref t1), .val (.ref t2), .val (.int ((4 : Int32) + (1 : Int32)))]) rfl k_) ?_
  rw [show ((4 : Int32) + (1 : Int32)) = (5 : Int32) from by decide]
  refine own_go (s₁.setTop (mkF m 9 #[.val (.ref t1), .val (.ref t2), .val (.int (5 : Int32))] [])) (fun t_ k_ => XS.goto X0.here hx rfl (pc0 := 29) (pc' := 9) rfl (hb hby own_d_jdk_43_method_13_29) (by decide) (by decide) k_) ?_
  refine own_go (s₁.setTop (mkF m 10 #[.val (.ref t1), .val (.ref t2), .val (.int (5 : Int32))] [(.int (5 : Int32))])) (fun t_ k_ => XS.iloadN X0.here hx rfl (hb hby own_d_jdk_43_method_13_9) rfl k_) ?_
  refine own_go (s₁.setTop (mkF m 11 #[.val (.ref t1), .val (.ref t2), .val (.int (5 : Int32))] [(.ref t1), (.int (5 : Int32))])) (fun t_ k_ => XS.aloadN X0.here hx rfl (hb hby own_d_jdk_43_method_13_10) rfl rfl k_) ?_
  obtain ⟨cl18, Ar18, q18, Sz18, Nz18, Hz18, Gz18⟩ := id (A1)
  refine own_go (s₁.setTop (mkF m 12 #[.val (.ref t1), .val (.ref t2), .val (.int (5 : Int32))] [(.int (25 : Int32)), (.int (5 : Int32))])) (fun t_ k_ => X0.arraylength hx (by rw [e0]; exact Ar18.1) (State.isArrayOf_alike hZ.alike Ar18.2.1) (g := (mkF m 11 #[.val (.ref t1), .val (.ref t2), .val (.int (5 : Int32))] [(.ref t1), (.int (5 : Int32))])) rfl rfl (hb hby own_d_jdk_43_method_13_11) _ (by rw [len_of Sz18 Nz18]; exact k_)) ?_
  refine own_go (s₁.setTop (mkF m 15 #[.val (.ref t1), .val (.ref t2), .val (.int (5 : Int32))] [])) (fun t_ k_ => XS.icmpNo X0.here hx rfl (hb hby own_d_jdk_43_method_13_12) rfl (tlt (by decide : (5 : Int32) < (25 : Int32))).2.1 k_) ?_
  refine own_go (s₁.setTop (mkF m 16 #[.val (.ref t1), .val (.ref t2), .val (.int (5 : Int32))] [(.ref t1)])) (fun t_ k_ => XS.aloadN X0.here hx rfl (hb hby own_d_jdk_43_method_13_15) rfl rfl k_) ?_
  refine own_go (s₁.setTop (mkF m 17 #[.val (.ref t1), .val (.ref t2), .val (.int (5 : Int32))] [(.int (5 : Int32)), (.ref t1)])) (fun t_ k_ => XS.iloadN X0.here hx rfl (hb hby own_d_jdk_43_method_13_16) rfl k_) ?_
  obtain ⟨cl19, Ar19, q19, Sz19, Nz19, Hz19, Gz19⟩ := id (A1)
  have hin19 : ¬ ((5 : Int32) < 0 ∨ cl19.slots.size ≤ ((5 : Int32)).toNatClampNeg) := inb_of Sz19 ⟨by decide, by decide⟩
  have hat19 : cl19.slots[((5 : Int32)).toNatClampNeg]? = some (.int (105 : Int32)) := Hz19.at hin19 rfl
  refine own_go (s₁.setTop (mkF m 18 #[.val (.ref t1), .val (.ref t2), .val (.int (5 : Int32))] [(.int (105 : Int32))])) (fun t_ k_ => X0.baloadBytes hx (j := (5 : Int32)) (v := (.int (105 : Int32))) (by rw [e0]; exact Ar19.1) (State.isArrayOf_alike hZ.alike Ar19.2.1) Ar19.2.2 hin19 hat19 (g := (mkF m 17 #[.val (.ref t1), .val (.ref t2), .val (.int (5 : Int32))] [(.int (5 : Int32)), (.ref t1)])) rfl rfl (hb hby own_d_jdk_43_method_13_17) _ k_) ?_
  refine own_go (s₁.setTop (mkF m 19 #[.val (.ref t1), .val (.ref t2), .val (.int (5 : Int32))] [(.ref t2), (.int (105 : Int32))])) (fun t_ k_ => XS.aloadN X0.here hx rfl (hb hby own_d_jdk_43_method_13_18) rfl rfl k_) ?_
  refine own_go (s₁.setTop (mkF m 20 #[.val (.ref t1), .val (.ref t2), .val (.int (5 : Int32))] [(.int (5 : Int32)), (.ref t2), (.int (105 : Int32))])) (fun t_ k_ => XS.iloadN X0.here hx rfl (hb hby own_d_jdk_43_method_13_19) rfl k_) ?_
  obtain ⟨cl20, Ar20, q20, Sz20, Nz20, Hz20, Gz20⟩ := id (A2)
  have hin20 : ¬ ((5 : Int32) < 0 ∨ cl20.slots.size ≤ ((5 : Int32)).toNatClampNeg) := inb_of Sz20 ⟨by decide, by decide⟩
  have hat20 : cl20.slots[((5 : Int32)).toNatClampNeg]? = some (.int (105 : Int32)) := Hz20.at hin20 rfl
  refine own_go (s₁.setTop (mkF m 21 #[.val (.ref t1), .val (.ref t2), .val (.int (5 : Int32))] [(.int (105 : Int32)), (.int (105 : Int32))])) (fun t_ k_ => X0.baloadBytes hx (j := (5 : Int32)) (v := (.int (105 : Int32))) (by rw [e0]; exact Ar20.1) (State.isArrayOf_alike hZ.alike Ar20.2.1) Ar20.2.2 hin20 hat20 (g := (mkF m 20 #[.val (.ref t1), .val (.ref t2), .val (.int (5 : Int32))] [(.int (5 : Int32)), (.ref t2), (.int (105 : Int32))])) rfl rfl (hb hby own_d_jdk_43_method_13_20) _ k_) ?_
  refine own_go (s₁.setTop (mkF m 26 #[.val (.ref t1), .val (.ref t2), .val (.int (5 : Int32))] [])) (fun t_ k_ => XS.icmpYes X0.here hx rfl (pc0 := 21) (pc' := 26) rfl (hb hby own_d_jdk_43_method_13_21) rfl (teq (by decide : (105 : Int32) = (105 : Int32))).1 (by decide) (by decide) k_) ?_
  refine own_go (s₁.setTop (mkF m 29 #[.val (.ref t1), .val (.ref t2), .val (.int ((5 : Int32) + (1 : Int32)))] [])) (fun t_ k_ => XS.iinc X0.here hx rfl (hb hby own_d_jdk_43_method_13_26) rfl (l' := #[.val (.ref t1), .val (.ref t2), .val (.int ((5 : Int32) + (1 : Int32)))]) rfl k_) ?_
  rw [show ((5 : Int32) + (1 : Int32)) = (6 : Int32) from by decide]
  refine own_go (s₁.setTop (mkF m 9 #[.val (.ref t1), .val (.ref t2), .val (.int (6 : Int32))] [])) (fun t_ k_ => XS.goto X0.here hx rfl (pc0 := 29) (pc' := 9) rfl (hb hby own_d_jdk_43_method_13_29) (by decide) (by decide) k_) ?_
  refine own_go (s₁.setTop (mkF m 10 #[.val (.ref t1), .val (.ref t2), .val (.int (6 : Int32))] [(.int (6 : Int32))])) (fun t_ k_ => XS.iloadN X0.here hx rfl (hb hby own_d_jdk_43_method_13_9) rfl k_) ?_
  refine own_go (s₁.setTop (mkF m 11 #[.val (.ref t1), .val (.ref t2), .val (.int (6 : Int32))] [(.ref t1), (.int (6 : Int32))])) (fun t_ k_ => XS.aloadN X0.here hx rfl (hb hby own_d_jdk_43_method_13_10) rfl rfl k_) ?_
  obtain ⟨cl21, Ar21, q21, Sz21, Nz21, Hz21, Gz21⟩ := id (A1)
  refine own_go (s₁.setTop (mkF m 12 #[.val (.ref t1), .val (.ref t2), .val (.int (6 : Int32))] [(.int (25 : Int32)), (.int (6 : Int32))])) (fun t_ k_ => X0.arraylength hx (by rw [e0]; exact Ar21.1) (State.isArrayOf_alike hZ.alike Ar21.2.1) (g := (mkF m 11 #[.val (.ref t1), .val (.ref t2), .val (.int (6 : Int32))] [(.ref t1), (.int (6 : Int32))])) rfl rfl (hb hby own_d_jdk_43_method_13_11) _ (by rw [len_of Sz21 Nz21]; exact k_)) ?_
  refine own_go (s₁.setTop (mkF m 15 #[.val (.ref t1), .val (.ref t2), .val (.int (6 : Int32))] [])) (fun t_ k_ => XS.icmpNo X0.here hx rfl (hb hby own_d_jdk_43_method_13_12) rfl (tlt (by decide : (6 : Int32) < (25 : Int32))).2.1 k_) ?_
  refine own_go (s₁.setTop (mkF m 16 #[.val (.ref t1), .val (.ref t2), .val (.int (6 : Int32))] [(.ref t1)])) (fun t_ k_ => XS.aloadN X0.here hx rfl (hb hby own_d_jdk_43_method_13_15) rfl rfl k_) ?_
  refine own_go (s₁.setTop (mkF m 17 #[.val (.ref t1), .val (.ref t2), .val (.int (6 : Int32))] [(.int (6 : Int32)), (.ref t1)])) (fun t_ k_ => XS.iloadN X0.here hx rfl (hb hby own_d_jdk_43_method_13_16) rfl k_) ?_
  obtain ⟨cl22, Ar22, q22, Sz22, Nz22, Hz22, Gz22⟩ := id (A1)
  have hin22 : ¬ ((6 : Int32) < 0 ∨ cl22.slots.size ≤ ((6 : Int32)).toNatClampNeg) := inb_of Sz22 ⟨by decide, by decide⟩
  have hat22 : cl22.slots[((6 : Int32)).toNatClampNeg]? = some (.int (110 : Int32)) := Hz22.at hin22 rfl
  refine own_go (s₁.setTop (mkF m 18 #[.val (.ref t1), .val (.ref t2), .val (.int (6 : Int32))] [(.int (110 : Int32))])) (fun t_ k_ => X0.baloadBytes hx (j := (6 : Int32)) (v := (.int (110 : Int32))) (by rw [e0]; exact Ar22.1) (State.isArrayOf_alike hZ.alike Ar22.2.1) Ar22.2.2 hin22 hat22 (g := (mkF m 17 #[.val (.ref t1), .val (.ref t2), .val (.int (6 : Int32))] [(.int (6 : Int32)), (.ref t1)])) rfl rfl (hb hby own_d_jdk_43_method_13_17) _ k_) ?_
  refine own_go (s₁.setTop (mkF m 19 #[.val (.ref t1), .val (.ref t2), .val (.int (6 : Int32))] [(.ref t2), (.int (110 : Int32))])) (fun t_ k_ => XS.aloadN X0.here hx rfl (hb hby own_d_jdk_43_method_13_18) rfl rfl k_) ?_
  refine own_go (s₁.setTop (mkF m 20 #[.val (.ref t1), .val (.ref t2), .val (.int (6 : Int32))] [(.int (6 : Int32)), (.ref t2), (.int (110 : Int32))])) (fun t_ k_ => XS.iloadN X0.here hx rfl (hb hby own_d_jdk_43_method_13_19) rfl k_) ?_
  obtain ⟨cl23, Ar23, q23, Sz23, Nz23, Hz23, Gz23⟩ := id (A2)
  have hin23 : ¬ ((6 : Int32) < 0 ∨ cl23.slots.size ≤ ((6 : Int32)).toNatClampNeg) := inb_of Sz23 ⟨by decide, by decide⟩
  have hat23 : cl23.slots[((6 : Int32)).toNatClampNeg]? = some (.int (110 : Int32)) := Hz23.at hin23 rfl
  refine own_go (s₁.setTop (mkF m 21 #[.val (.ref t1), .val (.ref t2), .val (.int (6 : Int32))] [(.int (110 : Int32)), (.int (110 : Int32))])) (fun t_ k_ => X0.baloadBytes hx (j := (6 : Int32)) (v := (.int (110 : Int32))) (by rw [e0]; exact Ar23.1) (State.isArrayOf_alike hZ.alike Ar23.2.1) Ar23.2.2 hin23 hat23 (g := (mkF m 20 #[.val (.ref t1), .val (.ref t2), .val (.int (6 : Int32))] [(.int (6 : Int32)), (.ref t2), (.int (110 : Int32))])) rfl rfl (hb hby own_d_jdk_43_method_13_20) _ k_) ?_
  refine own_go (s₁.setTop (mkF m 26 #[.val (.ref t1), .val (.ref t2), .val (.int (6 : Int32))] [])) (fun t_ k_ => XS.icmpYes X0.here hx rfl (pc0 := 21) (pc' := 26) rfl (hb hby own_d_jdk_43_method_13_21) rfl (teq (by decide : (110 : Int32) = (110 : Int32))).1 (by decide) (by decide) k_) ?_
  refine own_go (s₁.setTop (mkF m 29 #[.val (.ref t1), .val (.ref t2), .val (.int ((6 : Int32) + (1 : Int32)))] [])) (fun t_ k_ => XS.iinc X0.here hx rfl (hb hby own_d_jdk_43_method_13_26) rfl (l' := #[.val (.ref t1), .val (.ref t2), .val (.int ((6 : Int32) + (1 : Int32)))]) rfl k_) ?_
  rw [show ((6 : Int32) + (1 : Int32)) = (7 : Int32) from by decide]
  refine own_go (s₁.setTop (mkF m 9 #[.val (.ref t1), .val (.ref t2), .val (.int (7 : Int32))] [])) (fun t_ k_ => XS.goto X0.here hx rfl (pc0 := 29) (pc' := 9) rfl (hb hby own_d_jdk_43_method_13_29) (by decide) (by decide) k_) ?_
  refine own_go (s₁.setTop (mkF m 10 #[.val (.ref t1), .val (.ref t2), .val (.int (7 : Int32))] [(.int (7 : Int32))])) (fun t_ k_ => XS.iloadN X0.here hx rfl (hb hby own_d_jdk_43_method_13_9) rfl k_) ?_
  refine own_go (s₁.setTop (mkF m 11 #[.val (.ref t1), .val (.ref t2), .val (.int (7 : Int32))] [(.ref t1), (.int (7 : Int32))])) (fun t_ k_ => XS.aloadN X0.here hx rfl (hb hby own_d_jdk_43_method_13_10) rfl rfl k_) ?_
  obtain ⟨cl24, Ar24, q24, Sz24, Nz24, Hz24, Gz24⟩ := id (A1)
  refine own_go (s₁.setTop (mkF m 12 #[.val (.ref t1), .val (.ref t2), .val (.int (7 : Int32))] [(.int (25 : Int32)), (.int (7 : Int32))])) (fun t_ k_ => X0.arraylength hx (by rw [e0]; exact Ar24.1) (State.isArrayOf_alike hZ.alike Ar24.2.1) (g := (mkF m 11 #[.val (.ref t1), .val (.ref t2), .val (.int (7 : Int32))] [(.ref t1), (.int (7 : Int32))])) rfl rfl (hb hby own_d_jdk_43_method_13_11) _ (by rw [len_of Sz24 Nz24]; exact k_)) ?_
  refine own_go (s₁.setTop (mkF m 15 #[.val (.ref t1), .val (.ref t2), .val (.int (7 : Int32))] [])) (fun t_ k_ => XS.icmpNo X0.here hx rfl (hb hby own_d_jdk_43_method_13_12) rfl (tlt (by decide : (7 : Int32) < (25 : Int32))).2.1 k_) ?_
  refine own_go (s₁.setTop (mkF m 16 #[.val (.ref t1), .val (.ref t2), .val (.int (7 : Int32))] [(.ref t1)])) (fun t_ k_ => XS.aloadN X0.here hx rfl (hb hby own_d_jdk_43_method_13_15) rfl rfl k_) ?_
  refine own_go (s₁.setTop (mkF m 17 #[.val (.ref t1), .val (.ref t2), .val (.int (7 : Int32))] [(.int (7 : Int32)), (.ref t1)])) (fun t_ k_ => XS.iloadN X0.here hx rfl (hb hby own_d_jdk_43_method_13_16) rfl k_) ?_
  obtain ⟨cl25, Ar25, q25, Sz25, Nz25, Hz25, Gz25⟩ := id (A1)
  have hin25 : ¬ ((7 : Int32) < 0 ∨ cl25.slots.size ≤ ((7 : Int32)).toNatClampNeg) := inb_of Sz25 ⟨by decide, by decide⟩
  have hat25 : cl25.slots[((7 : Int32)).toNatClampNeg]? = some (.int (112 : Int32)) := Hz25.at hin25 rfl
  refine own_go (s₁.setTop (mkF m 18 #[.val (.ref t1), .val (.ref t2), .val (.int (7 : Int32))] [(.int (112 : Int32))])) (fun t_ k_ => X0.baloadBytes hx (j := (7 : Int32)) (v := (.int (112 : Int32))) (by rw [e0]; exact Ar25.1) (State.isArrayOf_alike hZ.alike Ar25.2.1) Ar25.2.2 hin25 hat25 (g := (mkF m 17 #[.val (.ref t1), .val (.ref t2), .val (.int (7 : Int32))] [(.int (7 : Int32)), (.ref t1)])) rfl rfl (hb hby own_d_jdk_43_method_13_17) _ k_) ?_
  refine own_go (s₁.setTop (mkF m 19 #[.val (.ref t1), .val (.ref t2), .val (.int (7 : Int32))] [(.ref t2), (.int (112 : Int32))])) (fun t_ k_ => XS.aloadN X0.here hx rfl (hb hby own_d_jdk_43_method_13_18) rfl rfl k_) ?_
  refine own_go (s₁.setTop (mkF m 20 #[.val (.ref t1), .val (.ref t2), .val (.int (7 : Int32))] [(.int (7 : Int32)), (.ref t2), (.int (112 : Int32))])) (fun t_ k_ => XS.iloadN X0.here hx rfl (hb hby own_d_jdk_43_method_13_19) rfl k_) ?_
  obtain ⟨cl26, Ar26, q26, Sz26, Nz26, Hz26, Gz26⟩ := id (A2)
  have hin26 : ¬ ((7 : Int32) < 0 ∨ cl26.slots.size ≤ ((7 : Int32)).toNatClampNeg) := inb_of Sz26 ⟨by decide, by decide⟩
  have hat26 : cl26.slots[((7 : Int32)).toNatClampNeg]? = some (.int (112 : Int32)) := Hz26.at hin26 rfl
  refine own_go (s₁.setTop (mkF m 21 #[.val (.ref t1), .val (.ref t2), .val (.int (7 : Int32))] [(.int (112 : Int32)), (.int (112 : Int32))])) (fun t_ k_ => X0.baloadBytes hx (j := (7 : Int32)) (v := (.int (112 : Int32))) (by rw [e0]; exact Ar26.1) (State.isArrayOf_alike hZ.alike Ar26.2.1) Ar26.2.2 hin26 hat26 (g := (mkF m 20 #[.val (.ref t1), .val (.ref t2), .val (.int (7 : Int32))] [(.int (7 : Int32)), (.ref t2), (.int (112 : Int32))])) rfl rfl (hb hby own_d_jdk_43_method_13_20) _ k_) ?_
  refine own_go (s₁.setTop (mkF m 26 #[.val (.ref t1), .val (.ref t2), .val (.int (7 : Int32))] [])) (fun t_ k_ => XS.icmpYes X0.here hx rfl (pc0 := 21) (pc' := 26) rfl (hb hby own_d_jdk_43_method_13_21) rfl (teq (by decide : (112 : Int32) = (112 : Int32))).1 (by decide) (by decide) k_) ?_
  refine own_go (s₁.setTop (mkF m 29 #[.val (.ref t1), .val (.ref t2), .val (.int ((7 : Int32) + (1 : Int32)))] [])) (fun t_ k_ => XS.iinc X0.here hx rfl (hb hby own_d_jdk_43_method_13_26) rfl (l' := #[.val (.ref t1), .val (.ref t2), .val (.int ((7 : Int32) + (1 : Int32)))]) rfl k_) ?_
  rw [show ((7 : Int32) + (1 : Int32)) = (8 : Int32) from by decide]
  refine own_go (s₁.setTop (mkF m 9 #[.val (.ref t1), .val (.ref t2), .val (.int (8 : Int32))] [])) (fun t_ k_ => XS.goto X0.here hx rfl (pc0 := 29) (pc' := 9) rfl (hb hby own_d_jdk_43_method_13_29) (by decide) (by decide) k_) ?_
  refine own_go (s₁.setTop (mkF m 10 #[.val (.ref t1), .val (.ref t2), .val (.int (8 : Int32))] [(.int (8 : Int32))])) (fun t_ k_ => XS.iloadN X0.here hx rfl (hb hby own_d_jdk_43_method_13_9) rfl k_) ?_
  refine own_go (s₁.setTop (mkF m 11 #[.val (.ref t1), .val (.ref t2), .val (.int (8 : Int32))] [(.ref t1), (.int (8 : Int32))])) (fun t_ k_ => XS.aloadN X0.here hx rfl (hb hby own_d_jdk_43_method_13_10) rfl rfl k_) ?_
  obtain ⟨cl27, Ar27, q27, Sz27, Nz27, Hz27, Gz27⟩ := id (A1)
  refine own_go (s₁.setTop (mkF m 12 #[.val (.ref t1), .val (.ref t2), .val (.int (8 : Int32))] [(.int (25 : Int32)), (.int (8 : Int32))])) (fun t_ k_ => X0.arraylength hx (by rw [e0]; exact Ar27.1) (State.isArrayOf_alike hZ.alike Ar27.2.1) (g := (mkF m 11 #[.val (.ref t1), .val (.ref t2), .val (.int (8 : Int32))] [(.ref t1), (.int (8 : Int32))])) rfl rfl (hb hby own_d_jdk_43_method_13_11) _ (by rw [len_of Sz27 Nz27]; exact k_)) ?_
  refine own_go (s₁.setTop (mkF m 15 #[.val (.ref t1), .val (.ref t2), .val (.int (8 : Int32))] [])) (fun t_ k_ => XS.icmpNo X0.here hx rfl (hb hby own_d_jdk_43_method_13_12) rfl (tlt (by decide : (8 : Int32) < (25 : Int32))).2.1 k_) ?_
  refine own_go (s₁.setTop (mkF m 16 #[.val (.ref t1), .val (.ref t2), .val (.int (8 : Int32))] [(.ref t1)])) (fun t_ k_ => XS.aloadN X0.here hx rfl (hb hby own_d_jdk_43_method_13_15) rfl rfl k_) ?_
  refine own_go (s₁.setTop (mkF m 17 #[.val (.ref t1), .val (.ref t2), .val (.int (8 : Int32))] [(.int (8 : Int32)), (.ref t1)])) (fun t_ k_ => XS.iloadN X0.here hx rfl (hb hby own_d_jdk_43_method_13_16) rfl k_) ?_
  obtain ⟨cl28, Ar28, q28, Sz28, Nz28, Hz28, Gz28⟩ := id (A1)
  have hin28 : ¬ ((8 : Int32) < 0 ∨ cl28.slots.size ≤ ((8 : Int32)).toNatClampNeg) := inb_of Sz28 ⟨by decide, by decide⟩
  have hat28 : cl28.slots[((8 : Int32)).toNatClampNeg]? = some (.int (32 : Int32)) := Hz28.at hin28 rfl
  refine own_go (s₁.setTop (mkF m 18 #[.val (.ref t1), .val (.ref t2), .val (.int (8 : Int32))] [(.int (32 : Int32))])) (fun t_ k_ => X0.baloadBytes hx (j := (8 : Int32)) (v := (.int (32 : Int32))) (by rw [e0]; exact Ar28.1) (State.isArrayOf_alike hZ.alike Ar28.2.1) Ar28.2.2 hin28 hat28 (g := (mkF m 17 #[.val (.ref t1), .val (.ref t2), .val (.int (8 : Int32))] [(.int (8 : Int32)), (.ref t1)])) rfl rfl (hb hby own_d_jdk_43_method_13_17) _ k_) ?_
  refine own_go (s₁.setTop (mkF m 19 #[.val (.ref t1), .val (.ref t2), .val (.int (8 : Int32))] [(.ref t2), (.int (32 : Int32))])) (fun t_ k_ => XS.aloadN X0.here hx rfl (hb hby own_d_jdk_43_method_13_18) rfl rfl k_) ?_
  refine own_go (s₁.setTop (mkF m 20 #[.val (.ref t1), .val (.ref t2), .val (.int (8 : Int32))] [(.int (8 : Int32)), (.ref t2), (.int (32 : Int32))])) (fun t_ k_ => XS.iloadN X0.here hx rfl (hb hby own_d_jdk_43_method_13_19) rfl k_) ?_
  obtain ⟨cl29, Ar29, q29, Sz29, Nz29, Hz29, Gz29⟩ := id (A2)
  have hin29 : ¬ ((8 : Int32) < 0 ∨ cl29.slots.size ≤ ((8 : Int32)).toNatClampNeg) := inb_of Sz29 ⟨by decide, by decide⟩
  have hat29 : cl29.slots[((8 : Int32)).toNatClampNeg]? = some (.int (32 : Int32)) := Hz29.at hin29 rfl
  refine own_go (s₁.setTop (mkF m 21 #[.val (.ref t1), .val (.ref t2), .val (.int (8 : Int32))] [(.int (32 : Int32)), (.int (32 : Int32))])) (fun t_ k_ => X0.baloadBytes hx (j := (8 : Int32)) (v := (.int (32 : Int32))) (by rw [e0]; exact Ar29.1) (State.isArrayOf_alike hZ.alike Ar29.2.1) Ar29.2.2 hin29 hat29 (g := (mkF m 20 #[.val (.ref t1), .val (.ref t2), .val (.int (8 : Int32))] [(.int (8 : Int32)), (.ref t2), (.int (32 : Int32))])) rfl rfl (hb hby own_d_jdk_43_method_13_20) _ k_) ?_
  refine own_go (s₁.setTop (mkF m 26 #[.val (.ref t1), .val (.ref t2), .val (.int (8 : Int32))] [])) (fun t_ k_ => XS.icmpYes X0.here hx rfl (pc0 := 21) (pc' := 26) rfl (hb hby own_d_jdk_43_method_13_21) rfl (teq (by decide : (32 : Int32) = (32 : Int32))).1 (by decide) (by decide) k_) ?_
  refine own_go (s₁.setTop (mkF m 29 #[.val (.ref t1), .val (.ref t2), .val (.int ((8 : Int32) + (1 : Int32)))] [])) (fun t_ k_ => XS.iinc X0.here hx rfl (hb hby own_d_jdk_43_method_13_26) rfl (l' := #[.val (.ref t1), .val (.ref t2), .val (.int ((8 : Int32) + (1 : Int32)))]) rfl k_) ?_
  rw [show ((8 : Int32) + (1 : Int32)) = (9 : Int32) from by decide]
  refine own_go (s₁.setTop (mkF m 9 #[.val (.ref t1), .val (.ref t2), .val (.int (9 : Int32))] [])) (fun t_ k_ => XS.goto X0.here hx rfl (pc0 := 29) (pc' := 9) rfl (hb hby own_d_jdk_43_method_13_29) (by decide) (by decide) k_) ?_
  refine own_go (s₁.setTop (mkF m 10 #[.val (.ref t1), .val (.ref t2), .val (.int (9 : Int32))] [(.int (9 : Int32))])) (fun t_ k_ => XS.iloadN X0.here hx rfl (hb hby own_d_jdk_43_method_13_9) rfl k_) ?_
  refine own_go (s₁.setTop (mkF m 11 #[.val (.ref t1), .val (.ref t2), .val (.int (9 : Int32))] [(.ref t1), (.int (9 : Int32))])) (fun t_ k_ => XS.aloadN X0.here hx rfl (hb hby own_d_jdk_43_method_13_10) rfl rfl k_) ?_
  obtain ⟨cl30, Ar30, q30, Sz30, Nz30, Hz30, Gz30⟩ := id (A1)
  refine own_go (s₁.setTop (mkF m 12 #[.val (.ref t1), .val (.ref t2), .val (.int (9 : Int32))] [(.int (25 : Int32)), (.int (9 : Int32))])) (fun t_ k_ => X0.arraylength hx (by rw [e0]; exact Ar30.1) (State.isArrayOf_alike hZ.alike Ar30.2.1) (g := (mkF m 11 #[.val (.ref t1), .val (.ref t2), .val (.int (9 : Int32))] [(.ref t1), (.int (9 : Int32))])) rfl rfl (hb hby own_d_jdk_43_method_13_11) _ (by rw [len_of Sz30 Nz30]; exact k_)) ?_
  refine own_go (s₁.setTop (mkF m 15 #[.val (.ref t1), .val (.ref t2), .val (.int (9 : Int32))] [])) (fun t_ k_ => XS.icmpNo X0.here hx rfl (hb hby own_d_jdk_43_method_13_12) rfl (tlt (by decide : (9 : Int32) < (25 : Int32))).2.1 k_) ?_
  refine own_go (s₁.setTop (mkF m 16 #[.val (.ref t1), .val (.ref t2), .val (.int (9 : Int32))] [(.ref t1)])) (fun t_ k_ => XS.aloadN X0.here hx rfl (hb hby own_d_jdk_43_method_13_15) rfl rfl k_) ?_
  refine own_go (s₁.setTop (mkF m 17 #[.val (.ref t1), .val (.ref t2), .val (.int (9 : Int32))] [(.int (9 : Int32)), (.ref t1)])) (fun t_ k_ => XS.iloadN X0.here hx rfl (hb hby own_d_jdk_43_method_13_16) rfl k_) ?_
  obtain ⟨cl31, Ar31, q31, Sz31, Nz31, Hz31, Gz31⟩ := id (A1)
  have hin31 : ¬ ((9 : Int32) < 0 ∨ cl31.slots.size ≤ ((9 : Int32)).toNatClampNeg) := inb_of Sz31 ⟨by decide, by decide⟩
  have hat31 : cl31.slots[((9 : Int32)).toNatClampNeg]? = some (.int (111 : Int32)) := Hz31.at hin31 rfl
  refine own_go (s₁.setTop (mkF m 18 #[.val (.ref t1), .val (.ref t2), .val (.int (9 : Int32))] [(.int (111 : Int32))])) (fun t_ k_ => X0.baloadBytes hx (j := (9 : Int32)) (v := (.int (111 : Int32))) (by rw [e0]; exact Ar31.1) (State.isArrayOf_alike hZ.alike Ar31.2.1) Ar31.2.2 hin31 hat31 (g := (mkF m 17 #[.val (.ref t1), .val (.ref t2), .val (.int (9 : Int32))] [(.int (9 : Int32)), (.ref t1)])) rfl rfl (hb hby own_d_jdk_43_method_13_17) _ k_) ?_
  refine own_go (s₁.setTop (mkF m 19 #[.val (.ref t1), .val (.ref t2), .val (.int (9 : Int32))] [(.ref t2), (.int (111 : Int32))])) (fun t_ k_ => XS.aloadN X0.here hx rfl (hb hby own_d_jdk_43_method_13_18) rfl rfl k_) ?_
  refine own_go (s₁.setTop (mkF m 20 #[.val (.ref t1), .val (.ref t2), .val (.int (9 : Int32))] [(.int (9 : Int32)), (.ref t2), (.int (111 : Int32))])) (fun t_ k_ => XS.iloadN X0.here hx rfl (hb hby own_d_jdk_43_method_13_19) rfl k_) ?_
  obtain ⟨cl32, Ar32, q32, Sz32, Nz32, Hz32, Gz32⟩ := id (A2)
  have hin32 : ¬ ((9 : Int32) < 0 ∨ cl32.slots.size ≤ ((9 : Int32)).toNatClampNeg) := inb_of Sz32 ⟨by decide, by decide⟩
  have hat32 : cl32.slots[((9 : Int32)).toNatClampNeg]? = some (.int (111 : Int32)) := Hz32.at hin32 rfl
  refine own_go (s₁.setTop (mkF m 21 #[.val (.ref t1), .val (.ref t2), .val (.int (9 : Int32))] [(.int (111 : Int32)), (.int (111 : Int32))])) (fun t_ k_ => X0.baloadBytes hx (j := (9 : Int32)) (v := (.int (111 : Int32))) (by rw [e0]; exact Ar32.1) (State.isArrayOf_alike hZ.alike Ar32.2.1) Ar32.2.2 hin32 hat32 (g := (mkF m 20 #[.val (.ref t1), .val (.ref t2), .val (.int (9 : Int32))] [(.int (9 : Int32)), (.ref t2), (.int (111 : Int32))])) rfl rfl (hb hby own_d_jdk_43_method_13_20) _ k_) ?_
  refine own_go (s₁.setTop (mkF m 26 #[.val (.ref t1), .val (.ref t2), .val (.int (9 : Int32))] [])) (fun t_ k_ => XS.icmpYes X0.here hx rfl (pc0 := 21) (pc' := 26) rfl (hb hby own_d_jdk_43_method_13_21) rfl (teq (by decide : (111 : Int32) = (111 : Int32))).1 (by decide) (by decide) k_) ?_
  refine own_go (s₁.setTop (mkF m 29 #[.val (.ref t1), .val (.ref t2), .val (.int ((9 : Int32) + (1 : Int32)))] [])) (fun t_ k_ => XS.iinc X0.here hx rfl (hb hby own_d_jdk_43_method_13_26) rfl (l' := #[.val (.ref t1), .val (.ref t2), .val (.int ((9 : Int32) + (1 : Int32)))]) rfl k_) ?_
  rw [show ((9 : Int32) + (1 : Int32)) = (10 : Int32) from by decide]
  refine own_go (s₁.setTop (mkF m 9 #[.val (.ref t1), .val (.ref t2), .val (.int (10 : Int32))] [])) (fun t_ k_ => XS.goto X0.here hx rfl (pc0 := 29) (pc' := 9) rfl (hb hby own_d_jdk_43_method_13_29) (by decide) (by decide) k_) ?_
  refine own_go (s₁.setTop (mkF m 10 #[.val (.ref t1), .val (.ref t2), .val (.int (10 : Int32))] [(.int (10 : Int32))])) (fun t_ k_ => XS.iloadN X0.here hx rfl (hb hby own_d_jdk_43_method_13_9) rfl k_) ?_
  refine own_go (s₁.setTop (mkF m 11 #[.val (.ref t1), .val (.ref t2), .val (.int (10 : Int32))] [(.ref t1), (.int (10 : Int32))])) (fun t_ k_ => XS.aloadN X0.here hx rfl (hb hby own_d_jdk_43_method_13_10) rfl rfl k_) ?_
  obtain ⟨cl33, Ar33, q33, Sz33, Nz33, Hz33, Gz33⟩ := id (A1)
  refine own_go (s₁.setTop (mkF m 12 #[.val (.ref t1), .val (.ref t2), .val (.int (10 : Int32))] [(.int (25 : Int32)), (.int (10 : Int32))])) (fun t_ k_ => X0.arraylength hx (by rw [e0]; exact Ar33.1) (State.isArrayOf_alike hZ.alike Ar33.2.1) (g := (mkF m 11 #[.val (.ref t1), .val (.ref t2), .val (.int (10 : Int32))] [(.ref t1), (.int (10 : Int32))])) rfl rfl (hb hby own_d_jdk_43_method_13_11) _ (by rw [len_of Sz33 Nz33]; exact k_)) ?_
  refine own_go (s₁.setTop (mkF m 15 #[.val (.ref t1), .val (.ref t2), .val (.int (10 : Int32))] [])) (fun t_ k_ => XS.icmpNo X0.here hx rfl (hb hby own_d_jdk_43_method_13_12) rfl (tlt (by decide : (10 : Int32) < (25 : Int32))).2.1 k_) ?_
  refine own_go (s₁.setTop (mkF m 16 #[.val (.ref t1), .val (.ref t2), .val (.int (10 : Int32))] [(.ref t1)])) (fun t_ k_ => XS.aloadN X0.here hx rfl (hb hby own_d_jdk_43_method_13_15) rfl rfl k_) ?_
  refine own_go (s₁.setTop (mkF m 17 #[.val (.ref t1), .val (.ref t2), .val (.int (10 : Int32))] [(.int (10 : Int32)), (.ref t1)])) (fun t_ k_ => XS.iloadN X0.here hx rfl (hb hby own_d_jdk_43_method_13_16) rfl k_) ?_
  obtain ⟨cl34, Ar34, q34, Sz34, Nz34, Hz34, Gz34⟩ := id (A1)
  have hin34 : ¬ ((10 : Int32) < 0 ∨ cl34.slots.size ≤ ((10 : Int32)).toNatClampNeg) := inb_of Sz34 ⟨by decide, by decide⟩
  have hat34 : cl34.slots[((10 : Int32)).toNatClampNeg]? = some (.int (114 : Int32)) := Hz34.at hin34 rfl
  refine own_go (s₁.setTop (mkF m 18 #[.val (.ref t1), .val (.ref t2), .val (.int (10 : Int32))] [(.int (114 : Int32))])) (fun t_ k_ => X0.baloadBytes hx (j := (10 : Int32)) (v := (.int (114 : Int32))) (by rw [e0]; exact Ar34.1) (State.isArrayOf_alike hZ.alike Ar34.2.1) Ar34.2.2 hin34 hat34 (g := (mkF m 17 #[.val (.ref t1), .val (.ref t2), .val (.int (10 : Int32))] [(.int (10 : Int32)), (.ref t1)])) rfl rfl (hb hby own_d_jdk_43_method_13_17) _ k_) ?_
  refine own_go (s₁.setTop (mkF m 19 #[.val (.ref t1), .val (.ref t2), .val (.int (10 : Int32))] [(.ref t2), (.int (114 : Int32))])) (fun t_ k_ => XS.aloadN X0.here hx rfl (hb hby own_d_jdk_43_method_13_18) rfl rfl k_) ?_
  refine own_go (s₁.setTop (mkF m 20 #[.val (.ref t1), .val (.ref t2), .val (.int (10 : Int32))] [(.int (10 : Int32)), (.ref t2), (.int (114 : Int32))])) (fun t_ k_ => XS.iloadN X0.here hx rfl (hb hby own_d_jdk_43_method_13_19) rfl k_) ?_
  obtain ⟨cl35, Ar35, q35, Sz35, Nz35, Hz35, Gz35⟩ := id (A2)
  have hin35 : ¬ ((10 : Int32) < 0 ∨ cl35.slots.size ≤ ((10 : Int32)).toNatClampNeg) := inb_of Sz35 ⟨by decide, by decide⟩
  have hat35 : cl35.slots[((10 : Int32)).toNatClampNeg]? = some (.int (114 : Int32)) := Hz35.at hin35 rfl
  refine own_go (s₁.setTop (mkF m 21 #[.val (.ref t1), .val (.ref t2), .val (.int (10 : Int32))] [(.int (114 : Int32)), (.int (114 : Int32))])) (fun t_ k_ => X0.baloadBytes hx (j := (10 : Int32)) (v := (.int (114 : Int32))) (by rw [e0]; exact Ar35.1) (State.isArrayOf_alike hZ.alike Ar35.2.1) Ar35.2.2 hin35 hat35 (g := (mkF m 20 #[.val (.ref t1), .val (.ref t2), .val (.int (10 : Int32))] [(.int (10 : Int32)), (.ref t2), (.int (114 : Int32))])) rfl rfl (hb hby own_d_jdk_43_method_13_20) _ k_) ?_
  refine own_go (s₁.setTop (mkF m 26 #[.val (.ref t1), .val (.ref t2), .val (.int (10 : Int32))] [])) (fun t_ k_ => XS.icmpYes X0.here hx rfl (pc0 := 21) (pc' := 26) rfl (hb hby own_d_jdk_43_method_13_21) rfl (teq (by decide : (114 : Int32) = (114 : Int32))).1 (by decide) (by decide) k_) ?_
  refine own_go (s₁.setTop (mkF m 29 #[.val (.ref t1), .val (.ref t2), .val (.int ((10 : Int32) + (1 : Int32)))] [])) (fun t_ k_ => XS.iinc X0.here hx rfl (hb hby own_d_jdk_43_method_13_26) rfl (l' := #[.val (.ref t1), .val (.ref t2), .val (.int ((10 : Int32) + (1 : Int32)))]) rfl k_) ?_
  rw [show ((10 : Int32) + (1 : Int32)) = (11 : Int32) from by decide]
  refine own_go (s₁.setTop (mkF m 9 #[.val (.ref t1), .val (.ref t2), .val (.int (11 : Int32))] [])) (fun t_ k_ => XS.goto X0.here hx rfl (pc0 := 29) (pc' := 9) rfl (hb hby own_d_jdk_43_method_13_29) (by decide) (by decide) k_) ?_
  refine own_go (s₁.setTop (mkF m 10 #[.val (.ref t1), .val (.ref t2), .val (.int (11 : Int32))] [(.int (11 : Int32))])) (fun t_ k_ => XS.iloadN X0.here hx rfl (hb hby own_d_jdk_43_method_13_9) rfl k_) ?_
  refine own_go (s₁.setTop (mkF m 11 #[.val (.ref t1), .val (.ref t2), .val (.int (11 : Int32))] [(.ref t1), (.int (11 : Int32))])) (fun t_ k_ => XS.aloadN X0.here hx rfl (hb hby own_d_jdk_43_method_13_10) rfl rfl k_) ?_
  obtain ⟨cl36, Ar36, q36, Sz36, Nz36, Hz36, Gz36⟩ := id (A1)
  refine own_go (s₁.setTop (mkF m 12 #[.val (.ref t1), .val (.ref t2), .val (.int (11 : Int32))] [(.int (25 : Int32)), (.int (11 : Int32))])) (fun t_ k_ => X0.arraylength hx (by rw [e0]; exact Ar36.1) (State.isArrayOf_alike hZ.alike Ar36.2.1) (g := (mkF m 11 #[.val (.ref t1), .val (.ref t2), .val (.int (11 : Int32))] [(.ref t1), (.int (11 : Int32))])) rfl rfl (hb hby own_d_jdk_43_method_13_11) _ (by rw [len_of Sz36 Nz36]; exact k_)) ?_
  refine own_go (s₁.setTop (mkF m 15 #[.val (.ref t1), .val (.ref t2), .val (.int (11 : Int32))] [])) (fun t_ k_ => XS.icmpNo X0.here hx rfl (hb hby own_d_jdk_43_method_13_12) rfl (tlt (by decide : (11 : Int32) < (25 : Int32))).2.1 k_) ?_
  refine own_go (s₁.setTop (mkF m 16 #[.val (.ref t1), .val (.ref t2), .val (.int (11 : Int32))] [(.ref t1)])) (fun t_ k_ => XS.aloadN X0.here hx rfl (hb hby own_d_jdk_43_method_13_15) rfl rfl k_) ?_
  refine own_go (s₁.setTop (mkF m 17 #[.val (.ref t1), .val (.ref t2), .val (.int (11 : Int32))] [(.int (11 : Int32)), (.ref t1)])) (fun t_ k_ => XS.iloadN X0.here hx rfl (hb hby own_d_jdk_43_method_13_16) rfl k_) ?_
  obtain ⟨cl37, Ar37, q37, Sz37, Nz37, Hz37, Gz37⟩ := id (A1)
  have hin37 : ¬ ((11 : Int32) < 0 ∨ cl37.slots.size ≤ ((11 : Int32)).toNatClampNeg) := inb_of Sz37 ⟨by decide, by decide⟩
  have hat37 : cl37.slots[((11 : Int32)).toNatClampNeg]? = some (.int (32 : Int32)) := Hz37.at hin37 rfl
  refine own_go (s₁.setTop (mkF m 18 #[.val (.ref t1), .val (.ref t2), .val (.int (11 : Int32))] [(.int (32 : Int32))])) (fun t_ k_ => X0.baloadBytes hx (j := (11 : Int32)) (v := (.int (32 : Int32))) (by rw [e0]; exact Ar37.1) (State.isArrayOf_alike hZ.alike Ar37.2.1) Ar37.2.2 hin37 hat37 (g := (mkF m 17 #[.val (.ref t1), .val (.ref t2), .val (.int (11 : Int32))] [(.int (11 : Int32)), (.ref t1)])) rfl rfl (hb hby own_d_jdk_43_method_13_17) _ k_) ?_
  refine own_go (s₁.setTop (mkF m 19 #[.val (.ref t1), .val (.ref t2), .val (.int (11 : Int32))] [(.ref t2), (.int (32 : Int32))])) (fun t_ k_ => XS.aloadN X0.here hx rfl (hb hby own_d_jdk_43_method_13_18) rfl rfl k_) ?_
  refine own_go (s₁.setTop (mkF m 20 #[.val (.ref t1), .val (.ref t2), .val (.int (11 : Int32))] [(.int (11 : Int32)), (.ref t2), (.int (32 : Int32))])) (fun t_ k_ => XS.iloadN X0.here hx rfl (hb hby own_d_jdk_43_method_13_19) rfl k_) ?_
  obtain ⟨cl38, Ar38, q38, Sz38, Nz38, Hz38, Gz38⟩ := id (A2)
  have hin38 : ¬ ((11 : Int32) < 0 ∨ cl38.slots.size ≤ ((11 : Int32)).toNatClampNeg) := inb_of Sz38 ⟨by decide, by decide⟩
  have hat38 : cl38.slots[((11 : Int32)).toNatClampNeg]? = some (.int (32 : Int32)) := Hz38.at hin38 rfl
  refine own_go (s₁.setTop (mkF m 21 #[.val (.ref t1), .val (.ref t2), .val (.int (11 : Int32))] [(.int (32 : Int32)), (.int (32 : Int32))])) (fun t_ k_ => X0.baloadBytes hx (j := (11 : Int32)) (v := (.int (32 : Int32))) (by rw [e0]; exact Ar38.1) (State.isArrayOf_alike hZ.alike Ar38.2.1) Ar38.2.2 hin38 hat38 (g := (mkF m 20 #[.val (.ref t1), .val (.ref t2), .val (.int (11 : Int32))] [(.int (11 : Int32)), (.ref t2), (.int (32 : Int32))])) rfl rfl (hb hby own_d_jdk_43_method_13_20) _ k_) ?_
  refine own_go (s₁.setTop (mkF m 26 #[.val (.ref t1), .val (.ref t2), .val (.int (11 : Int32))] [])) (fun t_ k_ => XS.icmpYes X0.here hx rfl (pc0 := 21) (pc' := 26) rfl (hb hby own_d_jdk_43_method_13_21) rfl (teq (by decide : (32 : Int32) = (32 : Int32))).1 (by decide) (by decide) k_) ?_
  refine own_go (s₁.setTop (mkF m 29 #[.val (.ref t1), .val (.ref t2), .val (.int ((11 : Int32) + (1 : Int32)))] [])) (fun t_ k_ => XS.iinc X0.here hx rfl (hb hby own_d_jdk_43_method_13_26) rfl (l' := #[.val (.ref t1), .val (.ref t2), .val (.int ((11 : Int32) + (1 : Int32)))]) rfl k_) ?_
  rw [show ((11 : Int32) + (1 : Int32)) = (12 : Int32) from by decide]
  refine own_go (s₁.setTop (mkF m 9 #[.val (.ref t1), .val (.ref t2), .val (.int (12 : Int32))] [])) (fun t_ k_ => XS.goto X0.here hx rfl (pc0 := 29) (pc' := 9) rfl (hb hby own_d_jdk_43_method_13_29) (by decide) (by decide) k_) ?_
  refine own_go (s₁.setTop (mkF m 10 #[.val (.ref t1), .val (.ref t2), .val (.int (12 : Int32))] [(.int (12 : Int32))])) (fun t_ k_ => XS.iloadN X0.here hx rfl (hb hby own_d_jdk_43_method_13_9) rfl k_) ?_
  refine own_go (s₁.setTop (mkF m 11 #[.val (.ref t1), .val (.ref t2), .val (.int (12 : Int32))] [(.ref t1), (.int (12 : Int32))])) (fun t_ k_ => XS.aloadN X0.here hx rfl (hb hby own_d_jdk_43_method_13_10) rfl rfl k_) ?_
  obtain ⟨cl39, Ar39, q39, Sz39, Nz39, Hz39, Gz39⟩ := id (A1)
  refine own_go (s₁.setTop (mkF m 12 #[.val (.ref t1), .val (.ref t2), .val (.int (12 : Int32))] [(.int (25 : Int32)), (.int (12 : Int32))])) (fun t_ k_ => X0.arraylength hx (by rw [e0]; exact Ar39.1) (State.isArrayOf_alike hZ.alike Ar39.2.1) (g := (mkF m 11 #[.val (.ref t1), .val (.ref t2), .val (.int (12 : Int32))] [(.ref t1), (.int (12 : Int32))])) rfl rfl (hb hby own_d_jdk_43_method_13_11) _ (by rw [len_of Sz39 Nz39]; exact k_)) ?_
  refine own_go (s₁.setTop (mkF m 15 #[.val (.ref t1), .val (.ref t2), .val (.int (12 : Int32))] [])) (fun t_ k_ => XS.icmpNo X0.here hx rfl (hb hby own_d_jdk_43_method_13_12) rfl (tlt (by decide : (12 : Int32) < (25 : Int32))).2.1 k_) ?_
  refine own_go (s₁.setTop (mkF m 16 #[.val (.ref t1), .val (.ref t2), .val (.int (12 : Int32))] [(.ref t1)])) (fun t_ k_ => XS.aloadN X0.here hx rfl (hb hby own_d_jdk_43_method_13_15) rfl rfl k_) ?_
  refine own_go (s₁.setTop (mkF m 17 #[.val (.ref t1), .val (.ref t2), .val (.int (12 : Int32))] [(.int (12 : Int32)), (.ref t1)])) (fun t_ k_ => XS.iloadN X0.here hx rfl (hb hby own_d_jdk_43_method_13_16) rfl k_) ?_
  obtain ⟨cl40, Ar40, q40, Sz40, Nz40, Hz40, Gz40⟩ := id (A1)
  have hin40 : ¬ ((12 : Int32) < 0 ∨ cl40.slots.size ≤ ((12 : Int32)).toNatClampNeg) := inb_of Sz40 ⟨by decide, by decide⟩
  have hat40 : cl40.slots[((12 : Int32)).toNatClampNeg]? = some (.int (116 : Int32)) := Hz40.at hin40 rfl
  refine own_go (s₁.setTop (mkF m 18 #[.val (.ref t1), .val (.ref t2), .val (.int (12 : Int32))] [(.int (116 : Int32))])) (fun t_ k_ => X0.baloadBytes hx (j := (12 : Int32)) (v := (.int (116 : Int32))) (by rw [e0]; exact Ar40.1) (State.isArrayOf_alike hZ.alike Ar40.2.1) Ar40.2.2 hin40 hat40 (g := (mkF m 17 #[.val (.ref t1), .val (.ref t2), .val (.int (12 : Int32))] [(.int (12 : Int32)), (.ref t1)])) rfl rfl (hb hby own_d_jdk_43_method_13_17) _ k_) ?_
  refine own_go (s₁.setTop (mkF m 19 #[.val (.ref t1), .val (.ref t2), .val (.int (12 : Int32))] [(.ref t2), (.int (116 : Int32))])) (fun t_ k_ => XS.aloadN X0.here hx rfl (hb hby own_d_jdk_43_method_13_18) rfl rfl k_) ?_
  refine own_go (s₁.setTop (mkF m 20 #[.val (.ref t1), .val (.ref t2), .val (.int (12 : Int32))] [(.int (12 : Int32)), (.ref t2), (.int (116 : Int32))])) (fun t_ k_ => XS.iloadN X0.here hx rfl (hb hby own_d_jdk_43_method_13_19) rfl k_) ?_
  obtain ⟨cl41, Ar41, q41, Sz41, Nz41, Hz41, Gz41⟩ := id (A2)
  have hin41 : ¬ ((12 : Int32) < 0 ∨ cl41.slots.size ≤ ((12 : Int32)).toNatClampNeg) := inb_of Sz41 ⟨by decide, by decide⟩
  have hat41 : cl41.slots[((12 : Int32)).toNatClampNeg]? = some (.int (116 : Int32)) := Hz41.at hin41 rfl
  refine own_go (s₁.setTop (mkF m 21 #[.val (.ref t1), .val (.ref t2), .val (.int (12 : Int32))] [(.int (116 : Int32)), (.int (116 : Int32))])) (fun t_ k_ => X0.baloadBytes hx (j := (12 : Int32)) (v := (.int (116 : Int32))) (by rw [e0]; exact Ar41.1) (State.isArrayOf_alike hZ.alike Ar41.2.1) Ar41.2.2 hin41 hat41 (g := (mkF m 20 #[.val (.ref t1), .val (.ref t2), .val (.int (12 : Int32))] [(.int (12 : Int32)), (.ref t2), (.int (116 : Int32))])) rfl rfl (hb hby own_d_jdk_43_method_13_20) _ k_) ?_
  refine own_go (s₁.setTop (mkF m 26 #[.val (.ref t1), .val (.ref t2), .val (.int (12 : Int32))] [])) (fun t_ k_ => XS.icmpYes X0.here hx rfl (pc0 := 21) (pc' := 26) rfl (hb hby own_d_jdk_43_method_13_21) rfl (teq (by decide : (116 : Int32) = (116 : Int32))).1 (by decide) (by decide) k_) ?_
  refine own_go (s₁.setTop (mkF m 29 #[.val (.ref t1), .val (.ref t2), .val (.int ((12 : Int32) + (1 : Int32)))] [])) (fun t_ k_ => XS.iinc X0.here hx rfl (hb hby own_d_jdk_43_method_13_26) rfl (l' := #[.val (.ref t1), .val (.ref t2), .val (.int ((12 : Int32) + (1 : Int32)))]) rfl k_) ?_
  rw [show ((12 : Int32) + (1 : Int32)) = (13 : Int32) from by decide]
  refine own_go (s₁.setTop (mkF m 9 #[.val (.ref t1), .val (.ref t2), .val (.int (13 : Int32))] [])) (fun t_ k_ => XS.goto X0.here hx rfl (pc0 := 29) (pc' := 9) rfl (hb hby own_d_jdk_43_method_13_29) (by decide) (by decide) k_) ?_
  refine own_go (s₁.setTop (mkF m 10 #[.val (.ref t1), .val (.ref t2), .val (.int (13 : Int32))] [(.int (13 : Int32))])) (fun t_ k_ => XS.iloadN X0.here hx rfl (hb hby own_d_jdk_43_method_13_9) rfl k_) ?_
  refine own_go (s₁.setTop (mkF m 11 #[.val (.ref t1), .val (.ref t2), .val (.int (13 : Int32))] [(.ref t1), (.int (13 : Int32))])) (fun t_ k_ => XS.aloadN X0.here hx rfl (hb hby own_d_jdk_43_method_13_10) rfl rfl k_) ?_
  obtain ⟨cl42, Ar42, q42, Sz42, Nz42, Hz42, Gz42⟩ := id (A1)
  refine own_go (s₁.setTop (mkF m 12 #[.val (.ref t1), .val (.ref t2), .val (.int (13 : Int32))] [(.int (25 : Int32)), (.int (13 : Int32))])) (fun t_ k_ => X0.arraylength hx (by rw [e0]; exact Ar42.1) (State.isArrayOf_alike hZ.alike Ar42.2.1) (g := (mkF m 11 #[.val (.ref t1), .val (.ref t2), .val (.int (13 : Int32))] [(.ref t1), (.int (13 : Int32))])) rfl rfl (hb hby own_d_jdk_43_method_13_11) _ (by rw [len_of Sz42 Nz42]; exact k_)) ?_
  refine own_go (s₁.setTop (mkF m 15 #[.val (.ref t1), .val (.ref t2), .val (.int (13 : Int32))] [])) (fun t_ k_ => XS.icmpNo X0.here hx rfl (hb hby own_d_jdk_43_method_13_12) rfl (tlt (by decide : (13 : Int32) < (25 : Int32))).2.1 k_) ?_
  refine own_go (s₁.setTop (mkF m 16 #[.val (.ref t1), .val (.ref t2), .val (.int (13 : Int32))] [(.ref t1)])) (fun t_ k_ => XS.aloadN X0.here hx rfl (hb hby own_d_jdk_43_method_13_15) rfl rfl k_) ?_
  refine own_go (s₁.setTop (mkF m 17 #[.val (.ref t1), .val (.ref t2), .val (.int (13 : Int32))] [(.int (13 : Int32)), (.ref t1)])) (fun t_ k_ => XS.iloadN X0.here hx rfl (hb hby own_d_jdk_43_method_13_16) rfl k_) ?_
  obtain ⟨cl43, Ar43, q43, Sz43, Nz43, Hz43, Gz43⟩ := id (A1)
  have hin43 : ¬ ((13 : Int32) < 0 ∨ cl43.slots.size ≤ ((13 : Int32)).toNatClampNeg) := inb_of Sz43 ⟨by decide, by decide⟩
  have hat43 : cl43.slots[((13 : Int32)).toNatClampNeg]? = some (.int (97 : Int32)) := Hz43.at hin43 rfl
  refine own_go (s₁.setTop (mkF m 18 #[.val (.ref t1), .val (.ref t2), .val (.int (13 : Int32))] [(.int (97 : Int32))])) (fun t_ k_ => X0.baloadBytes hx (j := (13 : Int32)) (v := (.int (97 : Int32))) (by rw [e0]; exact Ar43.1) (State.isArrayOf_alike hZ.alike Ar43.2.1) Ar43.2.2 hin43 hat43 (g := (mkF m 17 #[.val (.ref t1), .val (.ref t2), .val (.int (13 : Int32))] [(.int (13 : Int32)), (.ref t1)])) rfl rfl (hb hby own_d_jdk_43_method_13_17) _ k_) ?_
  refine own_go (s₁.setTop (mkF m 19 #[.val (.ref t1), .val (.ref t2), .val (.int (13 : Int32))] [(.ref t2), (.int (97 : Int32))])) (fun t_ k_ => XS.aloadN X0.here hx rfl (hb hby own_d_jdk_43_method_13_18) rfl rfl k_) ?_
  refine own_go (s₁.setTop (mkF m 20 #[.val (.ref t1), .val (.ref t2), .val (.int (13 : Int32))] [(.int (13 : Int32)), (.ref t2), (.int (97 : Int32))])) (fun t_ k_ => XS.iloadN X0.here hx rfl (hb hby own_d_jdk_43_method_13_19) rfl k_) ?_
  obtain ⟨cl44, Ar44, q44, Sz44, Nz44, Hz44, Gz44⟩ := id (A2)
  have hin44 : ¬ ((13 : Int32) < 0 ∨ cl44.slots.size ≤ ((13 : Int32)).toNatClampNeg) := inb_of Sz44 ⟨by decide, by decide⟩
  have hat44 : cl44.slots[((13 : Int32)).toNatClampNeg]? = some (.int (97 : Int32)) := Hz44.at hin44 rfl
  refine own_go (s₁.setTop (mkF m 21 #[.val (.ref t1), .val (.ref t2), .val (.int (13 : Int32))] [(.int (97 : Int32)), (.int (97 : Int32))])) (fun t_ k_ => X0.baloadBytes hx (j := (13 : Int32)) (v := (.int (97 : Int32))) (by rw [e0]; exact Ar44.1) (State.isArrayOf_alike hZ.alike Ar44.2.1) Ar44.2.2 hin44 hat44 (g := (mkF m 20 #[.val (.ref t1), .val (.ref t2), .val (.int (13 : Int32))] [(.int (13 : Int32)), (.ref t2), (.int (97 : Int32))])) rfl rfl (hb hby own_d_jdk_43_method_13_20) _ k_) ?_
  refine own_go (s₁.setTop (mkF m 26 #[.val (.ref t1), .val (.ref t2), .val (.int (13 : Int32))] [])) (fun t_ k_ => XS.icmpYes X0.here hx rfl (pc0 := 21) (pc' := 26) rfl (hb hby own_d_jdk_43_method_13_21) rfl (teq (by decide : (97 : Int32) = (97 : Int32))).1 (by decide) (by decide) k_) ?_
  refine own_go (s₁.setTop (mkF m 29 #[.val (.ref t1), .val (.ref t2), .val (.int ((13 : Int32) + (1 : Int32)))] [])) (fun t_ k_ => XS.iinc X0.here hx rfl (hb hby own_d_jdk_43_method_13_26) rfl (l' := #[.val (.ref t1), .val (.ref t2), .val (.int ((13 : Int32) + (1 : Int32)))]) rfl k_) ?_
  rw [show ((13 : Int32) + (1 : Int32)) = (14 : Int32) from by decide]
  refine own_go (s₁.setTop (mkF m 9 #[.val (.ref t1), .val (.ref t2), .val (.int (14 : Int32))] [])) (fun t_ k_ => XS.goto X0.here hx rfl (pc0 := 29) (pc' := 9) rfl (hb hby own_d_jdk_43_method_13_29) (by decide) (by decide) k_) ?_
  refine own_go (s₁.setTop (mkF m 10 #[.val (.ref t1), .val (.ref t2), .val (.int (14 : Int32))] [(.int (14 : Int32))])) (fun t_ k_ => XS.iloadN X0.here hx rfl (hb hby own_d_jdk_43_method_13_9) rfl k_) ?_
  refine own_go (s₁.setTop (mkF m 11 #[.val (.ref t1), .val (.ref t2), .val (.int (14 : Int32))] [(.ref t1), (.int (14 : Int32))])) (fun t_ k_ => XS.aloadN X0.here hx rfl (hb hby own_d_jdk_43_method_13_10) rfl rfl k_) ?_
  obtain ⟨cl45, Ar45, q45, Sz45, Nz45, Hz45, Gz45⟩ := id (A1)
  refine own_go (s₁.setTop (mkF m 12 #[.val (.ref t1), .val (.ref t2), .val (.int (14 : Int32))] [(.int (25 : Int32)), (.int (14 : Int32))])) (fun t_ k_ => X0.arraylength hx (by rw [e0]; exact Ar45.1) (State.isArrayOf_alike hZ.alike Ar45.2.1) (g := (mkF m 11 #[.val (.ref t1), .val (.ref t2), .val (.int (14 : Int32))] [(.ref t1), (.int (14 : Int32))])) rfl rfl (hb hby own_d_jdk_43_method_13_11) _ (by rw [len_of Sz45 Nz45]; exact k_)) ?_
  refine own_go (s₁.setTop (mkF m 15 #[.val (.ref t1), .val (.ref t2), .val (.int (14 : Int32))] [])) (fun t_ k_ => XS.icmpNo X0.here hx rfl (hb hby own_d_jdk_43_method_13_12) rfl (tlt (by decide : (14 : Int32) < (25 : Int32))).2.1 k_) ?_
  refine own_go (s₁.setTop (mkF m 16 #[.val (.ref t1), .val (.ref t2), .val (.int (14 : Int32))] [(.ref t1)])) (fun t_ k_ => XS.aloadN X0.here hx rfl (hb hby own_d_jdk_43_method_13_15) rfl rfl k_) ?_
  refine own_go (s₁.setTop (mkF m 17 #[.val (.ref t1), .val (.ref t2), .val (.int (14 : Int32))] [(.int (14 : Int32)), (.ref t1)])) (fun t_ k_ => XS.iloadN X0.here hx rfl (hb hby own_d_jdk_43_method_13_16) rfl k_) ?_
  obtain ⟨cl46, Ar46, q46, Sz46, Nz46, Hz46, Gz46⟩ := id (A1)
  have hin46 : ¬ ((14 : Int32) < 0 ∨ cl46.slots.size ≤ ((14 : Int32)).toNatClampNeg) := inb_of Sz46 ⟨by decide, by decide⟩
  have hat46 : cl46.slots[((14 : Int32)).toNatClampNeg]? = some (.int (107 : Int32)) := Hz46.at hin46 rfl
  refine own_go (s₁.setTop (mkF m 18 #[.val (.ref t1), .val (.ref t2), .val (.int (14 : Int32))] [(.int (107 : Int32))])) (fun t_ k_ => X0.baloadBytes hx (j := (14 : Int32)) (v := (.int (107 : Int32))) (by rw [e0]; exact Ar46.1) (State.isArrayOf_alike hZ.alike Ar46.2.1) Ar46.2.2 hin46 hat46 (g := (mkF m 17 #[.val (.ref t1), .val (.ref t2), .val (.int (14 : Int32))] [(.int (14 : Int32)), (.ref t1)])) rfl rfl (hb hby own_d_jdk_43_method_13_17) _ k_) ?_
  refine own_go (s₁.setTop (mkF m 19 #[.val (.ref t1), .val (.ref t2), .val (.int (14 : Int32))] [(.ref t2), (.int (107 : Int32))])) (fun t_ k_ => XS.aloadN X0.here hx rfl (hb hby own_d_jdk_43_method_13_18) rfl rfl k_) ?_
  refine own_go (s₁.setTop (mkF m 20 #[.val (.ref t1), .val (.ref t2), .val (.int (14 : Int32))] [(.int (14 : Int32)), (.ref t2), (.int (107 : Int32))])) (fun t_ k_ => XS.iloadN X0.here hx rfl (hb hby own_d_jdk_43_method_13_19) rfl k_) ?_
  obtain ⟨cl47, Ar47, q47, Sz47, Nz47, Hz47, Gz47⟩ := id (A2)
  have hin47 : ¬ ((14 : Int32) < 0 ∨ cl47.slots.size ≤ ((14 : Int32)).toNatClampNeg) := inb_of Sz47 ⟨by decide, by decide⟩
  have hat47 : cl47.slots[((14 : Int32)).toNatClampNeg]? = some (.int (107 : Int32)) := Hz47.at hin47 rfl
  refine own_go (s₁.setTop (mkF m 21 #[.val (.ref t1), .val (.ref t2), .val (.int (14 : Int32))] [(.int (107 : Int32)), (.int (107 : Int32))])) (fun t_ k_ => X0.baloadBytes hx (j := (14 : Int32)) (v := (.int (107 : Int32))) (by rw [e0]; exact Ar47.1) (State.isArrayOf_alike hZ.alike Ar47.2.1) Ar47.2.2 hin47 hat47 (g := (mkF m 20 #[.val (.ref t1), .val (.ref t2), .val (.int (14 : Int32))] [(.int (14 : Int32)), (.ref t2), (.int (107 : Int32))])) rfl rfl (hb hby own_d_jdk_43_method_13_20) _ k_) ?_
  refine own_go (s₁.setTop (mkF m 26 #[.val (.ref t1), .val (.ref t2), .val (.int (14 : Int32))] [])) (fun t_ k_ => XS.icmpYes X0.here hx rfl (pc0 := 21) (pc' := 26) rfl (hb hby own_d_jdk_43_method_13_21) rfl (teq (by decide : (107 : Int32) = (107 : Int32))).1 (by decide) (by decide) k_) ?_
  refine own_go (s₁.setTop (mkF m 29 #[.val (.ref t1), .val (.ref t2), .val (.int ((14 : Int32) + (1 : Int32)))] [])) (fun t_ k_ => XS.iinc X0.here hx rfl (hb hby own_d_jdk_43_method_13_26) rfl (l' := #[.val (.ref t1), .val (.ref t2), .val (.int ((14 : Int32) + (1 : Int32)))]) rfl k_) ?_
  rw [show ((14 : Int32) + (1 : Int32)) = (15 : Int32) from by decide]
  refine own_go (s₁.setTop (mkF m 9 #[.val (.ref t1), .val (.ref t2), .val (.int (15 : Int32))] [])) (fun t_ k_ => XS.goto X0.here hx rfl (pc0 := 29) (pc' := 9) rfl (hb hby own_d_jdk_43_method_13_29) (by decide) (by decide) k_) ?_
  refine own_go (s₁.setTop (mkF m 10 #[.val (.ref t1), .val (.ref t2), .val (.int (15 : Int32))] [(.int (15 : Int32))])) (fun t_ k_ => XS.iloadN X0.here hx rfl (hb hby own_d_jdk_43_method_13_9) rfl k_) ?_
  refine own_go (s₁.setTop (mkF m 11 #[.val (.ref t1), .val (.ref t2), .val (.int (15 : Int32))] [(.ref t1), (.int (15 : Int32))])) (fun t_ k_ => XS.aloadN X0.here hx rfl (hb hby own_d_jdk_43_method_13_10) rfl rfl k_) ?_
  obtain ⟨cl48, Ar48, q48, Sz48, Nz48, Hz48, Gz48⟩ := id (A1)
  refine own_go (s₁.setTop (mkF m 12 #[.val (.ref t1), .val (.ref t2), .val (.int (15 : Int32))] [(.int (25 : Int32)), (.int (15 : Int32))])) (fun t_ k_ => X0.arraylength hx (by rw [e0]; exact Ar48.1) (State.isArrayOf_alike hZ.alike Ar48.2.1) (g := (mkF m 11 #[.val (.ref t1), .val (.ref t2), .val (.int (15 : Int32))] [(.ref t1), (.int (15 : Int32))])) rfl rfl (hb hby own_d_jdk_43_method_13_11) _ (by rw [len_of Sz48 Nz48]; exact k_)) ?_
  refine own_go (s₁.setTop (mkF m 15 #[.val (.ref t1), .val (.ref t2), .val (.int (15 : Int32))] [])) (fun t_ k_ => XS.icmpNo X0.here hx rfl (hb hby own_d_jdk_43_method_13_12) rfl (tlt (by decide : (15 : Int32) < (25 : Int32))).2.1 k_) ?_
  refine own_go (s₁.setTop (mkF m 16 #[.val (.ref t1), .val (.ref t2), .val (.int (15 : Int32))] [(.ref t1)])) (fun t_ k_ => XS.aloadN X0.here hx rfl (hb hby own_d_jdk_43_method_13_15) rfl rfl k_) ?_
  refine own_go (s₁.setTop (mkF m 17 #[.val (.ref t1), .val (.ref t2), .val (.int (15 : Int32))] [(.int (15 : Int32)), (.ref t1)])) (fun t_ k_ => XS.iloadN X0.here hx rfl (hb hby own_d_jdk_43_method_13_16) rfl k_) ?_
  obtain ⟨cl49, Ar49, q49, Sz49, Nz49, Hz49, Gz49⟩ := id (A1)
  have hin49 : ¬ ((15 : Int32) < 0 ∨ cl49.slots.size ≤ ((15 : Int32)).toNatClampNeg) := inb_of Sz49 ⟨by decide, by decide⟩
  have hat49 : cl49.slots[((15 : Int32)).toNatClampNeg]? = some (.int (101 : Int32)) := Hz49.at hin49 rfl
  refine own_go (s₁.setTop (mkF m 18 #[.val (.ref t1), .val (.ref t2), .val (.int (15 : Int32))] [(.int (101 : Int32))])) (fun t_ k_ => X0.baloadBytes hx (j := (15 : Int32)) (v := (.int (101 : Int32))) (by rw [e0]; exact Ar49.1) (State.isArrayOf_alike hZ.alike Ar49.2.1) Ar49.2.2 hin49 hat49 (g := (mkF m 17 #[.val (.ref t1), .val (.ref t2), .val (.int (15 : Int32))] [(.int (15 : Int32)), (.ref t1)])) rfl rfl (hb hby own_d_jdk_43_method_13_17) _ k_) ?_
  refine own_go (s₁.setTop (mkF m 19 #[.val (.ref t1), .val (.ref t2), .val (.int (15 : Int32))] [(.ref t2), (.int (101 : Int32))])) (fun t_ k_ => XS.aloadN X0.here hx rfl (hb hby own_d_jdk_43_method_13_18) rfl rfl k_) ?_
  refine own_go (s₁.setTop (mkF m 20 #[.val (.ref t1), .val (.ref t2), .val (.int (15 : Int32))] [(.int (15 : Int32)), (.ref t2), (.int (101 : Int32))])) (fun t_ k_ => XS.iloadN X0.here hx rfl (hb hby own_d_jdk_43_method_13_19) rfl k_) ?_
  obtain ⟨cl50, Ar50, q50, Sz50, Nz50, Hz50, Gz50⟩ := id (A2)
  have hin50 : ¬ ((15 : Int32) < 0 ∨ cl50.slots.size ≤ ((15 : Int32)).toNatClampNeg) := inb_of Sz50 ⟨by decide, by decide⟩
  have hat50 : cl50.slots[((15 : Int32)).toNatClampNeg]? = some (.int (101 : Int32)) := Hz50.at hin50 rfl
  refine own_go (s₁.setTop (mkF m 21 #[.val (.ref t1), .val (.ref t2), .val (.int (15 : Int32))] [(.int (101 : Int32)), (.int (101 : Int32))])) (fun t_ k_ => X0.baloadBytes hx (j := (15 : Int32)) (v := (.int (101 : Int32))) (by rw [e0]; exact Ar50.1) (State.isArrayOf_alike hZ.alike Ar50.2.1) Ar50.2.2 hin50 hat50 (g := (mkF m 20 #[.val (.ref t1), .val (.ref t2), .val (.int (15 : Int32))] [(.int (15 : Int32)), (.ref t2), (.int (101 : Int32))])) rfl rfl (hb hby own_d_jdk_43_method_13_20) _ k_) ?_
  refine own_go (s₁.setTop (mkF m 26 #[.val (.ref t1), .val (.ref t2), .val (.int (15 : Int32))] [])) (fun t_ k_ => XS.icmpYes X0.here hx rfl (pc0 := 21) (pc' := 26) rfl (hb hby own_d_jdk_43_method_13_21) rfl (teq (by decide : (101 : Int32) = (101 : Int32))).1 (by decide) (by decide) k_) ?_
  refine own_go (s₁.setTop (mkF m 29 #[.val (.ref t1), .val (.ref t2), .val (.int ((15 : Int32) + (1 : Int32)))] [])) (fun t_ k_ => XS.iinc X0.here hx rfl (hb hby own_d_jdk_43_method_13_26) rfl (l' := #[.val (.ref t1), .val (.ref t2), .val (.int ((15 : Int32) + (1 : Int32)))]) rfl k_) ?_
  rw [show ((15 : Int32) + (1 : Int32)) = (16 : Int32) from by decide]
  refine own_go (s₁.setTop (mkF m 9 #[.val (.ref t1), .val (.ref t2), .val (.int (16 : Int32))] [])) (fun t_ k_ => XS.goto X0.here hx rfl (pc0 := 29) (pc' := 9) rfl (hb hby own_d_jdk_43_method_13_29) (by decide) (by decide) k_) ?_
  refine own_go (s₁.setTop (mkF m 10 #[.val (.ref t1), .val (.ref t2), .val (.int (16 : Int32))] [(.int (16 : Int32))])) (fun t_ k_ => XS.iloadN X0.here hx rfl (hb hby own_d_jdk_43_method_13_9) rfl k_) ?_
  refine own_go (s₁.setTop (mkF m 11 #[.val (.ref t1), .val (.ref t2), .val (.int (16 : Int32))] [(.ref t1), (.int (16 : Int32))])) (fun t_ k_ => XS.aloadN X0.here hx rfl (hb hby own_d_jdk_43_method_13_10) rfl rfl k_) ?_
  obtain ⟨cl51, Ar51, q51, Sz51, Nz51, Hz51, Gz51⟩ := id (A1)
  refine own_go (s₁.setTop (mkF m 12 #[.val (.ref t1), .val (.ref t2), .val (.int (16 : Int32))] [(.int (25 : Int32)), (.int (16 : Int32))])) (fun t_ k_ => X0.arraylength hx (by rw [e0]; exact Ar51.1) (State.isArrayOf_alike hZ.alike Ar51.2.1) (g := (mkF m 11 #[.val (.ref t1), .val (.ref t2), .val (.int (16 : Int32))] [(.ref t1), (.int (16 : Int32))])) rfl rfl (hb hby own_d_jdk_43_method_13_11) _ (by rw [len_of Sz51 Nz51]; exact k_)) ?_
  refine own_go (s₁.setTop (mkF m 15 #[.val (.ref t1), .val (.ref t2), .val (.int (16 : Int32))] [])) (fun t_ k_ => XS.icmpNo X0.here hx rfl (hb hby own_d_jdk_43_method_13_12) rfl (tlt (by decide : (16 : Int32) < (25 : Int32))).2.1 k_) ?_
  refine own_go (s₁.setTop (mkF m 16 #[.val (.ref t1), .val (.ref t2), .val (.int (16 : Int32))] [(.ref t1)])) (fun t_ k_ => XS.aloadN X0.here hx rfl (hb hby own_d_jdk_43_method_13_15) rfl rfl k_) ?_
  refine own_go (s₁.setTop (mkF m 17 #[.val (.ref t1), .val (.ref t2), .val (.int (16 : Int32))] [(.int (16 : Int32)), (.ref t1)])) (fun t_ k_ => XS.iloadN X0.here hx rfl (hb hby own_d_jdk_43_method_13_16) rfl k_) ?_
  obtain ⟨cl52, Ar52, q52, Sz52, Nz52, Hz52, Gz52⟩ := id (A1)
  have hin52 : ¬ ((16 : Int32) < 0 ∨ cl52.slots.size ≤ ((16 : Int32)).toNatClampNeg) := inb_of Sz52 ⟨by decide, by decide⟩
  have hat52 : cl52.slots[((16 : Int32)).toNatClampNeg]? = some (.int (45 : Int32)) := Hz52.at hin52 rfl
  refine own_go (s₁.setTop (mkF m 18 #[.val (.ref t1), .val (.ref t2), .val (.int (16 : Int32))] [(.int (45 : Int32))])) (fun t_ k_ => X0.baloadBytes hx (j := (16 : Int32)) (v := (.int (45 : Int32))) (by rw [e0]; exact Ar52.1) (State.isArrayOf_alike hZ.alike Ar52.2.1) Ar52.2.2 hin52 hat52 (g := (mkF m 17 #[.val (.ref t1), .val (.ref t2), .val (.int (16 : Int32))] [(.int (16 : Int32)), (.ref t1)])) rfl rfl (hb hby own_d_jdk_43_method_13_17) _ k_) ?_
  refine own_go (s₁.setTop (mkF m 19 #[.val (.ref t1), .val (.ref t2), .val (.int (16 : Int32))] [(.ref t2), (.int (45 : Int32))])) (fun t_ k_ => XS.aloadN X0.here hx rfl (hb hby own_d_jdk_43_method_13_18) rfl rfl k_) ?_
  refine own_go (s₁.setTop (mkF m 20 #[.val (.ref t1), .val (.ref t2), .val (.int (16 : Int32))] [(.int (16 : Int32)), (.ref t2), (.int (45 : Int32))])) (fun t_ k_ => XS.iloadN X0.here hx rfl (hb hby own_d_jdk_43_method_13_19) rfl k_) ?_
  obtain ⟨cl53, Ar53, q53, Sz53, Nz53, Hz53, Gz53⟩ := id (A2)
  have hin53 : ¬ ((16 : Int32) < 0 ∨ cl53.slots.size ≤ ((16 : Int32)).toNatClampNeg) := inb_of Sz53 ⟨by decide, by decide⟩
  have hat53 : cl53.slots[((16 : Int32)).toNatClampNeg]? = some (.int (45 : Int32)) := Hz53.at hin53 rfl
  refine own_go (s₁.setTop (mkF m 21 #[.val (.ref t1), .val (.ref t2), .val (.int (16 : Int32))] [(.int (45 : Int32)), (.int (45 : Int32))])) (fun t_ k_ => X0.baloadBytes hx (j := (16 : Int32)) (v := (.int (45 : Int32))) (by rw [e0]; exact Ar53.1) (State.isArrayOf_alike hZ.alike Ar53.2.1) Ar53.2.2 hin53 hat53 (g := (mkF m 20 #[.val (.ref t1), .val (.ref t2), .val (.int (16 : Int32))] [(.int (16 : Int32)), (.ref t2), (.int (45 : Int32))])) rfl rfl (hb hby own_d_jdk_43_method_13_20) _ k_) ?_
  refine own_go (s₁.setTop (mkF m 26 #[.val (.ref t1), .val (.ref t2), .val (.int (16 : Int32))] [])) (fun t_ k_ => XS.icmpYes X0.here hx rfl (pc0 := 21) (pc' := 26) rfl (hb hby own_d_jdk_43_method_13_21) rfl (teq (by decide : (45 : Int32) = (45 : Int32))).1 (by decide) (by decide) k_) ?_
  refine own_go (s₁.setTop (mkF m 29 #[.val (.ref t1), .val (.ref t2), .val (.int ((16 : Int32) + (1 : Int32)))] [])) (fun t_ k_ => XS.iinc X0.here hx rfl (hb hby own_d_jdk_43_method_13_26) rfl (l' := #[.val (.ref t1), .val (.ref t2), .val (.int ((16 : Int32) + (1 : Int32)))]) rfl k_) ?_
  rw [show ((16 : Int32) + (1 : Int32)) = (17 : Int32) from by decide]
  refine own_go (s₁.setTop (mkF m 9 #[.val (.ref t1), .val (.ref t2), .val (.int (17 : Int32))] [])) (fun t_ k_ => XS.goto X0.here hx rfl (pc0 := 29) (pc' := 9) rfl (hb hby own_d_jdk_43_method_13_29) (by decide) (by decide) k_) ?_
  refine own_go (s₁.setTop (mkF m 10 #[.val (.ref t1), .val (.ref t2), .val (.int (17 : Int32))] [(.int (17 : Int32))])) (fun t_ k_ => XS.iloadN X0.here hx rfl (hb hby own_d_jdk_43_method_13_9) rfl k_) ?_
  refine own_go (s₁.setTop (mkF m 11 #[.val (.ref t1), .val (.ref t2), .val (.int (17 : Int32))] [(.ref t1), (.int (17 : Int32))])) (fun t_ k_ => XS.aloadN X0.here hx rfl (hb hby own_d_jdk_43_method_13_10) rfl rfl k_) ?_
  obtain ⟨cl54, Ar54, q54, Sz54, Nz54, Hz54, Gz54⟩ := id (A1)
  refine own_go (s₁.setTop (mkF m 12 #[.val (.ref t1), .val (.ref t2), .val (.int (17 : Int32))] [(.int (25 : Int32)), (.int (17 : Int32))])) (fun t_ k_ => X0.arraylength hx (by rw [e0]; exact Ar54.1) (State.isArrayOf_alike hZ.alike Ar54.2.1) (g := (mkF m 11 #[.val (.ref t1), .val (.ref t2), .val (.int (17 : Int32))] [(.ref t1), (.int (17 : Int32))])) rfl rfl (hb hby own_d_jdk_43_method_13_11) _ (by rw [len_of Sz54 Nz54]; exact k_)) ?_
  refine own_go (s₁.setTop (mkF m 15 #[.val (.ref t1), .val (.ref t2), .val (.int (17 : Int32))] [])) (fun t_ k_ => XS.icmpNo X0.here hx rfl (hb hby own_d_jdk_43_method_13_12) rfl (tlt (by decide : (17 : Int32) < (25 : Int32))).2.1 k_) ?_
  refine own_go (s₁.setTop (mkF m 16 #[.val (.ref t1), .val (.ref t2), .val (.int (17 : Int32))] [(.ref t1)])) (fun t_ k_ => XS.aloadN X0.here hx rfl (hb hby own_d_jdk_43_method_13_15) rfl rfl k_) ?_
  refine own_go (s₁.setTop (mkF m 17 #[.val (.ref t1), .val (.ref t2), .val (.int (17 : Int32))] [(.int (17 : Int32)), (.ref t1)])) (fun t_ k_ => XS.iloadN X0.here hx rfl (hb hby own_d_jdk_43_method_13_16) rfl k_) ?_
  obtain ⟨cl55, Ar55, q55, Sz55, Nz55, Hz55, Gz55⟩ := id (A1)
  have hin55 : ¬ ((17 : Int32) < 0 ∨ cl55.slots.size ≤ ((17 : Int32)).toNatClampNeg) := inb_of Sz55 ⟨by decide, by decide⟩
  have hat55 : cl55.slots[((17 : Int32)).toNatClampNeg]? = some (.int (99 : Int32)) := Hz55.at hin55 rfl
  refine own_go (s₁.setTop (mkF m 18 #[.val (.ref t1), .val (.ref t2), .val (.int (17 : Int32))] [(.int (99 : Int32))])) (fun t_ k_ => X0.baloadBytes hx (j := (17 : Int32)) (v := (.int (99 : Int32))) (by rw [e0]; exact Ar55.1) (State.isArrayOf_alike hZ.alike Ar55.2.1) Ar55.2.2 hin55 hat55 (g := (mkF m 17 #[.val (.ref t1), .val (.ref t2), .val (.int (17 : Int32))] [(.int (17 : Int32)), (.ref t1)])) rfl rfl (hb hby own_d_jdk_43_method_13_17) _ k_) ?_
  refine own_go (s₁.setTop (mkF m 19 #[.val (.ref t1), .val (.ref t2), .val (.int (17 : Int32))] [(.ref t2), (.int (99 : Int32))])) (fun t_ k_ => XS.aloadN X0.here hx rfl (hb hby own_d_jdk_43_method_13_18) rfl rfl k_) ?_
  refine own_go (s₁.setTop (mkF m 20 #[.val (.ref t1), .val (.ref t2), .val (.int (17 : Int32))] [(.int (17 : Int32)), (.ref t2), (.int (99 : Int32))])) (fun t_ k_ => XS.iloadN X0.here hx rfl (hb hby own_d_jdk_43_method_13_19) rfl k_) ?_
  obtain ⟨cl56, Ar56, q56, Sz56, Nz56, Hz56, Gz56⟩ := id (A2)
  have hin56 : ¬ ((17 : Int32) < 0 ∨ cl56.slots.size ≤ ((17 : Int32)).toNatClampNeg) := inb_of Sz56 ⟨by decide, by decide⟩
  have hat56 : cl56.slots[((17 : Int32)).toNatClampNeg]? = some (.int (99 : Int32)) := Hz56.at hin56 rfl
  refine own_go (s₁.setTop (mkF m 21 #[.val (.ref t1), .val (.ref t2), .val (.int (17 : Int32))] [(.int (99 : Int32)), (.int (99 : Int32))])) (fun t_ k_ => X0.baloadBytes hx (j := (17 : Int32)) (v := (.int (99 : Int32))) (by rw [e0]; exact Ar56.1) (State.isArrayOf_alike hZ.alike Ar56.2.1) Ar56.2.2 hin56 hat56 (g := (mkF m 20 #[.val (.ref t1), .val (.ref t2), .val (.int (17 : Int32))] [(.int (17 : Int32)), (.ref t2), (.int (99 : Int32))])) rfl rfl (hb hby own_d_jdk_43_method_13_20) _ k_) ?_
  refine own_go (s₁.setTop (mkF m 26 #[.val (.ref t1), .val (.ref t2), .val (.int (17 : Int32))] [])) (fun t_ k_ => XS.icmpYes X0.here hx rfl (pc0 := 21) (pc' := 26) rfl (hb hby own_d_jdk_43_method_13_21) rfl (teq (by decide : (99 : Int32) = (99 : Int32))).1 (by decide) (by decide) k_) ?_
  refine own_go (s₁.setTop (mkF m 29 #[.val (.ref t1), .val (.ref t2), .val (.int ((17 : Int32) + (1 : Int32)))] [])) (fun t_ k_ => XS.iinc X0.here hx rfl (hb hby own_d_jdk_43_method_13_26) rfl (l' := #[.val (.ref t1), .val (.ref t2), .val (.int ((17 : Int32) + (1 : Int32)))]) rfl k_) ?_
  rw [show ((17 : Int32) + (1 : Int32)) = (18 : Int32) from by decide]
  refine own_go (s₁.setTop (mkF m 9 #[.val (.ref t1), .val (.ref t2), .val (.int (18 : Int32))] [])) (fun t_ k_ => XS.goto X0.here hx rfl (pc0 := 29) (pc' := 9) rfl (hb hby own_d_jdk_43_method_13_29) (by decide) (by decide) k_) ?_
  refine own_go (s₁.setTop (mkF m 10 #[.val (.ref t1), .val (.ref t2), .val (.int (18 : Int32))] [(.int (18 : Int32))])) (fun t_ k_ => XS.iloadN X0.here hx rfl (hb hby own_d_jdk_43_method_13_9) rfl k_) ?_
  refine own_go (s₁.setTop (mkF m 11 #[.val (.ref t1), .val (.ref t2), .val (.int (18 : Int32))] [(.ref t1), (.int (18 : Int32))])) (fun t_ k_ => XS.aloadN X0.here hx rfl (hb hby own_d_jdk_43_method_13_10) rfl rfl k_) ?_
  obtain ⟨cl57, Ar57, q57, Sz57, Nz57, Hz57, Gz57⟩ := id (A1)
  refine own_go (s₁.setTop (mkF m 12 #[.val (.ref t1), .val (.ref t2), .val (.int (18 : Int32))] [(.int (25 : Int32)), (.int (18 : Int32))])) (fun t_ k_ => X0.arraylength hx (by rw [e0]; exact Ar57.1) (State.isArrayOf_alike hZ.alike Ar57.2.1) (g := (mkF m 11 #[.val (.ref t1), .val (.ref t2), .val (.int (18 : Int32))] [(.ref t1), (.int (18 : Int32))])) rfl rfl (hb hby own_d_jdk_43_method_13_11) _ (by rw [len_of Sz57 Nz57]; exact k_)) ?_
  refine own_go (s₁.setTop (mkF m 15 #[.val (.ref t1), .val (.ref t2), .val (.int (18 : Int32))] [])) (fun t_ k_ => XS.icmpNo X0.here hx rfl (hb hby own_d_jdk_43_method_13_12) rfl (tlt (by decide : (18 : Int32) < (25 : Int32))).2.1 k_) ?_
  refine own_go (s₁.setTop (mkF m 16 #[.val (.ref t1), .val (.ref t2), .val (.int (18 : Int32))] [(.ref t1)])) (fun t_ k_ => XS.aloadN X0.here hx rfl (hb hby own_d_jdk_43_method_13_15) rfl rfl k_) ?_
  refine own_go (s₁.setTop (mkF m 17 #[.val (.ref t1), .val (.ref t2), .val (.int (18 : Int32))] [(.int (18 : Int32)), (.ref t1)])) (fun t_ k_ => XS.iloadN X0.here hx rfl (hb hby own_d_jdk_43_method_13_16) rfl k_) ?_
  obtain ⟨cl58, Ar58, q58, Sz58, Nz58, Hz58, Gz58⟩ := id (A1)
  have hin58 : ¬ ((18 : Int32) < 0 ∨ cl58.slots.size ≤ ((18 : Int32)).toNatClampNeg) := inb_of Sz58 ⟨by decide, by decide⟩
  have hat58 : cl58.slots[((18 : Int32)).toNatClampNeg]? = some (.int (111 : Int32)) := Hz58.at hin58 rfl
  refine own_go (s₁.setTop (mkF m 18 #[.val (.ref t1), .val (.ref t2), .val (.int (18 : Int32))] [(.int (111 : Int32))])) (fun t_ k_ => X0.baloadBytes hx (j := (18 : Int32)) (v := (.int (111 : Int32))) (by rw [e0]; exact Ar58.1) (State.isArrayOf_alike hZ.alike Ar58.2.1) Ar58.2.2 hin58 hat58 (g := (mkF m 17 #[.val (.ref t1), .val (.ref t2), .val (.int (18 : Int32))] [(.int (18 : Int32)), (.ref t1)])) rfl rfl (hb hby own_d_jdk_43_method_13_17) _ k_) ?_
  refine own_go (s₁.setTop (mkF m 19 #[.val (.ref t1), .val (.ref t2), .val (.int (18 : Int32))] [(.ref t2), (.int (111 : Int32))])) (fun t_ k_ => XS.aloadN X0.here hx rfl (hb hby own_d_jdk_43_method_13_18) rfl rfl k_) ?_
  refine own_go (s₁.setTop (mkF m 20 #[.val (.ref t1), .val (.ref t2), .val (.int (18 : Int32))] [(.int (18 : Int32)), (.ref t2), (.int (111 : Int32))])) (fun t_ k_ => XS.iloadN X0.here hx rfl (hb hby own_d_jdk_43_method_13_19) rfl k_) ?_
  obtain ⟨cl59, Ar59, q59, Sz59, Nz59, Hz59, Gz59⟩ := id (A2)
  have hin59 : ¬ ((18 : Int32) < 0 ∨ cl59.slots.size ≤ ((18 : Int32)).toNatClampNeg) := inb_of Sz59 ⟨by decide, by decide⟩
  have hat59 : cl59.slots[((18 : Int32)).toNatClampNeg]? = some (.int (111 : Int32)) := Hz59.at hin59 rfl
  refine own_go (s₁.setTop (mkF m 21 #[.val (.ref t1), .val (.ref t2), .val (.int (18 : Int32))] [(.int (111 : Int32)), (.int (111 : Int32))])) (fun t_ k_ => X0.baloadBytes hx (j := (18 : Int32)) (v := (.int (111 : Int32))) (by rw [e0]; exact Ar59.1) (State.isArrayOf_alike hZ.alike Ar59.2.1) Ar59.2.2 hin59 hat59 (g := (mkF m 20 #[.val (.ref t1), .val (.ref t2), .val (.int (18 : Int32))] [(.int (18 : Int32)), (.ref t2), (.int (111 : Int32))])) rfl rfl (hb hby own_d_jdk_43_method_13_20) _ k_) ?_
  refine own_go (s₁.setTop (mkF m 26 #[.val (.ref t1), .val (.ref t2), .val (.int (18 : Int32))] [])) (fun t_ k_ => XS.icmpYes X0.here hx rfl (pc0 := 21) (pc' := 26) rfl (hb hby own_d_jdk_43_method_13_21) rfl (teq (by decide : (111 : Int32) = (111 : Int32))).1 (by decide) (by decide) k_) ?_
  refine own_go (s₁.setTop (mkF m 29 #[.val (.ref t1), .val (.ref t2), .val (.int ((18 : Int32) + (1 : Int32)))] [])) (fun t_ k_ => XS.iinc X0.here hx rfl (hb hby own_d_jdk_43_method_13_26) rfl (l' := #[.val (.ref t1), .val (.ref t2), .val (.int ((18 : Int32) + (1 : Int32)))]) rfl k_) ?_
  rw [show ((18 : Int32) + (1 : Int32)) = (19 : Int32) from by decide]
  refine own_go (s₁.setTop (mkF m 9 #[.val (.ref t1), .val (.ref t2), .val (.int (19 : Int32))] [])) (fun t_ k_ => XS.goto X0.here hx rfl (pc0 := 29) (pc' := 9) rfl (hb hby own_d_jdk_43_method_13_29) (by decide) (by decide) k_) ?_
  refine own_go (s₁.setTop (mkF m 10 #[.val (.ref t1), .val (.ref t2), .val (.int (19 : Int32))] [(.int (19 : Int32))])) (fun t_ k_ => XS.iloadN X0.here hx rfl (hb hby own_d_jdk_43_method_13_9) rfl k_) ?_
  refine own_go (s₁.setTop (mkF m 11 #[.val (.ref t1), .val (.ref t2), .val (.int (19 : Int32))] [(.ref t1), (.int (19 : Int32))])) (fun t_ k_ => XS.aloadN X0.here hx rfl (hb hby own_d_jdk_43_method_13_10) rfl rfl k_) ?_
  obtain ⟨cl60, Ar60, q60, Sz60, Nz60, Hz60, Gz60⟩ := id (A1)
  refine own_go (s₁.setTop (mkF m 12 #[.val (.ref t1), .val (.ref t2), .val (.int (19 : Int32))] [(.int (25 : Int32)), (.int (19 : Int32))])) (fun t_ k_ => X0.arraylength hx (by rw [e0]; exact Ar60.1) (State.isArrayOf_alike hZ.alike Ar60.2.1) (g := (mkF m 11 #[.val (.ref t1), .val (.ref t2), .val (.int (19 : Int32))] [(.ref t1), (.int (19 : Int32))])) rfl rfl (hb hby own_d_jdk_43_method_13_11) _ (by rw [len_of Sz60 Nz60]; exact k_)) ?_
  refine own_go (s₁.setTop (mkF m 15 #[.val (.ref t1), .val (.ref t2), .val (.int (19 : Int32))] [])) (fun t_ k_ => XS.icmpNo X0.here hx rfl (hb hby own_d_jdk_43_method_13_12) rfl (tlt (by decide : (19 : Int32) < (25 : Int32))).2.1 k_) ?_
  refine own_go (s₁.setTop (mkF m 16 #[.val (.ref t1), .val (.ref t2), .val (.int (19 : Int32))] [(.ref t1)])) (fun t_ k_ => XS.aloadN X0.here hx rfl (hb hby own_d_jdk_43_method_13_15) rfl rfl k_) ?_
  refine own_go (s₁.setTop (mkF m 17 #[.val (.ref t1), .val (.ref t2), .val (.int (19 : Int32))] [(.int (19 : Int32)), (.ref t1)])) (fun t_ k_ => XS.iloadN X0.here hx rfl (hb hby own_d_jdk_43_method_13_16) rfl k_) ?_
  obtain ⟨cl61, Ar61, q61, Sz61, Nz61, Hz61, Gz61⟩ := id (A1)
  have hin61 : ¬ ((19 : Int32) < 0 ∨ cl61.slots.size ≤ ((19 : Int32)).toNatClampNeg) := inb_of Sz61 ⟨by decide, by decide⟩
  have hat61 : cl61.slots[((19 : Int32)).toNatClampNeg]? = some (.int (109 : Int32)) := Hz61.at hin61 rfl
  refine own_go (s₁.setTop (mkF m 18 #[.val (.ref t1), .val (.ref t2), .val (.int (19 : Int32))] [(.int (109 : Int32))])) (fun t_ k_ => X0.baloadBytes hx (j := (19 : Int32)) (v := (.int (109 : Int32))) (by rw [e0]; exact Ar61.1) (State.isArrayOf_alike hZ.alike Ar61.2.1) Ar61.2.2 hin61 hat61 (g := (mkF m 17 #[.val (.ref t1), .val (.ref t2), .val (.int (19 : Int32))] [(.int (19 : Int32)), (.ref t1)])) rfl rfl (hb hby own_d_jdk_43_method_13_17) _ k_) ?_
  refine own_go (s₁.setTop (mkF m 19 #[.val (.ref t1), .val (.ref t2), .val (.int (19 : Int32))] [(.ref t2), (.int (109 : Int32))])) (fun t_ k_ => XS.aloadN X0.here hx rfl (hb hby own_d_jdk_43_method_13_18) rfl rfl k_) ?_
  refine own_go (s₁.setTop (mkF m 20 #[.val (.ref t1), .val (.ref t2), .val (.int (19 : Int32))] [(.int (19 : Int32)), (.ref t2), (.int (109 : Int32))])) (fun t_ k_ => XS.iloadN X0.here hx rfl (hb hby own_d_jdk_43_method_13_19) rfl k_) ?_
  obtain ⟨cl62, Ar62, q62, Sz62, Nz62, Hz62, Gz62⟩ := id (A2)
  have hin62 : ¬ ((19 : Int32) < 0 ∨ cl62.slots.size ≤ ((19 : Int32)).toNatClampNeg) := inb_of Sz62 ⟨by decide, by decide⟩
  have hat62 : cl62.slots[((19 : Int32)).toNatClampNeg]? = some (.int (109 : Int32)) := Hz62.at hin62 rfl
  refine own_go (s₁.setTop (mkF m 21 #[.val (.ref t1), .val (.ref t2), .val (.int (19 : Int32))] [(.int (109 : Int32)), (.int (109 : Int32))])) (fun t_ k_ => X0.baloadBytes hx (j := (19 : Int32)) (v := (.int (109 : Int32))) (by rw [e0]; exact Ar62.1) (State.isArrayOf_alike hZ.alike Ar62.2.1) Ar62.2.2 hin62 hat62 (g := (mkF m 20 #[.val (.ref t1), .val (.ref t2), .val (.int (19 : Int32))] [(.int (19 : Int32)), (.ref t2), (.int (109 : Int32))])) rfl rfl (hb hby own_d_jdk_43_method_13_20) _ k_) ?_
  refine own_go (s₁.setTop (mkF m 26 #[.val (.ref t1), .val (.ref t2), .val (.int (19 : Int32))] [])) (fun t_ k_ => XS.icmpYes X0.here hx rfl (pc0 := 21) (pc' := 26) rfl (hb hby own_d_jdk_43_method_13_21) rfl (teq (by decide : (109 : Int32) = (109 : Int32))).1 (by decide) (by decide) k_) ?_
  refine own_go (s₁.setTop (mkF m 29 #[.val (.ref t1), .val (.ref t2), .val (.int ((19 : Int32) + (1 : Int32)))] [])) (fun t_ k_ => XS.iinc X0.here hx rfl (hb hby own_d_jdk_43_method_13_26) rfl (l' := #[.val (.ref t1), .val (.ref t2), .val (.int ((19 : Int32) + (1 : Int32)))]) rfl k_) ?_
  rw [show ((19 : Int32) + (1 : Int32)) = (20 : Int32) from by decide]
  refine own_go (s₁.setTop (mkF m 9 #[.val (.ref t1), .val (.ref t2), .val (.int (20 : Int32))] [])) (fun t_ k_ => XS.goto X0.here hx rfl (pc0 := 29) (pc' := 9) rfl (hb hby own_d_jdk_43_method_13_29) (by decide) (by decide) k_) ?_
  refine own_go (s₁.setTop (mkF m 10 #[.val (.ref t1), .val (.ref t2), .val (.int (20 : Int32))] [(.int (20 : Int32))])) (fun t_ k_ => XS.iloadN X0.here hx rfl (hb hby own_d_jdk_43_method_13_9) rfl k_) ?_
  refine own_go (s₁.setTop (mkF m 11 #[.val (.ref t1), .val (.ref t2), .val (.int (20 : Int32))] [(.ref t1), (.int (20 : Int32))])) (fun t_ k_ => XS.aloadN X0.here hx rfl (hb hby own_d_jdk_43_method_13_10) rfl rfl k_) ?_
  obtain ⟨cl63, Ar63, q63, Sz63, Nz63, Hz63, Gz63⟩ := id (A1)
  refine own_go (s₁.setTop (mkF m 12 #[.val (.ref t1), .val (.ref t2), .val (.int (20 : Int32))] [(.int (25 : Int32)), (.int (20 : Int32))])) (fun t_ k_ => X0.arraylength hx (by rw [e0]; exact Ar63.1) (State.isArrayOf_alike hZ.alike Ar63.2.1) (g := (mkF m 11 #[.val (.ref t1), .val (.ref t2), .val (.int (20 : Int32))] [(.ref t1), (.int (20 : Int32))])) rfl rfl (hb hby own_d_jdk_43_method_13_11) _ (by rw [len_of Sz63 Nz63]; exact k_)) ?_
  refine own_go (s₁.setTop (mkF m 15 #[.val (.ref t1), .val (.ref t2), .val (.int (20 : Int32))] [])) (fun t_ k_ => XS.icmpNo X0.here hx rfl (hb hby own_d_jdk_43_method_13_12) rfl (tlt (by decide : (20 : Int32) < (25 : Int32))).2.1 k_) ?_
  refine own_go (s₁.setTop (mkF m 16 #[.val (.ref t1), .val (.ref t2), .val (.int (20 : Int32))] [(.ref t1)])) (fun t_ k_ => XS.aloadN X0.here hx rfl (hb hby own_d_jdk_43_method_13_15) rfl rfl k_) ?_
  refine own_go (s₁.setTop (mkF m 17 #[.val (.ref t1), .val (.ref t2), .val (.int (20 : Int32))] [(.int (20 : Int32)), (.ref t1)])) (fun t_ k_ => XS.iloadN X0.here hx rfl (hb hby own_d_jdk_43_method_13_16) rfl k_) ?_
  obtain ⟨cl64, Ar64, q64, Sz64, Nz64, Hz64, Gz64⟩ := id (A1)
  have hin64 : ¬ ((20 : Int32) < 0 ∨ cl64.slots.size ≤ ((20 : Int32)).toNatClampNeg) := inb_of Sz64 ⟨by decide, by decide⟩
  have hat64 : cl64.slots[((20 : Int32)).toNatClampNeg]? = some (.int (112 : Int32)) := Hz64.at hin64 rfl
  refine own_go (s₁.setTop (mkF m 18 #[.val (.ref t1), .val (.ref t2), .val (.int (20 : Int32))] [(.int (112 : Int32))])) (fun t_ k_ => X0.baloadBytes hx (j := (20 : Int32)) (v := (.int (112 : Int32))) (by rw [e0]; exact Ar64.1) (State.isArrayOf_alike hZ.alike Ar64.2.1) Ar64.2.2 hin64 hat64 (g := (mkF m 17 #[.val (.ref t1), .val (.ref t2), .val (.int (20 : Int32))] [(.int (20 : Int32)), (.ref t1)])) rfl rfl (hb hby own_d_jdk_43_method_13_17) _ k_) ?_
  refine own_go (s₁.setTop (mkF m 19 #[.val (.ref t1), .val (.ref t2), .val (.int (20 : Int32))] [(.ref t2), (.int (112 : Int32))])) (fun t_ k_ => XS.aloadN X0.here hx rfl (hb hby own_d_jdk_43_method_13_18) rfl rfl k_) ?_
  refine own_go (s₁.setTop (mkF m 20 #[.val (.ref t1), .val (.ref t2), .val (.int (20 : Int32))] [(.int (20 : Int32)), (.ref t2), (.int (112 : Int32))])) (fun t_ k_ => XS.iloadN X0.here hx rfl (hb hby own_d_jdk_43_method_13_19) rfl k_) ?_
  obtain ⟨cl65, Ar65, q65, Sz65, Nz65, Hz65, Gz65⟩ := id (A2)
  have hin65 : ¬ ((20 : Int32) < 0 ∨ cl65.slots.size ≤ ((20 : Int32)).toNatClampNeg) := inb_of Sz65 ⟨by decide, by decide⟩
  have hat65 : cl65.slots[((20 : Int32)).toNatClampNeg]? = some (.int (112 : Int32)) := Hz65.at hin65 rfl
  refine own_go (s₁.setTop (mkF m 21 #[.val (.ref t1), .val (.ref t2), .val (.int (20 : Int32))] [(.int (112 : Int32)), (.int (112 : Int32))])) (fun t_ k_ => X0.baloadBytes hx (j := (20 : Int32)) (v := (.int (112 : Int32))) (by rw [e0]; exact Ar65.1) (State.isArrayOf_alike hZ.alike Ar65.2.1) Ar65.2.2 hin65 hat65 (g := (mkF m 20 #[.val (.ref t1), .val (.ref t2), .val (.int (20 : Int32))] [(.int (20 : Int32)), (.ref t2), (.int (112 : Int32))])) rfl rfl (hb hby own_d_jdk_43_method_13_20) _ k_) ?_
  refine own_go (s₁.setTop (mkF m 26 #[.val (.ref t1), .val (.ref t2), .val (.int (20 : Int32))] [])) (fun t_ k_ => XS.icmpYes X0.here hx rfl (pc0 := 21) (pc' := 26) rfl (hb hby own_d_jdk_43_method_13_21) rfl (teq (by decide : (112 : Int32) = (112 : Int32))).1 (by decide) (by decide) k_) ?_
  refine own_go (s₁.setTop (mkF m 29 #[.val (.ref t1), .val (.ref t2), .val (.int ((20 : Int32) + (1 : Int32)))] [])) (fun t_ k_ => XS.iinc X0.here hx rfl (hb hby own_d_jdk_43_method_13_26) rfl (l' := #[.val (.ref t1), .val (.ref t2), .val (.int ((20 : Int32) + (1 : Int32)))]) rfl k_) ?_
  rw [show ((20 : Int32) + (1 : Int32)) = (21 : Int32) from by decide]
  refine own_go (s₁.setTop (mkF m 9 #[.val (.ref t1), .val (.ref t2), .val (.int (21 : Int32))] [])) (fun t_ k_ => XS.goto X0.here hx rfl (pc0 := 29) (pc' := 9) rfl (hb hby own_d_jdk_43_method_13_29) (by decide) (by decide) k_) ?_
  refine own_go (s₁.setTop (mkF m 10 #[.val (.ref t1), .val (.ref t2), .val (.int (21 : Int32))] [(.int (21 : Int32))])) (fun t_ k_ => XS.iloadN X0.here hx rfl (hb hby own_d_jdk_43_method_13_9) rfl k_) ?_
  refine own_go (s₁.setTop (mkF m 11 #[.val (.ref t1), .val (.ref t2), .val (.int (21 : Int32))] [(.ref t1), (.int (21 : Int32))])) (fun t_ k_ => XS.aloadN X0.here hx rfl (hb hby own_d_jdk_43_method_13_10) rfl rfl k_) ?_
  obtain ⟨cl66, Ar66, q66, Sz66, Nz66, Hz66, Gz66⟩ := id (A1)
  refine own_go (s₁.setTop (mkF m 12 #[.val (.ref t1), .val (.ref t2), .val (.int (21 : Int32))] [(.int (25 : Int32)), (.int (21 : Int32))])) (fun t_ k_ => X0.arraylength hx (by rw [e0]; exact Ar66.1) (State.isArrayOf_alike hZ.alike Ar66.2.1) (g := (mkF m 11 #[.val (.ref t1), .val (.ref t2), .val (.int (21 : Int32))] [(.ref t1), (.int (21 : Int32))])) rfl rfl (hb hby own_d_jdk_43_method_13_11) _ (by rw [len_of Sz66 Nz66]; exact k_)) ?_
  refine own_go (s₁.setTop (mkF m 15 #[.val (.ref t1), .val (.ref t2), .val (.int (21 : Int32))] [])) (fun t_ k_ => XS.icmpNo X0.here hx rfl (hb hby own_d_jdk_43_method_13_12) rfl (tlt (by decide : (21 : Int32) < (25 : Int32))).2.1 k_) ?_
  refine own_go (s₁.setTop (mkF m 16 #[.val (.ref t1), .val (.ref t2), .val (.int (21 : Int32))] [(.ref t1)])) (fun t_ k_ => XS.aloadN X0.here hx rfl (hb hby own_d_jdk_43_method_13_15) rfl rfl k_) ?_
  refine own_go (s₁.setTop (mkF m 17 #[.val (.ref t1), .val (.ref t2), .val (.int (21 : Int32))] [(.int (21 : Int32)), (.ref t1)])) (fun t_ k_ => XS.iloadN X0.here hx rfl (hb hby own_d_jdk_43_method_13_16) rfl k_) ?_
  obtain ⟨cl67, Ar67, q67, Sz67, Nz67, Hz67, Gz67⟩ := id (A1)
  have hin67 : ¬ ((21 : Int32) < 0 ∨ cl67.slots.size ≤ ((21 : Int32)).toNatClampNeg) := inb_of Sz67 ⟨by decide, by decide⟩
  have hat67 : cl67.slots[((21 : Int32)).toNatClampNeg]? = some (.int (108 : Int32)) := Hz67.at hin67 rfl
  refine own_go (s₁.setTop (mkF m 18 #[.val (.ref t1), .val (.ref t2), .val (.int (21 : Int32))] [(.int (108 : Int32))])) (fun t_ k_ => X0.baloadBytes hx (j := (21 : Int32)) (v := (.int (108 : Int32))) (by rw [e0]; exact Ar67.1) (State.isArrayOf_alike hZ.alike Ar67.2.1) Ar67.2.2 hin67 hat67 (g := (mkF m 17 #[.val (.ref t1), .val (.ref t2), .val (.int (21 : Int32))] [(.int (21 : Int32)), (.ref t1)])) rfl rfl (hb hby own_d_jdk_43_method_13_17) _ k_) ?_
  refine own_go (s₁.setTop (mkF m 19 #[.val (.ref t1), .val (.ref t2), .val (.int (21 : Int32))] [(.ref t2), (.int (108 : Int32))])) (fun t_ k_ => XS.aloadN X0.here hx rfl (hb hby own_d_jdk_43_method_13_18) rfl rfl k_) ?_
  refine own_go (s₁.setTop (mkF m 20 #[.val (.ref t1), .val (.ref t2), .val (.int (21 : Int32))] [(.int (21 : Int32)), (.ref t2), (.int (108 : Int32))])) (fun t_ k_ => XS.iloadN X0.here hx rfl (hb hby own_d_jdk_43_method_13_19) rfl k_) ?_
  obtain ⟨cl68, Ar68, q68, Sz68, Nz68, Hz68, Gz68⟩ := id (A2)
  have hin68 : ¬ ((21 : Int32) < 0 ∨ cl68.slots.size ≤ ((21 : Int32)).toNatClampNeg) := inb_of Sz68 ⟨by decide, by decide⟩
  have hat68 : cl68.slots[((21 : Int32)).toNatClampNeg]? = some (.int (108 : Int32)) := Hz68.at hin68 rfl
  refine own_go (s₁.setTop (mkF m 21 #[.val (.ref t1), .val (.ref t2), .val (.int (21 : Int32))] [(.int (108 : Int32)), (.int (108 : Int32))])) (fun t_ k_ => X0.baloadBytes hx (j := (21 : Int32)) (v := (.int (108 : Int32))) (by rw [e0]; exact Ar68.1) (State.isArrayOf_alike hZ.alike Ar68.2.1) Ar68.2.2 hin68 hat68 (g := (mkF m 20 #[.val (.ref t1), .val (.ref t2), .val (.int (21 : Int32))] [(.int (21 : Int32)), (.ref t2), (.int (108 : Int32))])) rfl rfl (hb hby own_d_jdk_43_method_13_20) _ k_) ?_
  refine own_go (s₁.setTop (mkF m 26 #[.val (.ref t1), .val (.ref t2), .val (.int (21 : Int32))] [])) (fun t_ k_ => XS.icmpYes X0.here hx rfl (pc0 := 21) (pc' := 26) rfl (hb hby own_d_jdk_43_method_13_21) rfl (teq (by decide : (108 : Int32) = (108 : Int32))).1 (by decide) (by decide) k_) ?_
  refine own_go (s₁.setTop (mkF m 29 #[.val (.ref t1), .val (.ref t2), .val (.int ((21 : Int32) + (1 : Int32)))] [])) (fun t_ k_ => XS.iinc X0.here hx rfl (hb hby own_d_jdk_43_method_13_26) rfl (l' := #[.val (.ref t1), .val (.ref t2), .val (.int ((21 : Int32) + (1 : Int32)))]) rfl k_) ?_
  rw [show ((21 : Int32) + (1 : Int32)) = (22 : Int32) from by decide]
  refine own_go (s₁.setTop (mkF m 9 #[.val (.ref t1), .val (.ref t2), .val (.int (22 : Int32))] [])) (fun t_ k_ => XS.goto X0.here hx rfl (pc0 := 29) (pc' := 9) rfl (hb hby own_d_jdk_43_method_13_29) (by decide) (by decide) k_) ?_
  refine own_go (s₁.setTop (mkF m 10 #[.val (.ref t1), .val (.ref t2), .val (.int (22 : Int32))] [(.int (22 : Int32))])) (fun t_ k_ => XS.iloadN X0.here hx rfl (hb hby own_d_jdk_43_method_13_9) rfl k_) ?_
  refine own_go (s₁.setTop (mkF m 11 #[.val (.ref t1), .val (.ref t2), .val (.int (22 : Int32))] [(.ref t1), (.int (22 : Int32))])) (fun t_ k_ => XS.aloadN X0.here hx rfl (hb hby own_d_jdk_43_method_13_10) rfl rfl k_) ?_
  obtain ⟨cl69, Ar69, q69, Sz69, Nz69, Hz69, Gz69⟩ := id (A1)
  refine own_go (s₁.setTop (mkF m 12 #[.val (.ref t1), .val (.ref t2), .val (.int (22 : Int32))] [(.int (25 : Int32)), (.int (22 : Int32))])) (fun t_ k_ => X0.arraylength hx (by rw [e0]; exact Ar69.1) (State.isArrayOf_alike hZ.alike Ar69.2.1) (g := (mkF m 11 #[.val (.ref t1), .val (.ref t2), .val (.int (22 : Int32))] [(.ref t1), (.int (22 : Int32))])) rfl rfl (hb hby own_d_jdk_43_method_13_11) _ (by rw [len_of Sz69 Nz69]; exact k_)) ?_
  refine own_go (s₁.setTop (mkF m 15 #[.val (.ref t1), .val (.ref t2), .val (.int (22 : Int32))] [])) (fun t_ k_ => XS.icmpNo X0.here hx rfl (hb hby own_d_jdk_43_method_13_12) rfl (tlt (by decide : (22 : Int32) < (25 : Int32))).2.1 k_) ?_
  refine own_go (s₁.setTop (mkF m 16 #[.val (.ref t1), .val (.ref t2), .val (.int (22 : Int32))] [(.ref t1)])) (fun t_ k_ => XS.aloadN X0.here hx rfl (hb hby own_d_jdk_43_method_13_15) rfl rfl k_) ?_
  refine own_go (s₁.setTop (mkF m 17 #[.val (.ref t1), .val (.ref t2), .val (.int (22 : Int32))] [(.int (22 : Int32)), (.ref t1)])) (fun t_ k_ => XS.iloadN X0.here hx rfl (hb hby own_d_jdk_43_method_13_16) rfl k_) ?_
  obtain ⟨cl70, Ar70, q70, Sz70, Nz70, Hz70, Gz70⟩ := id (A1)
  have hin70 : ¬ ((22 : Int32) < 0 ∨ cl70.slots.size ≤ ((22 : Int32)).toNatClampNeg) := inb_of Sz70 ⟨by decide, by decide⟩
  have hat70 : cl70.slots[((22 : Int32)).toNatClampNeg]? = some (.int (101 : Int32)) := Hz70.at hin70 rfl
  refine own_go (s₁.setTop (mkF m 18 #[.val (.ref t1), .val (.ref t2), .val (.int (22 : Int32))] [(.int (101 : Int32))])) (fun t_ k_ => X0.baloadBytes hx (j := (22 : Int32)) (v := (.int (101 : Int32))) (by rw [e0]; exact Ar70.1) (State.isArrayOf_alike hZ.alike Ar70.2.1) Ar70.2.2 hin70 hat70 (g := (mkF m 17 #[.val (.ref t1), .val (.ref t2), .val (.int (22 : Int32))] [(.int (22 : Int32)), (.ref t1)])) rfl rfl (hb hby own_d_jdk_43_method_13_17) _ k_) ?_
  refine own_go (s₁.setTop (mkF m 19 #[.val (.ref t1), .val (.ref t2), .val (.int (22 : Int32))] [(.ref t2), (.int (101 : Int32))])) (fun t_ k_ => XS.aloadN X0.here hx rfl (hb hby own_d_jdk_43_method_13_18) rfl rfl k_) ?_
  refine own_go (s₁.setTop (mkF m 20 #[.val (.ref t1), .val (.ref t2), .val (.int (22 : Int32))] [(.int (22 : Int32)), (.ref t2), (.int (101 : Int32))])) (fun t_ k_ => XS.iloadN X0.here hx rfl (hb hby own_d_jdk_43_method_13_19) rfl k_) ?_
  obtain ⟨cl71, Ar71, q71, Sz71, Nz71, Hz71, Gz71⟩ := id (A2)
  have hin71 : ¬ ((22 : Int32) < 0 ∨ cl71.slots.size ≤ ((22 : Int32)).toNatClampNeg) := inb_of Sz71 ⟨by decide, by decide⟩
  have hat71 : cl71.slots[((22 : Int32)).toNatClampNeg]? = some (.int (101 : Int32)) := Hz71.at hin71 rfl
  refine own_go (s₁.setTop (mkF m 21 #[.val (.ref t1), .val (.ref t2), .val (.int (22 : Int32))] [(.int (101 : Int32)), (.int (101 : Int32))])) (fun t_ k_ => X0.baloadBytes hx (j := (22 : Int32)) (v := (.int (101 : Int32))) (by rw [e0]; exact Ar71.1) (State.isArrayOf_alike hZ.alike Ar71.2.1) Ar71.2.2 hin71 hat71 (g := (mkF m 20 #[.val (.ref t1), .val (.ref t2), .val (.int (22 : Int32))] [(.int (22 : Int32)), (.ref t2), (.int (101 : Int32))])) rfl rfl (hb hby own_d_jdk_43_method_13_20) _ k_) ?_
  refine own_go (s₁.setTop (mkF m 26 #[.val (.ref t1), .val (.ref t2), .val (.int (22 : Int32))] [])) (fun t_ k_ => XS.icmpYes X0.here hx rfl (pc0 := 21) (pc' := 26) rfl (hb hby own_d_jdk_43_method_13_21) rfl (teq (by decide : (101 : Int32) = (101 : Int32))).1 (by decide) (by decide) k_) ?_
  refine own_go (s₁.setTop (mkF m 29 #[.val (.ref t1), .val (.ref t2), .val (.int ((22 : Int32) + (1 : Int32)))] [])) (fun t_ k_ => XS.iinc X0.here hx rfl (hb hby own_d_jdk_43_method_13_26) rfl (l' := #[.val (.ref t1), .val (.ref t2), .val (.int ((22 : Int32) + (1 : Int32)))]) rfl k_) ?_
  rw [show ((22 : Int32) + (1 : Int32)) = (23 : Int32) from by decide]
  refine own_go (s₁.setTop (mkF m 9 #[.val (.ref t1), .val (.ref t2), .val (.int (23 : Int32))] [])) (fun t_ k_ => XS.goto X0.here hx rfl (pc0 := 29) (pc' := 9) rfl (hb hby own_d_jdk_43_method_13_29) (by decide) (by decide) k_) ?_
  refine own_go (s₁.setTop (mkF m 10 #[.val (.ref t1), .val (.ref t2), .val (.int (23 : Int32))] [(.int (23 : Int32))])) (fun t_ k_ => XS.iloadN X0.here hx rfl (hb hby own_d_jdk_43_method_13_9) rfl k_) ?_
  refine own_go (s₁.setTop (mkF m 11 #[.val (.ref t1), .val (.ref t2), .val (.int (23 : Int32))] [(.ref t1), (.int (23 : Int32))])) (fun t_ k_ => XS.aloadN X0.here hx rfl (hb hby own_d_jdk_43_method_13_10) rfl rfl k_) ?_
  obtain ⟨cl72, Ar72, q72, Sz72, Nz72, Hz72, Gz72⟩ := id (A1)
  refine own_go (s₁.setTop (mkF m 12 #[.val (.ref t1), .val (.ref t2), .val (.int (23 : Int32))] [(.int (25 : Int32)), (.int (23 : Int32))])) (fun t_ k_ => X0.arraylength hx (by rw [e0]; exact Ar72.1) (State.isArrayOf_alike hZ.alike Ar72.2.1) (g := (mkF m 11 #[.val (.ref t1), .val (.ref t2), .val (.int (23 : Int32))] [(.ref t1), (.int (23 : Int32))])) rfl rfl (hb hby own_d_jdk_43_method_13_11) _ (by rw [len_of Sz72 Nz72]; exact k_)) ?_
  refine own_go (s₁.setTop (mkF m 15 #[.val (.ref t1), .val (.ref t2), .val (.int (23 : Int32))] [])) (fun t_ k_ => XS.icmpNo X0.here hx rfl (hb hby own_d_jdk_43_method_13_12) rfl (tlt (by decide : (23 : Int32) < (25 : Int32))).2.1 k_) ?_
  refine own_go (s₁.setTop (mkF m 16 #[.val (.ref t1), .val (.ref t2), .val (.int (23 : Int32))] [(.ref t1)])) (fun t_ k_ => XS.aloadN X0.here hx rfl (hb hby own_d_jdk_43_method_13_15) rfl rfl k_) ?_
  refine own_go (s₁.setTop (mkF m 17 #[.val (.ref t1), .val (.ref t2), .val (.int (23 : Int32))] [(.int (23 : Int32)), (.ref t1)])) (fun t_ k_ => XS.iloadN X0.here hx rfl (hb hby own_d_jdk_43_method_13_16) rfl k_) ?_
  obtain ⟨cl73, Ar73, q73, Sz73, Nz73, Hz73, Gz73⟩ := id (A1)
  have hin73 : ¬ ((23 : Int32) < 0 ∨ cl73.slots.size ≤ ((23 : Int32)).toNatClampNeg) := inb_of Sz73 ⟨by decide, by decide⟩
  have hat73 : cl73.slots[((23 : Int32)).toNatClampNeg]? = some (.int (116 : Int32)) := Hz73.at hin73 rfl
  refine own_go (s₁.setTop (mkF m 18 #[.val (.ref t1), .val (.ref t2), .val (.int (23 : Int32))] [(.int (116 : Int32))])) (fun t_ k_ => X0.baloadBytes hx (j := (23 : Int32)) (v := (.int (116 : Int32))) (by rw [e0]; exact Ar73.1) (State.isArrayOf_alike hZ.alike Ar73.2.1) Ar73.2.2 hin73 hat73 (g := (mkF m 17 #[.val (.ref t1), .val (.ref t2), .val (.int (23 : Int32))] [(.int (23 : Int32)), (.ref t1)])) rfl rfl (hb hby own_d_jdk_43_method_13_17) _ k_) ?_
  refine own_go (s₁.setTop (mkF m 19 #[.val (.ref t1), .val (.ref t2), .val (.int (23 : Int32))] [(.ref t2), (.int (116 : Int32))])) (fun t_ k_ => XS.aloadN X0.here hx rfl (hb hby own_d_jdk_43_method_13_18) rfl rfl k_) ?_
  refine own_go (s₁.setTop (mkF m 20 #[.val (.ref t1), .val (.ref t2), .val (.int (23 : Int32))] [(.int (23 : Int32)), (.ref t2), (.int (116 : Int32))])) (fun t_ k_ => XS.iloadN X0.here hx rfl (hb hby own_d_jdk_43_method_13_19) rfl k_) ?_
  obtain ⟨cl74, Ar74, q74, Sz74, Nz74, Hz74, Gz74⟩ := id (A2)
  have hin74 : ¬ ((23 : Int32) < 0 ∨ cl74.slots.size ≤ ((23 : Int32)).toNatClampNeg) := inb_of Sz74 ⟨by decide, by decide⟩
  have hat74 : cl74.slots[((23 : Int32)).toNatClampNeg]? = some (.int (116 : Int32)) := Hz74.at hin74 rfl
  refine own_go (s₁.setTop (mkF m 21 #[.val (.ref t1), .val (.ref t2), .val (.int (23 : Int32))] [(.int (116 : Int32)), (.int (116 : Int32))])) (fun t_ k_ => X0.baloadBytes hx (j := (23 : Int32)) (v := (.int (116 : Int32))) (by rw [e0]; exact Ar74.1) (State.isArrayOf_alike hZ.alike Ar74.2.1) Ar74.2.2 hin74 hat74 (g := (mkF m 20 #[.val (.ref t1), .val (.ref t2), .val (.int (23 : Int32))] [(.int (23 : Int32)), (.ref t2), (.int (116 : Int32))])) rfl rfl (hb hby own_d_jdk_43_method_13_20) _ k_) ?_
  refine own_go (s₁.setTop (mkF m 26 #[.val (.ref t1), .val (.ref t2), .val (.int (23 : Int32))] [])) (fun t_ k_ => XS.icmpYes X0.here hx rfl (pc0 := 21) (pc' := 26) rfl (hb hby own_d_jdk_43_method_13_21) rfl (teq (by decide : (116 : Int32) = (116 : Int32))).1 (by decide) (by decide) k_) ?_
  refine own_go (s₁.setTop (mkF m 29 #[.val (.ref t1), .val (.ref t2), .val (.int ((23 : Int32) + (1 : Int32)))] [])) (fun t_ k_ => XS.iinc X0.here hx rfl (hb hby own_d_jdk_43_method_13_26) rfl (l' := #[.val (.ref t1), .val (.ref t2), .val (.int ((23 : Int32) + (1 : Int32)))]) rfl k_) ?_
  rw [show ((23 : Int32) + (1 : Int32)) = (24 : Int32) from by decide]
  refine own_go (s₁.setTop (mkF m 9 #[.val (.ref t1), .val (.ref t2), .val (.int (24 : Int32))] [])) (fun t_ k_ => XS.goto X0.here hx rfl (pc0 := 29) (pc' := 9) rfl (hb hby own_d_jdk_43_method_13_29) (by decide) (by decide) k_) ?_
  refine own_go (s₁.setTop (mkF m 10 #[.val (.ref t1), .val (.ref t2), .val (.int (24 : Int32))] [(.int (24 : Int32))])) (fun t_ k_ => XS.iloadN X0.here hx rfl (hb hby own_d_jdk_43_method_13_9) rfl k_) ?_
  refine own_go (s₁.setTop (mkF m 11 #[.val (.ref t1), .val (.ref t2), .val (.int (24 : Int32))] [(.ref t1), (.int (24 : Int32))])) (fun t_ k_ => XS.aloadN X0.here hx rfl (hb hby own_d_jdk_43_method_13_10) rfl rfl k_) ?_
  obtain ⟨cl75, Ar75, q75, Sz75, Nz75, Hz75, Gz75⟩ := id (A1)
  refine own_go (s₁.setTop (mkF m 12 #[.val (.ref t1), .val (.ref t2), .val (.int (24 : Int32))] [(.int (25 : Int32)), (.int (24 : Int32))])) (fun t_ k_ => X0.arraylength hx (by rw [e0]; exact Ar75.1) (State.isArrayOf_alike hZ.alike Ar75.2.1) (g := (mkF m 11 #[.val (.ref t1), .val (.ref t2), .val (.int (24 : Int32))] [(.ref t1), (.int (24 : Int32))])) rfl rfl (hb hby own_d_jdk_43_method_13_11) _ (by rw [len_of Sz75 Nz75]; exact k_)) ?_
  refine own_go (s₁.setTop (mkF m 15 #[.val (.ref t1), .val (.ref t2), .val (.int (24 : Int32))] [])) (fun t_ k_ => XS.icmpNo X0.here hx rfl (hb hby own_d_jdk_43_method_13_12) rfl (tlt (by decide : (24 : Int32) < (25 : Int32))).2.1 k_) ?_
  refine own_go (s₁.setTop (mkF m 16 #[.val (.ref t1), .val (.ref t2), .val (.int (24 : Int32))] [(.ref t1)])) (fun t_ k_ => XS.aloadN X0.here hx rfl (hb hby own_d_jdk_43_method_13_15) rfl rfl k_) ?_
  refine own_go (s₁.setTop (mkF m 17 #[.val (.ref t1), .val (.ref t2), .val (.int (24 : Int32))] [(.int (24 : Int32)), (.ref t1)])) (fun t_ k_ => XS.iloadN X0.here hx rfl (hb hby own_d_jdk_43_method_13_16) rfl k_) ?_
  obtain ⟨cl76, Ar76, q76, Sz76, Nz76, Hz76, Gz76⟩ := id (A1)
  have hin76 : ¬ ((24 : Int32) < 0 ∨ cl76.slots.size ≤ ((24 : Int32)).toNatClampNeg) := inb_of Sz76 ⟨by decide, by decide⟩
  have hat76 : cl76.slots[((24 : Int32)).toNatClampNeg]? = some (.int (101 : Int32)) := Hz76.at hin76 rfl
  refine own_go (s₁.setTop (mkF m 18 #[.val (.ref t1), .val (.ref t2), .val (.int (24 : Int32))] [(.int (101 : Int32))])) (fun t_ k_ => X0.baloadBytes hx (j := (24 : Int32)) (v := (.int (101 : Int32))) (by rw [e0]; exact Ar76.1) (State.isArrayOf_alike hZ.alike Ar76.2.1) Ar76.2.2 hin76 hat76 (g := (mkF m 17 #[.val (.ref t1), .val (.ref t2), .val (.int (24 : Int32))] [(.int (24 : Int32)), (.ref t1)])) rfl rfl (hb hby own_d_jdk_43_method_13_17) _ k_) ?_
  refine own_go (s₁.setTop (mkF m 19 #[.val (.ref t1), .val (.ref t2), .val (.int (24 : Int32))] [(.ref t2), (.int (101 : Int32))])) (fun t_ k_ => XS.aloadN X0.here hx rfl (hb hby own_d_jdk_43_method_13_18) rfl rfl k_) ?_
  refine own_go (s₁.setTop (mkF m 20 #[.val (.ref t1), .val (.ref t2), .val (.int (24 : Int32))] [(.int (24 : Int32)), (.ref t2), (.int (101 : Int32))])) (fun t_ k_ => XS.iloadN X0.here hx rfl (hb hby own_d_jdk_43_method_13_19) rfl k_) ?_
  obtain ⟨cl77, Ar77, q77, Sz77, Nz77, Hz77, Gz77⟩ := id (A2)
  have hin77 : ¬ ((24 : Int32) < 0 ∨ cl77.slots.size ≤ ((24 : Int32)).toNatClampNeg) := inb_of Sz77 ⟨by decide, by decide⟩
  have hat77 : cl77.slots[((24 : Int32)).toNatClampNeg]? = some (.int (101 : Int32)) := Hz77.at hin77 rfl
  refine own_go (s₁.setTop (mkF m 21 #[.val (.ref t1), .val (.ref t2), .val (.int (24 : Int32))] [(.int (101 : Int32)), (.int (101 : Int32))])) (fun t_ k_ => X0.baloadBytes hx (j := (24 : Int32)) (v := (.int (101 : Int32))) (by rw [e0]; exact Ar77.1) (State.isArrayOf_alike hZ.alike Ar77.2.1) Ar77.2.2 hin77 hat77 (g := (mkF m 20 #[.val (.ref t1), .val (.ref t2), .val (.int (24 : Int32))] [(.int (24 : Int32)), (.ref t2), (.int (101 : Int32))])) rfl rfl (hb hby own_d_jdk_43_method_13_20) _ k_) ?_
  refine own_go (s₁.setTop (mkF m 26 #[.val (.ref t1), .val (.ref t2), .val (.int (24 : Int32))] [])) (fun t_ k_ => XS.icmpYes X0.here hx rfl (pc0 := 21) (pc' := 26) rfl (hb hby own_d_jdk_43_method_13_21) rfl (teq (by decide : (101 : Int32) = (101 : Int32))).1 (by decide) (by decide) k_) ?_
  refine own_go (s₁.setTop (mkF m 29 #[.val (.ref t1), .val (.ref t2), .val (.int ((24 : Int32) + (1 : Int32)))] [])) (fun t_ k_ => XS.iinc X0.here hx rfl (hb hby own_d_jdk_43_method_13_26) rfl (l' := #[.val (.ref t1), .val (.ref t2), .val (.int ((24 : Int32) + (1 : Int32)))]) rfl k_) ?_
  rw [show ((24 : Int32) + (1 : Int32)) = (25 : Int32) from by decide]
  refine own_go (s₁.setTop (mkF m 9 #[.val (.ref t1), .val (.ref t2), .val (.int (25 : Int32))] [])) (fun t_ k_ => XS.goto X0.here hx rfl (pc0 := 29) (pc' := 9) rfl (hb hby own_d_jdk_43_method_13_29) (by decide) (by decide) k_) ?_
  refine own_go (s₁.setTop (mkF m 10 #[.val (.ref t1), .val (.ref t2), .val (.int (25 : Int32))] [(.int (25 : Int32))])) (fun t_ k_ => XS.iloadN X0.here hx rfl (hb hby own_d_jdk_43_method_13_9) rfl k_) ?_
  refine own_go (s₁.setTop (mkF m 11 #[.val (.ref t1), .val (.ref t2), .val (.int (25 : Int32))] [(.ref t1), (.int (25 : Int32))])) (fun t_ k_ => XS.aloadN X0.here hx rfl (hb hby own_d_jdk_43_method_13_10) rfl rfl k_) ?_
  obtain ⟨cl78, Ar78, q78, Sz78, Nz78, Hz78, Gz78⟩ := id (A1)
  refine own_go (s₁.setTop (mkF m 12 #[.val (.ref t1), .val (.ref t2), .val (.int (25 : Int32))] [(.int (25 : Int32)), (.int (25 : Int32))])) (fun t_ k_ => X0.arraylength hx (by rw [e0]; exact Ar78.1) (State.isArrayOf_alike hZ.alike Ar78.2.1) (g := (mkF m 11 #[.val (.ref t1), .val (.ref t2), .val (.int (25 : Int32))] [(.ref t1), (.int (25 : Int32))])) rfl rfl (hb hby own_d_jdk_43_method_13_11) _ (by rw [len_of Sz78 Nz78]; exact k_)) ?_
  refine own_go (s₁.setTop (mkF m 32 #[.val (.ref t1), .val (.ref t2), .val (.int (25 : Int32))] [])) (fun t_ k_ => XS.icmpYes X0.here hx rfl (pc0 := 12) (pc' := 32) rfl (hb hby own_d_jdk_43_method_13_12) rfl (flt (by decide : ¬ ((25 : Int32) < (25 : Int32)))).2.1 (by decide) (by decide) k_) ?_
  refine own_go (s₁.setTop (mkF m 33 #[.val (.ref t1), .val (.ref t2), .val (.int (25 : Int32))] [(.int (1 : Int32))])) (fun t_ k_ => XS.iconst X0.here hx rfl (hb hby own_d_jdk_43_method_13_32) k_) ?_
  obtain ⟨fs, hr, hrun, hended, hW, hsame⟩ := X0.leave (v := some (.int (nar .boolean (1 : Int32)))) (fun h => by rw [Bd.returns] at h; cases h)
  refine ⟨_, _, retN X0 hx (t := .boolean) Bd.returns (by simp) (hb hby own_d_jdk_43_method_13_33) hr, hrun, hended, _, _, rfl, ?_, ⟨_, rfl⟩, hW, hsame.mono (by decide) (by decide)⟩
  show Q_le Z t1 kb t2 k2 h0 _ s₁.heap _
  exact ⟨rfl, N0, e0⟩
theorem own_ef_eq (m : MethodId) (o : Addr) (q : Addr) : entryFrame m #[(.ref o), (.ref q)] 3 = mkF m 0 #[.val (.ref o), .val (.ref q), .unset] [] := by first | (simp [entryFrame, mkF, argsToLocals, Value.category]; done) | rfl
theorem own_d_jdk_42_method_66_0 : decode jdk_42_method_66_code 0 = .ok (.aload_n 0, 1) := by decide +kernel
theorem own_d_jdk_42_method_66_1 : decode jdk_42_method_66_code 1 = .ok (.aload_n 1, 1) := by decide +kernel
theorem own_d_jdk_42_method_66_2 : decode jdk_42_method_66_code 2 = .ok (.if_acmp .ne 5, 3) := by decide +kernel
theorem own_d_jdk_42_method_66_5 : decode jdk_42_method_66_code 5 = .ok (.iconst 1, 1) := by decide +kernel
theorem own_d_jdk_42_method_66_6 : decode jdk_42_method_66_code 6 = .ok (.ireturn, 1) := by decide +kernel
theorem own_d_jdk_42_method_66_7 : decode jdk_42_method_66_code 7 = .ok (.aload_n 1, 1) := by decide +kernel
theorem own_d_jdk_42_method_66_8 : decode jdk_42_method_66_code 8 = .ok (.instanceof 10, 3) := by decide +kernel
theorem own_d_jdk_42_method_66_11 : decode jdk_42_method_66_code 11 = .ok (.ifCond .eq 43, 3) := by decide +kernel
theorem own_d_jdk_42_method_66_14 : decode jdk_42_method_66_code 14 = .ok (.aload_n 1, 1) := by decide +kernel
theorem own_d_jdk_42_method_66_15 : decode jdk_42_method_66_code 15 = .ok (.checkcast 10, 3) := by decide +kernel
theorem own_d_jdk_42_method_66_18 : decode jdk_42_method_66_code 18 = .ok (.astore_n 2, 1) := by decide +kernel
theorem own_d_jdk_42_method_66_19 : decode jdk_42_method_66_code 19 = .ok (.getstatic 38, 3) := by decide +kernel
theorem own_d_jdk_42_method_66_22 : decode jdk_42_method_66_code 22 = .ok (.ifCond .eq 14, 3) := by decide +kernel
theorem own_d_jdk_42_method_66_25 : decode jdk_42_method_66_code 25 = .ok (.aload_n 0, 1) := by decide +kernel
theorem own_d_jdk_42_method_66_26 : decode jdk_42_method_66_code 26 = .ok (.getfield 15, 3) := by decide +kernel
theorem own_d_jdk_42_method_66_29 : decode jdk_42_method_66_code 29 = .ok (.aload_n 2, 1) := by decide +kernel
theorem own_d_jdk_42_method_66_30 : decode jdk_42_method_66_code 30 = .ok (.getfield 15, 3) := by decide +kernel
theorem own_d_jdk_42_method_66_33 : decode jdk_42_method_66_code 33 = .ok (.if_icmp .ne 21, 3) := by decide +kernel
theorem own_d_jdk_42_method_66_36 : decode jdk_42_method_66_code 36 = .ok (.aload_n 0, 1) := by decide +kernel
theorem own_d_jdk_42_method_66_37 : decode jdk_42_method_66_code 37 = .ok (.getfield 9, 3) := by decide +kernel
theorem own_d_jdk_42_method_66_40 : decode jdk_42_method_66_code 40 = .ok (.aload_n 2, 1) := by decide +kernel
theorem own_d_jdk_42_method_66_41 : decode jdk_42_method_66_code 41 = .ok (.getfield 9, 3) := by decide +kernel
theorem own_d_jdk_42_method_66_44 : decode jdk_42_method_66_code 44 = .ok (.invokestatic 541, 3) := by decide +kernel
theorem own_pd21 : parseMethodDescriptor "([B[B)Z" = some ⟨[(.array .byte), (.array .byte)], some .boolean⟩ := by decide +kernel
theorem own_d_jdk_42_method_66_47 : decode jdk_42_method_66_code 47 = .ok (.ifCond .eq 7, 3) := by decide +kernel
theorem own_d_jdk_42_method_66_50 : decode jdk_42_method_66_code 50 = .ok (.iconst 1, 1) := by decide +kernel
theorem own_d_jdk_42_method_66_51 : decode jdk_42_method_66_code 51 = .ok (.goto 4, 3) := by decide +kernel
theorem own_d_jdk_42_method_66_55 : decode jdk_42_method_66_code 55 = .ok (.ireturn, 1) := by decide +kernel
def Q_eq (Z : State) (o : Addr) (t1 : Addr) (kb : ClassId) (q : Addr) (t2 : Addr) (k2 : ClassId) (a__VALUES : Addr) (a_OUT : Addr) (a_INP : Addr) (a_TAKE_COMPLETE : Addr) (a_OUT_text : Addr) (a_INP_text : Addr) (a_TAKE_COMPLETE_text : Addr) (a_OUT_text_value : Addr) (a_INP_text_value : Addr) (a_TAKE_COMPLETE_text_value : Addr) (k__VALUES : ClassId) (k_OUT_text_value : ClassId) (k_INP_text_value : ClassId) (k_TAKE_COMPLETE_text_value : ClassId) (cs0 : Int32) (h0 : Heap) (v_ : Option Value) (h : Heap) (L_ : List Loc) : Prop := v_ = some (.int 1) ∧ Fr Z.heap.size L_ ∧ (h = h0)
set_option maxRecDepth 65536 in
set_option maxHeartbeats 40000000 in
theorem rm_eq (l : Launch) (Z : State) (a0 : Array Value) (hw : ∀ d ∈ tables_1, d.before a0 Z = true) (ws : List Jvm.Cond) (o : Addr) (t1 : Addr) (kb : ClassId) (q : Addr) (t2 : Addr) (k2 : ClassId) (a__VALUES : Addr) (a_OUT : Addr) (a_INP : Addr) (a_TAKE_COMPLETE : Addr) (a_OUT_text : Addr) (a_INP_text : Addr) (a_TAKE_COMPLETE_text : Addr) (a_OUT_text_value : Addr) (a_INP_text_value : Addr) (a_TAKE_COMPLETE_text_value : Addr) (k__VALUES : ClassId) (k_OUT_text_value : ClassId) (k_INP_text_value : ClassId) (k_TAKE_COMPLETE_text_value : ClassId) (cs0 : Int32) (h0 : Heap) (O : Ext Z.heap h0) (w : own_W Z a__VALUES a_OUT a_INP a_TAKE_COMPLETE a_OUT_text a_INP_text a_TAKE_COMPLETE_text a_OUT_text_value a_INP_text_value a_TAKE_COMPLETE_text_value k__VALUES k_OUT_text_value k_INP_text_value k_TAKE_COMPLETE_text_value cs0) (Xo : Exa Z h0 o "java/lang/String") (Vo : Fld Z h0 o "java/lang/String" "value" "[B" (.ref t1)) (Co : Fld Z h0 o "java/lang/String" "coder" "B" (.int 0)) (Ao : Arv Z h0 t1 kb .byte 25 [(.int (111 : Int32)), (.int (117 : Int32)), (.int (116 : Int32)), (.int (44 : Int32)), (.int (32 : Int32)), (.int (105 : Int32)), (.int (110 : Int32)), (.int (112 : Int32)), (.int (32 : Int32)), (.int (111 : Int32)), (.int (114 : Int32)), (.int (32 : Int32)), (.int (116 : Int32)), (.int (97 : Int32)), (.int (107 : Int32)), (.int (101 : Int32)), (.int (45 : Int32)), (.int (99 : Int32)), (.int (111 : Int32)), (.int (109 : Int32)), (.int (112 : Int32)), (.int (108 : Int32)), (.int (101 : Int32)), (.int (116 : Int32)), (.int (101 : Int32))] (.int 0)) (Xq : Exa Z h0 q "java/lang/String") (Vq : Fld Z h0 q "java/lang/String" "value" "[B" (.ref t2)) (Cq : Fld Z h0 q "java/lang/String" "coder" "B" (.int 0)) (Aq : Arv Z h0 t2 k2 .byte 25 [(.int (111 : Int32)), (.int (117 : Int32)), (.int (116 : Int32)), (.int (44 : Int32)), (.int (32 : Int32)), (.int (105 : Int32)), (.int (110 : Int32)), (.int (112 : Int32)), (.int (32 : Int32)), (.int (111 : Int32)), (.int (114 : Int32)), (.int (32 : Int32)), (.int (116 : Int32)), (.int (97 : Int32)), (.int (107 : Int32)), (.int (101 : Int32)), (.int (45 : Int32)), (.int (99 : Int32)), (.int (111 : Int32)), (.int (109 : Int32)), (.int (112 : Int32)), (.int (108 : Int32)), (.int (101 : Int32)), (.int (116 : Int32)), (.int (101 : Int32))] (.int 0)) :
    MetFree l (⟨"java/lang/String", "equals", "(Ljava/lang/Object;)Z"⟩ : MethodName) (head1 (Jvm.Cond.code (⟨"java/lang/String", "equals", "(Ljava/lang/Object;)Z"⟩ : MethodName) jdk_42_method_66_code 3 (some .boolean) :: ws) ({ frames := 1, cells := 0, slots := 0, locals := 14 } : Room)) (fun a_ U_ => a_ = #[(.ref o), (.ref q)] ∧ Z.Warmed39 U_.vm ∧ U_.heap = h0) (fun _ _ _ _ _ => True) (fun _ U_ o_ U2_ => ∃ v_ L_, o_ = .returned v_ ∧ Q_eq Z o t1 kb q t2 k2 a__VALUES a_OUT a_INP a_TAKE_COMPLETE a_OUT_text a_INP_text a_TAKE_COMPLETE_text a_OUT_text_value a_INP_text_value a_TAKE_COMPLETE_text_value k__VALUES k_OUT_text_value k_INP_text_value k_TAKE_COMPLETE_text_value cs0 h0 v_ U2_.heap L_ ∧ FrameEnd U_ o_ U2_ L_ ({ frames := 1, cells := 0, slots := 0, locals := 14 } : Room).cells ({ frames := 1, cells := 0, slots := 0, locals := 14 } : Room).slots) := by
  refine MetFree.of_bodySF (plainFor_of_name own_pn0) hisR ?_
  intro p e s m args below meth c s₁ Bd hml0 hP hK
  obtain ⟨rfl, hZ, hh⟩ := hP
  have hx := Bd.exec
  have hby := Bd.bytes
  have hml : c.maxLocals = 3 := hml0
  have hown : s.vm.findClass "java/lang/String" = some m.cls := findClass_of_methodNamed Bd.named
  have hnm := (name_of_methodNamed Bd.named Bd.method).1
  have X0 : Stand p l e ({ frames := 1, cells := 0, slots := 0, locals := 14 } : Room) s m #[(.ref o), (.ref q)] below meth c s₁ [] 0 0 := Stand.of_body Bd
  have e0 : s₁.heap = h0 := by rw [← hh, Bd.state]; rfl
  have N0 := Fr.nil Z.heap.size
  show own_G p e below (fun o_ s₂ => ∃ v_ L_, o_ = .returned v_ ∧ Q_eq Z o t1 kb q t2 k2 a__VALUES a_OUT a_INP a_TAKE_COMPLETE a_OUT_text a_INP_text a_TAKE_COMPLETE_text a_OUT_text_value a_INP_text_value a_TAKE_COMPLETE_text_value k__VALUES k_OUT_text_value k_INP_text_value k_TAKE_COMPLETE_text_value cs0 h0 v_ s₂.heap L_ ∧ FrameEnd s o_ s₂ L_ ({ frames := 1, cells := 0, slots := 0, locals := 14 } : Room).cells ({ frames := 1, cells := 0, slots := 0, locals := 14 } : Room).slots) (s₁.setTop (entryFrame m #[(.ref o), (.ref q)] 3))
  refine own_go (s₁.setTop (mkF m 0 #[.val (.ref o), .val (.ref q), .unset] [])) (fun t_ k_ => castTop (own_ef_eq m o q) k_) ?_
  have w' := w
  obtain ⟨S__VALUES, X__VALUES, S_OUT, X_OUT, S_INP, X_INP, S_TAKE_COMPLETE, X_TAKE_COMPLETE, F_OUT_text, X_OUT_text, F_INP_text, X_INP_text, F_TAKE_COMPLETE_text, X_TAKE_COMPLETE_text, F_OUT_text_value, X_OUT_text_value, F_INP_text_value, X_INP_text_value, F_TAKE_COMPLETE_text_value, X_TAKE_COMPLETE_text_value, F_OUT_text_coder, F_INP_text_coder, F_TAKE_COMPLETE_text_coder, V__VALUES, V_OUT_text_value, V_INP_text_value, V_TAKE_COMPLETE_text_value, S_CS, n_CS⟩ := w'
  refine own_go (s₁.setTop (mkF m 1 #[.val (.ref o), .val (.ref q), .unset] [(.ref o)])) (fun t_ k_ => XS.aloadN X0.here hx rfl (hb hby own_d_jdk_42_method_66_0) rfl rfl k_) ?_
  refine own_go (s₁.setTop (mkF m 2 #[.val (.ref o), .val (.ref q), .unset] [(.ref q), (.ref o)])) (fun t_ k_ => XS.aloadN X0.here hx rfl (hb hby own_d_jdk_42_method_66_1) rfl rfl k_) ?_
  by_cases ha2_1 : o = q
  ·
    refine own_go (s₁.setTop (mkF m 5 #[.val (.ref o), .val (.ref q), .unset] [])) (fun t_ k_ => Jvm.RoadKit.acmp (g := (mkF m 2 #[.val (.ref o), .val (.ref q), .unset] [(.ref q), (.ref o)])) X0 hx rfl rfl rfl (pc0 := 2) (pc' := 5) (same := true) rfl (hb hby own_d_jdk_42_method_66_2) rfl (decide_eq_true (congrArg Value.ref ha2_1)) (by decide) (by decide) k_) ?_
    refine own_go (s₁.setTop (mkF m 6 #[.val (.ref o), .val (.ref q), .unset] [(.int (1 : Int32))])) (fun t_ k_ => XS.iconst X0.here hx rfl (hb hby own_d_jdk_42_method_66_5) k_) ?_
    obtain ⟨fs, hr, hrun, hended, hW, hsame⟩ := X0.leave (v := some (.int (nar .boolean (1 : Int32)))) (fun h => by rw [Bd.returns] at h; cases h)
    refine ⟨_, _, retN X0 hx (t := .boolean) Bd.returns (by simp) (hb hby own_d_jdk_42_method_66_6) hr, hrun, hended, _, _, rfl, ?_, ⟨_, rfl⟩, hW, hsame.mono (by decide) (by decide)⟩
    show Q_eq Z o t1 kb q t2 k2 a__VALUES a_OUT a_INP a_TAKE_COMPLETE a_OUT_text a_INP_text a_TAKE_COMPLETE_text a_OUT_text_value a_INP_text_value a_TAKE_COMPLETE_text_value k__VALUES k_OUT_text_value k_INP_text_value k_TAKE_COMPLETE_text_value cs0 h0 _ s₁.heap _
    exact ⟨rfl, N0, e0⟩
  ·
    refine own_go (s₁.setTop (mkF m 7 #[.val (.ref o), .val (.ref q), .unset] [])) (fun t_ k_ => Jvm.RoadKit.acmp (g := (mkF m 2 #[.val (.ref o), .val (.ref q), .unset] [(.ref q), (.ref o)])) X0 hx rfl rfl rfl (pc0 := 2) (pc' := 7) (same := false) rfl (hb hby own_d_jdk_42_method_66_2) rfl (decide_eq_false fun q => ha2_1 (Value.ref.inj q)) (by decide) (by decide) k_) ?_
    refine own_go (s₁.setTop (mkF m 8 #[.val (.ref o), .val (.ref q), .unset] [(.ref q)])) (fun t_ k_ => XS.aloadN X0.here hx rfl (hb hby own_d_jdk_42_method_66_7) rfl rfl k_) ?_
    obtain ⟨T2, X2, e2, st2⟩ := instY X0 hx hZ hown (hw _ (List.mem_of_getElem? (i := 174) rfl)) e0 (Ins.self Xq) (g := (mkF m 8 #[.val (.ref o), .val (.ref q), .unset] [(.ref q)])) rfl rfl (hb hby own_d_jdk_42_method_66_8)
    refine own_go (T2.setTop (mkF m 11 #[.val (.ref o), .val (.ref q), .unset] [(.int (1 : Int32))])) (fun t_ k_ => st2 _ k_) ?_
    refine own_go (T2.setTop (mkF m 14 #[.val (.ref o), .val (.ref q), .unset] [])) (fun t_ k_ => XS.ifNo X2.here hx rfl (hb hby own_d_jdk_42_method_66_11) rfl ((if0 _ _).trans (feq (by decide : ¬ ((1 : Int32) = (0 : Int32)))).1) k_) ?_
    refine own_go (T2.setTop (mkF m 15 #[.val (.ref o), .val (.ref q), .unset] [(.ref q)])) (fun t_ k_ => XS.aloadN X2.here hx rfl (hb hby own_d_jdk_42_method_66_14) rfl rfl k_) ?_
    obtain ⟨T3, X3, e3, st3⟩ := castY X2 hx hZ hown (hw _ (List.mem_of_getElem? (i := 174) rfl)) e2 (Ins.self Xq) (g := (mkF m 15 #[.val (.ref o), .val (.ref q), .unset] [(.ref q)])) rfl rfl (hb hby own_d_jdk_42_method_66_15)
    refine own_go (T3.setTop (mkF m 18 #[.val (.ref o), .val (.ref q), .unset] [(.ref q)])) (fun t_ k_ => st3 _ k_) ?_
    refine own_go (T3.setTop (mkF m 19 #[.val (.ref o), .val (.ref q), .val (.ref q)] [])) (fun t_ k_ => XS.astoreN X3.here hx rfl (hb hby own_d_jdk_42_method_66_18) rfl rfl (l' := #[.val (.ref o), .val (.ref q), .val (.ref q)]) rfl k_) ?_
    obtain ⟨T4, X4, e4, st4⟩ := getS2 X3 hx hZ hown (host := "") (Or.inl (hw _ (List.mem_of_getElem? (i := 68) rfl))) Via.refl e3 (S_CS.ext O) (g := (mkF m 19 #[.val (.ref o), .val (.ref q), .val (.ref q)] [])) rfl (hb hby own_d_jdk_42_method_66_19)
    refine own_go (T4.setTop (mkF m 22 #[.val (.ref o), .val (.ref q), .val (.ref q)] [(.int cs0)])) (fun t_ k_ => st4 _ k_) ?_
    refine own_go (T4.setTop (mkF m 25 #[.val (.ref o), .val (.ref q), .val (.ref q)] [])) (fun t_ k_ => XS.ifNo X4.here hx rfl (hb hby own_d_jdk_42_method_66_22) rfl ((if0 _ _).trans (feq n_CS).1) k_) ?_
    refine own_go (T4.setTop (mkF m 26 #[.val (.ref o), .val (.ref q), .val (.ref q)] [(.ref o)])) (fun t_ k_ => XS.aloadN X4.here hx rfl (hb hby own_d_jdk_42_method_66_25) rfl rfl k_) ?_
    obtain ⟨T5, X5, e5, st5⟩ := getF X4 hx hZ hown (host := "") (Or.inl (hw _ (List.mem_of_getElem? (i := 69) rfl))) Via.refl e4 Co (g := (mkF m 26 #[.val (.ref o), .val (.ref q), .val (.ref q)] [(.ref o)])) rfl rfl (hb hby own_d_jdk_42_method_66_26)
    refine own_go (T5.setTop (mkF m 29 #[.val (.ref o), .val (.ref q), .val (.ref q)] [(.int (0 : Int32))])) (fun t_ k_ => st5 _ k_) ?_
    refine own_go (T5.setTop (mkF m 30 #[.val (.ref o), .val (.ref q), .val (.ref q)] [(.ref q), (.int (0 : Int32))])) (fun t_ k_ => XS.aloadN X5.here hx rfl (hb hby own_d_jdk_42_method_66_29) rfl rfl k_) ?_
    obtain ⟨T6, X6, e6, st6⟩ := getF X5 hx hZ hown (host := "") (Or.inl (hw _ (List.mem_of_getElem? (i := 69) rfl))) Via.refl e5 Cq (g := (mkF m 30 #[.val (.ref o), .val (.ref q), .val (.ref q)] [(.ref q), (.int (0 : Int32))])) rfl rfl (hb hby own_d_jdk_42_method_66_30)
    refine own_go (T6.setTop (mkF m 33 #[.val (.ref o), .val (.ref q), .val (.ref q)] [(.int (0 : Int32)), (.int (0 : Int32))])) (fun t_ k_ => st6 _ k_) ?_
    refine own_go (T6.setTop (mkF m 36 #[.val (.ref o), .val (.ref q), .val (.ref q)] [])) (fun t_ k_ => XS.icmpNo X6.here hx rfl (hb hby own_d_jdk_42_method_66_33) rfl (teq (by decide : (0 : Int32) = (0 : Int32))).2 k_) ?_
    refine own_go (T6.setTop (mkF m 37 #[.val (.ref o), .val (.ref q), .val (.ref q)] [(.ref o)])) (fun t_ k_ => XS.aloadN X6.here hx rfl (hb hby own_d_jdk_42_method_66_36) rfl rfl k_) ?_
    obtain ⟨T7, X7, e7, st7⟩ := getF X6 hx hZ hown (host := "") (Or.inl (hw _ (List.mem_of_getElem? (i := 61) rfl))) Via.refl e6 Vo (g := (mkF m 37 #[.val (.ref o), .val (.ref q), .val (.ref q)] [(.ref o)])) rfl rfl (hb hby own_d_jdk_42_method_66_37)
    refine own_go (T7.setTop (mkF m 40 #[.val (.ref o), .val (.ref q), .val (.ref q)] [(.ref t1)])) (fun t_ k_ => st7 _ k_) ?_
    refine own_go (T7.setTop (mkF m 41 #[.val (.ref o), .val (.ref q), .val (.ref q)] [(.ref q), (.ref t1)])) (fun t_ k_ => XS.aloadN X7.here hx rfl (hb hby own_d_jdk_42_method_66_40) rfl rfl k_) ?_
    obtain ⟨T8, X8, e8, st8⟩ := getF X7 hx hZ hown (host := "") (Or.inl (hw _ (List.mem_of_getElem? (i := 61) rfl))) Via.refl e7 Vq (g := (mkF m 41 #[.val (.ref o), .val (.ref q), .val (.ref q)] [(.ref q), (.ref t1)])) rfl rfl (hb hby own_d_jdk_42_method_66_41)
    refine own_go (T8.setTop (mkF m 44 #[.val (.ref o), .val (.ref q), .val (.ref q)] [(.ref t2), (.ref t1)])) (fun t_ k_ => st8 _ k_) ?_
    obtain ⟨_, _, ⟨T9, Lu9, ku9, nu9⟩, -, X9, ⟨Lc9, hQ9, lu9, yu9, zu9⟩, st9⟩ := Jvm.LawKit.callS X8 hx (y := (⟨"java/lang/StringLatin1", "equals", "([B[B)Z"⟩ : MethodName)) hown (mvT hZ (hw _ (List.mem_of_getElem? (i := 175) rfl))) (mvT hZ (hw _ (List.mem_of_getElem? (i := 176) rfl))) (mvT hZ (hw _ (List.mem_of_getElem? (i := 177) rfl))) (mvT hZ (hw _ (List.mem_of_getElem? (i := 178) rfl))) (by decide) (backOf (W := 0) (rm_le l Z a0 hw [] (t1) (kb) (t2) (k2) h0 O Ao Aq) hZ (hw _ (List.mem_of_getElem? (i := 178) rfl)) (hw _ (List.mem_of_getElem? (i := 177) rfl)) (by decide) (by decide)) (g := (mkF m 44 #[.val (.ref o), .val (.ref q), .val (.ref q)] [(.ref t2), (.ref t1)])) rfl (by rw [hml]; rfl) (argsL := [(.ref t1), (.ref t2)]) (rest := []) (lenOf own_pd21 rfl) rfl (by show 2 * 0 + _ ≤ _; exact Nat.le_of_eq rfl) (hb hby own_d_jdk_42_method_66_44) (fun _ _ => ⟨rfl, e8, (by decide : 0 + 0 ≤ _), (by decide : 0 + 0 ≤ _)⟩)
    dsimp only [Pt.U, Pt.locs, Pt.cells, Pt.slots] at X9 lu9 yu9 zu9 st9 hQ9
    subst lu9 yu9 zu9
    obtain ⟨rfl, N9q, e9⟩ := hQ9
    have N9 := Fr.app N0 N9q
    refine own_go (T9.setTop (mkF m 47 #[.val (.ref o), .val (.ref q), .val (.ref q)] [(.int (1 : Int32))])) (fun t_ k_ => st9 _ k_) ?_
    refine own_go (T9.setTop (mkF m 50 #[.val (.ref o), .val (.ref q), .val (.ref q)] [])) (fun t_ k_ => XS.ifNo X9.here hx rfl (hb hby own_d_jdk_42_method_66_47) rfl ((if0 _ _).trans (feq (by decide : ¬ ((1 : Int32) = (0 : Int32)))).1) k_) ?_
    refine own_go (T9.setTop (mkF m 51 #[.val (.ref o), .val (.ref q), .val (.ref q)] [(.int (1 : Int32))])) (fun t_ k_ => XS.iconst X9.here hx rfl (hb hby own_d_jdk_42_method_66_50) k_) ?_
    refine own_go (T9.setTop (mkF m 55 #[.val (.ref o), .val (.ref q), .val (.ref q)] [(.int (1 : Int32))])) (fun t_ k_ => XS.goto X9.here hx rfl (pc0 := 51) (pc' := 55) rfl (hb hby own_d_jdk_42_method_66_51) (by decide) (by decide) k_) ?_
    obtain ⟨fs, hr, hrun, hended, hW, hsame⟩ := X9.leave (v := some (.int (nar .boolean (1 : Int32)))) (fun h => by rw [Bd.returns] at h; cases h)
    refine ⟨_, _, retN X9 hx (t := .boolean) Bd.returns (by simp) (hb hby own_d_jdk_42_method_66_55) hr, hrun, hended, _, _, rfl, ?_, ⟨_, rfl⟩, hW, hsame.mono (by decide) (by decide)⟩
    show Q_eq Z o t1 kb q t2 k2 a__VALUES a_OUT a_INP a_TAKE_COMPLETE a_OUT_text a_INP_text a_TAKE_COMPLETE_text a_OUT_text_value a_INP_text_value a_TAKE_COMPLETE_text_value k__VALUES k_OUT_text_value k_INP_text_value k_TAKE_COMPLETE_text_value cs0 h0 _ T9.heap _
    exact ⟨rfl, N9, e9⟩
theorem own_pn7 : plainName "com/example/tuplebag/tuplebag/bench/WorkloadNamesPinLaw" = true := by first | (simp [plainName, overriddenIn]; done) | decide +kernel
theorem own_ef_law (m : MethodId)  : entryFrame m #[] maxLocals = mkF m 0 #[.unset] [] := by first | (simp [entryFrame, mkF, argsToLocals, Value.category, maxLocals]; done) | rfl
theorem own_lit_WorkloadNamesPinLaw_19 : ∀ c ∈ ([111, 117, 116, 44, 32, 105, 110, 112, 32, 111, 114, 32, 116, 97, 107, 101, 45, 99, 111, 109, 112, 108, 101, 116, 101] : List Int32), ¬ c < 0 ∧ ¬ (255 : Int32) < c := by decide +kernel
theorem own_pd22 : parseMethodDescriptor "(Ljava/lang/Object;)Z" = some ⟨[(.object "java/lang/Object")], some .boolean⟩ := by decide +kernel
def Q_law (Z : State) (a__VALUES : Addr) (a_OUT : Addr) (a_INP : Addr) (a_TAKE_COMPLETE : Addr) (a_OUT_text : Addr) (a_INP_text : Addr) (a_TAKE_COMPLETE_text : Addr) (a_OUT_text_value : Addr) (a_INP_text_value : Addr) (a_TAKE_COMPLETE_text_value : Addr) (k__VALUES : ClassId) (k_OUT_text_value : ClassId) (k_INP_text_value : ClassId) (k_TAKE_COMPLETE_text_value : ClassId) (cs0 : Int32) (h0 : Heap) (v_ : Option Value) (h : Heap) (L_ : List Loc) : Prop := v_ = some (.int 1) ∧ Fr Z.heap.size L_ ∧ (True)
set_option maxRecDepth 65536 in
set_option maxHeartbeats 40000000 in
theorem rm_law (l : Launch) (Z : State) (a0 : Array Value) (hw : ∀ d ∈ tables_1, d.before a0 Z = true) (ws : List Jvm.Cond) (a__VALUES : Addr) (a_OUT : Addr) (a_INP : Addr) (a_TAKE_COMPLETE : Addr) (a_OUT_text : Addr) (a_INP_text : Addr) (a_TAKE_COMPLETE_text : Addr) (a_OUT_text_value : Addr) (a_INP_text_value : Addr) (a_TAKE_COMPLETE_text_value : Addr) (k__VALUES : ClassId) (k_OUT_text_value : ClassId) (k_INP_text_value : ClassId) (k_TAKE_COMPLETE_text_value : ClassId) (cs0 : Int32) (h0 : Heap) (O : Ext Z.heap h0) (w : own_W Z a__VALUES a_OUT a_INP a_TAKE_COMPLETE a_OUT_text a_INP_text a_TAKE_COMPLETE_text a_OUT_text_value a_INP_text_value a_TAKE_COMPLETE_text_value k__VALUES k_OUT_text_value k_INP_text_value k_TAKE_COMPLETE_text_value cs0) :
    MetFree l x (head1 (Jvm.Cond.code x code maxLocals ret :: ws) room_1) (fun a_ U_ => a_ = #[] ∧ Z.Warmed39 U_.vm ∧ U_.heap = h0 ∧ CHv Z consts_1 U_.vm h0) (fun _ _ _ _ _ => True) (fun _ U_ o_ U2_ => ∃ v_ L_, o_ = .returned v_ ∧ Q_law Z a__VALUES a_OUT a_INP a_TAKE_COMPLETE a_OUT_text a_INP_text a_TAKE_COMPLETE_text a_OUT_text_value a_INP_text_value a_TAKE_COMPLETE_text_value k__VALUES k_OUT_text_value k_INP_text_value k_TAKE_COMPLETE_text_value cs0 h0 v_ U2_.heap L_ ∧ ReturnedEndW U_ o_ U2_ L_ room_1.cells room_1.slots) := by
  refine MetFree.of_bodySF (plainFor_of_name own_pn7) hisR ?_
  intro p e s m args below meth c s₁ Bd hml0 hP hK
  obtain ⟨rfl, hZ, hh, hCH⟩ := hP
  have hx := Bd.exec
  have hby := Bd.bytes
  have hml : c.maxLocals = 1 := hml0
  have hown : s.vm.findClass "com/example/tuplebag/tuplebag/bench/WorkloadNamesPinLaw" = some m.cls := findClass_of_methodNamed Bd.named
  have hnm := (name_of_methodNamed Bd.named Bd.method).1
  have X0 : Stand p l e room_1 (s.setVm s.vm) m #[] below meth c s₁ [] 0 0 := Stand.of_body Bd
  have e0 : s₁.heap = h0 := by rw [← hh, Bd.state]; rfl
  have N0 := Fr.nil Z.heap.size
  have hS : s.Since s.vm s.heap.size := (State.WarmedH.refl _).since _
  have hk : s.heap.size ≤ h0.size := Nat.le_of_eq (congrArg Array.size hh)
  have hZ : Z.Warmed39 (s.setVm s.vm).vm := hZ
  have hown : (s.setVm s.vm).vm.findClass "com/example/tuplebag/tuplebag/bench/WorkloadNamesPinLaw" = some m.cls := hown
  show own_G p e below (fun o_ s₂ => ∃ v_ L_, o_ = .returned v_ ∧ Q_law Z a__VALUES a_OUT a_INP a_TAKE_COMPLETE a_OUT_text a_INP_text a_TAKE_COMPLETE_text a_OUT_text_value a_INP_text_value a_TAKE_COMPLETE_text_value k__VALUES k_OUT_text_value k_INP_text_value k_TAKE_COMPLETE_text_value cs0 h0 v_ s₂.heap L_ ∧ ReturnedEndW s o_ s₂ L_ room_1.cells room_1.slots) (s₁.setTop (entryFrame m #[] maxLocals))
  refine own_go (s₁.setTop (mkF m 0 #[.unset] [])) (fun t_ k_ => castTop (own_ef_law m ) k_) ?_
  have R0 := CHr.refl hCH
  have hEW : EW Z a0 consts_1 := own_EW hw
  have w' := w
  obtain ⟨S__VALUES, X__VALUES, S_OUT, X_OUT, S_INP, X_INP, S_TAKE_COMPLETE, X_TAKE_COMPLETE, F_OUT_text, X_OUT_text, F_INP_text, X_INP_text, F_TAKE_COMPLETE_text, X_TAKE_COMPLETE_text, F_OUT_text_value, X_OUT_text_value, F_INP_text_value, X_INP_text_value, F_TAKE_COMPLETE_text_value, X_TAKE_COMPLETE_text_value, F_OUT_text_coder, F_INP_text_coder, F_TAKE_COMPLETE_text_coder, V__VALUES, V_OUT_text_value, V_INP_text_value, V_TAKE_COMPLETE_text_value, S_CS, n_CS⟩ := w'
  obtain ⟨_, _, ⟨T1, Lu1, ku1, nu1⟩, -, X1, hS1, hg1, ⟨Lc1, hQ1, lu1, yu1, zu1, C1⟩, st1⟩ := callSS X0 hx (y := (⟨"com/example/tuplebag/tuplebag/bench/Workload", "names", "()Ljava/lang/String;"⟩ : MethodName)) hown (mvT hZ (hw _ (List.mem_of_getElem? (i := 0) rfl))) (mvT hZ (hw _ (List.mem_of_getElem? (i := 1) rfl))) (mvT hZ (hw _ (List.mem_of_getElem? (i := 2) rfl))) (mvT hZ (hw _ (List.mem_of_getElem? (i := 3) rfl))) (by decide) (backOfSH (W := 0) (rm_names l Z a0 hw [] (a__VALUES) (a_OUT) (a_INP) (a_TAKE_COMPLETE) (a_OUT_text) (a_INP_text) (a_TAKE_COMPLETE_text) (a_OUT_text_value) (a_INP_text_value) (a_TAKE_COMPLETE_text_value) (k__VALUES) (k_OUT_text_value) (k_INP_text_value) (k_TAKE_COMPLETE_text_value) (cs0) h0 O w) hZ (hw _ (List.mem_of_getElem? (i := 3) rfl)) (hw _ (List.mem_of_getElem? (i := 2) rfl)) (by decide) (by decide) hEW R0.1) (g := (mkF m 0 #[.unset] [])) rfl (by rw [hml]; rfl) (argsL := []) (rest := []) (lenOf own_pd20 rfl) rfl (by show 2 * 0 + _ ≤ _; exact Nat.le_of_eq rfl) (hb hby at_0) (fun _ _ => ⟨rfl, e0, (by decide : 0 + 10 ≤ _), (by decide : 0 + 118 ≤ _)⟩)
  dsimp only [Pt.U, Pt.locs, Pt.cells, Pt.slots] at X1 lu1 yu1 zu1 st1 hQ1 hS1 hg1 C1
  subst lu1 yu1 zu1
  obtain ⟨X1, hS, hZ, hown⟩ := rebS hS (by rw [show s₁.heap = h0 from e0]; exact hk) X1 hS1 hg1 hZ hown
  have R1 := R0.trans C1
  obtain ⟨o1, r1, kr1, rfl, N1q, K1q, X1q, F1q, G1q, A1q⟩ := hQ1
  have N1 := Fr.app N0 N1q
  have O1 := own_extK O K1q all0
  have KK1 : Keep h0 T1.heap [] := (Keep.refl h0 []).trans K1q all0
  refine own_go (T1.setTop (mkF m 3 #[.unset] [(.ref o1)])) (fun t_ k_ => st1.trans k_) ?_
  refine own_go (T1.setTop (mkF m 4 #[.val (.ref o1)] [])) (fun t_ k_ => XS.astoreN X1.here hx rfl (hb hby at_3) rfl rfl (l' := #[.val (.ref o1)]) rfl k_) ?_
  refine own_go (T1.setTop (mkF m 5 #[.val (.ref o1)] [(.ref o1)])) (fun t_ k_ => XS.aloadN X1.here hx rfl (hb hby at_4) rfl rfl k_) ?_
  obtain ⟨cq2, kq2, q2a, q2b, q2c⟩ := isOf hZ rfl X1q
  obtain ⟨_, _, ⟨T2, Lu2, ku2, nu2⟩, -, X2, ⟨Lc2, hQ2, lu2, yu2, zu2⟩, st2⟩ := X1.virtualBack hx (y := (⟨"java/lang/String", "length", "()I"⟩ : MethodName)) (z := (⟨"java/lang/String", "length", "()I"⟩ : MethodName)) hown (mvT hZ (hw _ (List.mem_of_getElem? (i := 167) rfl))) (mvT hZ (hw _ (List.mem_of_getElem? (i := 57) rfl))) (notFace_of_selects (args := #[]) (mvT hZ (hw _ (List.mem_of_getElem? (i := 59) rfl)))) (mvT hZ (hw _ (List.mem_of_getElem? (i := 59) rfl))) (mvT hZ (hw _ (List.mem_of_getElem? (i := 58) rfl))) (by decide) (backOf (W := 0) (rm_lnl l Z a0 hw [] (o1) (r1) (kr1) (a__VALUES) (a_OUT) (a_INP) (a_TAKE_COMPLETE) (a_OUT_text) (a_INP_text) (a_TAKE_COMPLETE_text) (a_OUT_text_value) (a_INP_text_value) (a_TAKE_COMPLETE_text_value) (k__VALUES) (k_OUT_text_value) (k_INP_text_value) (k_TAKE_COMPLETE_text_value) (cs0) T1.heap O1 w X1q F1q G1q A1q) hZ (hw _ (List.mem_of_getElem? (i := 60) rfl)) (hw _ (List.mem_of_getElem? (i := 20) rfl)) (by decide) (by decide)) q2a q2c (g := (mkF m 5 #[.val (.ref o1)] [(.ref o1)])) rfl (by rw [hml]; rfl) (Steps.refl _) (argsL := []) (rest := []) (lenOf own_pd6 rfl) rfl (by show 2 * 0 + _ ≤ _; exact Nat.le_of_eq rfl) (hb hby at_5) (fun _ _ => ⟨rfl, rfl, (by decide : 10 + 0 ≤ _), (by decide : 118 + 0 ≤ _)⟩)
  dsimp only [Pt.U, Pt.locs, Pt.cells, Pt.slots] at X2 lu2 yu2 zu2 st2 hQ2
  subst lu2 yu2 zu2
  obtain ⟨rfl, N2q, e2⟩ := hQ2
  have N2 := Fr.app N1 N2q
  refine own_go (T2.setTop (mkF m 8 #[.val (.ref o1)] [(.int (25 : Int32))])) (fun t_ k_ => st2.trans k_) ?_
  refine own_go (T2.setTop (mkF m 10 #[.val (.ref o1)] [(.int (25 : Int32)), (.int (25 : Int32))])) (fun t_ k_ => XS.bipush X2.here hx rfl (hb hby at_8) k_) ?_
  refine own_go (T2.setTop (mkF m 13 #[.val (.ref o1)] [])) (fun t_ k_ => XS.icmpNo X2.here hx rfl (hb hby at_10) rfl (teq (by decide : (25 : Int32) = (25 : Int32))).2 k_) ?_
  refine own_go (T2.setTop (mkF m 14 #[.val (.ref o1)] [(.ref o1)])) (fun t_ k_ => XS.aloadN X2.here hx rfl (hb hby at_13) rfl rfl k_) ?_
  obtain ⟨a3, T3, h3, k3, t3, kb3, X3, e3, E3, hS, hk, hZ, hown, A3, C3, V3, B3, lt3, ltb3, CC3, Li3, ne3, st3⟩ := ldcCH (EL := consts_1) X2 hx hZ hown (hw _ (List.mem_of_getElem? (i := 168) rfl)) (fun d hd => hw d (own_sA d hd)) e2 hS (Nat.le_refl _) hEW (List.mem_of_getElem? (i := 2) rfl) R1.1 (vs := (([111, 117, 116, 44, 32, 105, 110, 112, 32, 111, 114, 32, 116, 97, 107, 101, 45, 99, 111, 109, 112, 108, 101, 116, 101] : List Int32).map (fun c => c.toInt8.toInt32)).map Value.int) (z := 25) (by exact ⟨by decide, by rfl⟩) (by decide) (by rfl) (g := (mkF m 14 #[.val (.ref o1)] [(.ref o1)])) rfl (hb hby at_14) (n := 100) (by decide) (by decide) (by decide) (by decide)
  have K3 : Keep h0 h3 [] := KK1.ext E3
  have O3 := own_ext O1 E3
  have R3 := R1.trans CC3
  refine own_go (T3.setTop (mkF m 16 #[.val (.ref o1)] [(.ref a3), (.ref o1)])) (fun t_ k_ => st3 _ k_) ?_
  rw [own_tx_6f75742c20696e70206f722074616b652d636f6d706c657465] at B3
  have Fz4 := (X1q.ext E3)
  have Fz5 := (F1q.ext E3)
  have Fz6 := (G1q.ext E3)
  have Fz7 := (A1q.ext E3)
  obtain ⟨cq8, kq8, q8a, q8b, q8c⟩ := isOf hZ e3 Fz4
  obtain ⟨_, _, ⟨T8, Lu8, ku8, nu8⟩, -, X8, ⟨Lc8, hQ8, lu8, yu8, zu8⟩, st8⟩ := X3.virtualBack hx (y := (⟨"java/lang/String", "equals", "(Ljava/lang/Object;)Z"⟩ : MethodName)) (z := (⟨"java/lang/String", "equals", "(Ljava/lang/Object;)Z"⟩ : MethodName)) hown (mvT hZ (hw _ (List.mem_of_getElem? (i := 169) rfl))) (mvT hZ (hw _ (List.mem_of_getElem? (i := 170) rfl))) (notFace_of_selects (args := #[]) (mvT hZ (hw _ (List.mem_of_getElem? (i := 172) rfl)))) (mvT hZ (hw _ (List.mem_of_getElem? (i := 172) rfl))) (mvT hZ (hw _ (List.mem_of_getElem? (i := 171) rfl))) (by decide) (backOf (W := 0) (rm_eq l Z a0 hw [] (o1) (r1) (kr1) (a3) (t3) (kb3) (a__VALUES) (a_OUT) (a_INP) (a_TAKE_COMPLETE) (a_OUT_text) (a_INP_text) (a_TAKE_COMPLETE_text) (a_OUT_text_value) (a_INP_text_value) (a_TAKE_COMPLETE_text_value) (k__VALUES) (k_OUT_text_value) (k_INP_text_value) (k_TAKE_COMPLETE_text_value) (cs0) h3 O3 w Fz4 Fz5 Fz6 Fz7 A3 V3 C3 B3) hZ (hw _ (List.mem_of_getElem? (i := 173) rfl)) (hw _ (List.mem_of_getElem? (i := 20) rfl)) (by decide) (by decide)) q8a q8c (g := (mkF m 16 #[.val (.ref o1)] [(.ref a3), (.ref o1)])) rfl (by rw [hml]; rfl) (Steps.refl _) (argsL := [(.ref a3)]) (rest := []) (lenOf own_pd22 rfl) rfl (by show 2 * 0 + _ ≤ _; exact Nat.le_of_eq rfl) (hb hby at_16) (fun _ _ => ⟨rfl, e3, (by decide : 12 + 0 ≤ _), (by decide : 222 + 0 ≤ _)⟩)
  dsimp only [Pt.U, Pt.locs, Pt.cells, Pt.slots] at X8 lu8 yu8 zu8 st8 hQ8
  subst lu8 yu8 zu8
  obtain ⟨rfl, N8q, e8⟩ := hQ8
  have N8 := Fr.app N2 N8q
  refine own_go (T8.setTop (mkF m 19 #[.val (.ref o1)] [(.int (1 : Int32))])) (fun t_ k_ => st8.trans k_) ?_
  refine own_go (T8.setTop (mkF m 22 #[.val (.ref o1)] [])) (fun t_ k_ => XS.ifNo X8.here hx rfl (hb hby at_19) rfl ((if0 _ _).trans (feq (by decide : ¬ ((1 : Int32) = (0 : Int32)))).1) k_) ?_
  refine own_go (T8.setTop (mkF m 23 #[.val (.ref o1)] [(.int (1 : Int32))])) (fun t_ k_ => XS.iconst X8.here hx rfl (hb hby at_22) k_) ?_
  refine own_go (T8.setTop (mkF m 27 #[.val (.ref o1)] [(.int (1 : Int32))])) (fun t_ k_ => XS.goto X8.here hx rfl (pc0 := 23) (pc' := 27) rfl (hb hby at_23) (by decide) (by decide) k_) ?_
  obtain ⟨fs, hr, hrun, hended, hRW⟩ := X8.leaveW hS (by rw [show T8.heap = h3 from e8]; exact hk) (v := some (.int (nar .boolean (1 : Int32)))) (fun h => by rw [Bd.returns] at h; cases h)
  refine ⟨_, _, retN X8 hx (t := .boolean) Bd.returns (by simp) (hb hby at_27) hr, hrun, hended, _, _, rfl, ?_, hRW.1, hRW.2.1, hRW.2.2.1, hRW.2.2.2.mono (by decide) (by decide)⟩
  show Q_law Z a__VALUES a_OUT a_INP a_TAKE_COMPLETE a_OUT_text a_INP_text a_TAKE_COMPLETE_text a_OUT_text_value a_INP_text_value a_TAKE_COMPLETE_text_value k__VALUES k_OUT_text_value k_INP_text_value k_TAKE_COMPLETE_text_value cs0 h0 _ T8.heap _
  exact ⟨rfl, N8, trivial⟩
set_option maxRecDepth 65536 in
set_option maxHeartbeats 40000000 in
theorem comes_1 {Post : Tables → Env → Array Value → State → Outcome → State → Prop} (hpost : ∀ tb e args s v u, (limb_1_1.after args s (.returned v) u = true ∧ limb_1_2.after args s (.returned v) u = true ∧ True) → ReturnedEndW s (.returned v) u (Jvm.fieldLocs frame_1_writes args s ++ Jvm.arrayLocs frame_1_arrays args s ++ Jvm.staticLocs frame_1_statics s) 32 3328 → Post tb e args s (.returned v) u) :
    ArmFor flags0 classFile x code maxLocals ret World_1 tables_1 room_1 Calls_1 rest_1 Pre_1 Post := by
  intro l hfl _ _ p e ha hc hk s m args below hf hA hF happ hP
  obtain ⟨hcalls, hrest, hpre⟩ := hP
  obtain ⟨-, -, -, hnamed, -, -, -, hat⟩ := (Spec.applies_iff hf).mp happ
  obtain ⟨hg, hn⟩ := and_e (Cond.before_iff.mp (show (Jvm.Cond.and given_1 narrow_1).before args s = true from hpre))
  obtain rfl : args = #[] := by
    have hs : args.size = 0 := by simpa [Cond.value, given_1] using hg
    exact Array.eq_empty_of_size_eq_zero hs
  have hw := fun d (hd : d ∈ tables_1) => atoms_spec (ws := Jvm.Cond.code x code maxLocals ret :: tables_1) hat d (List.mem_cons_of_mem _ hd)
  have hfit : Fit s := fun {y c} hc i hi => by
    obtain ⟨ha, rfl⟩ := Array.getElem?_eq_some_iff.mp hc
    have q := List.all_eq_true.mp ((Array.all_eq_true_iff_forall_mem.mp hF) _ (Array.getElem_mem ha)) i (List.mem_range.mpr hi)
    simpa [Array.getElem?_eq_getElem hi] using q
  obtain ⟨hsets, hown0⟩ := atoms_of _ (rest_1_c_eq ▸ (show rest_1_c.before _ s = true from hrest))
  have hr0 := Cond.before_iff.mp hown0
  obtain ⟨hn1, hn2⟩ := and_e hn
  obtain ⟨hn21, hn22⟩ := and_e hn2
  obtain ⟨hn221, hn222⟩ := and_e hn22
  obtain ⟨hn2221, hn2222⟩ := and_e hn222
  obtain ⟨hn22221, hn22222⟩ := and_e hn2222
  obtain ⟨hn222221, hn222222⟩ := and_e hn22222
  obtain ⟨hn2222221, hn2222222⟩ := and_e hn222222
  obtain ⟨hn22222221, hn22222222⟩ := and_e hn2222222
  obtain ⟨hn222222221, hn222222222⟩ := and_e hn22222222
  obtain ⟨hn2222222221, hn2222222222⟩ := and_e hn222222222
  obtain ⟨hn22222222221, hn22222222222⟩ := and_e hn2222222222
  obtain ⟨hn222222222221, hn222222222222⟩ := and_e hn22222222222
  obtain ⟨hn2222222222221, hn2222222222222⟩ := and_e hn222222222222
  obtain ⟨hn22222222222221, hn22222222222222⟩ := and_e hn2222222222222
  obtain ⟨hn222222222222221, hn222222222222222⟩ := and_e hn22222222222222
  obtain ⟨hn2222222222222221, hn2222222222222222⟩ := and_e hn222222222222222
  obtain ⟨hn22222222222222221, hn22222222222222222⟩ := and_e hn2222222222222222
  obtain ⟨hn222222222222222221, hn222222222222222222⟩ := and_e hn22222222222222222
  obtain ⟨hn2222222222222222221, hn2222222222222222222⟩ := and_e hn222222222222222222
  obtain ⟨hn22222222222222222221, hn22222222222222222222⟩ := and_e hn2222222222222222222
  obtain ⟨hn222222222222222222221, hn222222222222222222222⟩ := and_e hn22222222222222222222
  obtain ⟨hn2222222222222222222221, hn2222222222222222222222⟩ := and_e hn222222222222222222222
  obtain ⟨hn22222222222222222222221, hn22222222222222222222222⟩ := and_e hn2222222222222222222222
  obtain ⟨hn222222222222222222222221, hn222222222222222222222222⟩ := and_e hn22222222222222222222222
  obtain ⟨hn2222222222222222222222221, hn2222222222222222222222222⟩ := and_e hn222222222222222222222222
  obtain ⟨hn22222222222222222222222221, hn22222222222222222222222222⟩ := and_e hn2222222222222222222222222
  obtain ⟨hn222222222222222222222222221, hn222222222222222222222222222⟩ := and_e hn22222222222222222222222222
  obtain ⟨hn2222222222222222222222222221, hn2222222222222222222222222222⟩ := and_e hn222222222222222222222222222
  obtain ⟨hn22222222222222222222222222221, hn22222222222222222222222222222⟩ := and_e hn2222222222222222222222222222
  obtain ⟨hn222222222222222222222222222221, hn222222222222222222222222222222⟩ := and_e hn22222222222222222222222222222
  obtain ⟨hn2222222222222222222222222222221, hn2222222222222222222222222222222⟩ := and_e hn222222222222222222222222222222
  obtain ⟨hn22222222222222222222222222222221, hn22222222222222222222222222222222⟩ := and_e hn2222222222222222222222222222222
  obtain ⟨hn222222222222222222222222222222221, hn222222222222222222222222222222222⟩ := and_e hn22222222222222222222222222222222
  obtain ⟨hn2222222222222222222222222222222221, hn2222222222222222222222222222222222⟩ := and_e hn222222222222222222222222222222222
  obtain ⟨hn22222222222222222222222222222222221, hn22222222222222222222222222222222222⟩ := and_e hn2222222222222222222222222222222222
  obtain ⟨hn222222222222222222222222222222222221, hn222222222222222222222222222222222222⟩ := and_e hn22222222222222222222222222222222222
  obtain ⟨hn2222222222222222222222222222222222221, hn2222222222222222222222222222222222222⟩ := and_e hn222222222222222222222222222222222222
  obtain ⟨hn22222222222222222222222222222222222221, hn22222222222222222222222222222222222222⟩ := and_e hn2222222222222222222222222222222222222
  obtain ⟨hn222222222222222222222222222222222222221, hn222222222222222222222222222222222222222⟩ := and_e hn22222222222222222222222222222222222222
  obtain ⟨hn2222222222222222222222222222222222222221, hn2222222222222222222222222222222222222222⟩ := and_e hn222222222222222222222222222222222222222
  obtain ⟨hn22222222222222222222222222222222222222221, hn22222222222222222222222222222222222222222⟩ := and_e hn2222222222222222222222222222222222222222
  obtain ⟨hn222222222222222222222222222222222222222221, hn222222222222222222222222222222222222222222⟩ := and_e hn22222222222222222222222222222222222222222
  obtain ⟨a__VALUES, ev__VALUES⟩ := arr_v hn1
  have S__VALUES : Sta s s.heap "com/example/tuplebag/tuplebag/bench/Workload" "$VALUES" "[Lcom/example/tuplebag/tuplebag/bench/Workload;" (.ref a__VALUES) := Sta.start ev__VALUES (Or.inl (hw _ (List.mem_of_getElem? (i := 41) rfl)))
  obtain ⟨cl__VALUES, A__VALUES⟩ := Arr.start ev__VALUES hn1
  have X__VALUES : Exa s s.heap a__VALUES "[Lcom/example/tuplebag/tuplebag/bench/Workload;" := Exa.start ev__VALUES hn21
  obtain ⟨a_OUT, ev_OUT⟩ := exa_v hn2221
  have S_OUT : Sta s s.heap "com/example/tuplebag/tuplebag/bench/Workload" "OUT" "Lcom/example/tuplebag/tuplebag/bench/Workload;" (.ref a_OUT) := Sta.start ev_OUT (Or.inr ⟨(hw _ (List.mem_of_getElem? (i := 2) rfl)), (hw _ (List.mem_of_getElem? (i := 38) rfl))⟩)
  have X_OUT : Exa s s.heap a_OUT "com/example/tuplebag/tuplebag/bench/Workload" := Exa.start ev_OUT hn2221
  obtain ⟨a_INP, ev_INP⟩ := exa_v hn222221
  have S_INP : Sta s s.heap "com/example/tuplebag/tuplebag/bench/Workload" "INP" "Lcom/example/tuplebag/tuplebag/bench/Workload;" (.ref a_INP) := Sta.start ev_INP (Or.inr ⟨(hw _ (List.mem_of_getElem? (i := 2) rfl)), (hw _ (List.mem_of_getElem? (i := 39) rfl))⟩)
  have X_INP : Exa s s.heap a_INP "com/example/tuplebag/tuplebag/bench/Workload" := Exa.start ev_INP hn222221
  obtain ⟨a_TAKE_COMPLETE, ev_TAKE_COMPLETE⟩ := exa_v hn22222221
  have S_TAKE_COMPLETE : Sta s s.heap "com/example/tuplebag/tuplebag/bench/Workload" "TAKE_COMPLETE" "Lcom/example/tuplebag/tuplebag/bench/Workload;" (.ref a_TAKE_COMPLETE) := Sta.start ev_TAKE_COMPLETE (Or.inr ⟨(hw _ (List.mem_of_getElem? (i := 2) rfl)), (hw _ (List.mem_of_getElem? (i := 40) rfl))⟩)
  have X_TAKE_COMPLETE : Exa s s.heap a_TAKE_COMPLETE "com/example/tuplebag/tuplebag/bench/Workload" := Exa.start ev_TAKE_COMPLETE hn22222221
  obtain ⟨a_OUT_text, ev_OUT_text⟩ := exa_v hn2222222221
  have F_OUT_text : Fld s s.heap a_OUT "com/example/tuplebag/tuplebag/bench/Workload" "text" "Ljava/lang/String;" (.ref a_OUT_text) := Fld.start ((fld_at ev_OUT).symm.trans ev_OUT_text)
  have X_OUT_text : Exa s s.heap a_OUT_text "java/lang/String" := Exa.start ev_OUT_text hn2222222221
  obtain ⟨a_INP_text, ev_INP_text⟩ := exa_v hn222222222222222221
  have F_INP_text : Fld s s.heap a_INP "com/example/tuplebag/tuplebag/bench/Workload" "text" "Ljava/lang/String;" (.ref a_INP_text) := Fld.start ((fld_at ev_INP).symm.trans ev_INP_text)
  have X_INP_text : Exa s s.heap a_INP_text "java/lang/String" := Exa.start ev_INP_text hn222222222222222221
  obtain ⟨a_TAKE_COMPLETE_text, ev_TAKE_COMPLETE_text⟩ := exa_v hn22222222222222222222222221
  have F_TAKE_COMPLETE_text : Fld s s.heap a_TAKE_COMPLETE "com/example/tuplebag/tuplebag/bench/Workload" "text" "Ljava/lang/String;" (.ref a_TAKE_COMPLETE_text) := Fld.start ((fld_at ev_TAKE_COMPLETE).symm.trans ev_TAKE_COMPLETE_text)
  have X_TAKE_COMPLETE_text : Exa s s.heap a_TAKE_COMPLETE_text "java/lang/String" := Exa.start ev_TAKE_COMPLETE_text hn22222222222222222222222221
  obtain ⟨a_OUT_text_value, ev_OUT_text_value⟩ := arr_v hn22222222221
  have F_OUT_text_value : Fld s s.heap a_OUT_text "java/lang/String" "value" "[B" (.ref a_OUT_text_value) := Fld.start ((fld_at ev_OUT_text).symm.trans ev_OUT_text_value)
  obtain ⟨cl_OUT_text_value, A_OUT_text_value⟩ := Arr.start ev_OUT_text_value hn22222222221
  have X_OUT_text_value : Exa s s.heap a_OUT_text_value "[B" := Exa.start ev_OUT_text_value hn222222222221
  obtain ⟨a_INP_text_value, ev_INP_text_value⟩ := arr_v hn2222222222222222221
  have F_INP_text_value : Fld s s.heap a_INP_text "java/lang/String" "value" "[B" (.ref a_INP_text_value) := Fld.start ((fld_at ev_INP_text).symm.trans ev_INP_text_value)
  obtain ⟨cl_INP_text_value, A_INP_text_value⟩ := Arr.start ev_INP_text_value hn2222222222222222221
  have X_INP_text_value : Exa s s.heap a_INP_text_value "[B" := Exa.start ev_INP_text_value hn22222222222222222221
  obtain ⟨a_TAKE_COMPLETE_text_value, ev_TAKE_COMPLETE_text_value⟩ := arr_v hn222222222222222222222222221
  have F_TAKE_COMPLETE_text_value : Fld s s.heap a_TAKE_COMPLETE_text "java/lang/String" "value" "[B" (.ref a_TAKE_COMPLETE_text_value) := Fld.start ((fld_at ev_TAKE_COMPLETE_text).symm.trans ev_TAKE_COMPLETE_text_value)
  obtain ⟨cl_TAKE_COMPLETE_text_value, A_TAKE_COMPLETE_text_value⟩ := Arr.start ev_TAKE_COMPLETE_text_value hn222222222222222222222222221
  have X_TAKE_COMPLETE_text_value : Exa s s.heap a_TAKE_COMPLETE_text_value "[B" := Exa.start ev_TAKE_COMPLETE_text_value hn2222222222222222222222222221
  have F_OUT_text_coder : Fld s s.heap a_OUT_text "java/lang/String" "coder" "B" (.int (0 : Int32)) := own_fldI hn22222222222221 ev_OUT_text
  have F_INP_text_coder : Fld s s.heap a_INP_text "java/lang/String" "coder" "B" (.int (0 : Int32)) := own_fldI hn2222222222222222222221 ev_INP_text
  have F_TAKE_COMPLETE_text_coder : Fld s s.heap a_TAKE_COMPLETE_text "java/lang/String" "coder" "B" (.int (0 : Int32)) := own_fldI hn222222222222222222222222222221 ev_TAKE_COMPLETE_text
  have at__VALUES_0 := (own_elemV hn22221 ev__VALUES ev_OUT A__VALUES.1).2
  have at__VALUES_1 := (own_elemV hn2222221 ev__VALUES ev_INP A__VALUES.1).2
  have at__VALUES_2 := (own_elemV hn222222221 ev__VALUES ev_TAKE_COMPLETE A__VALUES.1).2
  obtain ⟨sz__VALUES, ln__VALUES⟩ := IntBox.length_fwd (Cond.before_iff.mpr hn221) ev__VALUES A__VALUES.1 A__VALUES.2.1 A__VALUES.2.2
  obtain ⟨k__VALUES, hk__VALUES⟩ : ∃ z, z = cl__VALUES.cls := ⟨_, rfl⟩
  have V__VALUES : Arv s s.heap a__VALUES k__VALUES (.object "com/example/tuplebag/tuplebag/bench/Workload") 3 [(.ref a_OUT), (.ref a_INP), (.ref a_TAKE_COMPLETE)] .null := by rw [hk__VALUES]; exact Arv.start hfit A__VALUES sz__VALUES ln__VALUES (by decide) rfl ⟨at__VALUES_0, at__VALUES_1, at__VALUES_2, trivial⟩
  have at_OUT_text_value_0 := (own_elemI hn222222222222221 ev_OUT_text_value A_OUT_text_value.1).2
  have at_OUT_text_value_1 := (own_elemI hn2222222222222221 ev_OUT_text_value A_OUT_text_value.1).2
  have at_OUT_text_value_2 := (own_elemI hn22222222222222221 ev_OUT_text_value A_OUT_text_value.1).2
  obtain ⟨sz_OUT_text_value, ln_OUT_text_value⟩ := IntBox.length_fwd (Cond.before_iff.mpr hn2222222222221) ev_OUT_text_value A_OUT_text_value.1 A_OUT_text_value.2.1 A_OUT_text_value.2.2
  obtain ⟨k_OUT_text_value, hk_OUT_text_value⟩ : ∃ z, z = cl_OUT_text_value.cls := ⟨_, rfl⟩
  have V_OUT_text_value : Arv s s.heap a_OUT_text_value k_OUT_text_value .byte 3 [(.int (111 : Int32)), (.int (117 : Int32)), (.int (116 : Int32))] (.int (0 : Int32)) := by rw [hk_OUT_text_value]; exact Arv.start hfit A_OUT_text_value sz_OUT_text_value ln_OUT_text_value (by decide) rfl ⟨at_OUT_text_value_0, at_OUT_text_value_1, at_OUT_text_value_2, trivial⟩
  have at_INP_text_value_0 := (own_elemI hn22222222222222222222221 ev_INP_text_value A_INP_text_value.1).2
  have at_INP_text_value_1 := (own_elemI hn222222222222222222222221 ev_INP_text_value A_INP_text_value.1).2
  have at_INP_text_value_2 := (own_elemI hn2222222222222222222222221 ev_INP_text_value A_INP_text_value.1).2
  obtain ⟨sz_INP_text_value, ln_INP_text_value⟩ := IntBox.length_fwd (Cond.before_iff.mpr hn222222222222222222221) ev_INP_text_value A_INP_text_value.1 A_INP_text_value.2.1 A_INP_text_value.2.2
  obtain ⟨k_INP_text_value, hk_INP_text_value⟩ : ∃ z, z = cl_INP_text_value.cls := ⟨_, rfl⟩
  have V_INP_text_value : Arv s s.heap a_INP_text_value k_INP_text_value .byte 3 [(.int (105 : Int32)), (.int (110 : Int32)), (.int (112 : Int32))] (.int (0 : Int32)) := by rw [hk_INP_text_value]; exact Arv.start hfit A_INP_text_value sz_INP_text_value ln_INP_text_value (by decide) rfl ⟨at_INP_text_value_0, at_INP_text_value_1, at_INP_text_value_2, trivial⟩
  have at_TAKE_COMPLETE_text_value_0 := (own_elemI hn2222222222222222222222222222221 ev_TAKE_COMPLETE_text_value A_TAKE_COMPLETE_text_value.1).2
  have at_TAKE_COMPLETE_text_value_1 := (own_elemI hn22222222222222222222222222222221 ev_TAKE_COMPLETE_text_value A_TAKE_COMPLETE_text_value.1).2
  have at_TAKE_COMPLETE_text_value_2 := (own_elemI hn222222222222222222222222222222221 ev_TAKE_COMPLETE_text_value A_TAKE_COMPLETE_text_value.1).2
  have at_TAKE_COMPLETE_text_value_3 := (own_elemI hn2222222222222222222222222222222221 ev_TAKE_COMPLETE_text_value A_TAKE_COMPLETE_text_value.1).2
  have at_TAKE_COMPLETE_text_value_4 := (own_elemI hn22222222222222222222222222222222221 ev_TAKE_COMPLETE_text_value A_TAKE_COMPLETE_text_value.1).2
  have at_TAKE_COMPLETE_text_value_5 := (own_elemI hn222222222222222222222222222222222221 ev_TAKE_COMPLETE_text_value A_TAKE_COMPLETE_text_value.1).2
  have at_TAKE_COMPLETE_text_value_6 := (own_elemI hn2222222222222222222222222222222222221 ev_TAKE_COMPLETE_text_value A_TAKE_COMPLETE_text_value.1).2
  have at_TAKE_COMPLETE_text_value_7 := (own_elemI hn22222222222222222222222222222222222221 ev_TAKE_COMPLETE_text_value A_TAKE_COMPLETE_text_value.1).2
  have at_TAKE_COMPLETE_text_value_8 := (own_elemI hn222222222222222222222222222222222222221 ev_TAKE_COMPLETE_text_value A_TAKE_COMPLETE_text_value.1).2
  have at_TAKE_COMPLETE_text_value_9 := (own_elemI hn2222222222222222222222222222222222222221 ev_TAKE_COMPLETE_text_value A_TAKE_COMPLETE_text_value.1).2
  have at_TAKE_COMPLETE_text_value_10 := (own_elemI hn22222222222222222222222222222222222222221 ev_TAKE_COMPLETE_text_value A_TAKE_COMPLETE_text_value.1).2
  have at_TAKE_COMPLETE_text_value_11 := (own_elemI hn222222222222222222222222222222222222222221 ev_TAKE_COMPLETE_text_value A_TAKE_COMPLETE_text_value.1).2
  have at_TAKE_COMPLETE_text_value_12 := (own_elemI hn222222222222222222222222222222222222222222 ev_TAKE_COMPLETE_text_value A_TAKE_COMPLETE_text_value.1).2
  obtain ⟨sz_TAKE_COMPLETE_text_value, ln_TAKE_COMPLETE_text_value⟩ := IntBox.length_fwd (Cond.before_iff.mpr hn22222222222222222222222222221) ev_TAKE_COMPLETE_text_value A_TAKE_COMPLETE_text_value.1 A_TAKE_COMPLETE_text_value.2.1 A_TAKE_COMPLETE_text_value.2.2
  obtain ⟨k_TAKE_COMPLETE_text_value, hk_TAKE_COMPLETE_text_value⟩ : ∃ z, z = cl_TAKE_COMPLETE_text_value.cls := ⟨_, rfl⟩
  have V_TAKE_COMPLETE_text_value : Arv s s.heap a_TAKE_COMPLETE_text_value k_TAKE_COMPLETE_text_value .byte 13 [(.int (116 : Int32)), (.int (97 : Int32)), (.int (107 : Int32)), (.int (101 : Int32)), (.int (45 : Int32)), (.int (99 : Int32)), (.int (111 : Int32)), (.int (109 : Int32)), (.int (112 : Int32)), (.int (108 : Int32)), (.int (101 : Int32)), (.int (116 : Int32)), (.int (101 : Int32))] (.int (0 : Int32)) := by rw [hk_TAKE_COMPLETE_text_value]; exact Arv.start hfit A_TAKE_COMPLETE_text_value sz_TAKE_COMPLETE_text_value ln_TAKE_COMPLETE_text_value (by decide) rfl ⟨at_TAKE_COMPLETE_text_value_0, at_TAKE_COMPLETE_text_value_1, at_TAKE_COMPLETE_text_value_2, at_TAKE_COMPLETE_text_value_3, at_TAKE_COMPLETE_text_value_4, at_TAKE_COMPLETE_text_value_5, at_TAKE_COMPLETE_text_value_6, at_TAKE_COMPLETE_text_value_7, at_TAKE_COMPLETE_text_value_8, at_TAKE_COMPLETE_text_value_9, at_TAKE_COMPLETE_text_value_10, at_TAKE_COMPLETE_text_value_11, at_TAKE_COMPLETE_text_value_12, trivial⟩
  obtain ⟨cs0, ev_CS⟩ := is_v (Cond.before_iff.mp (hsets _ (List.mem_of_getElem? (i := 1) rfl)))
  have S_CS : Sta s s.heap "java/lang/String" "COMPACT_STRINGS" "Z" (.int cs0) := Sta.start ev_CS (Or.inl (hsets _ (List.mem_of_getElem? (i := 0) rfl)))
  have n_CS : ¬ (cs0 = (0 : Int32)) := gotF (Cond.eq_ints ev_CS (Term.int_eval (0))) (not_v (Cond.before_iff.mp (hsets _ (List.mem_of_getElem? (i := 2) rfl))))
  have hCH : CHv s consts_1 s.vm s.heap := CHv.start (own_EW hw) (fun q hq => hcalls.1 q hq) (hsets _ (List.mem_of_getElem? (i := 2) rfl)) (hw _ (List.mem_of_getElem? (i := 21) rfl)) (hw _ (List.mem_of_getElem? (i := 99) rfl))
  obtain ⟨n, o, h1, h2, h3, _, L, rfl, ⟨rfl, N, -⟩, hq⟩ := rm_law l s _ hw tables_1 a__VALUES a_OUT a_INP a_TAKE_COMPLETE a_OUT_text a_INP_text a_TAKE_COMPLETE_text a_OUT_text_value a_INP_text_value a_TAKE_COMPLETE_text_value k__VALUES k_OUT_text_value k_INP_text_value k_TAKE_COMPLETE_text_value cs0 s.heap ⟨Nat.le_refl _, fun _ _ q => q⟩ ⟨S__VALUES, X__VALUES, S_OUT, X_OUT, S_INP, X_INP, S_TAKE_COMPLETE, X_TAKE_COMPLETE, F_OUT_text, X_OUT_text, F_INP_text, X_INP_text, F_TAKE_COMPLETE_text, X_TAKE_COMPLETE_text, F_OUT_text_value, X_OUT_text_value, F_INP_text_value, X_INP_text_value, F_TAKE_COMPLETE_text_value, X_TAKE_COMPLETE_text_value, F_OUT_text_coder, F_INP_text_coder, F_TAKE_COMPLETE_text_coder, V__VALUES, V_OUT_text_value, V_INP_text_value, V_TAKE_COMPLETE_text_value, S_CS, n_CS⟩  p e ha hc hk s m _ below hf ((Spec.applies_iff_loose hf).mp happ).1 ⟨rfl, State.Warmed39.refl s, rfl, hCH⟩ trivial
  refine ⟨n, _, h1, h2, h3, hpost _ _ _ _ _ _ ⟨Cond.after_iff.mpr rfl, Cond.after_iff.mpr (eq_i res_at (Term.int_eval (1)) rfl), trivial⟩ ⟨hq.1, hq.2.1, hq.2.2.1, (hq.2.2.2.sift fun y hy => Or.inr (N y hy)).mono (by decide) (by decide)⟩⟩
theorem main_1_1 : Claimed_1_1 := comes_1 fun _ _ _ _ _ _ h hF => ⟨h.1, hF⟩
theorem main_1_2 : Claimed_1_2 := comes_1 fun _ _ _ _ _ _ h hF => ⟨h.2.1, hF⟩
end Jvm.Pilot.@@N@@
namespace Jvm.Pilot.@@N@@
open Jvm Jvm.ClassFile Sem Op Lib Jvm.Free Jvm.Stand Jvm.Pilot.@@N@@.Jvm.D
/-! MADE BY PROGRAM (witnessworld.py) out of the Statement's table words and the real class files: 25 classes; the members and pool entries that the words name. The judged class is class 1, her method 1. -/
namespace start1
open Jvm.ClassFile
def u (s : String) : CpInfo := .utf8 (stringToUtf16 s)
/-- a pool by its gaps: so many unusable entries, then the entry; so many at the end -/
def gap : Nat → List CpInfo → List CpInfo
  | 0, r => r
  | n + 1, r => .unusable :: gap n r
def poolList (es : List (Nat × CpInfo)) (last : Nat) : List CpInfo := es.foldr (fun e r => gap e.1 (e.2 :: r)) (gap last [])
def pool (es : List (Nat × CpInfo)) (last : Nat) : Array CpInfo := ⟨poolList es last⟩
def fileOf (pool : Array CpInfo) (this : Nat) (attrs : Array Attribute := #[]) (ms : Array MethodInfo := #[]) (fl : Nat := 33) (sup : Nat := 0) (ifs : Array Nat := #[]) (fds : Array FieldInfo := #[]) : ClassFile where
  minorVersion := 0
  majorVersion := 65
  constantPool := pool
  accessFlags := fl
  thisClass := this
  superClass := sup
  interfaces := ifs
  fields := fds
  methods := ms
  attributes := attrs
def plain (name : String) (sup : Option ClassId) : Class where
  name := name
  kind := .ordinary
  loader := none
  accessFlags := 33
  super := sup
  interfaces := #[]
  cf := none
  fields := #[]
  methods := #[]
  instanceTypes := #[]
  staticTypes := #[]
  resolved := #[]
  callSites := []
  init := .initialized
  statics := none
  mirror := none

def pool0 : Array CpInfo := pool [(5, u "<init>"), (0, u "()V"), (1, .class_ 10), (1, u "java/lang/Object"), (85, u "clone"), (0, u "()Ljava/lang/Object;")] 26

def k0c0 : Code := { maxStack := 0, maxLocals := 1, code := object_method_1_code, exceptionTable := #[], attributes := #[] }
def k0m0 : Method := { name := "<init>", desc := "()V", sig := { parameters := [], returnType := none }, accessFlags := 1, code := some k0c0 }
def k0m1 : Method := { name := "clone", desc := "()Ljava/lang/Object;", sig := { parameters := [], returnType := some (.object "java/lang/Object") }, accessFlags := 260, code := none }
/-- java/lang/Object -/
def k0 : Class := { plain "java/lang/Object" none with
  accessFlags := 33
  interfaces := #[]
  cf := some (fileOf pool0 8 #[] #[{ accessFlags := 1, nameIndex := 5, descriptorIndex := 6, attributes := #[] }, { accessFlags := 260, nameIndex := 96, descriptorIndex := 97, attributes := #[] }] 33 0 #[] #[])
  fields := #[]
  methods := #[k0m0, k0m1]
  instanceTypes := #[]
  staticTypes := #[]
  resolved := Array.replicate 124 none
  statics := none }

def pool1 : Array CpInfo := pool [(2, .class_ 4), (1, u "java/lang/Object"), (0, u "<init>"), (0, u "()V"), (0, .methodref 8 9), (0, .class_ 10), (0, .nameAndType 11 12), (0, u "com/example/tuplebag/tuplebag/bench/Workload"), (0, u "names"), (0, u "()Ljava/lang/String;"), (0, .methodref 14 15), (0, .class_ 16), (0, .nameAndType 17 18), (0, u "java/lang/String"), (0, u "length"), (0, u "()I"), (0, .string 20), (0, u "out, inp or take-complete"), (0, .methodref 14 22), (0, .nameAndType 23 24), (0, u "equals"), (0, u "(Ljava/lang/Object;)Z"), (0, .class_ 26), (0, u "com/example/tuplebag/tuplebag/bench/WorkloadNamesPinLaw"), (2, u "law"), (0, u "()Z")] 3

def k1m0 : Method := { name := "<init>", desc := "()V", sig := { parameters := [], returnType := none }, accessFlags := 2, code := none }
def k1c1 : Code := { maxStack := 2, maxLocals := 1, code := code, exceptionTable := #[], attributes := #[] }
def k1m1 : Method := { name := "law", desc := "()Z", sig := { parameters := [], returnType := some .boolean }, accessFlags := 9, code := some k1c1 }
/-- com/example/tuplebag/tuplebag/bench/WorkloadNamesPinLaw -/
def k1 : Class := { plain "com/example/tuplebag/tuplebag/bench/WorkloadNamesPinLaw" (some 0) with
  accessFlags := 49
  interfaces := #[]
  cf := some (fileOf pool1 25 #[] #[{ accessFlags := 2, nameIndex := 5, descriptorIndex := 6, attributes := #[] }, { accessFlags := 9, nameIndex := 29, descriptorIndex := 30, attributes := #[] }] 49 2 #[] #[])
  fields := #[]
  methods := #[k1m0, k1m1]
  instanceTypes := #[]
  staticTypes := #[]
  resolved := Array.replicate 34 none
  statics := none }

def pool2 : Array CpInfo := pool [(1, .class_ 2), (0, u "java/lang/constant/Constable"), (0, .class_ 4), (0, u "java/lang/Object")] 6

/-- java/lang/constant/Constable -/
def k2 : Class := { plain "java/lang/constant/Constable" (some 0) with
  accessFlags := 1537
  interfaces := #[]
  cf := some (fileOf pool2 1 #[] #[] 1537 3 #[] #[])
  fields := #[]
  methods := #[]
  instanceTypes := #[]
  staticTypes := #[]
  resolved := Array.replicate 11 none
  statics := none }

def pool3 : Array CpInfo := pool [(1, .class_ 2), (0, u "java/lang/Comparable"), (0, .class_ 4), (0, u "java/lang/Object")] 7

/-- java/lang/Comparable -/
def k3 : Class := { plain "java/lang/Comparable" (some 0) with
  accessFlags := 1537
  interfaces := #[]
  cf := some (fileOf pool3 1 #[] #[] 1537 3 #[] #[])
  fields := #[]
  methods := #[]
  instanceTypes := #[]
  staticTypes := #[]
  resolved := Array.replicate 12 none
  statics := none }

def pool4 : Array CpInfo := pool [(1, .class_ 2), (0, u "java/io/Serializable"), (0, .class_ 4), (0, u "java/lang/Object")] 2

/-- java/io/Serializable -/
def k4 : Class := { plain "java/io/Serializable" (some 0) with
  accessFlags := 1537
  interfaces := #[]
  cf := some (fileOf pool4 1 #[] #[] 1537 3 #[] #[])
  fields := #[]
  methods := #[]
  instanceTypes := #[]
  staticTypes := #[]
  resolved := Array.replicate 7 none
  statics := none }

def pool5 : Array CpInfo := pool [(2, .class_ 4), (1, u "java/lang/Enum"), (0, u "name"), (0, u "Ljava/lang/String;"), (2, u "ordinal"), (0, u "I"), (1, .class_ 14), (1, u "java/lang/Object"), (4, u "hash"), (86, .class_ 108), (1, u "java/lang/Enum$EnumDesc"), (2, .class_ 112), (0, u "java/lang/constant/Constable"), (0, .class_ 114), (0, u "java/lang/Comparable"), (0, .class_ 116), (0, u "java/io/Serializable")] 87

/-- java/lang/Enum -/
def k5 : Class := { plain "java/lang/Enum" (some 0) with
  accessFlags := 1057
  interfaces := #[2, 3, 4]
  cf := some (fileOf pool5 2 #[.nestMembers #[106]] #[] 1057 12 #[111, 113, 115] #[{ accessFlags := 18, nameIndex := 5, descriptorIndex := 6, attributes := #[] }, { accessFlags := 18, nameIndex := 9, descriptorIndex := 10, attributes := #[] }, { accessFlags := 2, nameIndex := 19, descriptorIndex := 10, attributes := #[] }])
  fields := #[{ name := "name", type := (.object "java/lang/String"), accessFlags := 18, slot := 0, constantValue := 0 }, { name := "ordinal", type := .int, accessFlags := 18, slot := 1, constantValue := 0 }, { name := "hash", type := .int, accessFlags := 2, slot := 2, constantValue := 0 }]
  methods := #[]
  instanceTypes := #[(.object "java/lang/String"), .int, .int]
  staticTypes := #[]
  resolved := Array.replicate 204 none
  statics := none }

def pool6 : Array CpInfo := pool [(1, .class_ 2), (0, u "com/example/tuplebag/tuplebag/bench/Workload"), (2, u "OUT"), (0, u "Lcom/example/tuplebag/tuplebag/bench/Workload;"), (2, u "INP"), (2, u "TAKE_COMPLETE"), (0, .fieldref 1 14), (0, .nameAndType 15 16), (0, u "$VALUES"), (0, u "[Lcom/example/tuplebag/tuplebag/bench/Workload;"), (0, .methodref 18 19), (0, .class_ 16), (0, .nameAndType 20 21), (0, u "clone"), (0, u "()Ljava/lang/Object;"), (1, .class_ 25), (1, u "java/lang/Enum"), (4, u "<init>"), (1, .fieldref 1 33), (0, .nameAndType 34 35), (0, u "text"), (0, u "Ljava/lang/String;"), (6, .methodref 1 43), (0, .nameAndType 44 45), (0, u "values"), (0, u "()[Lcom/example/tuplebag/tuplebag/bench/Workload;"), (10, .class_ 57), (0, u "java/lang/StringBuilder"), (0, .methodref 56 59), (0, .nameAndType 30 60), (0, u "()V"), (0, .string 62), (0, u " or "), (0, .string 64), (0, u ", "), (0, .methodref 56 66), (0, .nameAndType 67 68), (0, u "append"), (0, u "(Ljava/lang/String;)Ljava/lang/StringBuilder;"), (0, .methodref 56 70), (0, .nameAndType 71 72), (0, u "toString"), (0, u "()Ljava/lang/String;"), (50, u "WRITTEN"), (0, u "Lcom/example/tuplebag/tuplebag/tuple/Template;"), (122, u "LEASE_MS"), (0, u "J"), (10, u "names")] 55

def k6c0 : Code := { maxStack := 1, maxLocals := 0, code := prog_9_method_1_code, exceptionTable := #[], attributes := #[] }
def k6m0 : Method := { name := "values", desc := "()[Lcom/example/tuplebag/tuplebag/bench/Workload;", sig := { parameters := [], returnType := some (.array (.object "com/example/tuplebag/tuplebag/bench/Workload")) }, accessFlags := 9, code := some k6c0 }
def k6c1 : Code := { maxStack := 4, maxLocals := 3, code := prog_9_method_5_code, exceptionTable := #[], attributes := #[] }
def k6m1 : Method := { name := "names", desc := "()Ljava/lang/String;", sig := { parameters := [], returnType := some (.object "java/lang/String") }, accessFlags := 9, code := some k6c1 }
/-- com/example/tuplebag/tuplebag/bench/Workload -/
def k6 : Class := { plain "com/example/tuplebag/tuplebag/bench/Workload" (some 5) with
  accessFlags := 16433
  interfaces := #[]
  cf := some (fileOf pool6 1 #[] #[{ accessFlags := 9, nameIndex := 44, descriptorIndex := 45, attributes := #[] }, { accessFlags := 9, nameIndex := 259, descriptorIndex := 72, attributes := #[] }] 16433 23 #[] #[{ accessFlags := 16409, nameIndex := 5, descriptorIndex := 6, attributes := #[] }, { accessFlags := 16409, nameIndex := 9, descriptorIndex := 6, attributes := #[] }, { accessFlags := 16409, nameIndex := 12, descriptorIndex := 6, attributes := #[] }, { accessFlags := 26, nameIndex := 123, descriptorIndex := 124, attributes := #[] }, { accessFlags := 26, nameIndex := 247, descriptorIndex := 248, attributes := #[] }, { accessFlags := 18, nameIndex := 34, descriptorIndex := 35, attributes := #[] }, { accessFlags := 4122, nameIndex := 15, descriptorIndex := 16, attributes := #[] }])
  fields := #[{ name := "OUT", type := (.object "com/example/tuplebag/tuplebag/bench/Workload"), accessFlags := 16409, slot := 0, constantValue := 0 }, { name := "INP", type := (.object "com/example/tuplebag/tuplebag/bench/Workload"), accessFlags := 16409, slot := 1, constantValue := 0 }, { name := "TAKE_COMPLETE", type := (.object "com/example/tuplebag/tuplebag/bench/Workload"), accessFlags := 16409, slot := 2, constantValue := 0 }, { name := "WRITTEN", type := (.object "com/example/tuplebag/tuplebag/tuple/Template"), accessFlags := 26, slot := 3, constantValue := 0 }, { name := "LEASE_MS", type := .long, accessFlags := 26, slot := 4, constantValue := 0 }, { name := "text", type := (.object "java/lang/String"), accessFlags := 18, slot := 3, constantValue := 0 }, { name := "$VALUES", type := (.array (.object "com/example/tuplebag/tuplebag/bench/Workload")), accessFlags := 4122, slot := 5, constantValue := 0 }]
  methods := #[k6m0, k6m1]
  instanceTypes := #[(.object "java/lang/String"), .int, .int, (.object "java/lang/String")]
  staticTypes := #[(.object "com/example/tuplebag/tuplebag/bench/Workload"), (.object "com/example/tuplebag/tuplebag/bench/Workload"), (.object "com/example/tuplebag/tuplebag/bench/Workload"), (.object "com/example/tuplebag/tuplebag/tuple/Template"), .long, (.array (.object "com/example/tuplebag/tuplebag/bench/Workload"))]
  resolved := Array.replicate 315 none
  statics := some 0 }

def pool7 : Array CpInfo := pool [(1, .class_ 2), (0, u "java/lang/Appendable"), (0, .class_ 4), (0, u "java/lang/Object")] 9

/-- java/lang/Appendable -/
def k7 : Class := { plain "java/lang/Appendable" (some 0) with
  accessFlags := 1537
  interfaces := #[]
  cf := some (fileOf pool7 1 #[] #[] 1537 3 #[] #[])
  fields := #[]
  methods := #[]
  instanceTypes := #[]
  staticTypes := #[]
  resolved := Array.replicate 14 none
  statics := none }

def pool8 : Array CpInfo := pool [(2, .class_ 4), (1, u "java/lang/CharSequence"), (42, .class_ 48), (0, u "java/lang/CharSequence$1CodePointIterator"), (10, .class_ 60), (0, u "java/lang/CharSequence$1CharIterator"), (5, .class_ 67), (0, u "java/lang/Object")] 63

/-- java/lang/CharSequence -/
def k8 : Class := { plain "java/lang/CharSequence" (some 0) with
  accessFlags := 1537
  interfaces := #[]
  cf := some (fileOf pool8 2 #[.nestMembers #[47, 59]] #[] 1537 66 #[] #[])
  fields := #[]
  methods := #[]
  instanceTypes := #[]
  staticTypes := #[]
  resolved := Array.replicate 131 none
  statics := none }

def pool9 : Array CpInfo := pool [(1, .class_ 2), (0, u "java/lang/String"), (0, .methodref 4 5), (0, .class_ 6), (0, .nameAndType 7 8), (0, u "java/lang/Object"), (0, u "<init>"), (0, u "()V"), (1, .class_ 12), (1, u "java/lang/AbstractStringBuilder"), (0, u "EMPTYVALUE"), (0, u "[B"), (0, .fieldref 10 16), (0, .nameAndType 17 14), (0, u "value"), (0, .fieldref 1 19), (0, .nameAndType 20 21), (0, u "COMPACT_STRINGS"), (0, u "Z"), (0, .fieldref 10 23), (0, .nameAndType 24 25), (0, u "coder"), (0, u "B"), (6, .methodref 1 33), (0, .nameAndType 34 35), (0, u "length"), (0, u "()I"), (3, .integer 2147483647), (0, .methodref 1 41), (0, .nameAndType 24 42), (0, u "()B"), (2, u "append"), (0, u "(Ljava/lang/String;)Ljava/lang/AbstractStringBuilder;"), (1, .class_ 49), (0, u "java/lang/CharSequence"), (19, u "(Ljava/lang/String;)V"), (5, u "maybeLatin1"), (3, .fieldref 10 80), (0, .nameAndType 81 82), (0, u "count"), (0, u "I"), (2, u "isLatin1"), (0, u "()Z"), (13, .methodref 10 101), (0, .nameAndType 102 103), (0, u "ensureCapacityInternal"), (0, u "(I)V"), (0, .methodref 10 105), (0, .nameAndType 106 107), (0, u "newCapacity"), (0, u "(I)I"), (0, .methodref 109 110), (0, .class_ 111), (0, .nameAndType 112 113), (0, u "java/util/Arrays"), (0, u "copyOf"), (0, u "([BI)[B"), (0, .methodref 115 116), (0, .class_ 117), (0, .nameAndType 118 119), (0, u "jdk/internal/util/ArraysSupport"), (0, u "newLength"), (0, u "(III)I"), (88, .methodref 10 209), (0, .nameAndType 210 211), (0, u "putStringAt"), (0, u "(ILjava/lang/String;)V"), (5, u "inflateIfNeededFor"), (2, .nameAndType 221 222), (0, u "getBytes"), (0, u "([BIB)V"), (174, .methodref 10 398), (0, .nameAndType 217 69), (0, .methodref 1 220), (3, u "()[B"), (40, .class_ 445), (0, u "java/lang/Appendable"), (106, u "getValue")] 56

def k9m0 : Method := { name := "<init>", desc := "()V", sig := { parameters := [], returnType := none }, accessFlags := 0, code := none }
def k9c1 : Code := { maxStack := 2, maxLocals := 2, code := jdk_68_method_2_code, exceptionTable := #[], attributes := #[] }
def k9m1 : Method := { name := "<init>", desc := "(I)V", sig := { parameters := [.int], returnType := none }, accessFlags := 0, code := some k9c1 }
def k9c2 : Code := { maxStack := 1, maxLocals := 1, code := jdk_68_method_6_code, exceptionTable := #[], attributes := #[] }
def k9m2 : Method := { name := "length", desc := "()I", sig := { parameters := [], returnType := some .int }, accessFlags := 1, code := some k9c2 }
def k9c3 : Code := { maxStack := 4, maxLocals := 3, code := jdk_68_method_9_code, exceptionTable := #[], attributes := #[] }
def k9m3 : Method := { name := "ensureCapacityInternal", desc := "(I)V", sig := { parameters := [.int], returnType := none }, accessFlags := 2, code := some k9c3 }
def k9c4 : Code := { maxStack := 5, maxLocals := 6, code := jdk_68_method_10_code, exceptionTable := #[], attributes := #[] }
def k9m4 : Method := { name := "newCapacity", desc := "(I)I", sig := { parameters := [.int], returnType := some .int }, accessFlags := 2, code := some k9c4 }
def k9c5 : Code := { maxStack := 3, maxLocals := 3, code := jdk_68_method_22_code, exceptionTable := #[], attributes := #[] }
def k9m5 : Method := { name := "append", desc := "(Ljava/lang/String;)Ljava/lang/AbstractStringBuilder;", sig := { parameters := [(.object "java/lang/String")], returnType := some (.object "java/lang/AbstractStringBuilder") }, accessFlags := 1, code := some k9c5 }
def k9c6 : Code := { maxStack := 1, maxLocals := 1, code := jdk_68_method_64_code, exceptionTable := #[], attributes := #[] }
def k9m6 : Method := { name := "getValue", desc := "()[B", sig := { parameters := [], returnType := some (.array .byte) }, accessFlags := 16, code := some k9c6 }
def k9c7 : Code := { maxStack := 1, maxLocals := 1, code := jdk_68_method_68_code, exceptionTable := #[], attributes := #[] }
def k9m7 : Method := { name := "isLatin1", desc := "()Z", sig := { parameters := [], returnType := some .boolean }, accessFlags := 16, code := some k9c7 }
def k9c8 : Code := { maxStack := 2, maxLocals := 2, code := jdk_68_method_71_code, exceptionTable := #[], attributes := #[] }
def k9m8 : Method := { name := "inflateIfNeededFor", desc := "(Ljava/lang/String;)V", sig := { parameters := [(.object "java/lang/String")], returnType := none }, accessFlags := 2, code := some k9c8 }
def k9c9 : Code := { maxStack := 4, maxLocals := 3, code := jdk_68_method_73_code, exceptionTable := #[], attributes := #[] }
def k9m9 : Method := { name := "putStringAt", desc := "(ILjava/lang/String;)V", sig := { parameters := [.int, (.object "java/lang/String")], returnType := none }, accessFlags := 2, code := some k9c9 }
/-- java/lang/AbstractStringBuilder -/
def k9 : Class := { plain "java/lang/AbstractStringBuilder" (some 0) with
  accessFlags := 1056
  interfaces := #[7, 8]
  cf := some (fileOf pool9 10 #[] #[{ accessFlags := 0, nameIndex := 7, descriptorIndex := 8, attributes := #[] }, { accessFlags := 0, nameIndex := 7, descriptorIndex := 103, attributes := #[] }, { accessFlags := 1, nameIndex := 34, descriptorIndex := 35, attributes := #[] }, { accessFlags := 2, nameIndex := 102, descriptorIndex := 103, attributes := #[] }, { accessFlags := 2, nameIndex := 106, descriptorIndex := 107, attributes := #[] }, { accessFlags := 1, nameIndex := 45, descriptorIndex := 46, attributes := #[] }, { accessFlags := 16, nameIndex := 552, descriptorIndex := 403, attributes := #[] }, { accessFlags := 16, nameIndex := 85, descriptorIndex := 86, attributes := #[] }, { accessFlags := 2, nameIndex := 217, descriptorIndex := 69, attributes := #[] }, { accessFlags := 2, nameIndex := 210, descriptorIndex := 211, attributes := #[] }] 1056 4 #[444, 48] #[{ accessFlags := 0, nameIndex := 17, descriptorIndex := 14, attributes := #[] }, { accessFlags := 0, nameIndex := 24, descriptorIndex := 25, attributes := #[] }, { accessFlags := 0, nameIndex := 75, descriptorIndex := 21, attributes := #[] }, { accessFlags := 0, nameIndex := 81, descriptorIndex := 82, attributes := #[] }, { accessFlags := 26, nameIndex := 13, descriptorIndex := 14, attributes := #[] }])
  fields := #[{ name := "value", type := (.array .byte), accessFlags := 0, slot := 0, constantValue := 0 }, { name := "coder", type := .byte, accessFlags := 0, slot := 1, constantValue := 0 }, { name := "maybeLatin1", type := .boolean, accessFlags := 0, slot := 2, constantValue := 0 }, { name := "count", type := .int, accessFlags := 0, slot := 3, constantValue := 0 }, { name := "EMPTYVALUE", type := (.array .byte), accessFlags := 26, slot := 0, constantValue := 0 }]
  methods := #[k9m0, k9m1, k9m2, k9m3, k9m4, k9m5, k9m6, k9m7, k9m8, k9m9]
  instanceTypes := #[(.array .byte), .byte, .boolean, .int]
  staticTypes := #[(.array .byte)]
  resolved := Array.replicate 609 none
  statics := none }

def pool10 : Array CpInfo := pool [(1, .methodref 2 3), (0, .class_ 4), (0, .nameAndType 5 6), (0, u "java/lang/AbstractStringBuilder"), (0, u "<init>"), (0, u "(I)V"), (11, .class_ 20), (1, u "java/lang/String"), (3, .class_ 26), (1, u "java/lang/StringBuilder"), (0, u "append"), (0, u "(Ljava/lang/String;)Ljava/lang/StringBuilder;"), (0, .methodref 2 30), (0, .nameAndType 27 31), (0, u "(Ljava/lang/String;)Ljava/lang/AbstractStringBuilder;"), (105, .methodref 18 138), (0, .nameAndType 5 139), (0, u "(Ljava/lang/StringBuilder;)V"), (5, u "()V"), (10, u "()I"), (186, .methodref 2 344), (0, .nameAndType 345 156), (0, u "length"), (3, .class_ 350), (0, u "java/lang/Appendable"), (0, .class_ 352), (0, u "java/io/Serializable"), (0, .class_ 354), (0, u "java/lang/Comparable"), (0, .class_ 356), (0, u "java/lang/CharSequence"), (0, u "serialVersionUID"), (0, u "J"), (40, u "toString"), (0, u "()Ljava/lang/String;")] 21

def k10c0 : Code := { maxStack := 2, maxLocals := 1, code := jdk_67_method_1_code, exceptionTable := #[], attributes := #[] }
def k10m0 : Method := { name := "<init>", desc := "()V", sig := { parameters := [], returnType := none }, accessFlags := 1, code := some k10c0 }
def k10c1 : Code := { maxStack := 2, maxLocals := 2, code := jdk_67_method_7_code, exceptionTable := #[], attributes := #[] }
def k10m1 : Method := { name := "append", desc := "(Ljava/lang/String;)Ljava/lang/StringBuilder;", sig := { parameters := [(.object "java/lang/String")], returnType := some (.object "java/lang/StringBuilder") }, accessFlags := 1, code := some k10c1 }
def k10c2 : Code := { maxStack := 3, maxLocals := 1, code := jdk_67_method_42_code, exceptionTable := #[], attributes := #[] }
def k10m2 : Method := { name := "toString", desc := "()Ljava/lang/String;", sig := { parameters := [], returnType := some (.object "java/lang/String") }, accessFlags := 1, code := some k10c2 }
def k10c3 : Code := { maxStack := 1, maxLocals := 1, code := jdk_67_method_93_code, exceptionTable := #[], attributes := #[] }
def k10m3 : Method := { name := "length", desc := "()I", sig := { parameters := [], returnType := some .int }, accessFlags := 4161, code := some k10c3 }
/-- java/lang/StringBuilder -/
def k10 : Class := { plain "java/lang/StringBuilder" (some 9) with
  accessFlags := 49
  interfaces := #[7, 4, 3, 8]
  cf := some (fileOf pool10 24 #[] #[{ accessFlags := 1, nameIndex := 5, descriptorIndex := 145, attributes := #[] }, { accessFlags := 1, nameIndex := 27, descriptorIndex := 28, attributes := #[] }, { accessFlags := 1, nameIndex := 399, descriptorIndex := 400, attributes := #[] }, { accessFlags := 4161, nameIndex := 345, descriptorIndex := 156, attributes := #[] }] 49 2 #[349, 351, 353, 355] #[{ accessFlags := 24, nameIndex := 357, descriptorIndex := 358, attributes := #[] }])
  fields := #[{ name := "serialVersionUID", type := .long, accessFlags := 24, slot := 0, constantValue := 0 }]
  methods := #[k10m0, k10m1, k10m2, k10m3]
  instanceTypes := #[(.array .byte), .byte, .boolean, .int]
  staticTypes := #[.long]
  resolved := Array.replicate 422 none
  statics := none }

def pool11 : Array CpInfo := pool [(1, .class_ 2), (0, u "java/lang/constant/ConstantDesc"), (0, .class_ 4), (0, u "java/lang/Object")] 32

/-- java/lang/constant/ConstantDesc -/
def k11 : Class := { plain "java/lang/constant/ConstantDesc" (some 0) with
  accessFlags := 1537
  interfaces := #[]
  cf := some (fileOf pool11 1 #[] #[] 1537 3 #[] #[])
  fields := #[]
  methods := #[]
  instanceTypes := #[]
  staticTypes := #[]
  resolved := Array.replicate 37 none
  statics := none }

def pool12 : Array CpInfo := pool [(1, .methodref 2 3), (0, .class_ 4), (0, .nameAndType 5 6), (0, u "java/lang/Object"), (0, u "<init>"), (0, u "()V"), (2, .fieldref 10 11), (0, .class_ 12), (0, .nameAndType 13 14), (0, u "java/lang/String"), (0, u "value"), (0, u "[B"), (0, .fieldref 10 16), (0, .nameAndType 17 18), (0, u "coder"), (0, u "B"), (2, u "hash"), (0, u "I"), (2, u "hashIsZero"), (0, u "Z"), (11, .fieldref 10 39), (0, .nameAndType 40 26), (0, u "COMPACT_STRINGS"), (13, .methodref 55 56), (0, .class_ 57), (0, .nameAndType 58 59), (0, u "java/util/Arrays"), (0, u "copyOfRange"), (0, u "([BII)[B"), (47, .class_ 109), (1, u "java/lang/StringLatin1"), (32, u "()Z"), (50, .class_ 195), (1, u "java/lang/System"), (16, .methodref 193 213), (0, .nameAndType 214 215), (0, u "arraycopy"), (0, u "(Ljava/lang/Object;ILjava/lang/Object;II)V"), (118, u "()I"), (0, .methodref 10 336), (0, .nameAndType 17 337), (0, u "()B"), (2, u "()[B"), (148, .methodref 10 490), (0, .nameAndType 5 491), (0, u "(Ljava/lang/AbstractStringBuilder;Ljava/lang/Void;)V"), (1, .nameAndType 494 142), (0, u "isLatin1"), (11, .nameAndType 507 334), (0, u "length"), (24, u "getBytes"), (8, .methodref 107 542), (0, .nameAndType 543 544), (0, u "equals"), (0, u "([B[B)Z"), (4, .methodref 550 506), (0, .class_ 551), (0, u "java/lang/AbstractStringBuilder"), (0, .methodref 550 553), (0, .nameAndType 554 340), (0, u "getValue"), (18, u "(Ljava/lang/Object;)Z"), (1, .class_ 576), (0, u "java/lang/CharSequence"), (22, u "CASE_INSENSITIVE_ORDER"), (0, u "Ljava/util/Comparator;"), (220, u "([BIB)V"), (225, .methodref 550 493), (53, u "serialPersistentFields"), (0, u "[Ljava/io/ObjectStreamField;"), (0, .class_ 1104), (0, u "java/lang/String$CaseInsensitiveComparator"), (1, .class_ 1107), (0, u "java/io/Serializable"), (0, .class_ 1109), (0, u "java/lang/Comparable"), (0, .class_ 1111), (0, u "java/lang/constant/Constable"), (0, .class_ 1113), (0, u "java/lang/constant/ConstantDesc"), (2, u "serialVersionUID"), (0, u "J"), (3, u "REPL"), (0, u "C"), (2, u "LATIN1"), (1, u "UTF16"), (105, u "(Ljava/lang/StringBuilder;)V")] 217

def k12m0 : Method := { name := "<init>", desc := "()V", sig := { parameters := [], returnType := none }, accessFlags := 1, code := none }
def k12c1 : Code := { maxStack := 3, maxLocals := 2, code := jdk_42_method_53_code, exceptionTable := #[], attributes := #[] }
def k12m1 : Method := { name := "<init>", desc := "(Ljava/lang/StringBuilder;)V", sig := { parameters := [(.object "java/lang/StringBuilder")], returnType := none }, accessFlags := 1, code := some k12c1 }
def k12c2 : Code := { maxStack := 2, maxLocals := 1, code := jdk_42_method_54_code, exceptionTable := #[], attributes := #[] }
def k12m2 : Method := { name := "length", desc := "()I", sig := { parameters := [], returnType := some .int }, accessFlags := 1, code := some k12c2 }
def k12c3 : Code := { maxStack := 2, maxLocals := 3, code := jdk_42_method_66_code, exceptionTable := #[], attributes := #[] }
def k12m3 : Method := { name := "equals", desc := "(Ljava/lang/Object;)Z", sig := { parameters := [(.object "java/lang/Object")], returnType := some .boolean }, accessFlags := 1, code := some k12c3 }
def k12c4 : Code := { maxStack := 5, maxLocals := 4, code := jdk_42_method_147_code, exceptionTable := #[], attributes := #[] }
def k12m4 : Method := { name := "getBytes", desc := "([BIB)V", sig := { parameters := [(.array .byte), .int, .byte], returnType := none }, accessFlags := 0, code := some k12c4 }
def k12c5 : Code := { maxStack := 5, maxLocals := 5, code := jdk_42_method_150_code, exceptionTable := #[], attributes := #[] }
def k12m5 : Method := { name := "<init>", desc := "(Ljava/lang/AbstractStringBuilder;Ljava/lang/Void;)V", sig := { parameters := [(.object "java/lang/AbstractStringBuilder"), (.object "java/lang/Void")], returnType := none }, accessFlags := 0, code := some k12c5 }
def k12c6 : Code := { maxStack := 1, maxLocals := 1, code := jdk_42_method_152_code, exceptionTable := #[], attributes := #[] }
def k12m6 : Method := { name := "coder", desc := "()B", sig := { parameters := [], returnType := some .byte }, accessFlags := 0, code := some k12c6 }
/-- java/lang/String -/
def k12 : Class := { plain "java/lang/String" (some 0) with
  accessFlags := 49
  interfaces := #[4, 3, 8, 2, 11]
  cf := some (fileOf pool12 10 #[.nestMembers #[1103]] #[{ accessFlags := 1, nameIndex := 5, descriptorIndex := 6, attributes := #[] }, { accessFlags := 1, nameIndex := 5, descriptorIndex := 1233, attributes := #[] }, { accessFlags := 1, nameIndex := 507, descriptorIndex := 334, attributes := #[] }, { accessFlags := 1, nameIndex := 543, descriptorIndex := 573, attributes := #[] }, { accessFlags := 0, nameIndex := 532, descriptorIndex := 821, attributes := #[] }, { accessFlags := 0, nameIndex := 5, descriptorIndex := 491, attributes := #[] }, { accessFlags := 0, nameIndex := 17, descriptorIndex := 337, attributes := #[] }] 49 2 #[1106, 1108, 575, 1110, 1112] #[{ accessFlags := 18, nameIndex := 13, descriptorIndex := 14, attributes := #[] }, { accessFlags := 18, nameIndex := 17, descriptorIndex := 18, attributes := #[] }, { accessFlags := 2, nameIndex := 21, descriptorIndex := 22, attributes := #[] }, { accessFlags := 2, nameIndex := 25, descriptorIndex := 26, attributes := #[] }, { accessFlags := 26, nameIndex := 1116, descriptorIndex := 1117, attributes := #[] }, { accessFlags := 24, nameIndex := 40, descriptorIndex := 26, attributes := #[] }, { accessFlags := 26, nameIndex := 1101, descriptorIndex := 1102, attributes := #[] }, { accessFlags := 26, nameIndex := 1121, descriptorIndex := 1122, attributes := #[] }, { accessFlags := 25, nameIndex := 599, descriptorIndex := 600, attributes := #[] }, { accessFlags := 24, nameIndex := 1125, descriptorIndex := 18, attributes := #[] }, { accessFlags := 24, nameIndex := 1127, descriptorIndex := 18, attributes := #[] }])
  fields := #[{ name := "value", type := (.array .byte), accessFlags := 18, slot := 0, constantValue := 0 }, { name := "coder", type := .byte, accessFlags := 18, slot := 1, constantValue := 0 }, { name := "hash", type := .int, accessFlags := 2, slot := 2, constantValue := 0 }, { name := "hashIsZero", type := .boolean, accessFlags := 2, slot := 3, constantValue := 0 }, { name := "serialVersionUID", type := .long, accessFlags := 26, slot := 0, constantValue := 0 }, { name := "COMPACT_STRINGS", type := .boolean, accessFlags := 24, slot := 1, constantValue := 0 }, { name := "serialPersistentFields", type := (.array (.object "java/io/ObjectStreamField")), accessFlags := 26, slot := 2, constantValue := 0 }, { name := "REPL", type := .char, accessFlags := 26, slot := 3, constantValue := 0 }, { name := "CASE_INSENSITIVE_ORDER", type := (.object "java/util/Comparator"), accessFlags := 25, slot := 4, constantValue := 0 }, { name := "LATIN1", type := .byte, accessFlags := 24, slot := 5, constantValue := 0 }, { name := "UTF16", type := .byte, accessFlags := 24, slot := 6, constantValue := 0 }]
  methods := #[k12m0, k12m1, k12m2, k12m3, k12m4, k12m5, k12m6]
  instanceTypes := #[(.array .byte), .byte, .int, .boolean]
  staticTypes := #[.long, .boolean, (.array (.object "java/io/ObjectStreamField")), .char, (.object "java/util/Comparator"), .byte, .byte]
  resolved := Array.replicate 1451 none
  statics := some 1 }

def pool13 : Array CpInfo := pool [(1, .class_ 2), (0, u "java/lang/Cloneable"), (0, .class_ 4), (0, u "java/lang/Object")] 2

/-- java/lang/Cloneable -/
def k13 : Class := { plain "java/lang/Cloneable" (some 0) with
  accessFlags := 1537
  interfaces := #[]
  cf := some (fileOf pool13 1 #[] #[] 1537 3 #[] #[])
  fields := #[]
  methods := #[]
  instanceTypes := #[]
  staticTypes := #[]
  resolved := Array.replicate 7 none
  statics := none }

def pool14 : Array CpInfo := pool [(2, .class_ 4), (1, u "java/lang/Object"), (0, u "<init>"), (0, u "()V"), (1, .class_ 10), (1, u "java/lang/System"), (0, u "allowSecurityManager"), (0, u "I"), (16, u "cons"), (0, u "Ljava/io/Console;"), (77, .class_ 110), (1, u "java/lang/System$CallersHolder"), (43, u "initialErrStream"), (0, u "Ljava/io/PrintStream;"), (19, u "security"), (0, u "Ljava/lang/SecurityManager;"), (31, .class_ 209), (0, u "java/lang/System$1"), (7, u "props"), (0, u "Ljava/util/Properties;"), (2, u "lineSeparator"), (0, u "Ljava/lang/String;"), (96, .class_ 321), (1, u "java/lang/System$LoggerFinder"), (5, .class_ 328), (0, u "java/lang/System$Logger"), (67, u "err"), (2, u "out"), (91, u "notSupportedJnuEncoding"), (15, u "in"), (17, u "initialIn"), (0, u "Ljava/io/InputStream;"), (35, u "bootLayer"), (0, u "Ljava/lang/ModuleLayer;"), (99, .class_ 664), (0, u "java/lang/System$2"), (9, u "NEVER"), (2, u "MAYBE"), (49, u "arraycopy"), (0, u "(Ljava/lang/Object;ILjava/lang/Object;II)V"), (72, .class_ 802), (0, u "java/lang/System$Logger$Level")] 31

def k14m0 : Method := { name := "<init>", desc := "()V", sig := { parameters := [], returnType := none }, accessFlags := 2, code := none }
def k14m1 : Method := { name := "arraycopy", desc := "(Ljava/lang/Object;ILjava/lang/Object;II)V", sig := { parameters := [(.object "java/lang/Object"), .int, (.object "java/lang/Object"), .int, .int], returnType := none }, accessFlags := 265, code := none }
/-- java/lang/System -/
def k14 : Class := { plain "java/lang/System" (some 0) with
  accessFlags := 49
  interfaces := #[]
  cf := some (fileOf pool14 8 #[.nestMembers #[319, 327, 801, 108, 663, 208]] #[{ accessFlags := 2, nameIndex := 5, descriptorIndex := 6, attributes := #[] }, { accessFlags := 265, nameIndex := 727, descriptorIndex := 728, attributes := #[] }] 49 2 #[] #[{ accessFlags := 25, nameIndex := 507, descriptorIndex := 526, attributes := #[] }, { accessFlags := 25, nameIndex := 399, descriptorIndex := 155, attributes := #[] }, { accessFlags := 25, nameIndex := 396, descriptorIndex := 155, attributes := #[] }, { accessFlags := 10, nameIndex := 525, descriptorIndex := 526, attributes := #[] }, { accessFlags := 26, nameIndex := 674, descriptorIndex := 12, attributes := #[] }, { accessFlags := 26, nameIndex := 677, descriptorIndex := 12, attributes := #[] }, { accessFlags := 10, nameIndex := 11, descriptorIndex := 12, attributes := #[] }, { accessFlags := 74, nameIndex := 175, descriptorIndex := 176, attributes := #[] }, { accessFlags := 10, nameIndex := 491, descriptorIndex := 222, attributes := #[] }, { accessFlags := 74, nameIndex := 29, descriptorIndex := 30, attributes := #[] }, { accessFlags := 74, nameIndex := 154, descriptorIndex := 155, attributes := #[] }, { accessFlags := 10, nameIndex := 217, descriptorIndex := 218, attributes := #[] }, { accessFlags := 10, nameIndex := 221, descriptorIndex := 222, attributes := #[] }, { accessFlags := 8, nameIndex := 562, descriptorIndex := 563, attributes := #[] }])
  fields := #[{ name := "in", type := (.object "java/io/InputStream"), accessFlags := 25, slot := 0, constantValue := 0 }, { name := "out", type := (.object "java/io/PrintStream"), accessFlags := 25, slot := 1, constantValue := 0 }, { name := "err", type := (.object "java/io/PrintStream"), accessFlags := 25, slot := 2, constantValue := 0 }, { name := "initialIn", type := (.object "java/io/InputStream"), accessFlags := 10, slot := 3, constantValue := 0 }, { name := "NEVER", type := .int, accessFlags := 26, slot := 4, constantValue := 0 }, { name := "MAYBE", type := .int, accessFlags := 26, slot := 5, constantValue := 0 }, { name := "allowSecurityManager", type := .int, accessFlags := 10, slot := 6, constantValue := 0 }, { name := "security", type := (.object "java/lang/SecurityManager"), accessFlags := 74, slot := 7, constantValue := 0 }, { name := "notSupportedJnuEncoding", type := (.object "java/lang/String"), accessFlags := 10, slot := 8, constantValue := 0 }, { name := "cons", type := (.object "java/io/Console"), accessFlags := 74, slot := 9, constantValue := 0 }, { name := "initialErrStream", type := (.object "java/io/PrintStream"), accessFlags := 74, slot := 10, constantValue := 0 }, { name := "props", type := (.object "java/util/Properties"), accessFlags := 10, slot := 11, constantValue := 0 }, { name := "lineSeparator", type := (.object "java/lang/String"), accessFlags := 10, slot := 12, constantValue := 0 }, { name := "bootLayer", type := (.object "java/lang/ModuleLayer"), accessFlags := 8, slot := 13, constantValue := 0 }]
  methods := #[k14m0, k14m1]
  instanceTypes := #[]
  staticTypes := #[(.object "java/io/InputStream"), (.object "java/io/PrintStream"), (.object "java/io/PrintStream"), (.object "java/io/InputStream"), .int, .int, .int, (.object "java/lang/SecurityManager"), (.object "java/lang/String"), (.object "java/io/Console"), (.object "java/io/PrintStream"), (.object "java/util/Properties"), (.object "java/lang/String"), (.object "java/lang/ModuleLayer")]
  resolved := Array.replicate 834 none
  statics := none }

def pool15 : Array CpInfo := pool [(9, u "<init>"), (6, .class_ 18), (1, u "java/lang/Object"), (0, u "()V"), (1, .class_ 23), (1, u "jdk/internal/util/ArraysSupport"), (0, u "LOG2_ARRAY_LONG_INDEX_SCALE"), (0, u "I"), (2, u "U"), (0, u "Ljdk/internal/misc/Unsafe;"), (8, u "BIG_ENDIAN"), (0, u "Z"), (8, u "LOG2_BYTE_BIT_SIZE"), (4, u "LOG2_ARRAY_INT_INDEX_SCALE"), (54, u "JLA"), (0, u "Ljdk/internal/access/JavaLangAccess;"), (11, u "LOG2_ARRAY_BOOLEAN_INDEX_SCALE"), (9, u "LOG2_ARRAY_BYTE_INDEX_SCALE"), (5, u "LOG2_ARRAY_CHAR_INDEX_SCALE"), (5, u "LOG2_ARRAY_SHORT_INDEX_SCALE"), (18, u "LOG2_ARRAY_FLOAT_INDEX_SCALE"), (24, u "LOG2_ARRAY_DOUBLE_INDEX_SCALE"), (6, .methodref 195 196), (0, .class_ 197), (0, .nameAndType 198 199), (0, u "java/lang/Math"), (0, u "max"), (0, u "(II)I"), (0, .integer 2147483639), (76, u "T_BOOLEAN"), (2, u "T_CHAR"), (1, u "T_FLOAT"), (1, u "T_DOUBLE"), (1, u "T_BYTE"), (1, u "T_SHORT"), (1, u "T_INT"), (1, u "T_LONG"), (1, u "SOFT_MAX_ARRAY_LENGTH"), (56, u "newLength"), (0, u "(III)I")] 25

def k15m0 : Method := { name := "<init>", desc := "()V", sig := { parameters := [], returnType := none }, accessFlags := 2, code := none }
def k15c1 : Code := { maxStack := 3, maxLocals := 4, code := jdk_48_method_27_code, exceptionTable := #[], attributes := #[] }
def k15m1 : Method := { name := "newLength", desc := "(III)I", sig := { parameters := [.int, .int, .int], returnType := some .int }, accessFlags := 9, code := some k15c1 }
/-- jdk/internal/util/ArraysSupport -/
def k15 : Class := { plain "jdk/internal/util/ArraysSupport" (some 0) with
  accessFlags := 33
  interfaces := #[]
  cf := some (fileOf pool15 21 #[] #[{ accessFlags := 2, nameIndex := 9, descriptorIndex := 19, attributes := #[] }, { accessFlags := 9, nameIndex := 351, descriptorIndex := 352, attributes := #[] }] 33 16 #[] #[{ accessFlags := 24, nameIndex := 28, descriptorIndex := 29, attributes := #[] }, { accessFlags := 26, nameIndex := 38, descriptorIndex := 39, attributes := #[] }, { accessFlags := 25, nameIndex := 121, descriptorIndex := 25, attributes := #[] }, { accessFlags := 25, nameIndex := 131, descriptorIndex := 25, attributes := #[] }, { accessFlags := 25, nameIndex := 137, descriptorIndex := 25, attributes := #[] }, { accessFlags := 25, nameIndex := 143, descriptorIndex := 25, attributes := #[] }, { accessFlags := 25, nameIndex := 53, descriptorIndex := 25, attributes := #[] }, { accessFlags := 25, nameIndex := 24, descriptorIndex := 25, attributes := #[] }, { accessFlags := 25, nameIndex := 162, descriptorIndex := 25, attributes := #[] }, { accessFlags := 25, nameIndex := 187, descriptorIndex := 25, attributes := #[] }, { accessFlags := 26, nameIndex := 48, descriptorIndex := 25, attributes := #[] }, { accessFlags := 25, nameIndex := 277, descriptorIndex := 25, attributes := #[] }, { accessFlags := 25, nameIndex := 280, descriptorIndex := 25, attributes := #[] }, { accessFlags := 25, nameIndex := 282, descriptorIndex := 25, attributes := #[] }, { accessFlags := 25, nameIndex := 284, descriptorIndex := 25, attributes := #[] }, { accessFlags := 25, nameIndex := 286, descriptorIndex := 25, attributes := #[] }, { accessFlags := 25, nameIndex := 288, descriptorIndex := 25, attributes := #[] }, { accessFlags := 25, nameIndex := 290, descriptorIndex := 25, attributes := #[] }, { accessFlags := 25, nameIndex := 292, descriptorIndex := 25, attributes := #[] }, { accessFlags := 26, nameIndex := 108, descriptorIndex := 109, attributes := #[] }, { accessFlags := 25, nameIndex := 294, descriptorIndex := 25, attributes := #[] }])
  fields := #[{ name := "U", type := (.object "jdk/internal/misc/Unsafe"), accessFlags := 24, slot := 0, constantValue := 0 }, { name := "BIG_ENDIAN", type := .boolean, accessFlags := 26, slot := 1, constantValue := 0 }, { name := "LOG2_ARRAY_BOOLEAN_INDEX_SCALE", type := .int, accessFlags := 25, slot := 2, constantValue := 0 }, { name := "LOG2_ARRAY_BYTE_INDEX_SCALE", type := .int, accessFlags := 25, slot := 3, constantValue := 0 }, { name := "LOG2_ARRAY_CHAR_INDEX_SCALE", type := .int, accessFlags := 25, slot := 4, constantValue := 0 }, { name := "LOG2_ARRAY_SHORT_INDEX_SCALE", type := .int, accessFlags := 25, slot := 5, constantValue := 0 }, { name := "LOG2_ARRAY_INT_INDEX_SCALE", type := .int, accessFlags := 25, slot := 6, constantValue := 0 }, { name := "LOG2_ARRAY_LONG_INDEX_SCALE", type := .int, accessFlags := 25, slot := 7, constantValue := 0 }, { name := "LOG2_ARRAY_FLOAT_INDEX_SCALE", type := .int, accessFlags := 25, slot := 8, constantValue := 0 }, { name := "LOG2_ARRAY_DOUBLE_INDEX_SCALE", type := .int, accessFlags := 25, slot := 9, constantValue := 0 }, { name := "LOG2_BYTE_BIT_SIZE", type := .int, accessFlags := 26, slot := 10, constantValue := 0 }, { name := "T_BOOLEAN", type := .int, accessFlags := 25, slot := 11, constantValue := 0 }, { name := "T_CHAR", type := .int, accessFlags := 25, slot := 12, constantValue := 0 }, { name := "T_FLOAT", type := .int, accessFlags := 25, slot := 13, constantValue := 0 }, { name := "T_DOUBLE", type := .int, accessFlags := 25, slot := 14, constantValue := 0 }, { name := "T_BYTE", type := .int, accessFlags := 25, slot := 15, constantValue := 0 }, { name := "T_SHORT", type := .int, accessFlags := 25, slot := 16, constantValue := 0 }, { name := "T_INT", type := .int, accessFlags := 25, slot := 17, constantValue := 0 }, { name := "T_LONG", type := .int, accessFlags := 25, slot := 18, constantValue := 0 }, { name := "JLA", type := (.object "jdk/internal/access/JavaLangAccess"), accessFlags := 26, slot := 19, constantValue := 0 }, { name := "SOFT_MAX_ARRAY_LENGTH", type := .int, accessFlags := 25, slot := 20, constantValue := 0 }]
  methods := #[k15m0, k15m1]
  instanceTypes := #[]
  staticTypes := #[(.object "jdk/internal/misc/Unsafe"), .boolean, .int, .int, .int, .int, .int, .int, .int, .int, .int, .int, .int, .int, .int, .int, .int, .int, .int, (.object "jdk/internal/access/JavaLangAccess"), .int]
  resolved := Array.replicate 378 none
  statics := none }

def pool16 : Array CpInfo := pool [(1, .class_ 2), (0, u "java/lang/Math"), (1, .class_ 6), (1, u "java/lang/Object"), (0, u "<init>"), (0, u "()V"), (89, .class_ 100), (1, u "java/lang/Math$RandomNumberGeneratorHolder"), (71, u "negativeZeroFloatBits"), (0, u "J"), (2, u "negativeZeroDoubleBits"), (21, u "max"), (2, u "min"), (43, u "$assertionsDisabled"), (0, u "Z"), (88, u "(II)I"), (2, u "twoToTheDoubleScaleDown"), (0, u "D"), (4, u "twoToTheDoubleScaleUp"), (9, u "E"), (3, u "PI"), (2, u "TAU"), (2, u "DEGREES_TO_RADIANS"), (0, u "RADIANS_TO_DEGREES")] 94

def k16m0 : Method := { name := "<init>", desc := "()V", sig := { parameters := [], returnType := none }, accessFlags := 2, code := none }
def k16c1 : Code := { maxStack := 2, maxLocals := 2, code := jdk_29_method_65_code, exceptionTable := #[], attributes := #[] }
def k16m1 : Method := { name := "max", desc := "(II)I", sig := { parameters := [.int, .int], returnType := some .int }, accessFlags := 9, code := some k16c1 }
def k16c2 : Code := { maxStack := 2, maxLocals := 2, code := jdk_29_method_69_code, exceptionTable := #[], attributes := #[] }
def k16m2 : Method := { name := "min", desc := "(II)I", sig := { parameters := [.int, .int], returnType := some .int }, accessFlags := 9, code := some k16c2 }
/-- java/lang/Math -/
def k16 : Class := { plain "java/lang/Math" (some 0) with
  accessFlags := 49
  interfaces := #[]
  cf := some (fileOf pool16 1 #[.nestMembers #[98]] #[{ accessFlags := 2, nameIndex := 7, descriptorIndex := 8, attributes := #[] }, { accessFlags := 9, nameIndex := 198, descriptorIndex := 335, attributes := #[] }, { accessFlags := 9, nameIndex := 201, descriptorIndex := 335, attributes := #[] }] 49 4 #[] #[{ accessFlags := 25, nameIndex := 354, descriptorIndex := 339, attributes := #[] }, { accessFlags := 25, nameIndex := 358, descriptorIndex := 339, attributes := #[] }, { accessFlags := 25, nameIndex := 361, descriptorIndex := 339, attributes := #[] }, { accessFlags := 26, nameIndex := 364, descriptorIndex := 339, attributes := #[] }, { accessFlags := 26, nameIndex := 365, descriptorIndex := 339, attributes := #[] }, { accessFlags := 26, nameIndex := 172, descriptorIndex := 173, attributes := #[] }, { accessFlags := 26, nameIndex := 176, descriptorIndex := 173, attributes := #[] }, { accessFlags := 8, nameIndex := 344, descriptorIndex := 339, attributes := #[] }, { accessFlags := 8, nameIndex := 338, descriptorIndex := 339, attributes := #[] }, { accessFlags := 4120, nameIndex := 245, descriptorIndex := 246, attributes := #[] }])
  fields := #[{ name := "E", type := .double, accessFlags := 25, slot := 0, constantValue := 0 }, { name := "PI", type := .double, accessFlags := 25, slot := 1, constantValue := 0 }, { name := "TAU", type := .double, accessFlags := 25, slot := 2, constantValue := 0 }, { name := "DEGREES_TO_RADIANS", type := .double, accessFlags := 26, slot := 3, constantValue := 0 }, { name := "RADIANS_TO_DEGREES", type := .double, accessFlags := 26, slot := 4, constantValue := 0 }, { name := "negativeZeroFloatBits", type := .long, accessFlags := 26, slot := 5, constantValue := 0 }, { name := "negativeZeroDoubleBits", type := .long, accessFlags := 26, slot := 6, constantValue := 0 }, { name := "twoToTheDoubleScaleUp", type := .double, accessFlags := 8, slot := 7, constantValue := 0 }, { name := "twoToTheDoubleScaleDown", type := .double, accessFlags := 8, slot := 8, constantValue := 0 }, { name := "$assertionsDisabled", type := .boolean, accessFlags := 4120, slot := 9, constantValue := 0 }]
  methods := #[k16m0, k16m1, k16m2]
  instanceTypes := #[]
  staticTypes := #[.double, .double, .double, .double, .double, .long, .long, .double, .double, .boolean]
  resolved := Array.replicate 460 none
  statics := none }

def pool17 : Array CpInfo := pool [(2, .class_ 4), (1, u "java/lang/Object"), (0, u "<init>"), (0, u "()V"), (7, .class_ 16), (1, u "java/util/Arrays"), (57, .class_ 76), (1, u "java/util/Arrays$NaturalOrder"), (36, .class_ 115), (1, u "java/util/Arrays$LegacyMergeSort"), (1, u "Z"), (21, u "copyOfRange"), (10, .methodref 151 152), (0, .class_ 153), (0, .nameAndType 154 155), (0, u "java/lang/System"), (0, u "arraycopy"), (0, u "(Ljava/lang/Object;ILjava/lang/Object;II)V"), (146, u "copyOf"), (1, .methodref 305 306), (0, .class_ 307), (0, .nameAndType 308 309), (0, u "java/lang/Math"), (0, u "min"), (0, u "(II)I"), (29, .methodref 14 340), (0, .nameAndType 341 342), (0, u "copyOfRangeByte"), (0, u "([BII)[B"), (0, .methodref 14 344), (0, .nameAndType 345 346), (0, u "checkLength"), (0, u "(II)V"), (28, .class_ 376), (0, u "java/util/Arrays$ArrayList"), (68, u "$assertionsDisabled"), (269, u "MIN_ARRAY_SORT_GRAN"), (0, u "I"), (2, u "INSERTIONSORT_THRESHOLD"), (149, u "([BI)[B"), (105, .class_ 976), (0, u "java/util/Arrays$ArrayItr")] 52

def k17m0 : Method := { name := "<init>", desc := "()V", sig := { parameters := [], returnType := none }, accessFlags := 2, code := none }
def k17c1 : Code := { maxStack := 6, maxLocals := 3, code := jdk_65_method_121_code, exceptionTable := #[], attributes := #[] }
def k17m1 : Method := { name := "copyOf", desc := "([BI)[B", sig := { parameters := [(.array .byte), .int], returnType := some (.array .byte) }, accessFlags := 9, code := some k17c1 }
def k17c2 : Code := { maxStack := 4, maxLocals := 2, code := jdk_65_method_131_code, exceptionTable := #[], attributes := #[] }
def k17m2 : Method := { name := "checkLength", desc := "(II)V", sig := { parameters := [.int, .int], returnType := none }, accessFlags := 10, code := some k17c2 }
def k17c3 : Code := { maxStack := 3, maxLocals := 3, code := jdk_65_method_132_code, exceptionTable := #[], attributes := #[] }
def k17m3 : Method := { name := "copyOfRange", desc := "([BII)[B", sig := { parameters := [(.array .byte), .int, .int], returnType := some (.array .byte) }, accessFlags := 9, code := some k17c3 }
def k17c4 : Code := { maxStack := 6, maxLocals := 5, code := jdk_65_method_133_code, exceptionTable := #[], attributes := #[] }
def k17m4 : Method := { name := "copyOfRangeByte", desc := "([BII)[B", sig := { parameters := [(.array .byte), .int, .int], returnType := some (.array .byte) }, accessFlags := 10, code := some k17c4 }
/-- java/util/Arrays -/
def k17 : Class := { plain "java/util/Arrays" (some 0) with
  accessFlags := 49
  interfaces := #[]
  cf := some (fileOf pool17 14 #[.nestMembers #[975, 375, 113, 74]] #[{ accessFlags := 2, nameIndex := 5, descriptorIndex := 6, attributes := #[] }, { accessFlags := 9, nameIndex := 302, descriptorIndex := 869, attributes := #[] }, { accessFlags := 10, nameIndex := 345, descriptorIndex := 346, attributes := #[] }, { accessFlags := 9, nameIndex := 139, descriptorIndex := 342, attributes := #[] }, { accessFlags := 10, nameIndex := 341, descriptorIndex := 342, attributes := #[] }] 49 2 #[] #[{ accessFlags := 26, nameIndex := 715, descriptorIndex := 716, attributes := #[] }, { accessFlags := 26, nameIndex := 719, descriptorIndex := 716, attributes := #[] }, { accessFlags := 4120, nameIndex := 445, descriptorIndex := 117, attributes := #[] }])
  fields := #[{ name := "MIN_ARRAY_SORT_GRAN", type := .int, accessFlags := 26, slot := 0, constantValue := 0 }, { name := "INSERTIONSORT_THRESHOLD", type := .int, accessFlags := 26, slot := 1, constantValue := 0 }, { name := "$assertionsDisabled", type := .boolean, accessFlags := 4120, slot := 2, constantValue := 0 }]
  methods := #[k17m0, k17m1, k17m2, k17m3, k17m4]
  instanceTypes := #[]
  staticTypes := #[.int, .int, .boolean]
  resolved := Array.replicate 1029 none
  statics := none }

def pool18 : Array CpInfo := pool [(4, .class_ 6), (1, u "java/lang/Object"), (0, u "<init>"), (0, u "()V"), (5, .class_ 16), (1, u "java/lang/StringLatin1"), (104, u "$assertionsDisabled"), (0, u "Z"), (98, .class_ 223), (1, u "java/lang/StringLatin1$LinesSpliterator"), (57, u "equals"), (0, u "([B[B)Z"), (107, .class_ 391), (0, u "java/lang/StringLatin1$CharsSpliterator")] 3

def k18m0 : Method := { name := "<init>", desc := "()V", sig := { parameters := [], returnType := none }, accessFlags := 0, code := none }
def k18c1 : Code := { maxStack := 3, maxLocals := 3, code := jdk_43_method_13_code, exceptionTable := #[], attributes := #[] }
def k18m1 : Method := { name := "equals", desc := "([B[B)Z", sig := { parameters := [(.array .byte), (.array .byte)], returnType := some .boolean }, accessFlags := 9, code := some k18c1 }
/-- java/lang/StringLatin1 -/
def k18 : Class := { plain "java/lang/StringLatin1" (some 0) with
  accessFlags := 48
  interfaces := #[]
  cf := some (fileOf pool18 14 #[.nestMembers #[390, 221]] #[{ accessFlags := 0, nameIndex := 7, descriptorIndex := 8, attributes := #[] }, { accessFlags := 9, nameIndex := 281, descriptorIndex := 282, attributes := #[] }] 48 4 #[] #[{ accessFlags := 4120, nameIndex := 121, descriptorIndex := 122, attributes := #[] }])
  fields := #[{ name := "$assertionsDisabled", type := .boolean, accessFlags := 4120, slot := 0, constantValue := 0 }]
  methods := #[k18m0, k18m1]
  instanceTypes := #[]
  staticTypes := #[.boolean]
  resolved := Array.replicate 395 none
  statics := none }

def pool19 : Array CpInfo := pool [(2, .class_ 4), (1, u "java/lang/Object"), (0, u "<init>"), (0, u "()V"), (17, .class_ 26), (1, u "jdk/internal/util/Preconditions"), (28, .class_ 56), (0, u "jdk/internal/util/Preconditions$4"), (57, .class_ 115), (0, u "jdk/internal/util/Preconditions$1"), (7, u "SIOOBE_FORMATTER"), (0, u "Ljava/util/function/BiFunction;"), (0, .class_ 126), (0, u "jdk/internal/util/Preconditions$2"), (3, u "AIOOBE_FORMATTER"), (0, .class_ 132), (0, u "jdk/internal/util/Preconditions$3"), (3, u "IOOBE_FORMATTER")] 57

def k19m0 : Method := { name := "<init>", desc := "()V", sig := { parameters := [], returnType := none }, accessFlags := 1, code := none }
/-- jdk/internal/util/Preconditions -/
def k19 : Class := { plain "jdk/internal/util/Preconditions" (some 0) with
  accessFlags := 33
  interfaces := #[]
  cf := some (fileOf pool19 24 #[.nestMembers #[55, 131, 125, 114]] #[{ accessFlags := 1, nameIndex := 5, descriptorIndex := 6, attributes := #[] }] 33 2 #[] #[{ accessFlags := 25, nameIndex := 123, descriptorIndex := 124, attributes := #[] }, { accessFlags := 25, nameIndex := 130, descriptorIndex := 124, attributes := #[] }, { accessFlags := 25, nameIndex := 136, descriptorIndex := 124, attributes := #[] }])
  fields := #[{ name := "SIOOBE_FORMATTER", type := (.object "java/util/function/BiFunction"), accessFlags := 25, slot := 0, constantValue := 0 }, { name := "AIOOBE_FORMATTER", type := (.object "java/util/function/BiFunction"), accessFlags := 25, slot := 1, constantValue := 0 }, { name := "IOOBE_FORMATTER", type := (.object "java/util/function/BiFunction"), accessFlags := 25, slot := 2, constantValue := 0 }]
  methods := #[k19m0]
  instanceTypes := #[]
  staticTypes := #[(.object "java/util/function/BiFunction"), (.object "java/util/function/BiFunction"), (.object "java/util/function/BiFunction")]
  resolved := Array.replicate 194 none
  statics := some 2 }

/-- the primitive byte -/
def k20 : Class := { plain "byte" none with kind := .primitive 'B', accessFlags := 0x411 }
/-- [B -/
def k21 : Class := { plain "[B" (some 0) with kind := .array 20 .byte, interfaces := #[13, 4], accessFlags := 1041 }

/-- the primitive int -/
def k22 : Class := { plain "int" none with kind := .primitive 'I', accessFlags := 0x411 }
/-- [I -/
def k23 : Class := { plain "[I" (some 0) with kind := .array 22 .int, interfaces := #[13, 4], accessFlags := 1041 }

/-- [Lcom/example/tuplebag/tuplebag/bench/Workload; -/
def k24 : Class := { plain "[Lcom/example/tuplebag/tuplebag/bench/Workload;" (some 0) with kind := .array 6 (.object "com/example/tuplebag/tuplebag/bench/Workload"), interfaces := #[13, 4], accessFlags := 1041 }

def heap : Heap := #[{ cls := 6, slots := #[.ref 4, .ref 5, .ref 6, .null, .long 0, .ref 3], vm := .statics 6 },
  { cls := 12, slots := #[.long 0, .int 1, .null, .int 0, .null, .int 0, .int 0], vm := .statics 12 },
  { cls := 19, slots := #[.null, .null, .null], vm := .statics 19 },
  { cls := 24, slots := #[.ref 4, .ref 5, .ref 6], vm := .none },
  { cls := 6, slots := #[.null, .int 0, .int 0, .ref 7], vm := .none },
  { cls := 6, slots := #[.null, .int 0, .int 0, .ref 8], vm := .none },
  { cls := 6, slots := #[.null, .int 0, .int 0, .ref 9], vm := .none },
  { cls := 12, slots := #[.ref 10, .int 0, .int 0, .int 0], vm := .none },
  { cls := 12, slots := #[.ref 11, .int 0, .int 0, .int 0], vm := .none },
  { cls := 12, slots := #[.ref 12, .int 0, .int 0, .int 0], vm := .none },
  { cls := 21, slots := #[.int 111, .int 117, .int 116], vm := .none },
  { cls := 21, slots := #[.int 105, .int 110, .int 112], vm := .none },
  { cls := 21, slots := #[.int 116, .int 97, .int 107, .int 101, .int 45, .int 99, .int 111, .int 109, .int 112, .int 108, .int 101, .int 116, .int 101], vm := .none }]
def classes : Array Class := #[k0, k1, k2, k3, k4, k5, k6, k7, k8, k9, k10, k11, k12, k13, k14, k15, k16, k17, k18, k19, k20, k21, k22, k23, k24]
def interned : List (Array UInt16 × Addr) := []
def slotsUsed : Nat := 62
def theMethod : MethodId := ⟨1, 1⟩
def args0 : Array Value := #[]
def aboutOver (below : List Frame) : State where
  vm := { classes := classes, interned := interned.toArray }
  heap := heap
  slotsUsed := slotsUsed
  threads := #[{ frames := .invoking theMethod args0 :: below }]
def below0 : List Frame := [.native { method := ⟨0, 0⟩, args := #[] }]
def about1 : State := aboutOver below0
def p0 : Program := .bare "" "" ""
def e0 : Env := launch0.env 0 0 0
theorem w_frames : about1.frames = Frame.invoking theMethod args0 :: below0 := rfl
set_option maxRecDepth 65536 in
theorem w_args : argsFit about1.vm theMethod args0 = true := by decide +kernel
set_option maxRecDepth 65536 in
theorem w_heap : heapFits about1 = true := by decide +kernel
set_option maxRecDepth 65536 in
theorem w_runnable : about1.curStatus? = some .runnable := by decide +kernel
set_option maxRecDepth 65536 in
theorem w_alone : about1.alone = true := by decide +kernel
set_option maxRecDepth 65536 in
theorem w_named : about1.methodNamed? x = some theMethod := by decide +kernel
set_option maxRecDepth 65536 in
theorem w_hears : about1.hears theMethod below0 = true := by decide +kernel
set_option maxRecDepth 65536 in
theorem w_ripe : about1.ripe theMethod args0 below0 = true := by decide +kernel
theorem w_running : about1.status = .running := rfl
set_option maxRecDepth 65536 in
theorem w_room : about1.hasRoom e0.platform room_1 = true :=
  launch0.hasRoom_least _ room_1 (by decide +kernel) (by decide +kernel) (by decide +kernel) (by decide +kernel) (by decide +kernel) (by decide +kernel)
theorem allAtoms_all (ts : List Jvm.Cond) (a : Array Jvm.Value) (st : Jvm.State) : (allAtoms ts).before a st = ts.all (fun c => c.before a st) := by
  induction ts with
  | nil => rfl
  | cons c t ih =>
    show (Jvm.Cond.and c (allAtoms t)).before a st = _
    rw [Jvm.Cond.before_and, ih, List.all_cons]
def words1 : List Jvm.Cond := Jvm.Cond.code x code maxLocals ret :: tables_1
/-- a 'code' word, met by the world's own term for the bytes: nothing is compared byte by byte -/
theorem code_word {y : MethodName} {bytes : ByteArray} {mx : Nat} {rt : Option FieldType} {a : Array Value} {s : State} {m : MethodId} {meth : Method} {c : Code} (h1 : s.methodNamed? y = some m) (h2 : s.vm.method? m = some meth) (h3 : meth.code = some c) (h4 : c.code = bytes)
    (h5 : (c.maxLocals == mx && c.exceptionTable.isEmpty && decide (c.maxStack ≤ mostOperands) && decide (meth.sig.returnType = rt) && !meth.locks && decide (parseMethodDescriptor y.desc = some meth.sig)) = true) : (Jvm.Cond.code y bytes mx rt).before a s = true := by
  simp only [Bool.and_eq_true, beq_iff_eq, Bool.not_eq_true', decide_eq_true_eq] at h5
  obtain ⟨⟨⟨⟨⟨g1, g2⟩, g3⟩, g4⟩, g5⟩, g6⟩ := h5
  simp [Cond.before, Cond.holds, Cond.value, h1, h2, h3, h4, g1, g2, g3, g4, g5, g6]
def isCode : Jvm.Cond → Bool
  | .code _ _ _ _ => true
  | _ => false
theorem all_split {L : List Jvm.Cond} {P : Jvm.Cond → Bool} (h1 : L.all (fun c => isCode c || P c) = true) (h2 : ∀ c ∈ L.filter isCode, P c = true) : L.all P = true := by
  refine List.all_eq_true.mpr fun c hc => ?_
  have h := List.all_eq_true.mp h1 c hc
  rcases Bool.eq_false_or_eq_true (isCode c) with hi | hi
  · exact h2 c (List.mem_filter.mpr ⟨hc, hi⟩)
  · simpa [hi] using h
set_option maxRecDepth 65536 in
theorem w_c0 : (Jvm.Cond.code x code maxLocals ret).before args0 about1 = true := code_word (m := ⟨1, 1⟩) (meth := k1m1) (c := k1c1) (by decide +kernel) rfl rfl rfl (by decide +kernel)
set_option maxRecDepth 65536 in
theorem w_c1 : (Jvm.Cond.code ({ cls := "com/example/tuplebag/tuplebag/bench/Workload", name := "names", desc := "()Ljava/lang/String;" } : Jvm.MethodName) prog_9_method_5_code (3 : Nat) (Option.some (Jvm.ClassFile.FieldType.object "java/lang/String"))).before args0 about1 = true := code_word (m := ⟨6, 1⟩) (meth := k6m1) (c := k6c1) (by decide +kernel) rfl rfl rfl (by decide +kernel)
set_option maxRecDepth 65536 in
theorem w_c2 : (Jvm.Cond.code ({ cls := "java/lang/StringBuilder", name := "<init>", desc := "()V" } : Jvm.MethodName) jdk_67_method_1_code (1 : Nat) (Option.none : Option Jvm.ClassFile.FieldType)).before args0 about1 = true := code_word (m := ⟨10, 0⟩) (meth := k10m0) (c := k10c0) (by decide +kernel) rfl rfl rfl (by decide +kernel)
set_option maxRecDepth 65536 in
theorem w_c3 : (Jvm.Cond.code ({ cls := "java/lang/AbstractStringBuilder", name := "<init>", desc := "(I)V" } : Jvm.MethodName) jdk_68_method_2_code (2 : Nat) (Option.none : Option Jvm.ClassFile.FieldType)).before args0 about1 = true := code_word (m := ⟨9, 1⟩) (meth := k9m1) (c := k9c1) (by decide +kernel) rfl rfl rfl (by decide +kernel)
set_option maxRecDepth 65536 in
theorem w_c4 : (Jvm.Cond.code ({ cls := "java/lang/Object", name := "<init>", desc := "()V" } : Jvm.MethodName) object_method_1_code (1 : Nat) (Option.none : Option Jvm.ClassFile.FieldType)).before args0 about1 = true := code_word (m := ⟨0, 0⟩) (meth := k0m0) (c := k0c0) (by decide +kernel) rfl rfl rfl (by decide +kernel)
set_option maxRecDepth 65536 in
theorem w_c5 : (Jvm.Cond.code ({ cls := "com/example/tuplebag/tuplebag/bench/Workload", name := "values", desc := "()[Lcom/example/tuplebag/tuplebag/bench/Workload;" } : Jvm.MethodName) prog_9_method_1_code (0 : Nat) (Option.some (Jvm.ClassFile.FieldType.array (Jvm.ClassFile.FieldType.object "com/example/tuplebag/tuplebag/bench/Workload")))).before args0 about1 = true := code_word (m := ⟨6, 0⟩) (meth := k6m0) (c := k6c0) (by decide +kernel) rfl rfl rfl (by decide +kernel)
set_option maxRecDepth 65536 in
theorem w_c6 : (Jvm.Cond.code ({ cls := "java/lang/StringBuilder", name := "append", desc := "(Ljava/lang/String;)Ljava/lang/StringBuilder;" } : Jvm.MethodName) jdk_67_method_7_code (2 : Nat) (Option.some (Jvm.ClassFile.FieldType.object "java/lang/StringBuilder"))).before args0 about1 = true := code_word (m := ⟨10, 1⟩) (meth := k10m1) (c := k10c1) (by decide +kernel) rfl rfl rfl (by decide +kernel)
set_option maxRecDepth 65536 in
theorem w_c7 : (Jvm.Cond.code ({ cls := "java/lang/AbstractStringBuilder", name := "append", desc := "(Ljava/lang/String;)Ljava/lang/AbstractStringBuilder;" } : Jvm.MethodName) jdk_68_method_22_code (3 : Nat) (Option.some (Jvm.ClassFile.FieldType.object "java/lang/AbstractStringBuilder"))).before args0 about1 = true := code_word (m := ⟨9, 5⟩) (meth := k9m5) (c := k9c5) (by decide +kernel) rfl rfl rfl (by decide +kernel)
set_option maxRecDepth 65536 in
theorem w_c8 : (Jvm.Cond.code ({ cls := "java/lang/String", name := "length", desc := "()I" } : Jvm.MethodName) jdk_42_method_54_code (1 : Nat) (Option.some Jvm.ClassFile.FieldType.int)).before args0 about1 = true := code_word (m := ⟨12, 2⟩) (meth := k12m2) (c := k12c2) (by decide +kernel) rfl rfl rfl (by decide +kernel)
set_option maxRecDepth 65536 in
theorem w_c9 : (Jvm.Cond.code ({ cls := "java/lang/String", name := "coder", desc := "()B" } : Jvm.MethodName) jdk_42_method_152_code (1 : Nat) (Option.some Jvm.ClassFile.FieldType.byte)).before args0 about1 = true := code_word (m := ⟨12, 6⟩) (meth := k12m6) (c := k12c6) (by decide +kernel) rfl rfl rfl (by decide +kernel)
set_option maxRecDepth 65536 in
theorem w_c10 : (Jvm.Cond.code ({ cls := "java/lang/AbstractStringBuilder", name := "ensureCapacityInternal", desc := "(I)V" } : Jvm.MethodName) jdk_68_method_9_code (3 : Nat) (Option.none : Option Jvm.ClassFile.FieldType)).before args0 about1 = true := code_word (m := ⟨9, 3⟩) (meth := k9m3) (c := k9c3) (by decide +kernel) rfl rfl rfl (by decide +kernel)
set_option maxRecDepth 65536 in
theorem w_c11 : (Jvm.Cond.code ({ cls := "java/lang/AbstractStringBuilder", name := "putStringAt", desc := "(ILjava/lang/String;)V" } : Jvm.MethodName) jdk_68_method_73_code (3 : Nat) (Option.none : Option Jvm.ClassFile.FieldType)).before args0 about1 = true := code_word (m := ⟨9, 9⟩) (meth := k9m9) (c := k9c9) (by decide +kernel) rfl rfl rfl (by decide +kernel)
set_option maxRecDepth 65536 in
theorem w_c12 : (Jvm.Cond.code ({ cls := "java/lang/AbstractStringBuilder", name := "inflateIfNeededFor", desc := "(Ljava/lang/String;)V" } : Jvm.MethodName) jdk_68_method_71_code (2 : Nat) (Option.none : Option Jvm.ClassFile.FieldType)).before args0 about1 = true := code_word (m := ⟨9, 8⟩) (meth := k9m8) (c := k9c8) (by decide +kernel) rfl rfl rfl (by decide +kernel)
set_option maxRecDepth 65536 in
theorem w_c13 : (Jvm.Cond.code ({ cls := "java/lang/String", name := "getBytes", desc := "([BIB)V" } : Jvm.MethodName) jdk_42_method_147_code (4 : Nat) (Option.none : Option Jvm.ClassFile.FieldType)).before args0 about1 = true := code_word (m := ⟨12, 4⟩) (meth := k12m4) (c := k12c4) (by decide +kernel) rfl rfl rfl (by decide +kernel)
set_option maxRecDepth 65536 in
theorem w_c14 : (Jvm.Cond.code ({ cls := "java/lang/AbstractStringBuilder", name := "newCapacity", desc := "(I)I" } : Jvm.MethodName) jdk_68_method_10_code (6 : Nat) (Option.some Jvm.ClassFile.FieldType.int)).before args0 about1 = true := code_word (m := ⟨9, 4⟩) (meth := k9m4) (c := k9c4) (by decide +kernel) rfl rfl rfl (by decide +kernel)
set_option maxRecDepth 65536 in
theorem w_c15 : (Jvm.Cond.code ({ cls := "jdk/internal/util/ArraysSupport", name := "newLength", desc := "(III)I" } : Jvm.MethodName) jdk_48_method_27_code (4 : Nat) (Option.some Jvm.ClassFile.FieldType.int)).before args0 about1 = true := code_word (m := ⟨15, 1⟩) (meth := k15m1) (c := k15c1) (by decide +kernel) rfl rfl rfl (by decide +kernel)
set_option maxRecDepth 65536 in
theorem w_c16 : (Jvm.Cond.code ({ cls := "java/lang/Math", name := "max", desc := "(II)I" } : Jvm.MethodName) jdk_29_method_65_code (2 : Nat) (Option.some Jvm.ClassFile.FieldType.int)).before args0 about1 = true := code_word (m := ⟨16, 1⟩) (meth := k16m1) (c := k16c1) (by decide +kernel) rfl rfl rfl (by decide +kernel)
set_option maxRecDepth 65536 in
theorem w_c17 : (Jvm.Cond.code ({ cls := "java/util/Arrays", name := "copyOf", desc := "([BI)[B" } : Jvm.MethodName) jdk_65_method_121_code (3 : Nat) (Option.some (Jvm.ClassFile.FieldType.array Jvm.ClassFile.FieldType.byte))).before args0 about1 = true := code_word (m := ⟨17, 1⟩) (meth := k17m1) (c := k17c1) (by decide +kernel) rfl rfl rfl (by decide +kernel)
set_option maxRecDepth 65536 in
theorem w_c18 : (Jvm.Cond.code ({ cls := "java/lang/Math", name := "min", desc := "(II)I" } : Jvm.MethodName) jdk_29_method_69_code (2 : Nat) (Option.some Jvm.ClassFile.FieldType.int)).before args0 about1 = true := code_word (m := ⟨16, 2⟩) (meth := k16m2) (c := k16c2) (by decide +kernel) rfl rfl rfl (by decide +kernel)
set_option maxRecDepth 65536 in
theorem w_c19 : (Jvm.Cond.code ({ cls := "java/lang/StringBuilder", name := "toString", desc := "()Ljava/lang/String;" } : Jvm.MethodName) jdk_67_method_42_code (1 : Nat) (Option.some (Jvm.ClassFile.FieldType.object "java/lang/String"))).before args0 about1 = true := code_word (m := ⟨10, 2⟩) (meth := k10m2) (c := k10c2) (by decide +kernel) rfl rfl rfl (by decide +kernel)
set_option maxRecDepth 65536 in
theorem w_c20 : (Jvm.Cond.code ({ cls := "java/lang/String", name := "<init>", desc := "(Ljava/lang/StringBuilder;)V" } : Jvm.MethodName) jdk_42_method_53_code (2 : Nat) (Option.none : Option Jvm.ClassFile.FieldType)).before args0 about1 = true := code_word (m := ⟨12, 1⟩) (meth := k12m1) (c := k12c1) (by decide +kernel) rfl rfl rfl (by decide +kernel)
set_option maxRecDepth 65536 in
theorem w_c21 : (Jvm.Cond.code ({ cls := "java/lang/String", name := "<init>", desc := "(Ljava/lang/AbstractStringBuilder;Ljava/lang/Void;)V" } : Jvm.MethodName) jdk_42_method_150_code (5 : Nat) (Option.none : Option Jvm.ClassFile.FieldType)).before args0 about1 = true := code_word (m := ⟨12, 5⟩) (meth := k12m5) (c := k12c5) (by decide +kernel) rfl rfl rfl (by decide +kernel)
set_option maxRecDepth 65536 in
theorem w_c22 : (Jvm.Cond.code ({ cls := "java/lang/AbstractStringBuilder", name := "getValue", desc := "()[B" } : Jvm.MethodName) jdk_68_method_64_code (1 : Nat) (Option.some (Jvm.ClassFile.FieldType.array Jvm.ClassFile.FieldType.byte))).before args0 about1 = true := code_word (m := ⟨9, 6⟩) (meth := k9m6) (c := k9c6) (by decide +kernel) rfl rfl rfl (by decide +kernel)
set_option maxRecDepth 65536 in
theorem w_c23 : (Jvm.Cond.code ({ cls := "java/lang/StringBuilder", name := "length", desc := "()I" } : Jvm.MethodName) jdk_67_method_93_code (1 : Nat) (Option.some Jvm.ClassFile.FieldType.int)).before args0 about1 = true := code_word (m := ⟨10, 3⟩) (meth := k10m3) (c := k10c3) (by decide +kernel) rfl rfl rfl (by decide +kernel)
set_option maxRecDepth 65536 in
theorem w_c24 : (Jvm.Cond.code ({ cls := "java/lang/AbstractStringBuilder", name := "length", desc := "()I" } : Jvm.MethodName) jdk_68_method_6_code (1 : Nat) (Option.some Jvm.ClassFile.FieldType.int)).before args0 about1 = true := code_word (m := ⟨9, 2⟩) (meth := k9m2) (c := k9c2) (by decide +kernel) rfl rfl rfl (by decide +kernel)
set_option maxRecDepth 65536 in
theorem w_c25 : (Jvm.Cond.code ({ cls := "java/lang/AbstractStringBuilder", name := "isLatin1", desc := "()Z" } : Jvm.MethodName) jdk_68_method_68_code (1 : Nat) (Option.some Jvm.ClassFile.FieldType.boolean)).before args0 about1 = true := code_word (m := ⟨9, 7⟩) (meth := k9m7) (c := k9c7) (by decide +kernel) rfl rfl rfl (by decide +kernel)
set_option maxRecDepth 65536 in
theorem w_c26 : (Jvm.Cond.code ({ cls := "java/util/Arrays", name := "copyOfRange", desc := "([BII)[B" } : Jvm.MethodName) jdk_65_method_132_code (3 : Nat) (Option.some (Jvm.ClassFile.FieldType.array Jvm.ClassFile.FieldType.byte))).before args0 about1 = true := code_word (m := ⟨17, 3⟩) (meth := k17m3) (c := k17c3) (by decide +kernel) rfl rfl rfl (by decide +kernel)
set_option maxRecDepth 65536 in
theorem w_c27 : (Jvm.Cond.code ({ cls := "java/util/Arrays", name := "copyOfRangeByte", desc := "([BII)[B" } : Jvm.MethodName) jdk_65_method_133_code (5 : Nat) (Option.some (Jvm.ClassFile.FieldType.array Jvm.ClassFile.FieldType.byte))).before args0 about1 = true := code_word (m := ⟨17, 4⟩) (meth := k17m4) (c := k17c4) (by decide +kernel) rfl rfl rfl (by decide +kernel)
set_option maxRecDepth 65536 in
theorem w_c28 : (Jvm.Cond.code ({ cls := "java/util/Arrays", name := "checkLength", desc := "(II)V" } : Jvm.MethodName) jdk_65_method_131_code (2 : Nat) (Option.none : Option Jvm.ClassFile.FieldType)).before args0 about1 = true := code_word (m := ⟨17, 2⟩) (meth := k17m2) (c := k17c2) (by decide +kernel) rfl rfl rfl (by decide +kernel)
set_option maxRecDepth 65536 in
theorem w_c29 : (Jvm.Cond.code ({ cls := "java/lang/String", name := "equals", desc := "(Ljava/lang/Object;)Z" } : Jvm.MethodName) jdk_42_method_66_code (3 : Nat) (Option.some Jvm.ClassFile.FieldType.boolean)).before args0 about1 = true := code_word (m := ⟨12, 3⟩) (meth := k12m3) (c := k12c3) (by decide +kernel) rfl rfl rfl (by decide +kernel)
set_option maxRecDepth 65536 in
theorem w_c30 : (Jvm.Cond.code ({ cls := "java/lang/StringLatin1", name := "equals", desc := "([B[B)Z" } : Jvm.MethodName) jdk_43_method_13_code (3 : Nat) (Option.some Jvm.ClassFile.FieldType.boolean)).before args0 about1 = true := code_word (m := ⟨18, 1⟩) (meth := k18m1) (c := k18c1) (by decide +kernel) rfl rfl rfl (by decide +kernel)
def codes1 : List Jvm.Cond := [Jvm.Cond.code x code maxLocals ret, Jvm.Cond.code ({ cls := "com/example/tuplebag/tuplebag/bench/Workload", name := "names", desc := "()Ljava/lang/String;" } : Jvm.MethodName) prog_9_method_5_code (3 : Nat) (Option.some (Jvm.ClassFile.FieldType.object "java/lang/String")), Jvm.Cond.code ({ cls := "java/lang/StringBuilder", name := "<init>", desc := "()V" } : Jvm.MethodName) jdk_67_method_1_code (1 : Nat) (Option.none : Option Jvm.ClassFile.FieldType), Jvm.Cond.code ({ cls := "java/lang/AbstractStringBuilder", name := "<init>", desc := "(I)V" } : Jvm.MethodName) jdk_68_method_2_code (2 : Nat) (Option.none : Option Jvm.ClassFile.FieldType), Jvm.Cond.code ({ cls := "java/lang/Object", name := "<init>", desc := "()V" } : Jvm.MethodName) object_method_1_code (1 : Nat) (Option.none : Option Jvm.ClassFile.FieldType), Jvm.Cond.code ({ cls := "com/example/tuplebag/tuplebag/bench/Workload", name := "values", desc := "()[Lcom/example/tuplebag/tuplebag/bench/Workload;" } : Jvm.MethodName) prog_9_method_1_code (0 : Nat) (Option.some (Jvm.ClassFile.FieldType.array (Jvm.ClassFile.FieldType.object "com/example/tuplebag/tuplebag/bench/Workload"))), Jvm.Cond.code ({ cls := "java/lang/StringBuilder", name := "append", desc := "(Ljava/lang/String;)Ljava/lang/StringBuilder;" } : Jvm.MethodName) jdk_67_method_7_code (2 : Nat) (Option.some (Jvm.ClassFile.FieldType.object "java/lang/StringBuilder")), Jvm.Cond.code ({ cls := "java/lang/AbstractStringBuilder", name := "append", desc := "(Ljava/lang/String;)Ljava/lang/AbstractStringBuilder;" } : Jvm.MethodName) jdk_68_method_22_code (3 : Nat) (Option.some (Jvm.ClassFile.FieldType.object "java/lang/AbstractStringBuilder")), Jvm.Cond.code ({ cls := "java/lang/String", name := "length", desc := "()I" } : Jvm.MethodName) jdk_42_method_54_code (1 : Nat) (Option.some Jvm.ClassFile.FieldType.int), Jvm.Cond.code ({ cls := "java/lang/String", name := "coder", desc := "()B" } : Jvm.MethodName) jdk_42_method_152_code (1 : Nat) (Option.some Jvm.ClassFile.FieldType.byte), Jvm.Cond.code ({ cls := "java/lang/AbstractStringBuilder", name := "ensureCapacityInternal", desc := "(I)V" } : Jvm.MethodName) jdk_68_method_9_code (3 : Nat) (Option.none : Option Jvm.ClassFile.FieldType), Jvm.Cond.code ({ cls := "java/lang/AbstractStringBuilder", name := "putStringAt", desc := "(ILjava/lang/String;)V" } : Jvm.MethodName) jdk_68_method_73_code (3 : Nat) (Option.none : Option Jvm.ClassFile.FieldType), Jvm.Cond.code ({ cls := "java/lang/AbstractStringBuilder", name := "inflateIfNeededFor", desc := "(Ljava/lang/String;)V" } : Jvm.MethodName) jdk_68_method_71_code (2 : Nat) (Option.none : Option Jvm.ClassFile.FieldType), Jvm.Cond.code ({ cls := "java/lang/String", name := "getBytes", desc := "([BIB)V" } : Jvm.MethodName) jdk_42_method_147_code (4 : Nat) (Option.none : Option Jvm.ClassFile.FieldType), Jvm.Cond.code ({ cls := "java/lang/AbstractStringBuilder", name := "newCapacity", desc := "(I)I" } : Jvm.MethodName) jdk_68_method_10_code (6 : Nat) (Option.some Jvm.ClassFile.FieldType.int), Jvm.Cond.code ({ cls := "jdk/internal/util/ArraysSupport", name := "newLength", desc := "(III)I" } : Jvm.MethodName) jdk_48_method_27_code (4 : Nat) (Option.some Jvm.ClassFile.FieldType.int), Jvm.Cond.code ({ cls := "java/lang/Math", name := "max", desc := "(II)I" } : Jvm.MethodName) jdk_29_method_65_code (2 : Nat) (Option.some Jvm.ClassFile.FieldType.int), Jvm.Cond.code ({ cls := "java/util/Arrays", name := "copyOf", desc := "([BI)[B" } : Jvm.MethodName) jdk_65_method_121_code (3 : Nat) (Option.some (Jvm.ClassFile.FieldType.array Jvm.ClassFile.FieldType.byte)), Jvm.Cond.code ({ cls := "java/lang/Math", name := "min", desc := "(II)I" } : Jvm.MethodName) jdk_29_method_69_code (2 : Nat) (Option.some Jvm.ClassFile.FieldType.int), Jvm.Cond.code ({ cls := "java/lang/StringBuilder", name := "toString", desc := "()Ljava/lang/String;" } : Jvm.MethodName) jdk_67_method_42_code (1 : Nat) (Option.some (Jvm.ClassFile.FieldType.object "java/lang/String")), Jvm.Cond.code ({ cls := "java/lang/String", name := "<init>", desc := "(Ljava/lang/StringBuilder;)V" } : Jvm.MethodName) jdk_42_method_53_code (2 : Nat) (Option.none : Option Jvm.ClassFile.FieldType), Jvm.Cond.code ({ cls := "java/lang/String", name := "<init>", desc := "(Ljava/lang/AbstractStringBuilder;Ljava/lang/Void;)V" } : Jvm.MethodName) jdk_42_method_150_code (5 : Nat) (Option.none : Option Jvm.ClassFile.FieldType), Jvm.Cond.code ({ cls := "java/lang/AbstractStringBuilder", name := "getValue", desc := "()[B" } : Jvm.MethodName) jdk_68_method_64_code (1 : Nat) (Option.some (Jvm.ClassFile.FieldType.array Jvm.ClassFile.FieldType.byte)), Jvm.Cond.code ({ cls := "java/lang/StringBuilder", name := "length", desc := "()I" } : Jvm.MethodName) jdk_67_method_93_code (1 : Nat) (Option.some Jvm.ClassFile.FieldType.int), Jvm.Cond.code ({ cls := "java/lang/AbstractStringBuilder", name := "length", desc := "()I" } : Jvm.MethodName) jdk_68_method_6_code (1 : Nat) (Option.some Jvm.ClassFile.FieldType.int), Jvm.Cond.code ({ cls := "java/lang/AbstractStringBuilder", name := "isLatin1", desc := "()Z" } : Jvm.MethodName) jdk_68_method_68_code (1 : Nat) (Option.some Jvm.ClassFile.FieldType.boolean), Jvm.Cond.code ({ cls := "java/util/Arrays", name := "copyOfRange", desc := "([BII)[B" } : Jvm.MethodName) jdk_65_method_132_code (3 : Nat) (Option.some (Jvm.ClassFile.FieldType.array Jvm.ClassFile.FieldType.byte)), Jvm.Cond.code ({ cls := "java/util/Arrays", name := "copyOfRangeByte", desc := "([BII)[B" } : Jvm.MethodName) jdk_65_method_133_code (5 : Nat) (Option.some (Jvm.ClassFile.FieldType.array Jvm.ClassFile.FieldType.byte)), Jvm.Cond.code ({ cls := "java/util/Arrays", name := "checkLength", desc := "(II)V" } : Jvm.MethodName) jdk_65_method_131_code (2 : Nat) (Option.none : Option Jvm.ClassFile.FieldType), Jvm.Cond.code ({ cls := "java/lang/String", name := "equals", desc := "(Ljava/lang/Object;)Z" } : Jvm.MethodName) jdk_42_method_66_code (3 : Nat) (Option.some Jvm.ClassFile.FieldType.boolean), Jvm.Cond.code ({ cls := "java/lang/StringLatin1", name := "equals", desc := "([B[B)Z" } : Jvm.MethodName) jdk_43_method_13_code (3 : Nat) (Option.some Jvm.ClassFile.FieldType.boolean)]
set_option maxRecDepth 65536 in
theorem codes_eq : words1.filter isCode = codes1 := rfl
theorem w_codes : ∀ c ∈ words1.filter isCode, c.before args0 about1 = true := by
  rw [codes_eq]
  intro c hc
  simp only [codes1, List.mem_cons, List.not_mem_nil, or_false] at hc
  rcases hc with rfl | rfl | rfl | rfl | rfl | rfl | rfl | rfl | rfl | rfl | rfl | rfl | rfl | rfl | rfl | rfl | rfl | rfl | rfl | rfl | rfl | rfl | rfl | rfl | rfl | rfl | rfl | rfl | rfl | rfl | rfl
  · exact w_c0
  · exact w_c1
  · exact w_c2
  · exact w_c3
  · exact w_c4
  · exact w_c5
  · exact w_c6
  · exact w_c7
  · exact w_c8
  · exact w_c9
  · exact w_c10
  · exact w_c11
  · exact w_c12
  · exact w_c13
  · exact w_c14
  · exact w_c15
  · exact w_c16
  · exact w_c17
  · exact w_c18
  · exact w_c19
  · exact w_c20
  · exact w_c21
  · exact w_c22
  · exact w_c23
  · exact w_c24
  · exact w_c25
  · exact w_c26
  · exact w_c27
  · exact w_c28
  · exact w_c29
  · exact w_c30
set_option maxRecDepth 65536 in
theorem w_t1 : (words1.take 24).all (fun c => isCode c || c.before args0 about1) = true := by decide +kernel
set_option maxRecDepth 65536 in
theorem w_t2 : ((words1.drop 24).take 24).all (fun c => isCode c || c.before args0 about1) = true := by decide +kernel
set_option maxRecDepth 65536 in
theorem w_t3 : (((words1.drop 24).drop 24).take 24).all (fun c => isCode c || c.before args0 about1) = true := by decide +kernel
set_option maxRecDepth 65536 in
theorem w_t4 : ((((words1.drop 24).drop 24).drop 24).take 24).all (fun c => isCode c || c.before args0 about1) = true := by decide +kernel
set_option maxRecDepth 65536 in
theorem w_t5 : (((((words1.drop 24).drop 24).drop 24).drop 24).take 24).all (fun c => isCode c || c.before args0 about1) = true := by decide +kernel
set_option maxRecDepth 65536 in
theorem w_t6 : ((((((words1.drop 24).drop 24).drop 24).drop 24).drop 24).take 24).all (fun c => isCode c || c.before args0 about1) = true := by decide +kernel
set_option maxRecDepth 65536 in
theorem w_t7 : (((((((words1.drop 24).drop 24).drop 24).drop 24).drop 24).drop 24).take 24).all (fun c => isCode c || c.before args0 about1) = true := by decide +kernel
set_option maxRecDepth 65536 in
theorem w_t8 : (((((((words1.drop 24).drop 24).drop 24).drop 24).drop 24).drop 24).drop 24).all (fun c => isCode c || c.before args0 about1) = true := by decide +kernel
theorem w_tables : (allAtoms (Jvm.Cond.code x code maxLocals ret :: tables_1)).before args0 about1 = true := by
  rw [allAtoms_all]
  show words1.all (fun c => c.before args0 about1) = true
  refine all_split ?_ w_codes
  rw [← List.take_append_drop 24 words1, List.all_append, w_t1, ← List.take_append_drop 24 (words1.drop 24), List.all_append, w_t2, ← List.take_append_drop 24 ((words1.drop 24).drop 24), List.all_append, w_t3, ← List.take_append_drop 24 (((words1.drop 24).drop 24).drop 24), List.all_append, w_t4, ← List.take_append_drop 24 ((((words1.drop 24).drop 24).drop 24).drop 24), List.all_append, w_t5, ← List.take_append_drop 24 (((((words1.drop 24).drop 24).drop 24).drop 24).drop 24), List.all_append, w_t6, ← List.take_append_drop 24 ((((((words1.drop 24).drop 24).drop 24).drop 24).drop 24).drop 24), List.all_append, w_t7, w_t8]
  rfl
set_option maxRecDepth 65536 in
theorem w_rest : rest_1_c.before args0 about1 = true := by decide +kernel
set_option maxRecDepth 65536 in
theorem w_case : (Jvm.Cond.and given_1 narrow_1).before args0 about1 = true := by decide +kernel
set_option maxRecDepth 65536 in
theorem w_consts : constsHeld consts_1 about1 := Jvm.Lit.constsHeldB_iff.mp (by decide +kernel)
theorem w_applies : (headSpec (Jvm.Cond.code x code maxLocals ret :: tables_1) room_1).applies x e0.platform about1 = true :=
  (Spec.applies_iff w_frames).mpr ⟨w_running, w_runnable, w_alone, w_named, w_hears, w_ripe, w_room, w_tables⟩
theorem atStart : AtStart classFile x code maxLocals ret World_1 tables_1 room_1 Calls_1 rest_1 Pre_1 launch0 p0 e0 about1 theMethod args0 below0 :=
  ⟨lists_1, trivial, launch0.admits_env _ _ _, launch0.least_env, fairChoices_fair.cas, fairChoices_fair.clock, w_frames, w_args, w_heap, w_applies, ⟨w_consts, trivial⟩, w_rest, w_case⟩
end start1
theorem witness_1 : WitnessClaimed_1 := ⟨start1.p0, start1.e0, start1.about1, start1.theMethod, start1.args0, start1.below0, start1.atStart⟩
end Jvm.Pilot.@@N@@
